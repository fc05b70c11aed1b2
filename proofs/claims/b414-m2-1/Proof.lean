import JvmDerived
import JvmDerived.Pilot.@@N@@Statement
import JvmDerived.Pilot.@@N@@Code
set_option linter.unusedVariables false
set_option linter.unusedSimpArgs false
@@BLOCK:HandJ.lean.txt@@
@@BLOCK:SymMore.lean.txt@@
@@BLOCK:NumsL.lean.txt@@
namespace Jvm.Own
open Sem ClassFile Op Lib Jvm.Stand Jvm.Free Jvm.LawKit Jvm.RoadKit
section Kit
variable {p : Program} {l : Launch} {e : Env} {R : Room} {s : State} {m : MethodId} {args : Array Value} {below : List Frame} {meth : Method} {c : Code} {T : State} {locs : List Loc} {cells slots : Nat} {Z : State} {a0 : Array Value} {h : Heap}
/-- D is closed under going back over steps -/
def Clo (p : Program) (e : Env) (below : List Frame) (D : State → Prop) : Prop := ∀ (U U' : State), (∀ t, Steps p.tables e below U' t → Steps p.tables e below U t) → D U' → D U
/-- D holds wherever the body returns with what Q says -/
def Ret (p : Program) (l : Launch) (e : Env) (R : Room) (s : State) (m : MethodId) (args : Array Value) (below : List Frame) (meth : Method) (c : Code) (Q : Option Value → Heap → List Loc → Prop) (C N : Nat) (D : State → Prop) : Prop :=
  ∀ (T : State) (locs : List Loc) (cells slots : Nat) (v : Option Value) (U : State), Stand p l e R s m args below meth c T locs cells slots → (meth.sig.returnType = none → v = none) → cells ≤ C → slots ≤ N → Q v T.heap locs →
    (∀ fs, (∀ (f : JFrame) (acts : List Action), f.method = m → f.locked = none → f.entered = [] → (doReturn e (T.setTop f) acts v).1 = T.setFrames fs) → Steps p.tables e below U (T.setFrames fs)) → D U
theorem enter {y : MethodName} {code : ByteArray} {maxL : Nat} {ret : Option FieldType} {ws : List Cond} {rm : Room} {as' : Array Value} {h0 : Heap} {Q : Option Value → Heap → List Loc → Prop} {C N : Nat} (hpl : plainFor y = true)
    (body : ∀ (p : Program) (e : Env) (s : State) (m : MethodId) (below : List Frame) (meth : Method) (c : Code) (s₁ : State) (D : State → Prop),
      p.tables.exec = Jvm.exec → c.code = code → c.maxLocals = maxL → s.vm.findClass y.cls = some m.cls → meth.name = y.name → meth.sig.returnType = ret → Z.Warmed39 s.vm → Stand p l e rm s m as' below meth c s₁ [] 0 0 → s₁.heap = h0 →
      Clo p e below D → Ret p l e rm s m as' below meth c Q C N D → D (s₁.setTop (entryFrame m as' maxL))) :
    MetFree l y (head1 (Jvm.Cond.code y code maxL ret :: ws) rm) (fun a U => a = as' ∧ Z.Warmed39 U.vm ∧ U.heap = h0) (fun _ _ _ _ _ => True) (fun _ U o U' => ∃ v L, o = .returned v ∧ Q v U'.heap L ∧ FrameEnd U o U' L C N) := by
  refine MetFree.of_bodySF hpl hisR ?_
  intro p e s m args below meth c s₁ Bd hml hP hK
  obtain ⟨rfl, hZ, hh⟩ := hP
  have X0 : Stand p l e rm s m args below meth c s₁ [] 0 0 := Stand.of_body Bd
  refine body p e s m below meth c s₁ (fun U => ∃ s₂ o, Steps p.tables e below U s₂ ∧ s₂.status = .running ∧ Ended s₂ below o ∧ ∃ v L, o = .returned v ∧ Q v s₂.heap L ∧ FrameEnd s o s₂ L C N) Bd.exec Bd.bytes hml (findClass_of_methodNamed Bd.named) (name_of_methodNamed Bd.named Bd.method).1 Bd.returns hZ X0 (by rw [← hh, Bd.state]; rfl) ?_ ?_
  · rintro U U' k ⟨s₂, o, st, r⟩
    exact ⟨s₂, o, k _ st, r⟩
  · intro T locs cells slots v U X hv hc hn hQ k
    obtain ⟨fs, hr, hrun, hended, hW, hsame⟩ := X.leave (v := v) hv
    exact ⟨_, _, k fs hr, hrun, hended, v, locs, rfl, hQ, ⟨_, rfl⟩, hW, hsame.mono hc hn⟩
theorem mono {c' n' : Nat} (X : Stand p l e R s m args below meth c T locs cells slots) (hc : cells ≤ c') (hn : slots ≤ n') : Stand p l e R s m args below meth c T locs c' n' :=
  { X with same := X.same.weaken (fun _ hy _ => hy) hc hn }
theorem forget {k : Nat} (X : Stand p l e R s m args below meth c T locs cells slots) (N : Fr k locs) (hk : s.heap.size ≤ k) : Stand p l e R s m args below meth c T [] cells slots :=
  { X with same := X.same.weaken (fun y hy hlt => absurd hlt (Nat.not_lt.mpr (Nat.le_trans hk (N y hy)))) (Nat.le_refl _) (Nat.le_refl _) }
variable {Q : Option Value → Heap → List Loc → Prop} {C N : Nat} {D : State → Prop}
theorem retI (hR : Ret p l e R s m args below meth c Q C N D) (X : Stand p l e R s m args below meth c T locs cells slots) (hx : p.tables.exec = Jvm.exec) {pc : Nat} {Ls : Array Slot} {z : Int32} {rest : List Value} (hret : meth.sig.returnType = some .int) (hd : decode c.code pc = .ok (.ireturn, 1)) (hc : cells ≤ C) (hn : slots ≤ N) (hQ : Q (some (.int z)) T.heap locs) : D (T.setTop (mkF m pc Ls (.int z :: rest))) := by
  refine hR T locs cells slots (some (.int z)) _ X (fun h => by rw [hret] at h; cases h) hc hn hQ fun fs hl => ?_
  have hm' : T.vm.method? m = some meth := X.method'
  have hn : narrow .int (.int z) = .int z := rfl
  show Steps p.tables e below (T.setTop { method := m, pc := pc, locals := Ls, stack := _ :: rest, locked := none }) _
  jvm_step X.here [X.here.top, hx, hd, hm', hret, hn]
  first | (intro acts; rw [hl _ acts rfl rfl rfl]) | rw [hl _ _ rfl rfl rfl]
  exact Steps.refl _
theorem retN (hR : Ret p l e R s m args below meth c Q C N D) (X : Stand p l e R s m args below meth c T locs cells slots) (hx : p.tables.exec = Jvm.exec) {pc : Nat} {Ls : Array Slot} {z : Int32} {t : FieldType} {rest : List Value} (hret : meth.sig.returnType = some t) (ht : t = .boolean ∨ t = .byte ∨ t = .char ∨ t = .short) (hd : decode c.code pc = .ok (.ireturn, 1)) (hc : cells ≤ C) (hn : slots ≤ N) (hz : nar t z = z) (hQ : Q (some (.int z)) T.heap locs) : D (T.setTop (mkF m pc Ls (.int z :: rest))) := by
  refine hR T locs cells slots (some (.int z)) _ X (fun h => by rw [hret] at h; cases h) hc hn hQ fun fs hl => ?_
  exact Jvm.RoadKit.retN X hx hret ht hd (by rw [hz]; exact hl)
theorem retJ (hR : Ret p l e R s m args below meth c Q C N D) (X : Stand p l e R s m args below meth c T locs cells slots) (hx : p.tables.exec = Jvm.exec) {pc : Nat} {Ls : Array Slot} {z : Int64} (hret : meth.sig.returnType = some .long) (hd : decode c.code pc = .ok (.lreturn, 1)) (hc : cells ≤ C) (hn : slots ≤ N) (hQ : Q (some (.long z)) T.heap locs) : D (T.setTop (mkF m pc Ls [.long z])) :=
  hR T locs cells slots (some (.long z)) _ X (fun h => by rw [hret] at h; cases h) hc hn hQ fun fs hl => X.lreturnOut hx hret hd hl
theorem retA (hR : Ret p l e R s m args below meth c Q C N D) (X : Stand p l e R s m args below meth c T locs cells slots) (hx : p.tables.exec = Jvm.exec) {pc : Nat} {Ls : Array Slot} {w : Value} {t : FieldType} (hw : w.isRef = true) (hret : meth.sig.returnType = some t) (ht : t.isReference = true) (hd : decode c.code pc = .ok (.areturn, 1)) (hc : cells ≤ C) (hn : slots ≤ N) (hQ : Q (some w) T.heap locs) : D (T.setTop (mkF m pc Ls [w])) :=
  hR T locs cells slots (some w) _ X (fun h => by rw [hret] at h; cases h) hc hn hQ fun fs hl => X.areturnOut hx hw hret ht hd hl
theorem retV (hR : Ret p l e R s m args below meth c Q C N D) (X : Stand p l e R s m args below meth c T locs cells slots) (hx : p.tables.exec = Jvm.exec) {pc : Nat} {Ls : Array Slot} (hret : meth.sig.returnType = none) (hd : decode c.code pc = .ok (.return_, 1)) (hc : cells ≤ C) (hn : slots ≤ N) (hQ : Q none T.heap locs) : D (T.setTop (mkF m pc Ls [])) :=
  hR T locs cells slots none _ X (fun _ => rfl) hc hn hQ fun fs hl => X.returnOut hx hret hd hl
/-! calls -/
variable {y z : MethodName} {bytes : ByteArray} {maxL : Nat} {ret : Option FieldType} {rm : Room} {W : Nat} {Qc : Option Value → Heap → List Loc → Prop} {own Cn : String} {index : Nat} {g : JFrame} {argsL rest : List Value} {a : Addr}
theorem callS (X : Stand p l e R s m args below meth c T locs cells slots) (hx : p.tables.exec = Jvm.exec) (hZ : Z.Warmed39 s.vm) (hown : s.vm.findClass own = some m.cls)
    (w1 : (Cond.methodLink own index y).before a0 Z = true) (w2 : (Cond.static y).before a0 Z = true) (w3 : (Cond.initialized y.cls).before a0 Z = true) (w4 : (Cond.code y bytes maxL ret).before a0 Z = true)
    (hy : y.cls ≠ "java/lang/invoke/MethodHandle" ∧ y.cls ≠ "java/lang/invoke/VarHandle") (e0 : T.heap = h)
    (hM : MetFree l y (head1 [Cond.code y bytes maxL ret] rm) (fun a U => a = argsL.toArray ∧ Z.Warmed39 U.vm ∧ U.heap = h) (fun _ _ _ _ _ => True) (fun _ U o U' => ∃ v L, o = .returned v ∧ Qc v U'.heap L ∧ FrameEnd U o U' L rm.cells rm.slots))
    (hf : rm.frames + 1 ≤ R.frames) (hl : W + (maxL + 11) + rm.locals ≤ R.locals) (hcells : cells + rm.cells ≤ R.cells) (hslots : slots + rm.slots ≤ R.slots)
    (hg : g.method = m) (hsize : g.locals.size = c.maxLocals) (hlen : ∀ sig, parseMethodDescriptor y.desc = some sig → argsL.length = sig.parameters.length)
    (hstack : g.stack = argsL.reverse ++ rest) (hW : 2 * g.monitorRoom + (rest.map fun v => v.category).sum ≤ W) (hdg : decode c.code g.pc = .ok (.invokestatic index, 3)) :
    ∃ (T' : State) (v : Option Value) (L : List Loc), Stand p l e R s m args below meth c T' (locs ++ L) (cells + rm.cells) (slots + rm.slots) ∧ Qc v T'.heap L ∧
      ∀ t, Steps p.tables e below (T'.setTop { g with pc := g.pc + 3, stack := v.toList ++ rest }) t → Steps p.tables e below (T.setTop g) t := by
  obtain ⟨v, _, ⟨T', L', k', n'⟩, -, X', ⟨Lc, hQ, l1, y1, z1⟩, st⟩ := Jvm.LawKit.callS X hx (y := y) hown (mvT hZ w1) (mvT hZ w2) (mvT hZ w3) (mvT hZ w4) hy (backOf (W := W) hM hZ w4 w3 hf hl) hg hsize hlen hstack hW hdg (fun _ _ => ⟨rfl, e0, hcells, hslots⟩)
  dsimp only [Pt.U, Pt.locs, Pt.cells, Pt.slots] at X' l1 y1 z1 st hQ
  subst l1 y1 z1
  exact ⟨T', v, Lc, X', hQ, st⟩
theorem callI (X : Stand p l e R s m args below meth c T locs cells slots) (hx : p.tables.exec = Jvm.exec) (hZ : Z.Warmed39 s.vm) (hown : s.vm.findClass own = some m.cls) (hy1 : y.name = "<init>")
    (w1 : (Cond.methodLink own index y).before a0 Z = true) (w2 : (Cond.instanceMethod y).before a0 Z = true) (w3 : (Cond.initialized y.cls).before a0 Z = true) (w4 : (Cond.code y bytes maxL none).before a0 Z = true)
    (hy : y.cls ≠ "java/lang/invoke/MethodHandle" ∧ y.cls ≠ "java/lang/invoke/VarHandle") (e0 : T.heap = h)
    (hM : MetFree l y (head1 [Cond.code y bytes maxL none] rm) (fun q U => q = (.ref a :: argsL).toArray ∧ Z.Warmed39 U.vm ∧ U.heap = h) (fun _ _ _ _ _ => True) (fun _ U o U' => ∃ v L, o = .returned v ∧ Qc v U'.heap L ∧ FrameEnd U o U' L rm.cells rm.slots))
    (hf : rm.frames + 1 ≤ R.frames) (hl : W + (maxL + 11) + rm.locals ≤ R.locals) (hcells : cells + rm.cells ≤ R.cells) (hslots : slots + rm.slots ≤ R.slots)
    (hg : g.method = m) (hsize : g.locals.size = c.maxLocals) (hlen : ∀ sig, parseMethodDescriptor y.desc = some sig → argsL.length = sig.parameters.length)
    (hstack : g.stack = argsL.reverse ++ .ref a :: rest) (hW : 2 * g.monitorRoom + (rest.map fun v => v.category).sum ≤ W) (hdg : decode c.code g.pc = .ok (.invokespecial index, 3)) :
    ∃ (T' : State) (v : Option Value) (L : List Loc), Stand p l e R s m args below meth c T' (locs ++ L) (cells + rm.cells) (slots + rm.slots) ∧ Qc v T'.heap L ∧
      ∀ t, Steps p.tables e below (T'.setTop { g with pc := g.pc + 3, stack := v.toList ++ rest }) t → Steps p.tables e below (T.setTop g) t := by
  obtain ⟨v, _, ⟨T', L', k', n'⟩, -, X', ⟨Lc, hQ, l1, y1, z1⟩, st⟩ := X.specialBack hx (y := y) hy1 hown (mvT hZ w1) (mvT hZ w2) (mvT hZ w4) hy (backOf (W := W) hM hZ w4 w3 hf hl) hg hsize (Steps.refl _) hlen hstack hW hdg (fun _ _ => ⟨rfl, e0, hcells, hslots⟩)
  dsimp only [Pt.U, Pt.locs, Pt.cells, Pt.slots] at X' l1 y1 z1 st hQ
  subst l1 y1 z1
  exact ⟨T', v, Lc, X', hQ, fun t k => st.trans k⟩
theorem callV (X : Stand p l e R s m args below meth c T locs cells slots) (hx : p.tables.exec = Jvm.exec) (hZ : Z.Warmed39 s.vm) (hown : s.vm.findClass own = some m.cls)
    (w1 : (Cond.methodLink own index y).before a0 Z = true) (w5 : (Cond.declares y).before a0 Z = true) (w6 : (Cond.selects Cn y y).before a0 Z = true) (w2 : (Cond.instanceMethod y).before a0 Z = true) (w3 : (Cond.initialized y.cls).before a0 Z = true) (w4 : (Cond.code y bytes maxL ret).before a0 Z = true)
    (hy : y.cls ≠ "java/lang/invoke/MethodHandle" ∧ y.cls ≠ "java/lang/invoke/VarHandle") (e0 : T.heap = h) (E : Exa Z h a Cn)
    (hM : MetFree l y (head1 [Cond.code y bytes maxL ret] rm) (fun q U => q = (.ref a :: argsL).toArray ∧ Z.Warmed39 U.vm ∧ U.heap = h) (fun _ _ _ _ _ => True) (fun _ U o U' => ∃ v L, o = .returned v ∧ Qc v U'.heap L ∧ FrameEnd U o U' L rm.cells rm.slots))
    (hf : rm.frames + 1 ≤ R.frames) (hl : W + (maxL + 11) + rm.locals ≤ R.locals) (hcells : cells + rm.cells ≤ R.cells) (hslots : slots + rm.slots ≤ R.slots)
    (hg : g.method = m) (hsize : g.locals.size = c.maxLocals) (hlen : ∀ sig, parseMethodDescriptor y.desc = some sig → argsL.length = sig.parameters.length)
    (hstack : g.stack = argsL.reverse ++ .ref a :: rest) (hW : 2 * g.monitorRoom + (rest.map fun v => v.category).sum ≤ W) (hdg : decode c.code g.pc = .ok (.invokevirtual index, 3)) :
    ∃ (T' : State) (v : Option Value) (L : List Loc), Stand p l e R s m args below meth c T' (locs ++ L) (cells + rm.cells) (slots + rm.slots) ∧ Qc v T'.heap L ∧
      ∀ t, Steps p.tables e below (T'.setTop { g with pc := g.pc + 3, stack := v.toList ++ rest }) t → Steps p.tables e below (T.setTop g) t := by
  obtain ⟨cq, kq, q1, q2, q3⟩ := isOf hZ e0 E
  obtain ⟨v, _, ⟨T', L', k', n'⟩, -, X', ⟨Lc, hQ, l1, y1, z1⟩, st⟩ := X.virtualBack hx (y := y) (z := y) hown (mvT hZ w1) (mvT hZ w5) (notFace_of_selects (args := #[]) (mvT hZ w6)) (mvT hZ w6) (mvT hZ w2) hy (backOf (W := W) hM hZ w4 w3 hf hl) q1 q3 hg hsize (Steps.refl _) hlen hstack hW hdg (fun _ _ => ⟨rfl, e0, hcells, hslots⟩)
  dsimp only [Pt.U, Pt.locs, Pt.cells, Pt.slots] at X' l1 y1 z1 st hQ
  subst l1 y1 z1
  exact ⟨T', v, Lc, X', hQ, fun t k => st.trans k⟩
/-! arrays, as functions of the place -/
def AvI (Z : State) (h : Heap) (a : Addr) (ty : FieldType) (n : Nat) (f : Nat → Int32) : Prop := ∃ c : Cell, Arr Z h a c ty ∧ c.slots.size = n ∧ n < 2 ^ 31 ∧ ∀ i, i < n → c.slots[i]? = some (.int (f i))
def AvJ (Z : State) (h : Heap) (a : Addr) (n : Nat) (f : Nat → Int64) : Prop := ∃ c : Cell, Arr Z h a c .long ∧ c.slots.size = n ∧ n < 2 ^ 31 ∧ ∀ i, i < n → c.slots[i]? = some (.long (f i))
variable {h' : Heap} {ty : FieldType} {n : Nat} {f f' : Nat → Int32} {fj fj' : Nat → Int64} {j x : Int32} {xl : Int64} {b : Addr} {sl : Nat} {v : Value} {ws : List Addr}
theorem clamp (hj : 0 ≤ j.toInt ∧ j.toInt < n) : j.toNatClampNeg = j.toInt.toNat ∧ ¬ j < 0 := by
  refine ⟨rfl, ?_⟩
  rw [Int32.lt_iff_toInt_lt, Int32.toInt_zero]; omega
theorem inb {c : Cell} (S : c.slots.size = n) (hj : 0 ≤ j.toInt ∧ j.toInt < n) : ¬ (j < 0 ∨ c.slots.size ≤ j.toNatClampNeg) := by
  have q := clamp hj
  rw [q.1, S]
  intro w
  rcases w with w | w
  · exact q.2 w
  · omega
theorem AvI.lt (A : AvI Z h a ty n f) : a < h.size := by obtain ⟨c, A, -⟩ := A; exact A.lt
theorem AvJ.lt (A : AvJ Z h a n fj) : a < h.size := by obtain ⟨c, A, -⟩ := A; exact A.lt
theorem AvI.ext (A : AvI Z h a ty n f) (E : Ext h h') : AvI Z h' a ty n f := by obtain ⟨c, A, r⟩ := A; exact ⟨c, A.ext E, r⟩
theorem AvJ.ext (A : AvJ Z h a n fj) (E : Ext h h') : AvJ Z h' a n fj := by obtain ⟨c, A, r⟩ := A; exact ⟨c, A.ext E, r⟩
theorem AvI.other (A : AvI Z h b ty n f) (W : Wr h h' a sl v) (q : b ≠ a) : AvI Z h' b ty n f := by obtain ⟨c, A, r⟩ := A; exact ⟨c, A.other W q, r⟩
theorem AvJ.other (A : AvJ Z h b n fj) (W : Wr h h' a sl v) (q : b ≠ a) : AvJ Z h' b n fj := by obtain ⟨c, A, r⟩ := A; exact ⟨c, A.other W q, r⟩
theorem AvI.keep (A : AvI Z h a ty n f) (K : Keep h h' ws) (q : a ∉ ws) : AvI Z h' a ty n f := by obtain ⟨c, A, r⟩ := A; exact ⟨c, ⟨K.2.1 a c A.1 q, A.2⟩, r⟩
theorem AvJ.keep (A : AvJ Z h a n fj) (K : Keep h h' ws) (q : a ∉ ws) : AvJ Z h' a n fj := by obtain ⟨c, A, r⟩ := A; exact ⟨c, ⟨K.2.1 a c A.1 q, A.2⟩, r⟩
theorem AvI.congr (A : AvI Z h a ty n f) (q : ∀ i, i < n → f' i = f i) : AvI Z h a ty n f' := by obtain ⟨c, A, S, M, H⟩ := A; exact ⟨c, A, S, M, fun i hi => by rw [q i hi]; exact H i hi⟩
theorem AvJ.congr (A : AvJ Z h a n fj) (q : ∀ i, i < n → fj' i = fj i) : AvJ Z h a n fj' := by obtain ⟨c, A, S, M, H⟩ := A; exact ⟨c, A, S, M, fun i hi => by rw [q i hi]; exact H i hi⟩
theorem AvI.new {cA : ClassId} {z : Int32} (A : Arr Z h a (newA cA ty z) ty) (hz : z.toInt = n) (hd : defaultValue ty = .int 0) : AvI Z h a ty n (fun _ => 0) := by
  have q : z.toNatClampNeg = n := by show z.toInt.toNat = n; omega
  refine ⟨_, A, by rw [sz_new]; exact q, by have := z.toInt_lt; omega, fun i hi => ?_⟩
  simp [newA, q, hi, hd]
theorem AvJ.new {cA : ClassId} {z : Int32} (A : Arr Z h a (newA cA .long z) .long) (hz : z.toInt = n) : AvJ Z h a n (fun _ => 0) := by
  have q : z.toNatClampNeg = n := by show z.toInt.toNat = n; omega
  refine ⟨_, A, by rw [sz_new]; exact q, by have := z.toInt_lt; omega, fun i hi => ?_⟩
  simp [newA, q, hi, defaultValue]
theorem len_nat {c : Cell} (S : c.slots.size = n) (M : n < 2 ^ 31) : c.slots.size.toInt32 = Int32.ofNat n := by rw [S]
theorem lenI (X : Stand p l e R s m args below meth c T locs cells slots) (hx : p.tables.exec = Jvm.exec) (hZ : Z.Warmed39 s.vm) (e0 : T.heap = h) (A : AvI Z h a ty n f) (hg : g.method = m) (hs : g.stack = .ref a :: rest) (hd : decode c.code g.pc = .ok (.arraylength, 1)) :
    ∀ t, Steps p.tables e below (T.setTop { g with pc := g.pc + 1, stack := .int (Int32.ofNat n) :: rest }) t → Steps p.tables e below (T.setTop g) t := by
  obtain ⟨c, A, S, M, H⟩ := A
  intro t k
  refine X.arraylength hx (by rw [e0]; exact A.1) (State.isArrayOf_alike hZ.alike A.2.1) hg hs hd _ ?_
  rw [len_nat S M]; exact k
theorem lenJ (X : Stand p l e R s m args below meth c T locs cells slots) (hx : p.tables.exec = Jvm.exec) (hZ : Z.Warmed39 s.vm) (e0 : T.heap = h) (A : AvJ Z h a n fj) (hg : g.method = m) (hs : g.stack = .ref a :: rest) (hd : decode c.code g.pc = .ok (.arraylength, 1)) :
    ∀ t, Steps p.tables e below (T.setTop { g with pc := g.pc + 1, stack := .int (Int32.ofNat n) :: rest }) t → Steps p.tables e below (T.setTop g) t := by
  obtain ⟨c, A, S, M, H⟩ := A
  intro t k
  refine X.arraylength hx (by rw [e0]; exact A.1) (State.isArrayOf_alike hZ.alike A.2.1) hg hs hd _ ?_
  rw [len_nat S M]; exact k
theorem ldI (X : Stand p l e R s m args below meth c T locs cells slots) (hx : p.tables.exec = Jvm.exec) (hZ : Z.Warmed39 s.vm) (e0 : T.heap = h) (A : AvI Z h a .int n f) (hj : 0 ≤ j.toInt ∧ j.toInt < n) (hg : g.method = m) (hs : g.stack = .int j :: .ref a :: rest) (hd : decode c.code g.pc = .ok (.iaload, 1)) :
    ∀ t, Steps p.tables e below (T.setTop { g with pc := g.pc + 1, stack := .int (f j.toInt.toNat) :: rest }) t → Steps p.tables e below (T.setTop g) t := by
  obtain ⟨c, A, S, M, H⟩ := A
  exact fun t k => X.iaload hx (by rw [e0]; exact A.1) (State.isArrayOf_alike hZ.alike A.2.1) A.2.2 (inb S hj) (by rw [(clamp hj).1]; exact H _ (by omega)) hg hs hd _ k
theorem ldJ (X : Stand p l e R s m args below meth c T locs cells slots) (hx : p.tables.exec = Jvm.exec) (hZ : Z.Warmed39 s.vm) (e0 : T.heap = h) (A : AvJ Z h a n fj) (hj : 0 ≤ j.toInt ∧ j.toInt < n) (hg : g.method = m) (hs : g.stack = .int j :: .ref a :: rest) (hd : decode c.code g.pc = .ok (.laload, 1)) :
    ∀ t, Steps p.tables e below (T.setTop { g with pc := g.pc + 1, stack := .long (fj j.toInt.toNat) :: rest }) t → Steps p.tables e below (T.setTop g) t := by
  obtain ⟨c, A, S, M, H⟩ := A
  exact fun t k => X.laload hx (by rw [e0]; exact A.1) (State.isArrayOf_alike hZ.alike A.2.1) A.2.2 (inb S hj) (by rw [(clamp hj).1]; exact H _ (by omega)) hg hs hd _ k
theorem ldB (X : Stand p l e R s m args below meth c T locs cells slots) (hx : p.tables.exec = Jvm.exec) (hZ : Z.Warmed39 s.vm) (e0 : T.heap = h) (A : AvI Z h a .byte n f) (hj : 0 ≤ j.toInt ∧ j.toInt < n) (hg : g.method = m) (hs : g.stack = .int j :: .ref a :: rest) (hd : decode c.code g.pc = .ok (.baload, 1)) :
    ∀ t, Steps p.tables e below (T.setTop { g with pc := g.pc + 1, stack := .int (f j.toInt.toNat) :: rest }) t → Steps p.tables e below (T.setTop g) t := by
  obtain ⟨c, A, S, M, H⟩ := A
  exact fun t k => X.baloadBytes hx (by rw [e0]; exact A.1) (State.isArrayOf_alike hZ.alike A.2.1) A.2.2 (inb S hj) (by rw [(clamp hj).1]; exact H _ (by omega)) hg hs hd _ k
theorem AvI.set (A : AvI Z h a ty n f) (hj : 0 ≤ j.toInt ∧ j.toInt < n) (W : Wr h h' a j.toNatClampNeg (.int x)) : AvI Z h' a ty n (fun i => if i = j.toInt.toNat then x else f i) := by
  obtain ⟨c, A, S, M, H⟩ := A
  refine ⟨_, A.same W, by rw [sz_set]; exact S, M, fun i hi => ?_⟩
  rw [(clamp hj).1]
  by_cases q : i = j.toInt.toNat
  · subst q
    simp only [Cell.setSlot, if_true]
    show (c.slots.setIfInBounds j.toInt.toNat _)[j.toInt.toNat]? = _
    rw [Array.getElem?_setIfInBounds, if_pos rfl, if_pos (by rw [S]; exact hi)]
  · simp only [Cell.setSlot, q, if_false]
    rw [Array.getElem?_setIfInBounds_ne (Ne.symm q)]; exact H i hi
theorem AvJ.set (A : AvJ Z h a n fj) (hj : 0 ≤ j.toInt ∧ j.toInt < n) (W : Wr h h' a j.toNatClampNeg (.long xl)) : AvJ Z h' a n (fun i => if i = j.toInt.toNat then xl else fj i) := by
  obtain ⟨c, A, S, M, H⟩ := A
  refine ⟨_, A.same W, by rw [sz_set]; exact S, M, fun i hi => ?_⟩
  rw [(clamp hj).1]
  by_cases q : i = j.toInt.toNat
  · subst q
    simp only [Cell.setSlot, if_true]
    show (c.slots.setIfInBounds j.toInt.toNat _)[j.toInt.toNat]? = _
    rw [Array.getElem?_setIfInBounds, if_pos rfl, if_pos (by rw [S]; exact hi)]
  · simp only [Cell.setSlot, q, if_false]
    rw [Array.getElem?_setIfInBounds_ne (Ne.symm q)]; exact H i hi
theorem stoI (X : Stand p l e R s m args below meth c T locs cells slots) (hx : p.tables.exec = Jvm.exec) (hZ : Z.Warmed39 s.vm) (e0 : T.heap = h) (A : AvI Z h a .int n f) (hj : 0 ≤ j.toInt ∧ j.toInt < n) (hg : g.method = m) (hs : g.stack = .int x :: .int j :: .ref a :: rest) (hd : decode c.code g.pc = .ok (.iastore, 1)) :
    ∃ T' h', Stand p l e R s m args below meth c T' (locs ++ [⟨a, j.toNatClampNeg⟩]) cells slots ∧ T'.heap = h' ∧ AvI Z h' a .int n (fun i => if i = j.toInt.toNat then x else f i) ∧ Wr h h' a j.toNatClampNeg (.int x) ∧ ∀ t, Steps p.tables e below (T'.setTop { g with pc := g.pc + 1, stack := rest }) t → Steps p.tables e below (T.setTop g) t := by
  obtain ⟨c, A', S, M, H⟩ := id A
  obtain ⟨T', h', X', e', W, st⟩ := stI X hx hZ e0 A' (inb S hj) hg hs hd
  exact ⟨T', h', X', e', A.set hj W, W, st⟩
theorem stoJ (X : Stand p l e R s m args below meth c T locs cells slots) (hx : p.tables.exec = Jvm.exec) (hZ : Z.Warmed39 s.vm) (e0 : T.heap = h) (A : AvJ Z h a n fj) (hj : 0 ≤ j.toInt ∧ j.toInt < n) (hg : g.method = m) (hs : g.stack = .long xl :: .int j :: .ref a :: rest) (hd : decode c.code g.pc = .ok (.lastore, 1)) :
    ∃ T' h', Stand p l e R s m args below meth c T' (locs ++ [⟨a, j.toNatClampNeg⟩]) cells slots ∧ T'.heap = h' ∧ AvJ Z h' a n (fun i => if i = j.toInt.toNat then xl else fj i) ∧ Wr h h' a j.toNatClampNeg (.long xl) ∧ ∀ t, Steps p.tables e below (T'.setTop { g with pc := g.pc + 1, stack := rest }) t → Steps p.tables e below (T.setTop g) t := by
  obtain ⟨c, A', S, M, H⟩ := id A
  obtain ⟨T', h', X', e', W, st⟩ := stJ X hx hZ e0 A' (inb S hj) hg hs hd
  exact ⟨T', h', X', e', A.set hj W, W, st⟩
theorem stoB (X : Stand p l e R s m args below meth c T locs cells slots) (hx : p.tables.exec = Jvm.exec) (hZ : Z.Warmed39 s.vm) (e0 : T.heap = h) (A : AvI Z h a .byte n f) (hj : 0 ≤ j.toInt ∧ j.toInt < n) (hg : g.method = m) (hs : g.stack = .int x :: .int j :: .ref a :: rest) (hd : decode c.code g.pc = .ok (.bastore, 1)) :
    ∃ T' h', Stand p l e R s m args below meth c T' (locs ++ [⟨a, j.toNatClampNeg⟩]) cells slots ∧ T'.heap = h' ∧ AvI Z h' a .byte n (fun i => if i = j.toInt.toNat then nar .byte x else f i) ∧ Wr h h' a j.toNatClampNeg (.int (nar .byte x)) ∧ ∀ t, Steps p.tables e below (T'.setTop { g with pc := g.pc + 1, stack := rest }) t → Steps p.tables e below (T.setTop g) t := by
  obtain ⟨c, A', S, M, H⟩ := id A
  obtain ⟨T', h', X', e', W, st⟩ := stB X hx hZ e0 A' (inb S hj) hg hs hd
  exact ⟨T', h', X', e', A.set hj W, W, st⟩
theorem stoZ (X : Stand p l e R s m args below meth c T locs cells slots) (hx : p.tables.exec = Jvm.exec) (hZ : Z.Warmed39 s.vm) (e0 : T.heap = h) (A : AvI Z h a .boolean n f) (hj : 0 ≤ j.toInt ∧ j.toInt < n) (hg : g.method = m) (hs : g.stack = .int x :: .int j :: .ref a :: rest) (hd : decode c.code g.pc = .ok (.bastore, 1)) :
    ∃ T' h', Stand p l e R s m args below meth c T' (locs ++ [⟨a, j.toNatClampNeg⟩]) cells slots ∧ T'.heap = h' ∧ AvI Z h' a .boolean n (fun i => if i = j.toInt.toNat then nar .boolean x else f i) ∧ Wr h h' a j.toNatClampNeg (.int (nar .boolean x)) ∧ ∀ t, Steps p.tables e below (T'.setTop { g with pc := g.pc + 1, stack := rest }) t → Steps p.tables e below (T.setTop g) t := by
  obtain ⟨c, A', S, M, H⟩ := id A
  obtain ⟨T', h', X', e', W, st⟩ := stZ X hx hZ e0 A' (inb S hj) hg hs hd
  exact ⟨T', h', X', e', A.set hj W, W, st⟩
theorem snoc {k : Nat} (N : Fr k locs) (q : k ≤ a) : Fr k (locs ++ [⟨a, sl⟩]) := N.app fun y hy => by cases List.mem_singleton.mp hy; exact q
theorem nmI {v x : Int32} {pc : Nat} {ls : Array Slot} {st : List Value} {t : State} (q : v = x) (k : Steps p.tables e below (T.setTop (mkF m pc ls (.int v :: st))) t) : Steps p.tables e below (T.setTop (mkF m pc ls (.int x :: st))) t := by subst q; exact k
theorem nmJ {v x : Int64} {pc : Nat} {ls : Array Slot} {st : List Value} {t : State} (q : v = x) (k : Steps p.tables e below (T.setTop (mkF m pc ls (.long v :: st))) t) : Steps p.tables e below (T.setTop (mkF m pc ls (.long x :: st))) t := by subst q; exact k
theorem iincW {t : State} (X : Stand p l e R s m args below meth c T locs cells slots) (hx : p.tables.exec = Jvm.exec) (hg : g.method = m) {k : Nat} {cst : Int} {x : Int32} {l' : Array Slot} (hd : decode c.code g.pc = .ok (.iinc k cst, 6)) (hl : g.locals[k]? = some (.val (.int x))) (hl' : storeLocals g.locals k (.int (x + Int32.ofInt cst)) = some l')
    (hr : Steps p.tables e below (T.setTop { g with pc := g.pc + 6, locals := l' }) t) : Steps p.tables e below (T.setTop g) t := by
  subst hg
  jvm_step X.here [X.here.top, hx, hd, hl, hl']
  exact hr
theorem ne_of {x y : Nat} (q : @Ne Nat x y) : @Ne Addr x y := q
theorem ldZ (X : Stand p l e R s m args below meth c T locs cells slots) (hx : p.tables.exec = Jvm.exec) (hZ : Z.Warmed39 s.vm) (e0 : T.heap = h) (A : AvI Z h a .boolean n f) (hj : 0 ≤ j.toInt ∧ j.toInt < n) (hg : g.method = m) (hs : g.stack = .int j :: .ref a :: rest) (hd : decode c.code g.pc = .ok (.baload, 1)) :
    ∀ t, Steps p.tables e below (T.setTop { g with pc := g.pc + 1, stack := .int (f j.toInt.toNat) :: rest }) t → Steps p.tables e below (T.setTop g) t := by
  obtain ⟨c, A, S, M, H⟩ := A
  exact fun t k => X.baloadBooleans hx (by rw [e0]; exact A.1) (State.isArrayOf_alike hZ.alike A.2.1) A.2.2 (inb S hj) (by rw [(clamp hj).1]; exact H _ (by omega)) hg hs hd _ k
theorem lrem_eq (x y : Int64) : x - x / y * y = x % y := by
  apply Int64.toInt_inj.mp
  have hy := Int64.toInt_mod x y
  have q := Int64.toInt_div x y
  rw [hy, Int64.toInt_sub, Int64.toInt_mul, q]
  have h1 := Int.tmod_add_mul_tdiv x.toInt y.toInt
  have h2 : x.toInt.tmod y.toInt = x.toInt - x.toInt.tdiv y.toInt * y.toInt := by rw [Int.mul_comm]; omega
  have h3 := rng64 x
  have h4 := rng64 y
  have h5 : (x.toInt.tmod y.toInt) % (2 ^ 64) = (x.toInt - x.toInt.tdiv y.toInt * y.toInt) % (2 ^ 64) := by rw [h2]
  have h6 : -2 ^ 63 ≤ x.toInt.tmod y.toInt ∧ x.toInt.tmod y.toInt < 2 ^ 63 := by rw [← hy]; exact ⟨(x % y).le_toInt, (x % y).toInt_lt⟩
  rw [← Int.bmod_eq_of_le (n := x.toInt.tmod y.toInt) (m := 2 ^ 64) (by omega) (by omega), h2]
  simp only [Int.bmod_sub_bmod, Int.sub_bmod_bmod, Int.bmod_mul_bmod, Int.mul_bmod_bmod]
theorem lremM {t : State} (X : Stand p l e R s m args below meth c T locs cells slots) (hx : p.tables.exec = Jvm.exec) (hg : g.method = m) {x y : Int64} (hd : decode c.code g.pc = .ok (.lrem, 1)) (hs : g.stack = .long y :: .long x :: rest) (hy : y ≠ 0)
    (hr : Steps p.tables e below (T.setTop { g with pc := g.pc + 1, stack := .long (x % y) :: rest }) t) : Steps p.tables e below (T.setTop g) t :=
  XS.lrem X.here hx hg hd hs hy (by rw [lrem_eq]; exact hr)
/-- a boolean as an int -/
def b2i (b : Bool) : Int32 := if b then 1 else 0
theorem b2i_t : b2i true = 1 := rfl
theorem b2i_f : b2i false = 0 := rfl
theorem b2i_nar (b : Bool) : nar .boolean (b2i b) = b2i b := by cases b <;> decide
theorem b2i_eq0 {b : Bool} : b2i b = 0 ↔ ¬ b = true := by cases b <;> decide
theorem b2i_inj {b b' : Bool} : b2i b = b2i b' ↔ b = b' := by cases b <;> cases b' <;> decide
end Kit
end Jvm.Own
namespace Jvm.Own
open Sem ClassFile Op Lib Jvm.Stand Jvm.Free Jvm.LawKit Jvm.RoadKit
section Kit2
variable {p : Program} {l : Launch} {e : Env} {R : Room} {s : State} {m : MethodId} {args : Array Value} {below : List Frame} {meth : Method} {c : Code} {T : State} {locs : List Loc} {cells slots : Nat} {Z : State} {a0 : Array Value} {h : Heap}
variable {y : MethodName} {bytes : ByteArray} {maxL : Nat} {ret : Option FieldType} {rm : Room} {W : Nat} {Qc : Option Value → Heap → List Loc → Prop} {own Cn : String} {index : Nat} {g : JFrame} {argsL rest : List Value} {a b : Addr}
/-- a private method, called by invokevirtual -/
theorem callP {kk : Nat} (X : Stand p l e R s m args below meth c T locs cells slots) (hx : p.tables.exec = Jvm.exec) (hZ : Z.Warmed39 s.vm) (hown : s.vm.findClass own = some m.cls)
    (w1 : (Cond.methodLink own index y).before a0 Z = true) (w2 : (Cond.instanceMethod y).before a0 Z = true) (w6 : (Cond.privateMethod y).before a0 Z = true) (w7 : (Cond.instantiable y.cls kk).before a0 Z = true) (w3 : (Cond.initialized y.cls).before a0 Z = true) (w4 : (Cond.code y bytes maxL ret).before a0 Z = true)
    (hy : y.cls ≠ "java/lang/invoke/MethodHandle" ∧ y.cls ≠ "java/lang/invoke/VarHandle") (e0 : T.heap = h) (E : Exa Z h a Cn)
    (hM : MetFree l y (head1 [Cond.code y bytes maxL ret] rm) (fun q U => q = (.ref a :: argsL).toArray ∧ Z.Warmed39 U.vm ∧ U.heap = h) (fun _ _ _ _ _ => True) (fun _ U o U' => ∃ v L, o = .returned v ∧ Qc v U'.heap L ∧ FrameEnd U o U' L rm.cells rm.slots))
    (hf : rm.frames + 1 ≤ R.frames) (hl : W + (maxL + 11) + rm.locals ≤ R.locals) (hcells : cells + rm.cells ≤ R.cells) (hslots : slots + rm.slots ≤ R.slots)
    (hg : g.method = m) (hsize : g.locals.size = c.maxLocals) (hlen : ∀ sig, parseMethodDescriptor y.desc = some sig → argsL.length = sig.parameters.length)
    (hstack : g.stack = argsL.reverse ++ .ref a :: rest) (hW : 2 * g.monitorRoom + (rest.map fun v => v.category).sum ≤ W) (hdg : decode c.code g.pc = .ok (.invokevirtual index, 3)) :
    ∃ (T' : State) (v : Option Value) (L : List Loc), Stand p l e R s m args below meth c T' (locs ++ L) (cells + rm.cells) (slots + rm.slots) ∧ Qc v T'.heap L ∧
      ∀ t, Steps p.tables e below (T'.setTop { g with pc := g.pc + 3, stack := v.toList ++ rest }) t → Steps p.tables e below (T.setTop g) t := by
  obtain ⟨cq, q, q'⟩ := E.cell
  obtain ⟨v, _, ⟨T', L', k', n'⟩, -, X', ⟨Lc, hQ, l1, y1, z1⟩, st⟩ := X.privateBack hx (y := y) hown (mvT hZ w1) (mvT hZ w2) (Jvm.Kit.selects_private hy (mvT hZ w7) (mvP hZ w6) (mvT hZ w2)) (Cond.privateMethod_at (mvP hZ w6 (args := #[]))) (mvT hZ w4) hy (backOf (W := W) hM hZ w4 w3 hf hl) hg hsize (Steps.refl _) (a := a) (by rw [e0]; exact q) q' hlen hstack hW hdg (fun _ _ => ⟨rfl, e0, hcells, hslots⟩)
  dsimp only [Pt.U, Pt.locs, Pt.cells, Pt.slots] at X' l1 y1 z1 st hQ
  subst l1 y1 z1
  exact ⟨T', v, Lc, X', hQ, fun t k => st.trans k⟩
/-! copies of arrays of bytes and longs -/
def Fits (ty : FieldType) (f : Nat → Value) : Prop := ∀ i, fits ty (f i) = true
/-- an array by its values -/
def AvV (Z : State) (h : Heap) (a : Addr) (ty : FieldType) (n : Nat) (f : Nat → Value) : Prop := ∃ c : Cell, Arr Z h a c ty ∧ c.slots.size = n ∧ n < 2 ^ 31 ∧ ∀ i, i < n → c.slots[i]? = some (f i)
variable {ty : FieldType} {n n' : Nat} {f f' : Nat → Value} {h' : Heap}
theorem getD_map (n i : Nat) (f : Nat → Value) (d : Value) (hi : i < n) : ((List.range n).map f).getD i d = f i := by
  rw [List.getD_eq_getElem?_getD, List.getElem?_map, List.getElem?_range hi]; rfl
theorem ofNat_clamp {n : Nat} (M : n < 2 ^ 31) : (Int32.ofNat n).toNatClampNeg = n ∧ ¬ Int32.ofNat n < 0 := by
  have e : (Int32.ofNat n).toInt = n := Int32.toInt_ofNat_of_lt M
  refine ⟨?_, ?_⟩
  · show (Int32.ofNat n).toInt.toNat = n; omega
  · rw [Int32.lt_iff_toInt_lt, e, Int32.toInt_zero]; omega
theorem AvV.arv (A : AvV Z h a ty n f) (hf : Fits ty f) (d : Value) : ∃ k, Arv Z h a k ty (Int32.ofNat n) ((List.range n).map f) d := by
  obtain ⟨c, A, S, M, H⟩ := A
  have q := ofNat_clamp M
  exact ⟨c.cls, c, A, rfl, by rw [q.1]; exact S, q.2, fun i hi => by rw [getD_map _ _ _ _ (S ▸ hi)]; exact H i (S ▸ hi), fun i hi => by rw [getD_map _ _ _ _ (S ▸ hi)]; exact hf i⟩
theorem AvV.of {k : ClassId} {z : Int32} {vs : List Value} {d : Value} (F : Arv Z h a k ty z vs d) (hz : z.toNatClampNeg = n) (M : n < 2 ^ 31) (hv : ∀ i, i < n → vs.getD i d = f i) : AvV Z h a ty n f := by
  obtain ⟨c, A, -, S, -, H, -⟩ := F
  have S' : c.slots.size = n := S.trans hz
  exact ⟨c, A, S', M, fun i hi => by rw [H i (S' ▸ hi), hv i hi]⟩
theorem clampOf {z : Int32} {n : Nat} (h : z.toInt = n) : z.toNatClampNeg = n ∧ ¬ z < 0 := by
  refine ⟨?_, ?_⟩
  · show z.toInt.toNat = n; omega
  · rw [Int32.lt_iff_toInt_lt, h, Int32.toInt_zero]; omega
theorem copyV (X : Stand p l e R s m args below meth c T locs cells slots) (hx : p.tables.exec = Jvm.exec) (hZ : Z.Warmed39 s.vm) (hown : s.vm.findClass own = some m.cls)
    (w1 : (Cond.methodLink own index Jvm.Stand.acN).before a0 Z = true) (w2 : (Cond.native Jvm.Stand.acN).before a0 Z = true) (w3 : (Cond.static Jvm.Stand.acN).before a0 Z = true) (w4 : (Cond.initialized "java/lang/System").before a0 Z = true) (eT : T.heap = h)
    (hty : refKind ty = false) (A : AvV Z h a ty n f) (B : AvV Z h b ty n' f') (hf : Fits ty f) (hf' : Fits ty f') {sp dp nn : Int32} {S D M : Nat} (hs : sp.toInt = S) (hd : dp.toInt = D) (hm : nn.toInt = M) (h4 : S + M ≤ n) (h5 : D + M ≤ n') {n0 : Nat} (N : Fr n0 locs) (ge : n0 ≤ b)
    (hg : g.method = m) (hsize : g.locals.size = c.maxLocals) (hst : g.stack = .int nn :: .int dp :: .ref b :: .int sp :: .ref a :: rest) (hdg : decode c.code g.pc = .ok (.invokestatic index, 3))
    (hfr : 1 ≤ R.frames) (hW : 2 * g.monitorRoom + (rest.map fun v => v.category).sum ≤ W) (hlo : W + (nativeFrameWords "java/lang/System" "arraycopy" 5 + 11) ≤ R.locals) :
    ∃ T' h' L, Stand p l e R s m args below meth c T' L cells slots ∧ T'.heap = h' ∧ Fr n0 L ∧ Keep h h' [b] ∧ AvV Z h' b ty n' (fun i => if D ≤ i ∧ i < D + M then f (S + (i - D)) else f' i) ∧
      ∀ t, Steps p.tables e below (T'.setTop { g with pc := g.pc + 3, stack := rest }) t → Steps p.tables e below (T.setTop g) t := by
  obtain ⟨k, FA⟩ := A.arv hf .null
  obtain ⟨k', FB⟩ := B.arv hf' .null
  obtain ⟨-, -, -, MA, -⟩ := A
  obtain ⟨-, -, -, MB, -⟩ := B
  have qs := clampOf hs
  have qd := clampOf hd
  have qm := clampOf hm
  have qa := ofNat_clamp MA
  have qb := ofNat_clamp MB
  obtain ⟨T', h', L, X', e', N', K, F, st⟩ := cpA X hx hZ hown w1 w2 w3 w4 eT FA FB (us := (List.range nn.toNatClampNeg).map fun i => ((List.range n).map f).getD (sp.toNatClampNeg + i) .null) (Or.inl ⟨rfl, hty⟩) qs.2 qd.2 qm.2 (by rw [qs.1, qm.1, qa.1]; exact h4) (by rw [qd.1, qm.1, qb.1]; exact h5) rfl (by rw [qd.1, qm.1]; simp; exact h5) N ge hg hsize hst hdg hfr hW hlo
  refine ⟨T', h', L, X', e', N', K, AvV.of F qb.1 MB fun i hi => ?_, st⟩
  rw [qd.1, qm.1, qs.1, List.getD_eq_getElem?_getD]
  by_cases c1 : i < D
  · rw [List.getElem?_append_left (by simp; omega), List.getElem?_append_left (by simp; omega), List.getElem?_take_of_lt c1, List.getElem?_map, List.getElem?_range hi, if_neg (by omega)]; rfl
  · by_cases c2 : i < D + M
    · rw [List.getElem?_append_left (by simp; omega), List.getElem?_append_right (by simp; omega), if_pos ⟨by omega, c2⟩, List.length_take, List.length_map, List.length_range, Nat.min_eq_left (by omega), List.getElem?_map, List.getElem?_range (by omega)]
      exact getD_map _ _ _ _ (by omega)
    · rw [List.getElem?_append_right (by simp; omega), if_neg (by omega), List.length_append, List.length_take, List.length_map, List.length_map, List.length_range, List.length_range, Nat.min_eq_left (by omega), List.getElem?_drop, show D + M + (i - (D + M)) = i by omega, List.getElem?_map, List.getElem?_range hi]; rfl
variable {fi fi' : Nat → Int32}
theorem AvI.v (A : AvI Z h a ty n fi) : AvV Z h a ty n (fun i => .int (fi i)) := A
def FitsB (f : Nat → Int32) : Prop := ∀ i, fits .byte (.int (f i)) = true
theorem FitsB.zero : FitsB (fun _ => 0) := fun _ => rfl
theorem FitsB.upd {j : Nat} {x : Int32} (hf : FitsB fi) : FitsB (fun ii => if ii = j then nar .byte x else fi ii) := fun i => by
  show fits .byte (.int (if i = j then nar .byte x else fi i)) = true
  split
  · exact fits_nar_byte _
  · exact hf i
theorem FitsB.cp {D M S : Nat} (hf : FitsB fi) (hf' : FitsB fi') : FitsB (fun i => if D ≤ i ∧ i < D + M then fi (S + (i - D)) else fi' i) := fun i => by
  show fits .byte (.int (if D ≤ i ∧ i < D + M then fi (S + (i - D)) else fi' i)) = true
  split
  · exact hf _
  · exact hf' i
theorem copyB (X : Stand p l e R s m args below meth c T locs cells slots) (hx : p.tables.exec = Jvm.exec) (hZ : Z.Warmed39 s.vm) (hown : s.vm.findClass own = some m.cls)
    (w1 : (Cond.methodLink own index Jvm.Stand.acN).before a0 Z = true) (w2 : (Cond.native Jvm.Stand.acN).before a0 Z = true) (w3 : (Cond.static Jvm.Stand.acN).before a0 Z = true) (w4 : (Cond.initialized "java/lang/System").before a0 Z = true) (eT : T.heap = h)
    (A : AvI Z h a .byte n fi) (B : AvI Z h b .byte n' fi') (hf : FitsB fi) (hf' : FitsB fi') {sp dp nn : Int32} {S D M : Nat} (hs : sp.toInt = S) (hd : dp.toInt = D) (hm : nn.toInt = M) (h4 : S + M ≤ n) (h5 : D + M ≤ n') {n0 : Nat} (N : Fr n0 locs) (ge : n0 ≤ b)
    (hg : g.method = m) (hsize : g.locals.size = c.maxLocals) (hst : g.stack = .int nn :: .int dp :: .ref b :: .int sp :: .ref a :: rest) (hdg : decode c.code g.pc = .ok (.invokestatic index, 3))
    (hfr : 1 ≤ R.frames) (hW : 2 * g.monitorRoom + (rest.map fun v => v.category).sum ≤ W) (hlo : W + (nativeFrameWords "java/lang/System" "arraycopy" 5 + 11) ≤ R.locals) :
    ∃ T' h' L, Stand p l e R s m args below meth c T' L cells slots ∧ T'.heap = h' ∧ Fr n0 L ∧ Keep h h' [b] ∧ AvI Z h' b .byte n' (fun i => if D ≤ i ∧ i < D + M then fi (S + (i - D)) else fi' i) ∧
      ∀ t, Steps p.tables e below (T'.setTop { g with pc := g.pc + 3, stack := rest }) t → Steps p.tables e below (T.setTop g) t := by
  obtain ⟨T', h', L, X', e', N', K, F, st⟩ := copyV X hx hZ hown w1 w2 w3 w4 eT (ty := .byte) rfl A.v B.v hf hf' hs hd hm h4 h5 N ge hg hsize hst hdg hfr hW hlo
  refine ⟨T', h', L, X', e', N', K, ?_, st⟩
  obtain ⟨c, A1, S1, M1, H1⟩ := F
  refine ⟨c, A1, S1, M1, fun i hi => ?_⟩
  rw [H1 i hi]
  show some (if D ≤ i ∧ i < D + M then Value.int (fi (S + (i - D))) else Value.int (fi' i)) = some (Value.int (if D ≤ i ∧ i < D + M then fi (S + (i - D)) else fi' i))
  split <;> rfl
theorem cloneB (X : Stand p l e R s m args below meth c T locs cells slots) (hx : p.tables.exec = Jvm.exec) (hZ : Z.Warmed39 s.vm) {ad : String} (hown : s.vm.findClass own = some m.cls)
    (w1 : (Cond.methodLink own index ⟨ad, "clone", "()Ljava/lang/Object;"⟩).before a0 Z = true) (w2 : (Cond.sameMethod ad "java/lang/Object" "clone" "()Ljava/lang/Object;").before a0 Z = true) (w3 : (Cond.native ⟨"java/lang/Object", "clone", "()Ljava/lang/Object;"⟩).before a0 Z = true)
    (w4 : (Cond.instanceMethod ⟨"java/lang/Object", "clone", "()Ljava/lang/Object;"⟩).before a0 Z = true) (w5 : (Cond.selects ad ⟨ad, "clone", "()Ljava/lang/Object;"⟩ ⟨"java/lang/Object", "clone", "()Ljava/lang/Object;"⟩).before a0 Z = true) (w6 : (Cond.castable ad "java/lang/Cloneable").before a0 Z = true)
    (eT : T.heap = h) (A : AvI Z h a .byte n fi) (hfi : FitsB fi) (E : Exa Z h a ad) (hg : g.method = m) (hsize : g.locals.size = c.maxLocals) (hst : g.stack = .ref a :: rest) (hd : decode c.code g.pc = .ok (.invokevirtual index, 3))
    (hf : 1 ≤ R.frames) {cap : Nat} (hW : 2 * g.monitorRoom + (rest.map fun v => v.category).sum ≤ W) (hl : W + 14 ≤ R.locals) (hcap : n ≤ cap) (hc : cells + 1 ≤ R.cells) (hsl : slots + cap ≤ R.slots) :
    ∃ T' h', Stand p l e R s m args below meth c T' locs (cells + 1) (slots + cap) ∧ T'.heap = h' ∧ Ext h h' ∧ AvI Z h' h.size .byte n fi ∧ Exa Z h' h.size ad ∧
      ∀ t, Steps p.tables e below (T'.setTop { g with pc := g.pc + 3, stack := .ref h.size :: rest }) t → Steps p.tables e below (T.setTop g) t := by
  obtain ⟨k, FA⟩ := A.v.arv hfi .null
  obtain ⟨-, -, -, MA, -⟩ := A
  have qa := ofNat_clamp MA
  obtain ⟨T', h', X', e', ex, F, E', st⟩ := cloneH X hx hZ hown w1 w2 w3 w4 w5 w6 eT FA.arh E hg hsize hst hd hf hW hl (by rw [qa.1]; exact hcap) hc hsl
  exact ⟨T', h', X', e', ex, AvV.of (f := fun i => .int (fi i)) (show Arv Z h' h.size k .byte (Int32.ofNat n) _ .null from F) qa.1 MA fun i hi => getD_map _ _ _ _ hi, E', st⟩
end Kit2
end Jvm.Own
namespace Jvm.Pilot.@@N@@
open Jvm Jvm.ClassFile Sem Op Lib Jvm.Free Jvm.Stand Jvm.LawKit Jvm.RoadKit Bundle Jvm.Pilot.@@N@@.Jvm.D
theorem own_eq {a b : Int32} : a = b ↔ a.toInt = b.toInt := Int32.toInt_inj.symm
theorem own_lt {a b : Int32} : a < b ↔ a.toInt < b.toInt := Int32.lt_iff_toInt_lt
theorem own_k : (0 : Int32).toInt = 0 ∧ (1 : Int32).toInt = 1 ∧ (2 : Int32).toInt = 2 ∧ (3 : Int32).toInt = 3 ∧ (4 : Int32).toInt = 4 := by decide
theorem own_oi {i : Nat} (h : i ≤ 100) : (Int32.ofNat i).toInt = i := Int32.toInt_ofNat_of_lt (by omega)
theorem own_ofi {x : Int32} {n : Nat} (h : x.toInt = n) (hn : n ≤ 100) : x = Int32.ofNat n := by rw [own_eq, own_oi hn, h]
theorem own_add {x y : Int32} {a b : Nat} (hx : x.toInt = a) (hy : y.toInt = b) (h : a + b ≤ 100) : (x + y).toInt = ((a + b : Nat) : Int) := by
  rw [Jvm.Kit.i32_add, hx, hy] <;> (try rw [hx, hy]) <;> omega
theorem own_sub {x y : Int32} {a b : Nat} (hx : x.toInt = a) (hy : y.toInt = b) (h : b ≤ a) (ha : a ≤ 100) : (x - y).toInt = ((a - b : Nat) : Int) := by
  rw [Jvm.Kit.i32_sub, hx, hy] <;> (try rw [hx, hy]) <;> omega
theorem own_nn {z : Int32} {k : Nat} (h : z.toInt = k) : ¬ z < 0 := by rw [own_lt, h, own_k.1]; omega
theorem own_cl {z : Int32} {k c : Nat} (h : z.toInt = k) (hk : k ≤ c) : z.toNatClampNeg ≤ c := by show z.toInt.toNat ≤ c; omega
theorem own_msb {x : Int32} (h : 0 ≤ x.toInt) : x.toBitVec.msb = false := by
  rw [BitVec.msb_eq_toInt]; exact decide_eq_false (by show ¬ x.toInt < 0; omega)
theorem own_adx {x y v : Int32} {a b : Nat} (hx : x.toInt = a) (hy : y.toInt = b) (h : a + b ≤ 100) (hv : v = x + y) : ¬ ((x ^^^ v) &&& (y ^^^ v)) < 0 := by
  have hs := own_add hx hy h
  rw [← hv] at hs
  rw [own_lt, own_k.1]
  have q : ((x ^^^ v) &&& (y ^^^ v)).toBitVec.msb = false := by
    rw [Int32.toBitVec_and, Int32.toBitVec_xor, Int32.toBitVec_xor, BitVec.msb_and, BitVec.msb_xor, BitVec.msb_xor, own_msb (x := x) (by omega), own_msb (x := y) (by omega), own_msb (x := v) (by omega)]; rfl
  rw [BitVec.msb_eq_toInt, decide_eq_false_iff_not] at q
  exact q
def own_minJ (a b : Int64) : Int64 := if b < a then b else a
def own_max (a b : Int32) : Int32 := if a < b then b else a
def own_min (a b : Int32) : Int32 := if b < a then b else a
def own_grow (a b : Int32) : Int32 := own_max b ((own_minJ (2 * a.toInt64) 2147483639).toInt32)
theorem own_minT {x y : Int32} {a b : Nat} (hx : x.toInt = a) (hy : y.toInt = b) : (own_min x y).toInt = ((min a b : Nat) : Int) := by
  unfold own_min; by_cases q : y < x
  · rw [if_pos q, hy]; rw [own_lt, hx, hy] at q; omega
  · rw [if_neg q, hx]; rw [own_lt, hx, hy] at q; omega
theorem own_growT {x y : Int32} {a b : Nat} (hx : x.toInt = a) (hy : y.toInt = b) (h : a ≤ 20) (h' : b ≤ 20) : (own_grow x y).toInt = ((max b (2 * a) : Nat) : Int) := by
  have e0 : (2 * x.toInt64 : Int64).toInt = 2 * (a : Int) := by
    rw [Jvm.Kit.i64_mul] <;> rw [Jvm.Kit.i64_of_i32, hx] <;> simp <;> omega
  have q : ¬ (2147483639 : Int64) < 2 * x.toInt64 := by rw [Int64.lt_iff_toInt_lt, e0, show (2147483639 : Int64).toInt = 2147483639 from by decide]; omega
  have e1 : ((own_minJ (2 * x.toInt64) 2147483639).toInt32).toInt = 2 * (a : Int) := by
    unfold own_minJ; rw [if_neg q, Jvm.Kit.i32_of_i64, e0] <;> rw [e0] <;> omega
  unfold own_grow own_max
  by_cases w : y < (own_minJ (2 * x.toInt64) 2147483639).toInt32
  · rw [if_pos w, e1]; rw [own_lt, e1, hy] at w; omega
  · rw [if_neg w, hy]; rw [own_lt, e1, hy] at w; omega
theorem own_c3 {v x : Int32} (h : v = x &&& 3) : ∃ c : Nat, v.toInt = c ∧ c ≤ 3 := by
  have e : (x &&& 3).toInt = x.toInt % 2 ^ 2 := Jvm.Kit.i32_mask x 3 (k := 2) (by decide) (by decide)
  rw [← h] at e
  exact ⟨v.toInt.toNat, by omega, by omega⟩
theorem own_4 {v : Int32} {c : Nat} (h : v.toInt = c) (hc : c ≤ 3) : (4 - v).toInt = ((4 - c : Nat) : Int) ∧ 4 - v ≠ 0 := by
  have e : (4 - v).toInt = ((4 - c : Nat) : Int) := own_sub (a := 4) (by decide) h (by omega) (by omega)
  refine ⟨e, fun q => ?_⟩
  rw [q, own_k.1] at e; omega
theorem own_off {o v x : Int32} {c : Nat} (h : v.toInt = c) (hc : c ≤ 3) (ho : o = ((x.toUInt32 >>> ((2 : Int32) &&& 31).toUInt32).toInt32 &&& 255) % (4 - v)) : ∃ s : Nat, o.toInt = s ∧ s + c ≤ 3 := by
  have e : ((x.toUInt32 >>> ((2 : Int32) &&& 31).toUInt32).toInt32 &&& 255).toInt = (x.toUInt32 >>> ((2 : Int32) &&& 31).toUInt32).toInt32.toInt % 2 ^ 8 := Jvm.Kit.i32_mask _ 255 (k := 8) (by decide) (by decide)
  have hr : (((x.toUInt32 >>> ((2 : Int32) &&& 31).toUInt32).toInt32 &&& 255) % (4 - v)).toInt = ((x.toUInt32 >>> ((2 : Int32) &&& 31).toUInt32).toInt32 &&& 255).toInt % (4 - v).toInt := Jvm.Kit.i32_rem_nonneg (by omega)
  rw [← ho, (own_4 h hc).1] at hr
  have b1 := Int.emod_nonneg ((x.toUInt32 >>> ((2 : Int32) &&& 31).toUInt32).toInt32 &&& 255).toInt (by omega : ((4 - c : Nat) : Int) ≠ 0)
  have b2 := Int.emod_lt_of_pos ((x.toUInt32 >>> ((2 : Int32) &&& 31).toUInt32).toInt32 &&& 255).toInt (by omega : 0 < ((4 - c : Nat) : Int))
  exact ⟨o.toInt.toNat, by omega, by omega⟩
def own_at (r e : Nat → Int32) (i n : Int32) : Bool := decide (¬ i < n ∨ r i.toInt.toNat = e i.toInt.toNat)
def own_rng (e s : Nat → Int32) (n o c : Nat) : Nat → Int32 := fun i => if n ≤ i ∧ i < n + c then s (o + (i - n)) else e i
theorem own_byte (x : Int32) : nar .byte (nar .byte x) = nar .byte x := by
  show x.toInt8.toInt32.toInt8.toInt32 = x.toInt8.toInt32
  rw [own_eq, Int8.toInt_toInt32, Int32.toInt_toInt8, Int8.toInt_toInt32, Int32.toInt_toInt8]; simp
theorem own_narfit {x : Int32} (h : fits .byte (.int x) = true) : nar .byte x = x := by
  have q0 : (-128 : Int32) ≤ x ∧ x ≤ 127 := by simpa [fits] using h
  have k1 : (-128 : Int32).toInt = -128 := by decide
  have k2 : (127 : Int32).toInt = 127 := by decide
  rw [Int32.le_iff_toInt_le, Int32.le_iff_toInt_le, k1, k2] at q0
  show x.toInt8.toInt32 = x
  rw [own_eq, Int8.toInt_toInt32, Int32.toInt_toInt8, Int.bmod_def]; omega
theorem own_i2b (x : Int32) : nar .byte x.toInt8.toInt32 = x.toInt8.toInt32 := own_byte x
theorem own_rs {e s : Nat → Int32} {n o c : Nat} (i : Nat) : own_rng e s n o (c + 1) i = (fun ii => if ii = n + c then s (o + c) else own_rng e s n o c ii) i := by
  unfold own_rng
  show (if n ≤ i ∧ i < n + (c + 1) then s (o + (i - n)) else e i) = if i = n + c then s (o + c) else if n ≤ i ∧ i < n + c then s (o + (i - n)) else e i
  by_cases q : i = n + c
  · rw [if_pos (by omega), if_pos q, show i - n = c by omega]
  · rw [if_neg q]
    by_cases w : n ≤ i ∧ i < n + c
    · rw [if_pos w, if_pos (by omega)]
    · rw [if_neg w, if_neg (by omega)]
theorem d1_0 : decode jdk_2038_method_1_code 0 = .ok (.aload_n 0, 1) := by decide +kernel
theorem d1_1 : decode jdk_2038_method_1_code 1 = .ok (.invokespecial 1, 3) := by decide +kernel
theorem d1_4 : decode jdk_2038_method_1_code 4 = .ok (.return_, 1) := by decide +kernel
theorem pn_0 : plainName "java/io/OutputStream" = true := by first | (simp [plainName, overriddenIn]; done) | decide +kernel
theorem ef_1 (m : MethodId) (o0 : Addr) : entryFrame m #[(.ref o0)] 1 = mkF m 0 #[.val (.ref o0)] [] := by first | (simp [entryFrame, mkF, argsToLocals, Value.category]; done) | rfl
def Q1 (Z : State) (o0 : Nat) (h0 : Heap) (n0 : Nat) (v : Option Value) (h : Heap) (L : List Loc) : Prop := v = none ∧ Fr n0 L ∧ h = h0
set_option maxRecDepth 65536 in
set_option maxHeartbeats 40000000 in
theorem rm1 (l : Launch) (Z : State) (a0 : Array Value) (hw : ∀ d ∈ tables_1, d.before a0 Z = true) (ws : List Jvm.Cond) (o0 : Nat) (h0 : Heap) (n0 : Nat) :
    MetFree l (⟨"java/io/OutputStream", "<init>", "()V"⟩ : MethodName) (head1 (Jvm.Cond.code (⟨"java/io/OutputStream", "<init>", "()V"⟩ : MethodName) jdk_2038_method_1_code 1 none :: ws) ({ frames := 1, cells := 0, slots := 0, locals := 12 } : Room)) (fun a U => a = #[(.ref o0)] ∧ Z.Warmed39 U.vm ∧ U.heap = h0) (fun _ _ _ _ _ => True) (fun _ U o U' => ∃ v L, o = .returned v ∧ Q1 Z o0 h0 n0 v U'.heap L ∧ FrameEnd U o U' L ({ frames := 1, cells := 0, slots := 0, locals := 12 } : Room).cells ({ frames := 1, cells := 0, slots := 0, locals := 12 } : Room).slots) := by
  refine Own.enter (Q := Q1 Z o0 h0 n0) (plainFor_of_name pn_0) ?_
  intro p e s m below meth c s₁ D hx hby hml hown hnm hret hZ X0 e0 hD hR
  have N0 := Fr.nil n0
  rw [show entryFrame m #[(.ref o0)] 1 = mkF m 0 #[.val (.ref o0)] [] from ef_1 m o0]
  obtain ⟨T1, X1, e1, st1⟩ := initO X0 hx hZ hown (hw _ (List.mem_of_getElem? (i := 12) rfl)) (hw _ (List.mem_of_getElem? (i := 13) rfl)) (hw _ (List.mem_of_getElem? (i := 14) rfl)) e0 (g := (mkF m 1 #[.val (.ref o0)] [(.ref o0)])) rfl (by rw [hml]; rfl) rfl (hb hby d1_1) (by decide) (W := 0) (by show 2 * 0 + _ ≤ _; exact Nat.le_of_eq rfl) (by decide)
  refine hD _ (T1.setTop (mkF m 4 #[.val (.ref o0)] [])) (fun t kt_ => ?_) ?_
  · show Steps p.tables e below (s₁.setTop (mkF m 0 #[.val (.ref o0)] [])) t
    refine XS.aloadN X0.here hx rfl (hb hby d1_0) rfl rfl ?_
    show Steps p.tables e below (s₁.setTop (mkF m 1 #[.val (.ref o0)] [(.ref o0)])) t
    refine st1 _ ?_
    show Steps p.tables e below (T1.setTop (mkF m 4 #[.val (.ref o0)] [])) t
    exact kt_
  exact Own.retV hR X1 hx hret (hb hby d1_4) (by decide) (by decide) ⟨rfl, N0, e1⟩
theorem d2_0 : decode jdk_29_method_24_code 0 = .ok (.iload_n 0, 1) := by decide +kernel
theorem d2_1 : decode jdk_29_method_24_code 1 = .ok (.iload_n 1, 1) := by decide +kernel
theorem d2_2 : decode jdk_29_method_24_code 2 = .ok (.iadd, 1) := by decide +kernel
theorem d2_3 : decode jdk_29_method_24_code 3 = .ok (.istore_n 2, 1) := by decide +kernel
theorem d2_4 : decode jdk_29_method_24_code 4 = .ok (.iload_n 0, 1) := by decide +kernel
theorem d2_5 : decode jdk_29_method_24_code 5 = .ok (.iload_n 2, 1) := by decide +kernel
theorem d2_6 : decode jdk_29_method_24_code 6 = .ok (.ixor, 1) := by decide +kernel
theorem d2_7 : decode jdk_29_method_24_code 7 = .ok (.iload_n 1, 1) := by decide +kernel
theorem d2_8 : decode jdk_29_method_24_code 8 = .ok (.iload_n 2, 1) := by decide +kernel
theorem d2_9 : decode jdk_29_method_24_code 9 = .ok (.ixor, 1) := by decide +kernel
theorem d2_10 : decode jdk_29_method_24_code 10 = .ok (.iand, 1) := by decide +kernel
theorem d2_11 : decode jdk_29_method_24_code 11 = .ok (.ifCond .ge 13, 3) := by decide +kernel
theorem d2_24 : decode jdk_29_method_24_code 24 = .ok (.iload_n 2, 1) := by decide +kernel
theorem d2_25 : decode jdk_29_method_24_code 25 = .ok (.ireturn, 1) := by decide +kernel
theorem ef_2 (m : MethodId) (p0 : Int32) (p1 : Int32) : entryFrame m #[(.int p0), (.int p1)] 3 = mkF m 0 #[.val (.int p0), .val (.int p1), .unset] [] := by first | (simp [entryFrame, mkF, argsToLocals, Value.category]; done) | rfl
def Q2 (Z : State) (p0 : Int32) (p1 : Int32) (a b : Nat) (h0 : Heap) (n0 : Nat) (v : Option Value) (h : Heap) (L : List Loc) : Prop := v = some (.int (p0 + p1)) ∧ Fr n0 L ∧ h = h0
set_option maxRecDepth 65536 in
set_option maxHeartbeats 40000000 in
theorem rm2 (l : Launch) (Z : State) (a0 : Array Value) (hw : ∀ d ∈ tables_1, d.before a0 Z = true) (ws : List Jvm.Cond) (p0 : Int32) (p1 : Int32) (a b : Nat) (h0 : Heap) (n0 : Nat) (ha : p0.toInt = a) (hb_ : p1.toInt = b) (hab : a + b ≤ 100) :
    MetFree l (⟨"java/lang/Math", "addExact", "(II)I"⟩ : MethodName) (head1 (Jvm.Cond.code (⟨"java/lang/Math", "addExact", "(II)I"⟩ : MethodName) jdk_29_method_24_code 3 (some .int) :: ws) ({ frames := 0, cells := 0, slots := 0, locals := 0 } : Room)) (fun a U => a = #[(.int p0), (.int p1)] ∧ Z.Warmed39 U.vm ∧ U.heap = h0) (fun _ _ _ _ _ => True) (fun _ U o U' => ∃ v L, o = .returned v ∧ Q2 Z p0 p1 a b h0 n0 v U'.heap L ∧ FrameEnd U o U' L ({ frames := 0, cells := 0, slots := 0, locals := 0 } : Room).cells ({ frames := 0, cells := 0, slots := 0, locals := 0 } : Room).slots) := by
  refine Own.enter (Q := Q2 Z p0 p1 a b h0 n0) (Jvm.Free.JP.mathPlain rfl (by decide +kernel)) ?_
  intro p e s m below meth c s₁ D hx hby hml hown hnm hret hZ X0 e0 hD hR
  have N0 := Fr.nil n0
  rw [show entryFrame m #[(.int p0), (.int p1)] 3 = mkF m 0 #[.val (.int p0), .val (.int p1), .unset] [] from ef_2 m p0 p1]
  obtain ⟨v1, hv1⟩ : ∃ z : Int32, z = (p0 + p1) := ⟨_, rfl⟩
  refine hD _ (s₁.setTop (mkF m 11 #[.val (.int p0), .val (.int p1), .val (.int v1)] [(.int ((p0 ^^^ v1) &&& (p1 ^^^ v1)))])) (fun t kt_ => ?_) ?_
  · show Steps p.tables e below (s₁.setTop (mkF m 0 #[.val (.int p0), .val (.int p1), .unset] [])) t
    refine XS.iloadN X0.here hx rfl (hb hby d2_0) rfl ?_
    show Steps p.tables e below (s₁.setTop (mkF m 1 #[.val (.int p0), .val (.int p1), .unset] [(.int p0)])) t
    refine XS.iloadN X0.here hx rfl (hb hby d2_1) rfl ?_
    show Steps p.tables e below (s₁.setTop (mkF m 2 #[.val (.int p0), .val (.int p1), .unset] [(.int p1), (.int p0)])) t
    refine XS.iadd X0.here hx rfl (hb hby d2_2) rfl ?_
    show Steps p.tables e below (s₁.setTop (mkF m 3 #[.val (.int p0), .val (.int p1), .unset] [(.int (p0 + p1))])) t
    refine Own.nmI hv1 ?_
    show Steps p.tables e below (s₁.setTop (mkF m 3 #[.val (.int p0), .val (.int p1), .unset] [(.int v1)])) t
    refine XS.istoreN X0.here hx rfl (hb hby d2_3) rfl (l' := #[.val (.int p0), .val (.int p1), .val (.int v1)]) rfl ?_
    show Steps p.tables e below (s₁.setTop (mkF m 4 #[.val (.int p0), .val (.int p1), .val (.int v1)] [])) t
    refine XS.iloadN X0.here hx rfl (hb hby d2_4) rfl ?_
    show Steps p.tables e below (s₁.setTop (mkF m 5 #[.val (.int p0), .val (.int p1), .val (.int v1)] [(.int p0)])) t
    refine XS.iloadN X0.here hx rfl (hb hby d2_5) rfl ?_
    show Steps p.tables e below (s₁.setTop (mkF m 6 #[.val (.int p0), .val (.int p1), .val (.int v1)] [(.int v1), (.int p0)])) t
    refine XS.ixor X0.here hx rfl (hb hby d2_6) rfl ?_
    show Steps p.tables e below (s₁.setTop (mkF m 7 #[.val (.int p0), .val (.int p1), .val (.int v1)] [(.int (p0 ^^^ v1))])) t
    refine XS.iloadN X0.here hx rfl (hb hby d2_7) rfl ?_
    show Steps p.tables e below (s₁.setTop (mkF m 8 #[.val (.int p0), .val (.int p1), .val (.int v1)] [(.int p1), (.int (p0 ^^^ v1))])) t
    refine XS.iloadN X0.here hx rfl (hb hby d2_8) rfl ?_
    show Steps p.tables e below (s₁.setTop (mkF m 9 #[.val (.int p0), .val (.int p1), .val (.int v1)] [(.int v1), (.int p1), (.int (p0 ^^^ v1))])) t
    refine XS.ixor X0.here hx rfl (hb hby d2_9) rfl ?_
    show Steps p.tables e below (s₁.setTop (mkF m 10 #[.val (.int p0), .val (.int p1), .val (.int v1)] [(.int (p1 ^^^ v1)), (.int (p0 ^^^ v1))])) t
    refine XS.iand X0.here hx rfl (hb hby d2_10) rfl ?_
    show Steps p.tables e below (s₁.setTop (mkF m 11 #[.val (.int p0), .val (.int p1), .val (.int v1)] [(.int ((p0 ^^^ v1) &&& (p1 ^^^ v1)))])) t
    exact kt_
  have hc2 : ¬ (((p0 ^^^ v1) &&& (p1 ^^^ v1)) < (0 : Int32)) := own_adx ha hb_ hab hv1
  refine hD _ (s₁.setTop (mkF m 25 #[.val (.int p0), .val (.int p1), .val (.int v1)] [(.int v1)])) (fun t kt_ => ?_) ?_
  · show Steps p.tables e below (s₁.setTop (mkF m 11 #[.val (.int p0), .val (.int p1), .val (.int v1)] [(.int ((p0 ^^^ v1) &&& (p1 ^^^ v1)))])) t
    refine XS.ifYes X0.here hx rfl (pc0 := 11) (pc' := 24) rfl (hb hby d2_11) rfl ((if0 _ _).trans (flt hc2).2.1) (by decide) (by decide) ?_
    show Steps p.tables e below (s₁.setTop (mkF m 24 #[.val (.int p0), .val (.int p1), .val (.int v1)] [])) t
    refine XS.iloadN X0.here hx rfl (hb hby d2_24) rfl ?_
    show Steps p.tables e below (s₁.setTop (mkF m 25 #[.val (.int p0), .val (.int p1), .val (.int v1)] [(.int v1)])) t
    exact kt_
  exact Own.retI hR X0 hx hret (hb hby d2_25) (by decide) (by decide) ⟨by subst hv1; rfl, N0, e0⟩
theorem d3_0 : decode jdk_29_method_70_code 0 = .ok (.lload_n 0, 1) := by decide +kernel
theorem d3_1 : decode jdk_29_method_70_code 1 = .ok (.lload_n 2, 1) := by decide +kernel
theorem d3_2 : decode jdk_29_method_70_code 2 = .ok (.lcmp, 1) := by decide +kernel
theorem d3_3 : decode jdk_29_method_70_code 3 = .ok (.ifCond .gt 7, 3) := by decide +kernel
theorem d3_6 : decode jdk_29_method_70_code 6 = .ok (.lload_n 0, 1) := by decide +kernel
theorem d3_7 : decode jdk_29_method_70_code 7 = .ok (.goto 4, 3) := by decide +kernel
theorem d3_10 : decode jdk_29_method_70_code 10 = .ok (.lload_n 2, 1) := by decide +kernel
theorem d3_11 : decode jdk_29_method_70_code 11 = .ok (.lreturn, 1) := by decide +kernel
theorem ef_3 (m : MethodId) (q0 : Int64) (q1 : Int64) : entryFrame m #[(.long q0), (.long q1)] 4 = mkF m 0 #[.val (.long q0), .second, .val (.long q1), .second] [] := by first | (simp [entryFrame, mkF, argsToLocals, Value.category]; done) | rfl
def Q3 (Z : State) (q0 : Int64) (q1 : Int64) (h0 : Heap) (n0 : Nat) (v : Option Value) (h : Heap) (L : List Loc) : Prop := v = some (.long (own_minJ q0 q1)) ∧ Fr n0 L ∧ h = h0
set_option maxRecDepth 65536 in
set_option maxHeartbeats 40000000 in
theorem rm3 (l : Launch) (Z : State) (a0 : Array Value) (hw : ∀ d ∈ tables_1, d.before a0 Z = true) (ws : List Jvm.Cond) (q0 : Int64) (q1 : Int64) (h0 : Heap) (n0 : Nat) :
    MetFree l (⟨"java/lang/Math", "min", "(JJ)J"⟩ : MethodName) (head1 (Jvm.Cond.code (⟨"java/lang/Math", "min", "(JJ)J"⟩ : MethodName) jdk_29_method_70_code 4 (some .long) :: ws) ({ frames := 0, cells := 0, slots := 0, locals := 0 } : Room)) (fun a U => a = #[(.long q0), (.long q1)] ∧ Z.Warmed39 U.vm ∧ U.heap = h0) (fun _ _ _ _ _ => True) (fun _ U o U' => ∃ v L, o = .returned v ∧ Q3 Z q0 q1 h0 n0 v U'.heap L ∧ FrameEnd U o U' L ({ frames := 0, cells := 0, slots := 0, locals := 0 } : Room).cells ({ frames := 0, cells := 0, slots := 0, locals := 0 } : Room).slots) := by
  refine Own.enter (Q := Q3 Z q0 q1 h0 n0) (Jvm.Free.JP.mathPlain rfl (by decide +kernel)) ?_
  intro p e s m below meth c s₁ D hx hby hml hown hnm hret hZ X0 e0 hD hR
  have N0 := Fr.nil n0
  rw [show entryFrame m #[(.long q0), (.long q1)] 4 = mkF m 0 #[.val (.long q0), .second, .val (.long q1), .second] [] from ef_3 m q0 q1]
  refine hD _ (s₁.setTop (mkF m 3 #[.val (.long q0), .second, .val (.long q1), .second] [(.int (lcmpW q0 q1))])) (fun t kt_ => ?_) ?_
  · show Steps p.tables e below (s₁.setTop (mkF m 0 #[.val (.long q0), .second, .val (.long q1), .second] [])) t
    refine XS.lloadN X0.here hx rfl (hb hby d3_0) rfl ?_
    show Steps p.tables e below (s₁.setTop (mkF m 1 #[.val (.long q0), .second, .val (.long q1), .second] [(.long q0)])) t
    refine XS.lloadN X0.here hx rfl (hb hby d3_1) rfl ?_
    show Steps p.tables e below (s₁.setTop (mkF m 2 #[.val (.long q0), .second, .val (.long q1), .second] [(.long q1), (.long q0)])) t
    refine XS.lcmp X0.here hx rfl (hb hby d3_2) rfl ?_
    show Steps p.tables e below (s₁.setTop (mkF m 3 #[.val (.long q0), .second, .val (.long q1), .second] [(.int (lcmpW q0 q1))])) t
    exact kt_
  by_cases hc1 : q1 < q0
  · refine hD _ (s₁.setTop (mkF m 11 #[.val (.long q0), .second, .val (.long q1), .second] [(.long q1)])) (fun t kt_ => ?_) ?_
    · show Steps p.tables e below (s₁.setTop (mkF m 3 #[.val (.long q0), .second, .val (.long q1), .second] [(.int (lcmpW q0 q1))])) t
      refine XS.ifYes X0.here hx rfl (pc0 := 3) (pc' := 10) rfl (hb hby d3_3) rfl ((if0 _ _).trans (tlt ((lw_gt q0 q1).mpr hc1)).2.2.1) (by decide) (by decide) ?_
      show Steps p.tables e below (s₁.setTop (mkF m 10 #[.val (.long q0), .second, .val (.long q1), .second] [])) t
      refine XS.lloadN X0.here hx rfl (hb hby d3_10) rfl ?_
      show Steps p.tables e below (s₁.setTop (mkF m 11 #[.val (.long q0), .second, .val (.long q1), .second] [(.long q1)])) t
      exact kt_
    exact Own.retJ hR X0 hx hret (hb hby d3_11) (by decide) (by decide) ⟨by simp [own_minJ, hc1], N0, e0⟩
  · refine hD _ (s₁.setTop (mkF m 11 #[.val (.long q0), .second, .val (.long q1), .second] [(.long q0)])) (fun t kt_ => ?_) ?_
    · show Steps p.tables e below (s₁.setTop (mkF m 3 #[.val (.long q0), .second, .val (.long q1), .second] [(.int (lcmpW q0 q1))])) t
      refine XS.ifNo X0.here hx rfl (hb hby d3_3) rfl ((if0 _ _).trans (flt (fun q => hc1 ((lw_gt q0 q1).mp q))).2.2.1) ?_
      show Steps p.tables e below (s₁.setTop (mkF m 6 #[.val (.long q0), .second, .val (.long q1), .second] [])) t
      refine XS.lloadN X0.here hx rfl (hb hby d3_6) rfl ?_
      show Steps p.tables e below (s₁.setTop (mkF m 7 #[.val (.long q0), .second, .val (.long q1), .second] [(.long q0)])) t
      refine XS.goto X0.here hx rfl (pc0 := 7) (pc' := 11) rfl (hb hby d3_7) (by decide) (by decide) ?_
      show Steps p.tables e below (s₁.setTop (mkF m 11 #[.val (.long q0), .second, .val (.long q1), .second] [(.long q0)])) t
      exact kt_
    exact Own.retJ hR X0 hx hret (hb hby d3_11) (by decide) (by decide) ⟨by simp [own_minJ, hc1], N0, e0⟩
theorem d4_0 : decode jdk_29_method_65_code 0 = .ok (.iload_n 0, 1) := by decide +kernel
theorem d4_1 : decode jdk_29_method_65_code 1 = .ok (.iload_n 1, 1) := by decide +kernel
theorem d4_2 : decode jdk_29_method_65_code 2 = .ok (.if_icmp .lt 7, 3) := by decide +kernel
theorem d4_5 : decode jdk_29_method_65_code 5 = .ok (.iload_n 0, 1) := by decide +kernel
theorem d4_6 : decode jdk_29_method_65_code 6 = .ok (.goto 4, 3) := by decide +kernel
theorem d4_9 : decode jdk_29_method_65_code 9 = .ok (.iload_n 1, 1) := by decide +kernel
theorem d4_10 : decode jdk_29_method_65_code 10 = .ok (.ireturn, 1) := by decide +kernel
theorem ef_4 (m : MethodId) (p0 : Int32) (p1 : Int32) : entryFrame m #[(.int p0), (.int p1)] 2 = mkF m 0 #[.val (.int p0), .val (.int p1)] [] := by first | (simp [entryFrame, mkF, argsToLocals, Value.category]; done) | rfl
def Q4 (Z : State) (p0 : Int32) (p1 : Int32) (h0 : Heap) (n0 : Nat) (v : Option Value) (h : Heap) (L : List Loc) : Prop := v = some (.int (own_max p0 p1)) ∧ Fr n0 L ∧ h = h0
set_option maxRecDepth 65536 in
set_option maxHeartbeats 40000000 in
theorem rm4 (l : Launch) (Z : State) (a0 : Array Value) (hw : ∀ d ∈ tables_1, d.before a0 Z = true) (ws : List Jvm.Cond) (p0 : Int32) (p1 : Int32) (h0 : Heap) (n0 : Nat) :
    MetFree l (⟨"java/lang/Math", "max", "(II)I"⟩ : MethodName) (head1 (Jvm.Cond.code (⟨"java/lang/Math", "max", "(II)I"⟩ : MethodName) jdk_29_method_65_code 2 (some .int) :: ws) ({ frames := 0, cells := 0, slots := 0, locals := 0 } : Room)) (fun a U => a = #[(.int p0), (.int p1)] ∧ Z.Warmed39 U.vm ∧ U.heap = h0) (fun _ _ _ _ _ => True) (fun _ U o U' => ∃ v L, o = .returned v ∧ Q4 Z p0 p1 h0 n0 v U'.heap L ∧ FrameEnd U o U' L ({ frames := 0, cells := 0, slots := 0, locals := 0 } : Room).cells ({ frames := 0, cells := 0, slots := 0, locals := 0 } : Room).slots) := by
  refine Own.enter (Q := Q4 Z p0 p1 h0 n0) (Jvm.Free.JP.mathPlain rfl (by decide +kernel)) ?_
  intro p e s m below meth c s₁ D hx hby hml hown hnm hret hZ X0 e0 hD hR
  have N0 := Fr.nil n0
  rw [show entryFrame m #[(.int p0), (.int p1)] 2 = mkF m 0 #[.val (.int p0), .val (.int p1)] [] from ef_4 m p0 p1]
  refine hD _ (s₁.setTop (mkF m 2 #[.val (.int p0), .val (.int p1)] [(.int p1), (.int p0)])) (fun t kt_ => ?_) ?_
  · show Steps p.tables e below (s₁.setTop (mkF m 0 #[.val (.int p0), .val (.int p1)] [])) t
    refine XS.iloadN X0.here hx rfl (hb hby d4_0) rfl ?_
    show Steps p.tables e below (s₁.setTop (mkF m 1 #[.val (.int p0), .val (.int p1)] [(.int p0)])) t
    refine XS.iloadN X0.here hx rfl (hb hby d4_1) rfl ?_
    show Steps p.tables e below (s₁.setTop (mkF m 2 #[.val (.int p0), .val (.int p1)] [(.int p1), (.int p0)])) t
    exact kt_
  by_cases hc1 : p0 < p1
  · refine hD _ (s₁.setTop (mkF m 10 #[.val (.int p0), .val (.int p1)] [(.int p1)])) (fun t kt_ => ?_) ?_
    · show Steps p.tables e below (s₁.setTop (mkF m 2 #[.val (.int p0), .val (.int p1)] [(.int p1), (.int p0)])) t
      refine XS.icmpYes X0.here hx rfl (pc0 := 2) (pc' := 9) rfl (hb hby d4_2) rfl (tlt hc1).1 (by decide) (by decide) ?_
      show Steps p.tables e below (s₁.setTop (mkF m 9 #[.val (.int p0), .val (.int p1)] [])) t
      refine XS.iloadN X0.here hx rfl (hb hby d4_9) rfl ?_
      show Steps p.tables e below (s₁.setTop (mkF m 10 #[.val (.int p0), .val (.int p1)] [(.int p1)])) t
      exact kt_
    exact Own.retI hR X0 hx hret (hb hby d4_10) (by decide) (by decide) ⟨by simp [own_max, hc1], N0, e0⟩
  · refine hD _ (s₁.setTop (mkF m 10 #[.val (.int p0), .val (.int p1)] [(.int p0)])) (fun t kt_ => ?_) ?_
    · show Steps p.tables e below (s₁.setTop (mkF m 2 #[.val (.int p0), .val (.int p1)] [(.int p1), (.int p0)])) t
      refine XS.icmpNo X0.here hx rfl (hb hby d4_2) rfl (flt hc1).1 ?_
      show Steps p.tables e below (s₁.setTop (mkF m 5 #[.val (.int p0), .val (.int p1)] [])) t
      refine XS.iloadN X0.here hx rfl (hb hby d4_5) rfl ?_
      show Steps p.tables e below (s₁.setTop (mkF m 6 #[.val (.int p0), .val (.int p1)] [(.int p0)])) t
      refine XS.goto X0.here hx rfl (pc0 := 6) (pc' := 10) rfl (hb hby d4_6) (by decide) (by decide) ?_
      show Steps p.tables e below (s₁.setTop (mkF m 10 #[.val (.int p0), .val (.int p1)] [(.int p0)])) t
      exact kt_
    exact Own.retI hR X0 hx hret (hb hby d4_10) (by decide) (by decide) ⟨by simp [own_max, hc1], N0, e0⟩
theorem d5_0 : decode jdk_29_method_69_code 0 = .ok (.iload_n 0, 1) := by decide +kernel
theorem d5_1 : decode jdk_29_method_69_code 1 = .ok (.iload_n 1, 1) := by decide +kernel
theorem d5_2 : decode jdk_29_method_69_code 2 = .ok (.if_icmp .gt 7, 3) := by decide +kernel
theorem d5_5 : decode jdk_29_method_69_code 5 = .ok (.iload_n 0, 1) := by decide +kernel
theorem d5_6 : decode jdk_29_method_69_code 6 = .ok (.goto 4, 3) := by decide +kernel
theorem d5_9 : decode jdk_29_method_69_code 9 = .ok (.iload_n 1, 1) := by decide +kernel
theorem d5_10 : decode jdk_29_method_69_code 10 = .ok (.ireturn, 1) := by decide +kernel
theorem ef_5 (m : MethodId) (p0 : Int32) (p1 : Int32) : entryFrame m #[(.int p0), (.int p1)] 2 = mkF m 0 #[.val (.int p0), .val (.int p1)] [] := by first | (simp [entryFrame, mkF, argsToLocals, Value.category]; done) | rfl
def Q5 (Z : State) (p0 : Int32) (p1 : Int32) (h0 : Heap) (n0 : Nat) (v : Option Value) (h : Heap) (L : List Loc) : Prop := v = some (.int (own_min p0 p1)) ∧ Fr n0 L ∧ h = h0
set_option maxRecDepth 65536 in
set_option maxHeartbeats 40000000 in
theorem rm5 (l : Launch) (Z : State) (a0 : Array Value) (hw : ∀ d ∈ tables_1, d.before a0 Z = true) (ws : List Jvm.Cond) (p0 : Int32) (p1 : Int32) (h0 : Heap) (n0 : Nat) :
    MetFree l (⟨"java/lang/Math", "min", "(II)I"⟩ : MethodName) (head1 (Jvm.Cond.code (⟨"java/lang/Math", "min", "(II)I"⟩ : MethodName) jdk_29_method_69_code 2 (some .int) :: ws) ({ frames := 0, cells := 0, slots := 0, locals := 0 } : Room)) (fun a U => a = #[(.int p0), (.int p1)] ∧ Z.Warmed39 U.vm ∧ U.heap = h0) (fun _ _ _ _ _ => True) (fun _ U o U' => ∃ v L, o = .returned v ∧ Q5 Z p0 p1 h0 n0 v U'.heap L ∧ FrameEnd U o U' L ({ frames := 0, cells := 0, slots := 0, locals := 0 } : Room).cells ({ frames := 0, cells := 0, slots := 0, locals := 0 } : Room).slots) := by
  refine Own.enter (Q := Q5 Z p0 p1 h0 n0) (Jvm.Free.JP.mathPlain rfl (by decide +kernel)) ?_
  intro p e s m below meth c s₁ D hx hby hml hown hnm hret hZ X0 e0 hD hR
  have N0 := Fr.nil n0
  rw [show entryFrame m #[(.int p0), (.int p1)] 2 = mkF m 0 #[.val (.int p0), .val (.int p1)] [] from ef_5 m p0 p1]
  refine hD _ (s₁.setTop (mkF m 2 #[.val (.int p0), .val (.int p1)] [(.int p1), (.int p0)])) (fun t kt_ => ?_) ?_
  · show Steps p.tables e below (s₁.setTop (mkF m 0 #[.val (.int p0), .val (.int p1)] [])) t
    refine XS.iloadN X0.here hx rfl (hb hby d5_0) rfl ?_
    show Steps p.tables e below (s₁.setTop (mkF m 1 #[.val (.int p0), .val (.int p1)] [(.int p0)])) t
    refine XS.iloadN X0.here hx rfl (hb hby d5_1) rfl ?_
    show Steps p.tables e below (s₁.setTop (mkF m 2 #[.val (.int p0), .val (.int p1)] [(.int p1), (.int p0)])) t
    exact kt_
  by_cases hc1 : p1 < p0
  · refine hD _ (s₁.setTop (mkF m 10 #[.val (.int p0), .val (.int p1)] [(.int p1)])) (fun t kt_ => ?_) ?_
    · show Steps p.tables e below (s₁.setTop (mkF m 2 #[.val (.int p0), .val (.int p1)] [(.int p1), (.int p0)])) t
      refine XS.icmpYes X0.here hx rfl (pc0 := 2) (pc' := 9) rfl (hb hby d5_2) rfl (tlt hc1).2.2.1 (by decide) (by decide) ?_
      show Steps p.tables e below (s₁.setTop (mkF m 9 #[.val (.int p0), .val (.int p1)] [])) t
      refine XS.iloadN X0.here hx rfl (hb hby d5_9) rfl ?_
      show Steps p.tables e below (s₁.setTop (mkF m 10 #[.val (.int p0), .val (.int p1)] [(.int p1)])) t
      exact kt_
    exact Own.retI hR X0 hx hret (hb hby d5_10) (by decide) (by decide) ⟨by simp [own_min, hc1], N0, e0⟩
  · refine hD _ (s₁.setTop (mkF m 10 #[.val (.int p0), .val (.int p1)] [(.int p0)])) (fun t kt_ => ?_) ?_
    · show Steps p.tables e below (s₁.setTop (mkF m 2 #[.val (.int p0), .val (.int p1)] [(.int p1), (.int p0)])) t
      refine XS.icmpNo X0.here hx rfl (hb hby d5_2) rfl (flt hc1).2.2.1 ?_
      show Steps p.tables e below (s₁.setTop (mkF m 5 #[.val (.int p0), .val (.int p1)] [])) t
      refine XS.iloadN X0.here hx rfl (hb hby d5_5) rfl ?_
      show Steps p.tables e below (s₁.setTop (mkF m 6 #[.val (.int p0), .val (.int p1)] [(.int p0)])) t
      refine XS.goto X0.here hx rfl (pc0 := 6) (pc' := 10) rfl (hb hby d5_6) (by decide) (by decide) ?_
      show Steps p.tables e below (s₁.setTop (mkF m 10 #[.val (.int p0), .val (.int p1)] [(.int p0)])) t
      exact kt_
    exact Own.retI hR X0 hx hret (hb hby d5_10) (by decide) (by decide) ⟨by simp [own_min, hc1], N0, e0⟩
theorem d6_0 : decode prog_13_method_2_code 0 = .ok (.iload_n 1, 1) := by decide +kernel
theorem d6_1 : decode prog_13_method_2_code 1 = .ok (.ldc2_w 9, 3) := by decide +kernel
theorem d6_4 : decode prog_13_method_2_code 4 = .ok (.iload_n 0, 1) := by decide +kernel
theorem d6_5 : decode prog_13_method_2_code 5 = .ok (.i2l, 1) := by decide +kernel
theorem d6_6 : decode prog_13_method_2_code 6 = .ok (.lmul, 1) := by decide +kernel
theorem d6_7 : decode prog_13_method_2_code 7 = .ok (.ldc2_w 13, 3) := by decide +kernel
theorem d6_10 : decode prog_13_method_2_code 10 = .ok (.invokestatic 15, 3) := by decide +kernel
theorem d6_13 : decode prog_13_method_2_code 13 = .ok (.l2i, 1) := by decide +kernel
theorem d6_14 : decode prog_13_method_2_code 14 = .ok (.invokestatic 21, 3) := by decide +kernel
theorem d6_17 : decode prog_13_method_2_code 17 = .ok (.ireturn, 1) := by decide +kernel
theorem pd_0 : parseMethodDescriptor "(JJ)J" = some ⟨[.long, .long], some .long⟩ := by decide +kernel
theorem pd_1 : parseMethodDescriptor "(II)I" = some ⟨[.int, .int], some .int⟩ := by decide +kernel
theorem pn_1 : plainName "com/example/edom/edom/mapping/ArrayGrowth" = true := by first | (simp [plainName, overriddenIn]; done) | decide +kernel
theorem ef_6 (m : MethodId) (p0 : Int32) (p1 : Int32) : entryFrame m #[(.int p0), (.int p1)] 2 = mkF m 0 #[.val (.int p0), .val (.int p1)] [] := by first | (simp [entryFrame, mkF, argsToLocals, Value.category]; done) | rfl
def Q6 (Z : State) (p0 : Int32) (p1 : Int32) (h0 : Heap) (n0 : Nat) (v : Option Value) (h : Heap) (L : List Loc) : Prop := v = some (.int (own_grow p0 p1)) ∧ Fr n0 L ∧ h = h0
set_option maxRecDepth 65536 in
set_option maxHeartbeats 40000000 in
theorem rm6 (l : Launch) (Z : State) (a0 : Array Value) (hw : ∀ d ∈ tables_1, d.before a0 Z = true) (ws : List Jvm.Cond) (p0 : Int32) (p1 : Int32) (h0 : Heap) (n0 : Nat) :
    MetFree l (⟨"com/example/edom/edom/mapping/ArrayGrowth", "grownLength", "(II)I"⟩ : MethodName) (head1 (Jvm.Cond.code (⟨"com/example/edom/edom/mapping/ArrayGrowth", "grownLength", "(II)I"⟩ : MethodName) prog_13_method_2_code 2 (some .int) :: ws) ({ frames := 1, cells := 0, slots := 0, locals := 16 } : Room)) (fun a U => a = #[(.int p0), (.int p1)] ∧ Z.Warmed39 U.vm ∧ U.heap = h0) (fun _ _ _ _ _ => True) (fun _ U o U' => ∃ v L, o = .returned v ∧ Q6 Z p0 p1 h0 n0 v U'.heap L ∧ FrameEnd U o U' L ({ frames := 1, cells := 0, slots := 0, locals := 16 } : Room).cells ({ frames := 1, cells := 0, slots := 0, locals := 16 } : Room).slots) := by
  refine Own.enter (Q := Q6 Z p0 p1 h0 n0) (plainFor_of_name pn_1) ?_
  intro p e s m below meth c s₁ D hx hby hml hown hnm hret hZ X0 e0 hD hR
  have N0 := Fr.nil n0
  rw [show entryFrame m #[(.int p0), (.int p1)] 2 = mkF m 0 #[.val (.int p0), .val (.int p1)] [] from ef_6 m p0 p1]
  obtain ⟨T1, _, L1, X1, ⟨rfl, Nq1, e1⟩, st1⟩ := Own.callS (y := (⟨"java/lang/Math", "min", "(JJ)J"⟩ : MethodName)) (W := 1) (argsL := [(.long ((2 : Int64) * (p0.toInt64))), (.long (2147483639 : Int64))]) (rest := [(.int p1)]) X0 hx hZ hown (hw _ (List.mem_of_getElem? (i := 38) rfl)) (hw _ (List.mem_of_getElem? (i := 39) rfl)) (hw _ (List.mem_of_getElem? (i := 30) rfl)) (hw _ (List.mem_of_getElem? (i := 40) rfl)) (by decide) e0 (rm3 l Z a0 hw [] ((2 : Int64) * (p0.toInt64)) (2147483639 : Int64)  h0 n0 ) (by decide) (by decide) (by decide) (by decide) (g := (mkF m 10 #[.val (.int p0), .val (.int p1)] [(.long (2147483639 : Int64)), (.long ((2 : Int64) * (p0.toInt64))), (.int p1)])) rfl (by rw [hml]; rfl) (lenOf pd_0 rfl) rfl (by show 2 * 0 + _ ≤ _; exact Nat.le_of_eq rfl) (hb hby d6_10)
  have N1 := Fr.app N0 Nq1
  obtain ⟨T2, _, L2, X2, ⟨rfl, Nq2, e2⟩, st2⟩ := Own.callS (y := (⟨"java/lang/Math", "max", "(II)I"⟩ : MethodName)) (W := 0) (argsL := [(.int p1), (.int ((own_minJ ((2 : Int64) * (p0.toInt64)) (2147483639 : Int64)).toInt32))]) (rest := []) X1 hx hZ hown (hw _ (List.mem_of_getElem? (i := 41) rfl)) (hw _ (List.mem_of_getElem? (i := 42) rfl)) (hw _ (List.mem_of_getElem? (i := 30) rfl)) (hw _ (List.mem_of_getElem? (i := 43) rfl)) (by decide) e1 (rm4 l Z a0 hw [] p1 ((own_minJ ((2 : Int64) * (p0.toInt64)) (2147483639 : Int64)).toInt32)  h0 n0 ) (by decide) (by decide) (by decide) (by decide) (g := (mkF m 14 #[.val (.int p0), .val (.int p1)] [(.int ((own_minJ ((2 : Int64) * (p0.toInt64)) (2147483639 : Int64)).toInt32)), (.int p1)])) rfl (by rw [hml]; rfl) (lenOf pd_1 rfl) rfl (by show 2 * 0 + _ ≤ _; exact Nat.le_of_eq rfl) (hb hby d6_14)
  have N2 := Fr.app N1 Nq2
  refine hD _ (T2.setTop (mkF m 17 #[.val (.int p0), .val (.int p1)] [(.int (own_max p1 ((own_minJ ((2 : Int64) * (p0.toInt64)) (2147483639 : Int64)).toInt32)))])) (fun t kt_ => ?_) ?_
  · show Steps p.tables e below (s₁.setTop (mkF m 0 #[.val (.int p0), .val (.int p1)] [])) t
    refine XS.iloadN X0.here hx rfl (hb hby d6_0) rfl ?_
    show Steps p.tables e below (s₁.setTop (mkF m 1 #[.val (.int p0), .val (.int p1)] [(.int p1)])) t
    refine X0.ldc2Long hx hown (mvT hZ (hw _ (List.mem_of_getElem? (i := 36) rfl))) (g := (mkF m 1 #[.val (.int p0), .val (.int p1)] [(.int p1)])) rfl (hb hby d6_1) _ ?_
    show Steps p.tables e below (s₁.setTop (mkF m 4 #[.val (.int p0), .val (.int p1)] [(.long (2 : Int64)), (.int p1)])) t
    refine XS.iloadN X0.here hx rfl (hb hby d6_4) rfl ?_
    show Steps p.tables e below (s₁.setTop (mkF m 5 #[.val (.int p0), .val (.int p1)] [(.int p0), (.long (2 : Int64)), (.int p1)])) t
    refine XS.i2l X0.here hx rfl (hb hby d6_5) rfl ?_
    show Steps p.tables e below (s₁.setTop (mkF m 6 #[.val (.int p0), .val (.int p1)] [(.long (p0.toInt64)), (.long (2 : Int64)), (.int p1)])) t
    refine XS.lmul X0.here hx rfl (hb hby d6_6) rfl ?_
    show Steps p.tables e below (s₁.setTop (mkF m 7 #[.val (.int p0), .val (.int p1)] [(.long ((2 : Int64) * (p0.toInt64))), (.int p1)])) t
    refine X0.ldc2Long hx hown (mvT hZ (hw _ (List.mem_of_getElem? (i := 37) rfl))) (g := (mkF m 7 #[.val (.int p0), .val (.int p1)] [(.long ((2 : Int64) * (p0.toInt64))), (.int p1)])) rfl (hb hby d6_7) _ ?_
    show Steps p.tables e below (s₁.setTop (mkF m 10 #[.val (.int p0), .val (.int p1)] [(.long (2147483639 : Int64)), (.long ((2 : Int64) * (p0.toInt64))), (.int p1)])) t
    refine st1 _ ?_
    show Steps p.tables e below (T1.setTop (mkF m 13 #[.val (.int p0), .val (.int p1)] [(.long (own_minJ ((2 : Int64) * (p0.toInt64)) (2147483639 : Int64))), (.int p1)])) t
    refine XS.l2i X1.here hx rfl (hb hby d6_13) rfl ?_
    show Steps p.tables e below (T1.setTop (mkF m 14 #[.val (.int p0), .val (.int p1)] [(.int ((own_minJ ((2 : Int64) * (p0.toInt64)) (2147483639 : Int64)).toInt32)), (.int p1)])) t
    refine st2 _ ?_
    show Steps p.tables e below (T2.setTop (mkF m 17 #[.val (.int p0), .val (.int p1)] [(.int (own_max p1 ((own_minJ ((2 : Int64) * (p0.toInt64)) (2147483639 : Int64)).toInt32)))])) t
    exact kt_
  exact Own.retI hR X2 hx hret (hb hby d6_17) (by decide) (by decide) ⟨rfl, N2, e2⟩
theorem d7_0 : decode jdk_65_method_131_code 0 = .ok (.iload_n 1, 1) := by decide +kernel
theorem d7_1 : decode jdk_65_method_131_code 1 = .ok (.iload_n 0, 1) := by decide +kernel
theorem d7_2 : decode jdk_65_method_131_code 2 = .ok (.if_icmp .ge 35, 3) := by decide +kernel
theorem d7_37 : decode jdk_65_method_131_code 37 = .ok (.return_, 1) := by decide +kernel
theorem pn_2 : plainName "java/util/Arrays" = true := by first | (simp [plainName, overriddenIn]; done) | decide +kernel
theorem ef_7 (m : MethodId) (p0 : Int32) (p1 : Int32) : entryFrame m #[(.int p0), (.int p1)] 2 = mkF m 0 #[.val (.int p0), .val (.int p1)] [] := by first | (simp [entryFrame, mkF, argsToLocals, Value.category]; done) | rfl
def Q7 (Z : State) (p0 : Int32) (p1 : Int32) (h0 : Heap) (n0 : Nat) (v : Option Value) (h : Heap) (L : List Loc) : Prop := v = none ∧ Fr n0 L ∧ h = h0
set_option maxRecDepth 65536 in
set_option maxHeartbeats 40000000 in
theorem rm7 (l : Launch) (Z : State) (a0 : Array Value) (hw : ∀ d ∈ tables_1, d.before a0 Z = true) (ws : List Jvm.Cond) (p0 : Int32) (p1 : Int32) (h0 : Heap) (n0 : Nat) (hle : ¬ p1 < p0) :
    MetFree l (⟨"java/util/Arrays", "checkLength", "(II)V"⟩ : MethodName) (head1 (Jvm.Cond.code (⟨"java/util/Arrays", "checkLength", "(II)V"⟩ : MethodName) jdk_65_method_131_code 2 none :: ws) ({ frames := 0, cells := 0, slots := 0, locals := 0 } : Room)) (fun a U => a = #[(.int p0), (.int p1)] ∧ Z.Warmed39 U.vm ∧ U.heap = h0) (fun _ _ _ _ _ => True) (fun _ U o U' => ∃ v L, o = .returned v ∧ Q7 Z p0 p1 h0 n0 v U'.heap L ∧ FrameEnd U o U' L ({ frames := 0, cells := 0, slots := 0, locals := 0 } : Room).cells ({ frames := 0, cells := 0, slots := 0, locals := 0 } : Room).slots) := by
  refine Own.enter (Q := Q7 Z p0 p1 h0 n0) (plainFor_of_name pn_2) ?_
  intro p e s m below meth c s₁ D hx hby hml hown hnm hret hZ X0 e0 hD hR
  have N0 := Fr.nil n0
  rw [show entryFrame m #[(.int p0), (.int p1)] 2 = mkF m 0 #[.val (.int p0), .val (.int p1)] [] from ef_7 m p0 p1]
  refine hD _ (s₁.setTop (mkF m 2 #[.val (.int p0), .val (.int p1)] [(.int p0), (.int p1)])) (fun t kt_ => ?_) ?_
  · show Steps p.tables e below (s₁.setTop (mkF m 0 #[.val (.int p0), .val (.int p1)] [])) t
    refine XS.iloadN X0.here hx rfl (hb hby d7_0) rfl ?_
    show Steps p.tables e below (s₁.setTop (mkF m 1 #[.val (.int p0), .val (.int p1)] [(.int p1)])) t
    refine XS.iloadN X0.here hx rfl (hb hby d7_1) rfl ?_
    show Steps p.tables e below (s₁.setTop (mkF m 2 #[.val (.int p0), .val (.int p1)] [(.int p0), (.int p1)])) t
    exact kt_
  have hc1 : ¬ (p1 < p0) := hle
  refine hD _ (s₁.setTop (mkF m 37 #[.val (.int p0), .val (.int p1)] [])) (fun t kt_ => ?_) ?_
  · show Steps p.tables e below (s₁.setTop (mkF m 2 #[.val (.int p0), .val (.int p1)] [(.int p0), (.int p1)])) t
    refine XS.icmpYes X0.here hx rfl (pc0 := 2) (pc' := 37) rfl (hb hby d7_2) rfl (flt hc1).2.1 (by decide) (by decide) ?_
    show Steps p.tables e below (s₁.setTop (mkF m 37 #[.val (.int p0), .val (.int p1)] [])) t
    exact kt_
  exact Own.retV hR X0 hx hret (hb hby d7_37) (by decide) (by decide) ⟨rfl, N0, e0⟩
theorem d8_0 : decode jdk_65_method_121_code 0 = .ok (.iload_n 1, 1) := by decide +kernel
theorem d8_1 : decode jdk_65_method_121_code 1 = .ok (.aload_n 0, 1) := by decide +kernel
theorem d8_2 : decode jdk_65_method_121_code 2 = .ok (.arraylength, 1) := by decide +kernel
theorem d8_3 : decode jdk_65_method_121_code 3 = .ok (.if_icmp .ne 11, 3) := by decide +kernel
theorem d8_14 : decode jdk_65_method_121_code 14 = .ok (.iload_n 1, 1) := by decide +kernel
theorem d8_15 : decode jdk_65_method_121_code 15 = .ok (.newarray .byte, 2) := by decide +kernel
theorem d8_17 : decode jdk_65_method_121_code 17 = .ok (.astore_n 2, 1) := by decide +kernel
theorem d8_18 : decode jdk_65_method_121_code 18 = .ok (.aload_n 0, 1) := by decide +kernel
theorem d8_19 : decode jdk_65_method_121_code 19 = .ok (.iconst 0, 1) := by decide +kernel
theorem d8_20 : decode jdk_65_method_121_code 20 = .ok (.aload_n 2, 1) := by decide +kernel
theorem d8_21 : decode jdk_65_method_121_code 21 = .ok (.iconst 0, 1) := by decide +kernel
theorem d8_22 : decode jdk_65_method_121_code 22 = .ok (.aload_n 0, 1) := by decide +kernel
theorem d8_23 : decode jdk_65_method_121_code 23 = .ok (.arraylength, 1) := by decide +kernel
theorem d8_24 : decode jdk_65_method_121_code 24 = .ok (.iload_n 1, 1) := by decide +kernel
theorem d8_25 : decode jdk_65_method_121_code 25 = .ok (.invokestatic 304, 3) := by decide +kernel
theorem d8_28 : decode jdk_65_method_121_code 28 = .ok (.invokestatic 150, 3) := by decide +kernel
theorem d8_31 : decode jdk_65_method_121_code 31 = .ok (.aload_n 2, 1) := by decide +kernel
theorem d8_32 : decode jdk_65_method_121_code 32 = .ok (.areturn, 1) := by decide +kernel
theorem ef_8 (m : MethodId) (o0 : Addr) (p1 : Int32) : entryFrame m #[(.ref o0), (.int p1)] 3 = mkF m 0 #[.val (.ref o0), .val (.int p1), .unset] [] := by first | (simp [entryFrame, mkF, argsToLocals, Value.category]; done) | rfl
def Q8 (Z : State) (o0 : Nat) (p1 : Int32) (n M : Nat) (f : Nat → Int32) (h0 : Heap) (n0 : Nat) (v : Option Value) (h : Heap) (L : List Loc) : Prop := ∃ (b : Nat) (f' : Nat → Int32), v = some (.ref b) ∧ Fr n0 L ∧ Keep h0 h [] ∧ h0.size ≤ b ∧ Own.AvI Z h b .byte M f' ∧ Own.FitsB f' ∧ ∀ i, i < n → i < M → f' i = f i
set_option maxRecDepth 65536 in
set_option maxHeartbeats 40000000 in
theorem rm8 (l : Launch) (Z : State) (a0 : Array Value) (hw : ∀ d ∈ tables_1, d.before a0 Z = true) (ws : List Jvm.Cond) (o0 : Nat) (p1 : Int32) (n M : Nat) (f : Nat → Int32) (h0 : Heap) (n0 : Nat) (Z0 : n0 ≤ h0.size) (hn : n ≤ 20) (hM : p1.toInt = M) (hM20 : M ≤ 20) (hne : n ≠ M) (hf : Own.FitsB f) (A0 : Own.AvI Z h0 o0 .byte n f) :
    MetFree l (⟨"java/util/Arrays", "copyOf", "([BI)[B"⟩ : MethodName) (head1 (Jvm.Cond.code (⟨"java/util/Arrays", "copyOf", "([BI)[B"⟩ : MethodName) jdk_65_method_121_code 3 (some (.array .byte)) :: ws) ({ frames := 1, cells := 1, slots := 20, locals := 18 } : Room)) (fun a U => a = #[(.ref o0), (.int p1)] ∧ Z.Warmed39 U.vm ∧ U.heap = h0) (fun _ _ _ _ _ => True) (fun _ U o U' => ∃ v L, o = .returned v ∧ Q8 Z o0 p1 n M f h0 n0 v U'.heap L ∧ FrameEnd U o U' L ({ frames := 1, cells := 1, slots := 20, locals := 18 } : Room).cells ({ frames := 1, cells := 1, slots := 20, locals := 18 } : Room).slots) := by
  refine Own.enter (Q := Q8 Z o0 p1 n M f h0 n0) (plainFor_of_name pn_2) ?_
  intro p e s m below meth c s₁ D hx hby hml hown hnm hret hZ X0 e0 hD hR
  have N0 := Fr.nil n0
  have K0 : Keep h0 h0 [] := Keep.refl h0 _
  rw [show entryFrame m #[(.ref o0), (.int p1)] 3 = mkF m 0 #[.val (.ref o0), .val (.int p1), .unset] [] from ef_8 m o0 p1]
  refine hD _ (s₁.setTop (mkF m 3 #[.val (.ref o0), .val (.int p1), .unset] [(.int (Int32.ofNat n)), (.int p1)])) (fun t kt_ => ?_) ?_
  · show Steps p.tables e below (s₁.setTop (mkF m 0 #[.val (.ref o0), .val (.int p1), .unset] [])) t
    refine XS.iloadN X0.here hx rfl (hb hby d8_0) rfl ?_
    show Steps p.tables e below (s₁.setTop (mkF m 1 #[.val (.ref o0), .val (.int p1), .unset] [(.int p1)])) t
    refine XS.aloadN X0.here hx rfl (hb hby d8_1) rfl rfl ?_
    show Steps p.tables e below (s₁.setTop (mkF m 2 #[.val (.ref o0), .val (.int p1), .unset] [(.ref o0), (.int p1)])) t
    refine Own.lenI X0 hx hZ e0 A0 (g := (mkF m 2 #[.val (.ref o0), .val (.int p1), .unset] [(.ref o0), (.int p1)])) rfl rfl (hb hby d8_2) _ ?_
    show Steps p.tables e below (s₁.setTop (mkF m 3 #[.val (.ref o0), .val (.int p1), .unset] [(.int (Int32.ofNat n)), (.int p1)])) t
    exact kt_
  have hc1 : ¬ (p1 = (Int32.ofNat n)) := by rw [own_eq, hM, own_oi (by omega)]; omega
  obtain ⟨T2, h2, k2, X2, e2, E2, A2, st2⟩ := newP X0 hx hZ (hw _ (List.mem_of_getElem? (i := 0) rfl)) e0 (g := (mkF m 15 #[.val (.ref o0), .val (.int p1), .unset] [(.int p1)])) rfl (hb hby d8_15) rfl (own_nn hM) (cap := 20) (own_cl hM hM20) (by decide) (by decide) (by decide)
  obtain ⟨b2, g_b2⟩ : ∃ z : Nat, z = h0.size := ⟨_, rfl⟩
  rw [← g_b2] at A2 st2
  have lt_o0_b2 : (o0 : Nat) < b2 := by rw [g_b2]; exact A0.lt
  have g0_b2 : n0 ≤ b2 := by rw [g_b2]; exact Z0
  have gk_b2 : h0.size ≤ b2 := by rw [g_b2]; exact K0.1
  have f3 : Own.AvI Z h2 o0 .byte n f := A0.ext E2
  have f4 : Own.AvI Z h2 b2 .byte M (fun _ => 0) := Own.AvI.new A2 hM rfl
  have Z2 : n0 ≤ h2.size := Nat.le_trans Z0 E2.1
  have K2 : Keep h0 h2 [] := K0.ext E2
  obtain ⟨T5, _, L5, X5, ⟨rfl, Nq5, e5⟩, st5⟩ := Own.callS (y := (⟨"java/lang/Math", "min", "(II)I"⟩ : MethodName)) (W := 4) (argsL := [(.int (Int32.ofNat n)), (.int p1)]) (rest := [(.int (0 : Int32)), (.ref b2), (.int (0 : Int32)), (.ref o0)]) X2 hx hZ hown (hw _ (List.mem_of_getElem? (i := 48) rfl)) (hw _ (List.mem_of_getElem? (i := 49) rfl)) (hw _ (List.mem_of_getElem? (i := 30) rfl)) (hw _ (List.mem_of_getElem? (i := 50) rfl)) (by decide) e2 (rm5 l Z a0 hw [] (Int32.ofNat n) p1  h2 n0 ) (by decide) (by decide) (by decide) (by decide) (g := (mkF m 25 #[.val (.ref o0), .val (.int p1), .val (.ref b2)] [(.int p1), (.int (Int32.ofNat n)), (.int (0 : Int32)), (.ref b2), (.int (0 : Int32)), (.ref o0)])) rfl (by rw [hml]; rfl) (lenOf pd_1 rfl) rfl (by show 2 * 0 + _ ≤ _; exact Nat.le_of_eq rfl) (hb hby d8_25)
  have N5 := Fr.app N0 Nq5
  obtain ⟨T6, h6, L6, X6, e6, N6, Kc6, A6, st6⟩ := Own.copyB X5 hx hZ hown (hw _ (List.mem_of_getElem? (i := 51) rfl)) (hw _ (List.mem_of_getElem? (i := 54) rfl)) (hw _ (List.mem_of_getElem? (i := 52) rfl)) (hw _ (List.mem_of_getElem? (i := 53) rfl)) e5 f3 f4 hf Own.FitsB.zero (S := 0) (D := 0) (M := (min n M)) (by decide) (by decide) (own_minT (own_oi (by omega)) hM) (by omega) (by omega) N5 (show n0 ≤ b2 by omega) (g := (mkF m 28 #[.val (.ref o0), .val (.int p1), .val (.ref b2)] [(.int (own_min (Int32.ofNat n) p1)), (.int (0 : Int32)), (.ref b2), (.int (0 : Int32)), (.ref o0)])) rfl (by rw [hml]; rfl) rfl (hb hby d8_28) (by decide) (W := 0) (by show 2 * 0 + _ ≤ _; exact Nat.le_of_eq rfl) (by decide +kernel)
  have f7 : Own.AvI Z h6 o0 .byte n f := f3.keep Kc6 (ninS (Own.ne_of (by omega)) nin0)
  have Z6 : n0 ≤ h6.size := Nat.le_trans Z2 Kc6.1
  have K6 : Keep h0 h6 [] := K2.trans Kc6 (allS (Or.inr (show h0.size ≤ b2 by omega)) all0)
  refine hD _ (T6.setTop (mkF m 32 #[.val (.ref o0), .val (.int p1), .val (.ref b2)] [(.ref b2)])) (fun t kt_ => ?_) ?_
  · show Steps p.tables e below (s₁.setTop (mkF m 3 #[.val (.ref o0), .val (.int p1), .unset] [(.int (Int32.ofNat n)), (.int p1)])) t
    refine XS.icmpYes X0.here hx rfl (pc0 := 3) (pc' := 14) rfl (hb hby d8_3) rfl (feq hc1).2 (by decide) (by decide) ?_
    show Steps p.tables e below (s₁.setTop (mkF m 14 #[.val (.ref o0), .val (.int p1), .unset] [])) t
    refine XS.iloadN X0.here hx rfl (hb hby d8_14) rfl ?_
    show Steps p.tables e below (s₁.setTop (mkF m 15 #[.val (.ref o0), .val (.int p1), .unset] [(.int p1)])) t
    refine st2 _ ?_
    show Steps p.tables e below (T2.setTop (mkF m 17 #[.val (.ref o0), .val (.int p1), .unset] [(.ref b2)])) t
    refine XS.astoreN X2.here hx rfl (hb hby d8_17) rfl rfl (l' := #[.val (.ref o0), .val (.int p1), .val (.ref b2)]) rfl ?_
    show Steps p.tables e below (T2.setTop (mkF m 18 #[.val (.ref o0), .val (.int p1), .val (.ref b2)] [])) t
    refine XS.aloadN X2.here hx rfl (hb hby d8_18) rfl rfl ?_
    show Steps p.tables e below (T2.setTop (mkF m 19 #[.val (.ref o0), .val (.int p1), .val (.ref b2)] [(.ref o0)])) t
    refine XS.iconst X2.here hx rfl (hb hby d8_19) ?_
    show Steps p.tables e below (T2.setTop (mkF m 20 #[.val (.ref o0), .val (.int p1), .val (.ref b2)] [(.int (0 : Int32)), (.ref o0)])) t
    refine XS.aloadN X2.here hx rfl (hb hby d8_20) rfl rfl ?_
    show Steps p.tables e below (T2.setTop (mkF m 21 #[.val (.ref o0), .val (.int p1), .val (.ref b2)] [(.ref b2), (.int (0 : Int32)), (.ref o0)])) t
    refine XS.iconst X2.here hx rfl (hb hby d8_21) ?_
    show Steps p.tables e below (T2.setTop (mkF m 22 #[.val (.ref o0), .val (.int p1), .val (.ref b2)] [(.int (0 : Int32)), (.ref b2), (.int (0 : Int32)), (.ref o0)])) t
    refine XS.aloadN X2.here hx rfl (hb hby d8_22) rfl rfl ?_
    show Steps p.tables e below (T2.setTop (mkF m 23 #[.val (.ref o0), .val (.int p1), .val (.ref b2)] [(.ref o0), (.int (0 : Int32)), (.ref b2), (.int (0 : Int32)), (.ref o0)])) t
    refine Own.lenI X2 hx hZ e2 f3 (g := (mkF m 23 #[.val (.ref o0), .val (.int p1), .val (.ref b2)] [(.ref o0), (.int (0 : Int32)), (.ref b2), (.int (0 : Int32)), (.ref o0)])) rfl rfl (hb hby d8_23) _ ?_
    show Steps p.tables e below (T2.setTop (mkF m 24 #[.val (.ref o0), .val (.int p1), .val (.ref b2)] [(.int (Int32.ofNat n)), (.int (0 : Int32)), (.ref b2), (.int (0 : Int32)), (.ref o0)])) t
    refine XS.iloadN X2.here hx rfl (hb hby d8_24) rfl ?_
    show Steps p.tables e below (T2.setTop (mkF m 25 #[.val (.ref o0), .val (.int p1), .val (.ref b2)] [(.int p1), (.int (Int32.ofNat n)), (.int (0 : Int32)), (.ref b2), (.int (0 : Int32)), (.ref o0)])) t
    refine st5 _ ?_
    show Steps p.tables e below (T5.setTop (mkF m 28 #[.val (.ref o0), .val (.int p1), .val (.ref b2)] [(.int (own_min (Int32.ofNat n) p1)), (.int (0 : Int32)), (.ref b2), (.int (0 : Int32)), (.ref o0)])) t
    refine st6 _ ?_
    show Steps p.tables e below (T6.setTop (mkF m 31 #[.val (.ref o0), .val (.int p1), .val (.ref b2)] [])) t
    refine XS.aloadN X6.here hx rfl (hb hby d8_31) rfl rfl ?_
    show Steps p.tables e below (T6.setTop (mkF m 32 #[.val (.ref o0), .val (.int p1), .val (.ref b2)] [(.ref b2)])) t
    exact kt_
  exact Own.retA hR X6 hx rfl hret rfl (hb hby d8_32) (by decide) (by decide) (by rw [e6]; exact ⟨b2, _, rfl, N6, K6, gk_b2, A6, Own.FitsB.cp hf Own.FitsB.zero, fun i hi hi' => by
      show (if 0 ≤ i ∧ i < 0 + min n M then f (0 + (i - 0)) else 0) = f i
      rw [if_pos (by omega)]; congr 1; omega⟩)
theorem d9_0 : decode jdk_65_method_133_code 0 = .ok (.iload_n 1, 1) := by decide +kernel
theorem d9_1 : decode jdk_65_method_133_code 1 = .ok (.iload_n 2, 1) := by decide +kernel
theorem d9_2 : decode jdk_65_method_133_code 2 = .ok (.invokestatic 343, 3) := by decide +kernel
theorem d9_5 : decode jdk_65_method_133_code 5 = .ok (.iload_n 2, 1) := by decide +kernel
theorem d9_6 : decode jdk_65_method_133_code 6 = .ok (.iload_n 1, 1) := by decide +kernel
theorem d9_7 : decode jdk_65_method_133_code 7 = .ok (.isub, 1) := by decide +kernel
theorem d9_8 : decode jdk_65_method_133_code 8 = .ok (.istore_n 3, 1) := by decide +kernel
theorem d9_9 : decode jdk_65_method_133_code 9 = .ok (.iload_n 3, 1) := by decide +kernel
theorem d9_10 : decode jdk_65_method_133_code 10 = .ok (.newarray .byte, 2) := by decide +kernel
theorem d9_12 : decode jdk_65_method_133_code 12 = .ok (.astore 4, 2) := by decide +kernel
theorem d9_14 : decode jdk_65_method_133_code 14 = .ok (.aload_n 0, 1) := by decide +kernel
theorem d9_15 : decode jdk_65_method_133_code 15 = .ok (.iload_n 1, 1) := by decide +kernel
theorem d9_16 : decode jdk_65_method_133_code 16 = .ok (.aload 4, 2) := by decide +kernel
theorem d9_18 : decode jdk_65_method_133_code 18 = .ok (.iconst 0, 1) := by decide +kernel
theorem d9_19 : decode jdk_65_method_133_code 19 = .ok (.aload_n 0, 1) := by decide +kernel
theorem d9_20 : decode jdk_65_method_133_code 20 = .ok (.arraylength, 1) := by decide +kernel
theorem d9_21 : decode jdk_65_method_133_code 21 = .ok (.iload_n 1, 1) := by decide +kernel
theorem d9_22 : decode jdk_65_method_133_code 22 = .ok (.isub, 1) := by decide +kernel
theorem d9_23 : decode jdk_65_method_133_code 23 = .ok (.iload_n 3, 1) := by decide +kernel
theorem d9_24 : decode jdk_65_method_133_code 24 = .ok (.invokestatic 304, 3) := by decide +kernel
theorem d9_27 : decode jdk_65_method_133_code 27 = .ok (.invokestatic 150, 3) := by decide +kernel
theorem d9_30 : decode jdk_65_method_133_code 30 = .ok (.aload 4, 2) := by decide +kernel
theorem d9_32 : decode jdk_65_method_133_code 32 = .ok (.areturn, 1) := by decide +kernel
theorem pd_2 : parseMethodDescriptor "(II)V" = some ⟨[.int, .int], none⟩ := by decide +kernel
theorem ef_9 (m : MethodId) (o0 : Addr) (p1 : Int32) (p2 : Int32) : entryFrame m #[(.ref o0), (.int p1), (.int p2)] 5 = mkF m 0 #[.val (.ref o0), .val (.int p1), .val (.int p2), .unset, .unset] [] := by first | (simp [entryFrame, mkF, argsToLocals, Value.category]; done) | rfl
def Q9 (Z : State) (o0 : Nat) (p1 : Int32) (p2 : Int32) (n S M : Nat) (f : Nat → Int32) (h0 : Heap) (n0 : Nat) (v : Option Value) (h : Heap) (L : List Loc) : Prop := ∃ (b : Nat) (f' : Nat → Int32), v = some (.ref b) ∧ Fr n0 L ∧ Keep h0 h [] ∧ h0.size ≤ b ∧ Own.AvI Z h b .byte M f' ∧ Own.FitsB f' ∧ ∀ i, i < M → f' i = f (S + i)
set_option maxRecDepth 65536 in
set_option maxHeartbeats 40000000 in
theorem rm9 (l : Launch) (Z : State) (a0 : Array Value) (hw : ∀ d ∈ tables_1, d.before a0 Z = true) (ws : List Jvm.Cond) (o0 : Nat) (p1 : Int32) (p2 : Int32) (n S M : Nat) (f : Nat → Int32) (h0 : Heap) (n0 : Nat) (Z0 : n0 ≤ h0.size) (hn : n ≤ 20) (hS : p1.toInt = S) (hM : p2.toInt = ((S + M : Nat) : Int)) (hSM : S + M ≤ n) (hf : Own.FitsB f) (hM3 : M ≤ 3) (A0 : Own.AvI Z h0 o0 .byte n f) :
    MetFree l (⟨"java/util/Arrays", "copyOfRangeByte", "([BII)[B"⟩ : MethodName) (head1 (Jvm.Cond.code (⟨"java/util/Arrays", "copyOfRangeByte", "([BII)[B"⟩ : MethodName) jdk_65_method_133_code 5 (some (.array .byte)) :: ws) ({ frames := 1, cells := 1, slots := 3, locals := 18 } : Room)) (fun a U => a = #[(.ref o0), (.int p1), (.int p2)] ∧ Z.Warmed39 U.vm ∧ U.heap = h0) (fun _ _ _ _ _ => True) (fun _ U o U' => ∃ v L, o = .returned v ∧ Q9 Z o0 p1 p2 n S M f h0 n0 v U'.heap L ∧ FrameEnd U o U' L ({ frames := 1, cells := 1, slots := 3, locals := 18 } : Room).cells ({ frames := 1, cells := 1, slots := 3, locals := 18 } : Room).slots) := by
  refine Own.enter (Q := Q9 Z o0 p1 p2 n S M f h0 n0) (plainFor_of_name pn_2) ?_
  intro p e s m below meth c s₁ D hx hby hml hown hnm hret hZ X0 e0 hD hR
  have N0 := Fr.nil n0
  have K0 : Keep h0 h0 [] := Keep.refl h0 _
  rw [show entryFrame m #[(.ref o0), (.int p1), (.int p2)] 5 = mkF m 0 #[.val (.ref o0), .val (.int p1), .val (.int p2), .unset, .unset] [] from ef_9 m o0 p1 p2]
  obtain ⟨T1, _, L1, X1, ⟨rfl, Nq1, e1⟩, st1⟩ := Own.callS (y := (⟨"java/util/Arrays", "checkLength", "(II)V"⟩ : MethodName)) (W := 0) (argsL := [(.int p1), (.int p2)]) (rest := []) X0 hx hZ hown (hw _ (List.mem_of_getElem? (i := 91) rfl)) (hw _ (List.mem_of_getElem? (i := 92) rfl)) (hw _ (List.mem_of_getElem? (i := 46) rfl)) (hw _ (List.mem_of_getElem? (i := 93) rfl)) (by decide) e0 (rm7 l Z a0 hw [] p1 p2  h0 n0 (by rw [own_lt, hM, hS]; omega)) (by decide) (by decide) (by decide) (by decide) (g := (mkF m 2 #[.val (.ref o0), .val (.int p1), .val (.int p2), .unset, .unset] [(.int p2), (.int p1)])) rfl (by rw [hml]; rfl) (lenOf pd_2 rfl) rfl (by show 2 * 0 + _ ≤ _; exact Nat.le_of_eq rfl) (hb hby d9_2)
  have N1 := Fr.app N0 Nq1
  obtain ⟨v2, hv2⟩ : ∃ z : Int32, z = (p2 - p1) := ⟨_, rfl⟩
  have hz : v2.toInt = ((M : Nat) : Int) := by rw [hv2, own_sub hM hS (by omega) (by omega)]; omega
  obtain ⟨T3, h3, k3, X3, e3, E3, A3, st3⟩ := newP X1 hx hZ (hw _ (List.mem_of_getElem? (i := 0) rfl)) e1 (g := (mkF m 10 #[.val (.ref o0), .val (.int p1), .val (.int p2), .val (.int v2), .unset] [(.int v2)])) rfl (hb hby d9_10) rfl (own_nn hz) (cap := 3) (own_cl hz (by omega)) (by decide) (by decide) (by decide)
  obtain ⟨b3, g_b3⟩ : ∃ z : Nat, z = h0.size := ⟨_, rfl⟩
  rw [← g_b3] at A3 st3
  have lt_o0_b3 : (o0 : Nat) < b3 := by rw [g_b3]; exact A0.lt
  have g0_b3 : n0 ≤ b3 := by rw [g_b3]; exact Z0
  have gk_b3 : h0.size ≤ b3 := by rw [g_b3]; exact K0.1
  have f4 : Own.AvI Z h3 o0 .byte n f := A0.ext E3
  have f5 : Own.AvI Z h3 b3 .byte M (fun _ => 0) := Own.AvI.new A3 hz rfl
  have Z3 : n0 ≤ h3.size := Nat.le_trans Z0 E3.1
  have K3 : Keep h0 h3 [] := K0.ext E3
  obtain ⟨T6, _, L6, X6, ⟨rfl, Nq6, e6⟩, st6⟩ := Own.callS (y := (⟨"java/lang/Math", "min", "(II)I"⟩ : MethodName)) (W := 4) (argsL := [(.int ((Int32.ofNat n) - p1)), (.int v2)]) (rest := [(.int (0 : Int32)), (.ref b3), (.int p1), (.ref o0)]) X3 hx hZ hown (hw _ (List.mem_of_getElem? (i := 48) rfl)) (hw _ (List.mem_of_getElem? (i := 49) rfl)) (hw _ (List.mem_of_getElem? (i := 30) rfl)) (hw _ (List.mem_of_getElem? (i := 50) rfl)) (by decide) e3 (rm5 l Z a0 hw [] ((Int32.ofNat n) - p1) v2  h3 n0 ) (by decide) (by decide) (by decide) (by decide) (g := (mkF m 24 #[.val (.ref o0), .val (.int p1), .val (.int p2), .val (.int v2), .val (.ref b3)] [(.int v2), (.int ((Int32.ofNat n) - p1)), (.int (0 : Int32)), (.ref b3), (.int p1), (.ref o0)])) rfl (by rw [hml]; rfl) (lenOf pd_1 rfl) rfl (by show 2 * 0 + _ ≤ _; exact Nat.le_of_eq rfl) (hb hby d9_24)
  have N6 := Fr.app N1 Nq6
  obtain ⟨T7, h7, L7, X7, e7, N7, Kc7, A7, st7⟩ := Own.copyB X6 hx hZ hown (hw _ (List.mem_of_getElem? (i := 51) rfl)) (hw _ (List.mem_of_getElem? (i := 54) rfl)) (hw _ (List.mem_of_getElem? (i := 52) rfl)) (hw _ (List.mem_of_getElem? (i := 53) rfl)) e6 f4 f5 hf Own.FitsB.zero (S := S) (D := 0) (M := M) hS (by decide) (by rw [own_minT (own_sub (own_oi (by omega)) hS (by omega) (by omega)) hz]; omega) (by omega) (by omega) N6 (show n0 ≤ b3 by omega) (g := (mkF m 27 #[.val (.ref o0), .val (.int p1), .val (.int p2), .val (.int v2), .val (.ref b3)] [(.int (own_min ((Int32.ofNat n) - p1) v2)), (.int (0 : Int32)), (.ref b3), (.int p1), (.ref o0)])) rfl (by rw [hml]; rfl) rfl (hb hby d9_27) (by decide) (W := 0) (by show 2 * 0 + _ ≤ _; exact Nat.le_of_eq rfl) (by decide +kernel)
  have f8 : Own.AvI Z h7 o0 .byte n f := f4.keep Kc7 (ninS (Own.ne_of (by omega)) nin0)
  have Z7 : n0 ≤ h7.size := Nat.le_trans Z3 Kc7.1
  have K7 : Keep h0 h7 [] := K3.trans Kc7 (allS (Or.inr (show h0.size ≤ b3 by omega)) all0)
  refine hD _ (T7.setTop (mkF m 32 #[.val (.ref o0), .val (.int p1), .val (.int p2), .val (.int v2), .val (.ref b3)] [(.ref b3)])) (fun t kt_ => ?_) ?_
  · show Steps p.tables e below (s₁.setTop (mkF m 0 #[.val (.ref o0), .val (.int p1), .val (.int p2), .unset, .unset] [])) t
    refine XS.iloadN X0.here hx rfl (hb hby d9_0) rfl ?_
    show Steps p.tables e below (s₁.setTop (mkF m 1 #[.val (.ref o0), .val (.int p1), .val (.int p2), .unset, .unset] [(.int p1)])) t
    refine XS.iloadN X0.here hx rfl (hb hby d9_1) rfl ?_
    show Steps p.tables e below (s₁.setTop (mkF m 2 #[.val (.ref o0), .val (.int p1), .val (.int p2), .unset, .unset] [(.int p2), (.int p1)])) t
    refine st1 _ ?_
    show Steps p.tables e below (T1.setTop (mkF m 5 #[.val (.ref o0), .val (.int p1), .val (.int p2), .unset, .unset] [])) t
    refine XS.iloadN X1.here hx rfl (hb hby d9_5) rfl ?_
    show Steps p.tables e below (T1.setTop (mkF m 6 #[.val (.ref o0), .val (.int p1), .val (.int p2), .unset, .unset] [(.int p2)])) t
    refine XS.iloadN X1.here hx rfl (hb hby d9_6) rfl ?_
    show Steps p.tables e below (T1.setTop (mkF m 7 #[.val (.ref o0), .val (.int p1), .val (.int p2), .unset, .unset] [(.int p1), (.int p2)])) t
    refine XS.isub X1.here hx rfl (hb hby d9_7) rfl ?_
    show Steps p.tables e below (T1.setTop (mkF m 8 #[.val (.ref o0), .val (.int p1), .val (.int p2), .unset, .unset] [(.int (p2 - p1))])) t
    refine Own.nmI hv2 ?_
    show Steps p.tables e below (T1.setTop (mkF m 8 #[.val (.ref o0), .val (.int p1), .val (.int p2), .unset, .unset] [(.int v2)])) t
    refine XS.istoreN X1.here hx rfl (hb hby d9_8) rfl (l' := #[.val (.ref o0), .val (.int p1), .val (.int p2), .val (.int v2), .unset]) rfl ?_
    show Steps p.tables e below (T1.setTop (mkF m 9 #[.val (.ref o0), .val (.int p1), .val (.int p2), .val (.int v2), .unset] [])) t
    refine XS.iloadN X1.here hx rfl (hb hby d9_9) rfl ?_
    show Steps p.tables e below (T1.setTop (mkF m 10 #[.val (.ref o0), .val (.int p1), .val (.int p2), .val (.int v2), .unset] [(.int v2)])) t
    refine st3 _ ?_
    show Steps p.tables e below (T3.setTop (mkF m 12 #[.val (.ref o0), .val (.int p1), .val (.int p2), .val (.int v2), .unset] [(.ref b3)])) t
    refine XS.astore X3.here hx rfl (hb hby d9_12) rfl rfl (l' := #[.val (.ref o0), .val (.int p1), .val (.int p2), .val (.int v2), .val (.ref b3)]) rfl ?_
    show Steps p.tables e below (T3.setTop (mkF m 14 #[.val (.ref o0), .val (.int p1), .val (.int p2), .val (.int v2), .val (.ref b3)] [])) t
    refine XS.aloadN X3.here hx rfl (hb hby d9_14) rfl rfl ?_
    show Steps p.tables e below (T3.setTop (mkF m 15 #[.val (.ref o0), .val (.int p1), .val (.int p2), .val (.int v2), .val (.ref b3)] [(.ref o0)])) t
    refine XS.iloadN X3.here hx rfl (hb hby d9_15) rfl ?_
    show Steps p.tables e below (T3.setTop (mkF m 16 #[.val (.ref o0), .val (.int p1), .val (.int p2), .val (.int v2), .val (.ref b3)] [(.int p1), (.ref o0)])) t
    refine XS.aload X3.here hx rfl (hb hby d9_16) rfl rfl ?_
    show Steps p.tables e below (T3.setTop (mkF m 18 #[.val (.ref o0), .val (.int p1), .val (.int p2), .val (.int v2), .val (.ref b3)] [(.ref b3), (.int p1), (.ref o0)])) t
    refine XS.iconst X3.here hx rfl (hb hby d9_18) ?_
    show Steps p.tables e below (T3.setTop (mkF m 19 #[.val (.ref o0), .val (.int p1), .val (.int p2), .val (.int v2), .val (.ref b3)] [(.int (0 : Int32)), (.ref b3), (.int p1), (.ref o0)])) t
    refine XS.aloadN X3.here hx rfl (hb hby d9_19) rfl rfl ?_
    show Steps p.tables e below (T3.setTop (mkF m 20 #[.val (.ref o0), .val (.int p1), .val (.int p2), .val (.int v2), .val (.ref b3)] [(.ref o0), (.int (0 : Int32)), (.ref b3), (.int p1), (.ref o0)])) t
    refine Own.lenI X3 hx hZ e3 f4 (g := (mkF m 20 #[.val (.ref o0), .val (.int p1), .val (.int p2), .val (.int v2), .val (.ref b3)] [(.ref o0), (.int (0 : Int32)), (.ref b3), (.int p1), (.ref o0)])) rfl rfl (hb hby d9_20) _ ?_
    show Steps p.tables e below (T3.setTop (mkF m 21 #[.val (.ref o0), .val (.int p1), .val (.int p2), .val (.int v2), .val (.ref b3)] [(.int (Int32.ofNat n)), (.int (0 : Int32)), (.ref b3), (.int p1), (.ref o0)])) t
    refine XS.iloadN X3.here hx rfl (hb hby d9_21) rfl ?_
    show Steps p.tables e below (T3.setTop (mkF m 22 #[.val (.ref o0), .val (.int p1), .val (.int p2), .val (.int v2), .val (.ref b3)] [(.int p1), (.int (Int32.ofNat n)), (.int (0 : Int32)), (.ref b3), (.int p1), (.ref o0)])) t
    refine XS.isub X3.here hx rfl (hb hby d9_22) rfl ?_
    show Steps p.tables e below (T3.setTop (mkF m 23 #[.val (.ref o0), .val (.int p1), .val (.int p2), .val (.int v2), .val (.ref b3)] [(.int ((Int32.ofNat n) - p1)), (.int (0 : Int32)), (.ref b3), (.int p1), (.ref o0)])) t
    refine XS.iloadN X3.here hx rfl (hb hby d9_23) rfl ?_
    show Steps p.tables e below (T3.setTop (mkF m 24 #[.val (.ref o0), .val (.int p1), .val (.int p2), .val (.int v2), .val (.ref b3)] [(.int v2), (.int ((Int32.ofNat n) - p1)), (.int (0 : Int32)), (.ref b3), (.int p1), (.ref o0)])) t
    refine st6 _ ?_
    show Steps p.tables e below (T6.setTop (mkF m 27 #[.val (.ref o0), .val (.int p1), .val (.int p2), .val (.int v2), .val (.ref b3)] [(.int (own_min ((Int32.ofNat n) - p1) v2)), (.int (0 : Int32)), (.ref b3), (.int p1), (.ref o0)])) t
    refine st7 _ ?_
    show Steps p.tables e below (T7.setTop (mkF m 30 #[.val (.ref o0), .val (.int p1), .val (.int p2), .val (.int v2), .val (.ref b3)] [])) t
    refine XS.aload X7.here hx rfl (hb hby d9_30) rfl rfl ?_
    show Steps p.tables e below (T7.setTop (mkF m 32 #[.val (.ref o0), .val (.int p1), .val (.int p2), .val (.int v2), .val (.ref b3)] [(.ref b3)])) t
    exact kt_
  exact Own.retA hR X7 hx rfl hret rfl (hb hby d9_32) (by decide) (by decide) (by rw [e7]; exact ⟨b3, _, rfl, N7, K7, gk_b3, A7, Own.FitsB.cp hf Own.FitsB.zero, fun i hi => by
      show (if 0 ≤ i ∧ i < 0 + M then f (S + (i - 0)) else 0) = f (S + i)
      rw [if_pos (by omega)]; congr 1⟩)
theorem d10_0 : decode jdk_65_method_132_code 0 = .ok (.iload_n 1, 1) := by decide +kernel
theorem d10_1 : decode jdk_65_method_132_code 1 = .ok (.ifCond .ne 9, 3) := by decide +kernel
theorem d10_4 : decode jdk_65_method_132_code 4 = .ok (.iload_n 2, 1) := by decide +kernel
theorem d10_5 : decode jdk_65_method_132_code 5 = .ok (.aload_n 0, 1) := by decide +kernel
theorem d10_6 : decode jdk_65_method_132_code 6 = .ok (.arraylength, 1) := by decide +kernel
theorem d10_7 : decode jdk_65_method_132_code 7 = .ok (.if_icmp .eq 10, 3) := by decide +kernel
theorem d10_10 : decode jdk_65_method_132_code 10 = .ok (.aload_n 0, 1) := by decide +kernel
theorem d10_11 : decode jdk_65_method_132_code 11 = .ok (.iload_n 1, 1) := by decide +kernel
theorem d10_12 : decode jdk_65_method_132_code 12 = .ok (.iload_n 2, 1) := by decide +kernel
theorem d10_13 : decode jdk_65_method_132_code 13 = .ok (.invokestatic 339, 3) := by decide +kernel
theorem d10_16 : decode jdk_65_method_132_code 16 = .ok (.areturn, 1) := by decide +kernel
theorem d10_17 : decode jdk_65_method_132_code 17 = .ok (.aload_n 0, 1) := by decide +kernel
theorem d10_18 : decode jdk_65_method_132_code 18 = .ok (.invokevirtual 310, 3) := by decide +kernel
theorem d10_21 : decode jdk_65_method_132_code 21 = .ok (.checkcast 311, 3) := by decide +kernel
theorem d10_24 : decode jdk_65_method_132_code 24 = .ok (.areturn, 1) := by decide +kernel
theorem pd_3 : parseMethodDescriptor "([BII)[B" = some ⟨[(.array .byte), .int, .int], some (.array .byte)⟩ := by decide +kernel
theorem ef_10 (m : MethodId) (o0 : Addr) (p1 : Int32) (p2 : Int32) : entryFrame m #[(.ref o0), (.int p1), (.int p2)] 3 = mkF m 0 #[.val (.ref o0), .val (.int p1), .val (.int p2)] [] := by first | (simp [entryFrame, mkF, argsToLocals, Value.category]; done) | rfl
def Q10 (Z : State) (o0 : Nat) (p1 : Int32) (p2 : Int32) (n S M : Nat) (f : Nat → Int32) (h0 : Heap) (n0 : Nat) (v : Option Value) (h : Heap) (L : List Loc) : Prop := ∃ (b : Nat) (f' : Nat → Int32), v = some (.ref b) ∧ Fr n0 L ∧ Keep h0 h [] ∧ h0.size ≤ b ∧ Own.AvI Z h b .byte M f' ∧ Own.FitsB f' ∧ ∀ i, i < M → f' i = f (S + i)
set_option maxRecDepth 65536 in
set_option maxHeartbeats 40000000 in
theorem rm10 (l : Launch) (Z : State) (a0 : Array Value) (hw : ∀ d ∈ tables_1, d.before a0 Z = true) (ws : List Jvm.Cond) (o0 : Nat) (p1 : Int32) (p2 : Int32) (n S M : Nat) (f : Nat → Int32) (h0 : Heap) (n0 : Nat) (Z0 : n0 ≤ h0.size) (hn : n ≤ 20) (hS : p1.toInt = S) (hM : p2.toInt = ((S + M : Nat) : Int)) (hSM : S + M ≤ n) (hf : Own.FitsB f) (hM3 : M ≤ 3) (A0 : Own.AvI Z h0 o0 .byte n f) (E0 : Exa Z h0 o0 "[B") :
    MetFree l (⟨"java/util/Arrays", "copyOfRange", "([BII)[B"⟩ : MethodName) (head1 (Jvm.Cond.code (⟨"java/util/Arrays", "copyOfRange", "([BII)[B"⟩ : MethodName) jdk_65_method_132_code 3 (some (.array .byte)) :: ws) ({ frames := 2, cells := 1, slots := 3, locals := 34 } : Room)) (fun a U => a = #[(.ref o0), (.int p1), (.int p2)] ∧ Z.Warmed39 U.vm ∧ U.heap = h0) (fun _ _ _ _ _ => True) (fun _ U o U' => ∃ v L, o = .returned v ∧ Q10 Z o0 p1 p2 n S M f h0 n0 v U'.heap L ∧ FrameEnd U o U' L ({ frames := 2, cells := 1, slots := 3, locals := 34 } : Room).cells ({ frames := 2, cells := 1, slots := 3, locals := 34 } : Room).slots) := by
  refine Own.enter (Q := Q10 Z o0 p1 p2 n S M f h0 n0) (plainFor_of_name pn_2) ?_
  intro p e s m below meth c s₁ D hx hby hml hown hnm hret hZ X0 e0 hD hR
  have N0 := Fr.nil n0
  have K0 : Keep h0 h0 [] := Keep.refl h0 _
  rw [show entryFrame m #[(.ref o0), (.int p1), (.int p2)] 3 = mkF m 0 #[.val (.ref o0), .val (.int p1), .val (.int p2)] [] from ef_10 m o0 p1 p2]
  refine hD _ (s₁.setTop (mkF m 1 #[.val (.ref o0), .val (.int p1), .val (.int p2)] [(.int p1)])) (fun t kt_ => ?_) ?_
  · show Steps p.tables e below (s₁.setTop (mkF m 0 #[.val (.ref o0), .val (.int p1), .val (.int p2)] [])) t
    refine XS.iloadN X0.here hx rfl (hb hby d10_0) rfl ?_
    show Steps p.tables e below (s₁.setTop (mkF m 1 #[.val (.ref o0), .val (.int p1), .val (.int p2)] [(.int p1)])) t
    exact kt_
  by_cases hc1 : p1 = (0 : Int32)
  · refine hD _ (s₁.setTop (mkF m 7 #[.val (.ref o0), .val (.int p1), .val (.int p2)] [(.int (Int32.ofNat n)), (.int p2)])) (fun t kt_ => ?_) ?_
    · show Steps p.tables e below (s₁.setTop (mkF m 1 #[.val (.ref o0), .val (.int p1), .val (.int p2)] [(.int p1)])) t
      refine XS.ifNo X0.here hx rfl (hb hby d10_1) rfl ((if0 _ _).trans (teq hc1).2) ?_
      show Steps p.tables e below (s₁.setTop (mkF m 4 #[.val (.ref o0), .val (.int p1), .val (.int p2)] [])) t
      refine XS.iloadN X0.here hx rfl (hb hby d10_4) rfl ?_
      show Steps p.tables e below (s₁.setTop (mkF m 5 #[.val (.ref o0), .val (.int p1), .val (.int p2)] [(.int p2)])) t
      refine XS.aloadN X0.here hx rfl (hb hby d10_5) rfl rfl ?_
      show Steps p.tables e below (s₁.setTop (mkF m 6 #[.val (.ref o0), .val (.int p1), .val (.int p2)] [(.ref o0), (.int p2)])) t
      refine Own.lenI X0 hx hZ e0 A0 (g := (mkF m 6 #[.val (.ref o0), .val (.int p1), .val (.int p2)] [(.ref o0), (.int p2)])) rfl rfl (hb hby d10_6) _ ?_
      show Steps p.tables e below (s₁.setTop (mkF m 7 #[.val (.ref o0), .val (.int p1), .val (.int p2)] [(.int (Int32.ofNat n)), (.int p2)])) t
      exact kt_
    by_cases hc2 : p2 = (Int32.ofNat n)
    · obtain ⟨T3, h3, X3, e3, E3, A3, Q3, st3⟩ := Own.cloneB X0 hx hZ (ad := "[B") hown (hw _ (List.mem_of_getElem? (i := 79) rfl)) (hw _ (List.mem_of_getElem? (i := 80) rfl)) (hw _ (List.mem_of_getElem? (i := 84) rfl)) (hw _ (List.mem_of_getElem? (i := 82) rfl)) (hw _ (List.mem_of_getElem? (i := 83) rfl)) (hw _ (List.mem_of_getElem? (i := 85) rfl)) e0 A0 hf E0 (g := (mkF m 18 #[.val (.ref o0), .val (.int p1), .val (.int p2)] [(.ref o0)])) rfl (by rw [hml]; rfl) rfl (hb hby d10_18) (by decide) (cap := 3) (W := 0) (by show 2 * 0 + _ ≤ _; exact Nat.le_of_eq rfl) (by decide) (by have q := hc2; rw [own_eq, hM, own_oi (by omega)] at q; have q2 := hc1; rw [own_eq, hS, own_k.1] at q2; omega) (by decide) (by decide)
      obtain ⟨b3, g_b3⟩ : ∃ z : Nat, z = h0.size := ⟨_, rfl⟩
      rw [← g_b3] at A3 Q3 st3
      have lt_o0_b3 : (o0 : Nat) < b3 := by rw [g_b3]; exact A0.lt
      have g0_b3 : n0 ≤ b3 := by rw [g_b3]; exact Z0
      have gk_b3 : h0.size ≤ b3 := by rw [g_b3]; exact K0.1
      have f4 : Own.AvI Z h3 o0 .byte n f := A0.ext E3
      have f5 : Exa Z h3 o0 "[B" := (E0.ext E3)
      have Z3 : n0 ≤ h3.size := Nat.le_trans Z0 E3.1
      have K3 : Keep h0 h3 [] := K0.ext E3
      obtain ⟨T6, X6, e6, st6⟩ := castY X3 hx hZ hown (hw _ (List.mem_of_getElem? (i := 86) rfl)) e3 (Ins.self Q3) (g := (mkF m 21 #[.val (.ref o0), .val (.int p1), .val (.int p2)] [(.ref b3)])) rfl rfl (hb hby d10_21)
      refine hD _ (T6.setTop (mkF m 24 #[.val (.ref o0), .val (.int p1), .val (.int p2)] [(.ref b3)])) (fun t kt_ => ?_) ?_
      · show Steps p.tables e below (s₁.setTop (mkF m 7 #[.val (.ref o0), .val (.int p1), .val (.int p2)] [(.int (Int32.ofNat n)), (.int p2)])) t
        refine XS.icmpYes X0.here hx rfl (pc0 := 7) (pc' := 17) rfl (hb hby d10_7) rfl (teq hc2).1 (by decide) (by decide) ?_
        show Steps p.tables e below (s₁.setTop (mkF m 17 #[.val (.ref o0), .val (.int p1), .val (.int p2)] [])) t
        refine XS.aloadN X0.here hx rfl (hb hby d10_17) rfl rfl ?_
        show Steps p.tables e below (s₁.setTop (mkF m 18 #[.val (.ref o0), .val (.int p1), .val (.int p2)] [(.ref o0)])) t
        refine st3 _ ?_
        show Steps p.tables e below (T3.setTop (mkF m 21 #[.val (.ref o0), .val (.int p1), .val (.int p2)] [(.ref b3)])) t
        refine st6 _ ?_
        show Steps p.tables e below (T6.setTop (mkF m 24 #[.val (.ref o0), .val (.int p1), .val (.int p2)] [(.ref b3)])) t
        exact kt_
      have hS0 : S = 0 := by have q := hc1; rw [own_eq, hS, own_k.1] at q; omega
      have hMn : M = n := by have q := hc2; rw [own_eq, hM, own_oi (by omega)] at q; omega
      exact Own.retA hR X6 hx rfl hret rfl (hb hby d10_24) (by decide) (by decide) (by rw [e6]; exact ⟨b3, f, rfl, N0, K3, gk_b3, by rw [hMn]; exact A3, hf, fun i hi => by rw [hS0, Nat.zero_add]⟩)
    · obtain ⟨T7, _, L7, X7, ⟨b7, f7, rfl, Nq7, Kq7, gb7, A7, hfit7, hk7⟩, st7⟩ := Own.callS (y := (⟨"java/util/Arrays", "copyOfRangeByte", "([BII)[B"⟩ : MethodName)) (W := 0) (argsL := [(.ref o0), (.int p1), (.int p2)]) (rest := []) X0 hx hZ hown (hw _ (List.mem_of_getElem? (i := 88) rfl)) (hw _ (List.mem_of_getElem? (i := 89) rfl)) (hw _ (List.mem_of_getElem? (i := 46) rfl)) (hw _ (List.mem_of_getElem? (i := 90) rfl)) (by decide) e0 (rm9 l Z a0 hw [] o0 p1 p2 n S M f h0 n0 Z0 hn hS hM hSM hf hM3 A0) (by decide) (by decide) (by decide) (by decide) (g := (mkF m 13 #[.val (.ref o0), .val (.int p1), .val (.int p2)] [(.int p2), (.int p1), (.ref o0)])) rfl (by rw [hml]; rfl) (lenOf pd_3 rfl) rfl (by show 2 * 0 + _ ≤ _; exact Nat.le_of_eq rfl) (hb hby d10_13)
      have N7 := Fr.app N0 Nq7
      have lt_o0_b7 : (o0 : Nat) < b7 := Nat.lt_of_lt_of_le A0.lt gb7
      have g0_b7 : n0 ≤ b7 := Nat.le_trans Z0 gb7
      have gk_b7 : h0.size ≤ b7 := Nat.le_trans K0.1 gb7
      have f8 : Own.AvI Z T7.heap o0 .byte n f := A0.keep Kq7 nin0
      have f9 : Exa Z T7.heap o0 "[B" := E0.keep Kq7
      have Z7 : n0 ≤ T7.heap.size := Nat.le_trans Z0 Kq7.1
      have K7 : Keep h0 T7.heap [] := K0.trans Kq7 all0
      refine hD _ (T7.setTop (mkF m 16 #[.val (.ref o0), .val (.int p1), .val (.int p2)] [(.ref b7)])) (fun t kt_ => ?_) ?_
      · show Steps p.tables e below (s₁.setTop (mkF m 7 #[.val (.ref o0), .val (.int p1), .val (.int p2)] [(.int (Int32.ofNat n)), (.int p2)])) t
        refine XS.icmpNo X0.here hx rfl (hb hby d10_7) rfl (feq hc2).1 ?_
        show Steps p.tables e below (s₁.setTop (mkF m 10 #[.val (.ref o0), .val (.int p1), .val (.int p2)] [])) t
        refine XS.aloadN X0.here hx rfl (hb hby d10_10) rfl rfl ?_
        show Steps p.tables e below (s₁.setTop (mkF m 11 #[.val (.ref o0), .val (.int p1), .val (.int p2)] [(.ref o0)])) t
        refine XS.iloadN X0.here hx rfl (hb hby d10_11) rfl ?_
        show Steps p.tables e below (s₁.setTop (mkF m 12 #[.val (.ref o0), .val (.int p1), .val (.int p2)] [(.int p1), (.ref o0)])) t
        refine XS.iloadN X0.here hx rfl (hb hby d10_12) rfl ?_
        show Steps p.tables e below (s₁.setTop (mkF m 13 #[.val (.ref o0), .val (.int p1), .val (.int p2)] [(.int p2), (.int p1), (.ref o0)])) t
        refine st7 _ ?_
        show Steps p.tables e below (T7.setTop (mkF m 16 #[.val (.ref o0), .val (.int p1), .val (.int p2)] [(.ref b7)])) t
        exact kt_
      exact Own.retA hR X7 hx rfl hret rfl (hb hby d10_16) (by decide) (by decide) ⟨b7, _, rfl, N7, K7, gk_b7, A7, hfit7, hk7⟩
  · obtain ⟨T10, _, L10, X10, ⟨b10, f10, rfl, Nq10, Kq10, gb10, A10, hfit10, hk10⟩, st10⟩ := Own.callS (y := (⟨"java/util/Arrays", "copyOfRangeByte", "([BII)[B"⟩ : MethodName)) (W := 0) (argsL := [(.ref o0), (.int p1), (.int p2)]) (rest := []) X0 hx hZ hown (hw _ (List.mem_of_getElem? (i := 88) rfl)) (hw _ (List.mem_of_getElem? (i := 89) rfl)) (hw _ (List.mem_of_getElem? (i := 46) rfl)) (hw _ (List.mem_of_getElem? (i := 90) rfl)) (by decide) e0 (rm9 l Z a0 hw [] o0 p1 p2 n S M f h0 n0 Z0 hn hS hM hSM hf hM3 A0) (by decide) (by decide) (by decide) (by decide) (g := (mkF m 13 #[.val (.ref o0), .val (.int p1), .val (.int p2)] [(.int p2), (.int p1), (.ref o0)])) rfl (by rw [hml]; rfl) (lenOf pd_3 rfl) rfl (by show 2 * 0 + _ ≤ _; exact Nat.le_of_eq rfl) (hb hby d10_13)
    have N10 := Fr.app N0 Nq10
    have lt_o0_b10 : (o0 : Nat) < b10 := Nat.lt_of_lt_of_le A0.lt gb10
    have g0_b10 : n0 ≤ b10 := Nat.le_trans Z0 gb10
    have gk_b10 : h0.size ≤ b10 := Nat.le_trans K0.1 gb10
    have f11 : Own.AvI Z T10.heap o0 .byte n f := A0.keep Kq10 nin0
    have f12 : Exa Z T10.heap o0 "[B" := E0.keep Kq10
    have Z10 : n0 ≤ T10.heap.size := Nat.le_trans Z0 Kq10.1
    have K10 : Keep h0 T10.heap [] := K0.trans Kq10 all0
    refine hD _ (T10.setTop (mkF m 16 #[.val (.ref o0), .val (.int p1), .val (.int p2)] [(.ref b10)])) (fun t kt_ => ?_) ?_
    · show Steps p.tables e below (s₁.setTop (mkF m 1 #[.val (.ref o0), .val (.int p1), .val (.int p2)] [(.int p1)])) t
      refine XS.ifYes X0.here hx rfl (pc0 := 1) (pc' := 10) rfl (hb hby d10_1) rfl ((if0 _ _).trans (feq hc1).2) (by decide) (by decide) ?_
      show Steps p.tables e below (s₁.setTop (mkF m 10 #[.val (.ref o0), .val (.int p1), .val (.int p2)] [])) t
      refine XS.aloadN X0.here hx rfl (hb hby d10_10) rfl rfl ?_
      show Steps p.tables e below (s₁.setTop (mkF m 11 #[.val (.ref o0), .val (.int p1), .val (.int p2)] [(.ref o0)])) t
      refine XS.iloadN X0.here hx rfl (hb hby d10_11) rfl ?_
      show Steps p.tables e below (s₁.setTop (mkF m 12 #[.val (.ref o0), .val (.int p1), .val (.int p2)] [(.int p1), (.ref o0)])) t
      refine XS.iloadN X0.here hx rfl (hb hby d10_12) rfl ?_
      show Steps p.tables e below (s₁.setTop (mkF m 13 #[.val (.ref o0), .val (.int p1), .val (.int p2)] [(.int p2), (.int p1), (.ref o0)])) t
      refine st10 _ ?_
      show Steps p.tables e below (T10.setTop (mkF m 16 #[.val (.ref o0), .val (.int p1), .val (.int p2)] [(.ref b10)])) t
      exact kt_
    exact Own.retA hR X10 hx rfl hret rfl (hb hby d10_16) (by decide) (by decide) ⟨b10, _, rfl, N10, K10, gk_b10, A10, hfit10, hk10⟩
theorem d11_0 : decode prog_41_method_1_code 0 = .ok (.aload_n 0, 1) := by decide +kernel
theorem d11_1 : decode prog_41_method_1_code 1 = .ok (.invokespecial 1, 3) := by decide +kernel
theorem d11_4 : decode prog_41_method_1_code 4 = .ok (.aload_n 0, 1) := by decide +kernel
theorem d11_5 : decode prog_41_method_1_code 5 = .ok (.iconst 0, 1) := by decide +kernel
theorem d11_6 : decode prog_41_method_1_code 6 = .ok (.newarray .byte, 2) := by decide +kernel
theorem d11_8 : decode prog_41_method_1_code 8 = .ok (.putfield 7, 3) := by decide +kernel
theorem d11_11 : decode prog_41_method_1_code 11 = .ok (.return_, 1) := by decide +kernel
theorem pd_4 : parseMethodDescriptor "()V" = some ⟨[], none⟩ := by decide +kernel
theorem pn_3 : plainName "com/example/edom/edom/mapping/Utf8Output" = true := by first | (simp [plainName, overriddenIn]; done) | decide +kernel
theorem ef_11 (m : MethodId) (o0 : Addr) : entryFrame m #[(.ref o0)] 1 = mkF m 0 #[.val (.ref o0)] [] := by first | (simp [entryFrame, mkF, argsToLocals, Value.category]; done) | rfl
def Q11 (Z : State) (o0 : Nat) (h0 : Heap) (n0 : Nat) (v : Option Value) (h : Heap) (L : List Loc) : Prop := v = none ∧ Fr n0 L ∧ Keep h0 h [o0] ∧ ∃ r : Nat, o0 < r ∧ Exa Z h o0 "com/example/edom/edom/mapping/Utf8Output" ∧ Fld Z h o0 "com/example/edom/edom/mapping/Utf8Output" "bytes" "[B" (.ref r) ∧ Fld Z h o0 "com/example/edom/edom/mapping/Utf8Output" "length" "I" (.int (Int32.ofNat 0)) ∧ Own.AvI Z h r .byte 0 (fun _ => 0) ∧ Own.FitsB (fun _ => 0)
set_option maxRecDepth 65536 in
set_option maxHeartbeats 40000000 in
theorem rm11 (l : Launch) (Z : State) (a0 : Array Value) (hw : ∀ d ∈ tables_1, d.before a0 Z = true) (ws : List Jvm.Cond) (o0 : Nat) (h0 : Heap) (n0 : Nat) (Z0 : n0 ≤ h0.size) (g0 : n0 ≤ o0) (E0 : Exa Z h0 o0 "com/example/edom/edom/mapping/Utf8Output") (F0 : Fld Z h0 o0 "com/example/edom/edom/mapping/Utf8Output" "bytes" "[B" .null) (F1 : Fld Z h0 o0 "com/example/edom/edom/mapping/Utf8Output" "length" "I" (.int (0 : Int32))) :
    MetFree l (⟨"com/example/edom/edom/mapping/Utf8Output", "<init>", "()V"⟩ : MethodName) (head1 (Jvm.Cond.code (⟨"com/example/edom/edom/mapping/Utf8Output", "<init>", "()V"⟩ : MethodName) prog_41_method_1_code 1 none :: ws) ({ frames := 2, cells := 1, slots := 0, locals := 24 } : Room)) (fun a U => a = #[(.ref o0)] ∧ Z.Warmed39 U.vm ∧ U.heap = h0) (fun _ _ _ _ _ => True) (fun _ U o U' => ∃ v L, o = .returned v ∧ Q11 Z o0 h0 n0 v U'.heap L ∧ FrameEnd U o U' L ({ frames := 2, cells := 1, slots := 0, locals := 24 } : Room).cells ({ frames := 2, cells := 1, slots := 0, locals := 24 } : Room).slots) := by
  refine Own.enter (Q := Q11 Z o0 h0 n0) (plainFor_of_name pn_3) ?_
  intro p e s m below meth c s₁ D hx hby hml hown hnm hret hZ X0 e0 hD hR
  have N0 := Fr.nil n0
  have K0 : Keep h0 h0 [o0] := Keep.refl h0 _
  rw [show entryFrame m #[(.ref o0)] 1 = mkF m 0 #[.val (.ref o0)] [] from ef_11 m o0]
  obtain ⟨T1, _, L1, X1, ⟨rfl, Nq1, e1⟩, st1⟩ := Own.callI (y := (⟨"java/io/OutputStream", "<init>", "()V"⟩ : MethodName)) (W := 0) (argsL := []) (rest := []) (a := o0) X0 hx hZ hown rfl (hw _ (List.mem_of_getElem? (i := 7) rfl)) (hw _ (List.mem_of_getElem? (i := 8) rfl)) (hw _ (List.mem_of_getElem? (i := 10) rfl)) (hw _ (List.mem_of_getElem? (i := 11) rfl)) (by decide) e0 (rm1 l Z a0 hw [] o0  h0 n0 ) (by decide) (by decide) (by decide) (by decide) (g := (mkF m 1 #[.val (.ref o0)] [(.ref o0)])) rfl (by rw [hml]; rfl) (lenOf pd_4 rfl) rfl (by show 2 * 0 + _ ≤ _; exact Nat.le_of_eq rfl) (hb hby d11_1)
  have N1 := Fr.app N0 Nq1
  obtain ⟨T2, h2, k2, X2, e2, E2, A2, st2⟩ := newP X1 hx hZ (hw _ (List.mem_of_getElem? (i := 0) rfl)) e1 (g := (mkF m 6 #[.val (.ref o0)] [(.int (0 : Int32)), (.ref o0)])) rfl (hb hby d11_6) rfl (by decide) (cap := 0) (by decide) (by decide) (by decide) (by decide)
  obtain ⟨b2, g_b2⟩ : ∃ z : Nat, z = h0.size := ⟨_, rfl⟩
  rw [← g_b2] at A2 st2
  have lt_o0_b2 : (o0 : Nat) < b2 := by rw [g_b2]; exact E0.lt
  have g0_b2 : n0 ≤ b2 := by rw [g_b2]; exact Z0
  have gk_b2 : h0.size ≤ b2 := by rw [g_b2]; exact K0.1
  have f3 : Exa Z h2 o0 "com/example/edom/edom/mapping/Utf8Output" := (E0.ext E2)
  have f4 : Fld Z h2 o0 "com/example/edom/edom/mapping/Utf8Output" "bytes" "[B" .null := (F0.ext E2)
  have f5 : Fld Z h2 o0 "com/example/edom/edom/mapping/Utf8Output" "length" "I" (.int (0 : Int32)) := (F1.ext E2)
  have f6 : Own.AvI Z h2 b2 .byte 0 (fun _ => 0) := Own.AvI.new A2 (by decide) rfl
  have Z2 : n0 ≤ h2.size := Nat.le_trans Z0 E2.1
  have K2 : Keep h0 h2 [o0] := K0.ext E2
  obtain ⟨T7, h7, X7, e7, W7, st7⟩ := putF X2 hx hZ hown (host := "") (Or.inl (hw _ (List.mem_of_getElem? (i := 15) rfl))) Via.refl e2 f4 f3 (Or.inl (hw _ (List.mem_of_getElem? (i := 16) rfl))) (hw _ (List.mem_of_getElem? (i := 2) rfl)) (ty := (.array .byte)) (by decide) rfl rfl (g := (mkF m 8 #[.val (.ref o0)] [(.ref b2), (.ref o0)])) rfl rfl (hb hby d11_8)
  have f8 : Fld Z h7 o0 "com/example/edom/edom/mapping/Utf8Output" "bytes" "[B" (.ref b2) := f4.same W7
  have f9 : Exa Z h7 o0 "com/example/edom/edom/mapping/Utf8Output" := f3.wr W7
  have f10 : Fld Z h7 o0 "com/example/edom/edom/mapping/Utf8Output" "length" "I" (.int (0 : Int32)) := f5.other W7 (Or.inr (slot_ne (Or.inl (hw _ (List.mem_of_getElem? (i := 27) rfl))) (Or.inl (hw _ (List.mem_of_getElem? (i := 16) rfl))) (by decide) (t := .int) (t' := (.array .byte)) (by decide) (by decide)))
  have f11 : Own.AvI Z h7 b2 .byte 0 (fun _ => 0) := f6.other W7 (Own.ne_of (by omega))
  have N7 := Fr.snoc X7 N1 (show n0 ≤ o0 by omega)
  have Z7 : n0 ≤ h7.size := Nat.le_trans Z2 (Keep.of_wr W7).1
  have K7 : Keep h0 h7 [o0] := K2.wr W7 (Or.inl (List.mem_of_getElem? (i := 0) rfl))
  refine hD _ (T7.setTop (mkF m 11 #[.val (.ref o0)] [])) (fun t kt_ => ?_) ?_
  · show Steps p.tables e below (s₁.setTop (mkF m 0 #[.val (.ref o0)] [])) t
    refine XS.aloadN X0.here hx rfl (hb hby d11_0) rfl rfl ?_
    show Steps p.tables e below (s₁.setTop (mkF m 1 #[.val (.ref o0)] [(.ref o0)])) t
    refine st1 _ ?_
    show Steps p.tables e below (T1.setTop (mkF m 4 #[.val (.ref o0)] [])) t
    refine XS.aloadN X1.here hx rfl (hb hby d11_4) rfl rfl ?_
    show Steps p.tables e below (T1.setTop (mkF m 5 #[.val (.ref o0)] [(.ref o0)])) t
    refine XS.iconst X1.here hx rfl (hb hby d11_5) ?_
    show Steps p.tables e below (T1.setTop (mkF m 6 #[.val (.ref o0)] [(.int (0 : Int32)), (.ref o0)])) t
    refine st2 _ ?_
    show Steps p.tables e below (T2.setTop (mkF m 8 #[.val (.ref o0)] [(.ref b2), (.ref o0)])) t
    refine st7 _ ?_
    show Steps p.tables e below (T7.setTop (mkF m 11 #[.val (.ref o0)] [])) t
    exact kt_
  exact Own.retV hR X7 hx hret (hb hby d11_11) (by decide) (by decide) (by rw [e7]; exact ⟨rfl, N7, K7, b2, by omega, f9, f8, f10, f11, Own.FitsB.zero⟩)
theorem d12_0 : decode prog_41_method_5_code 0 = .ok (.aload_n 0, 1) := by decide +kernel
theorem d12_1 : decode prog_41_method_5_code 1 = .ok (.getfield 17, 3) := by decide +kernel
theorem d12_4 : decode prog_41_method_5_code 4 = .ok (.iload_n 1, 1) := by decide +kernel
theorem d12_5 : decode prog_41_method_5_code 5 = .ok (.invokestatic 37, 3) := by decide +kernel
theorem d12_8 : decode prog_41_method_5_code 8 = .ok (.istore_n 2, 1) := by decide +kernel
theorem d12_9 : decode prog_41_method_5_code 9 = .ok (.iload_n 2, 1) := by decide +kernel
theorem d12_10 : decode prog_41_method_5_code 10 = .ok (.aload_n 0, 1) := by decide +kernel
theorem d12_11 : decode prog_41_method_5_code 11 = .ok (.getfield 7, 3) := by decide +kernel
theorem d12_14 : decode prog_41_method_5_code 14 = .ok (.arraylength, 1) := by decide +kernel
theorem d12_15 : decode prog_41_method_5_code 15 = .ok (.if_icmp .le 23, 3) := by decide +kernel
theorem d12_18 : decode prog_41_method_5_code 18 = .ok (.aload_n 0, 1) := by decide +kernel
theorem d12_19 : decode prog_41_method_5_code 19 = .ok (.aload_n 0, 1) := by decide +kernel
theorem d12_20 : decode prog_41_method_5_code 20 = .ok (.getfield 7, 3) := by decide +kernel
theorem d12_23 : decode prog_41_method_5_code 23 = .ok (.aload_n 0, 1) := by decide +kernel
theorem d12_24 : decode prog_41_method_5_code 24 = .ok (.getfield 7, 3) := by decide +kernel
theorem d12_27 : decode prog_41_method_5_code 27 = .ok (.arraylength, 1) := by decide +kernel
theorem d12_28 : decode prog_41_method_5_code 28 = .ok (.iload_n 2, 1) := by decide +kernel
theorem d12_29 : decode prog_41_method_5_code 29 = .ok (.invokestatic 43, 3) := by decide +kernel
theorem d12_32 : decode prog_41_method_5_code 32 = .ok (.invokestatic 33, 3) := by decide +kernel
theorem d12_35 : decode prog_41_method_5_code 35 = .ok (.putfield 7, 3) := by decide +kernel
theorem d12_38 : decode prog_41_method_5_code 38 = .ok (.return_, 1) := by decide +kernel
theorem pd_5 : parseMethodDescriptor "([BI)[B" = some ⟨[(.array .byte), .int], some (.array .byte)⟩ := by decide +kernel
theorem ef_12 (m : MethodId) (o0 : Addr) (p1 : Int32) : entryFrame m #[(.ref o0), (.int p1)] 3 = mkF m 0 #[.val (.ref o0), .val (.int p1), .unset] [] := by first | (simp [entryFrame, mkF, argsToLocals, Value.category]; done) | rfl
def Q12 (Z : State) (o0 : Nat) (p1 : Int32) (r N ln : Nat) (g : Nat → Int32) (c_ : Nat) (h0 : Heap) (n0 : Nat) (v : Option Value) (h : Heap) (L : List Loc) : Prop := v = none ∧ Fr n0 L ∧ Keep h0 h [o0] ∧ ∃ (r' N' : Nat) (g' : Nat → Int32), ln + c_ ≤ N' ∧ N' ≤ 20 ∧ o0 < r' ∧ (r' = r ∨ h0.size ≤ r') ∧ (∀ i, i < ln → g' i = g i) ∧ Exa Z h o0 "com/example/edom/edom/mapping/Utf8Output" ∧ Fld Z h o0 "com/example/edom/edom/mapping/Utf8Output" "bytes" "[B" (.ref r') ∧ Fld Z h o0 "com/example/edom/edom/mapping/Utf8Output" "length" "I" (.int (Int32.ofNat ln)) ∧ Own.AvI Z h r' .byte N' g' ∧ Own.FitsB g'
set_option maxRecDepth 65536 in
set_option maxHeartbeats 40000000 in
theorem rm12 (l : Launch) (Z : State) (a0 : Array Value) (hw : ∀ d ∈ tables_1, d.before a0 Z = true) (ws : List Jvm.Cond) (o0 : Nat) (p1 : Int32) (r N ln : Nat) (g : Nat → Int32) (c_ : Nat) (h0 : Heap) (n0 : Nat) (Z0 : n0 ≤ h0.size) (g0 : n0 ≤ o0) (hor : o0 < r) (hgf : Own.FitsB g) (hlN : ln ≤ N) (hl10 : ln ≤ 10) (hN20 : N ≤ 20) (hc : p1.toInt = c_) (hc3 : c_ ≤ 3) (hlc : ln + c_ ≤ 10) (E0 : Exa Z h0 o0 "com/example/edom/edom/mapping/Utf8Output") (F0 : Fld Z h0 o0 "com/example/edom/edom/mapping/Utf8Output" "bytes" "[B" (.ref r)) (F1 : Fld Z h0 o0 "com/example/edom/edom/mapping/Utf8Output" "length" "I" (.int (Int32.ofNat ln))) (A0 : Own.AvI Z h0 r .byte N g) :
    MetFree l (⟨"com/example/edom/edom/mapping/Utf8Output", "ensureRoom", "(I)V"⟩ : MethodName) (head1 (Jvm.Cond.code (⟨"com/example/edom/edom/mapping/Utf8Output", "ensureRoom", "(I)V"⟩ : MethodName) prog_41_method_5_code 3 none :: ws) ({ frames := 2, cells := 1, slots := 20, locals := 33 } : Room)) (fun a U => a = #[(.ref o0), (.int p1)] ∧ Z.Warmed39 U.vm ∧ U.heap = h0) (fun _ _ _ _ _ => True) (fun _ U o U' => ∃ v L, o = .returned v ∧ Q12 Z o0 p1 r N ln g c_ h0 n0 v U'.heap L ∧ FrameEnd U o U' L ({ frames := 2, cells := 1, slots := 20, locals := 33 } : Room).cells ({ frames := 2, cells := 1, slots := 20, locals := 33 } : Room).slots) := by
  refine Own.enter (Q := Q12 Z o0 p1 r N ln g c_ h0 n0) (plainFor_of_name pn_3) ?_
  intro p e s m below meth c s₁ D hx hby hml hown hnm hret hZ X0 e0 hD hR
  have N0 := Fr.nil n0
  have K0 : Keep h0 h0 [o0] := Keep.refl h0 _
  rw [show entryFrame m #[(.ref o0), (.int p1)] 3 = mkF m 0 #[.val (.ref o0), .val (.int p1), .unset] [] from ef_12 m o0 p1]
  obtain ⟨T1, X1, e1, st1⟩ := getF X0 hx hZ hown (host := "") (Or.inl (hw _ (List.mem_of_getElem? (i := 26) rfl))) Via.refl e0 F1 (g := (mkF m 1 #[.val (.ref o0), .val (.int p1), .unset] [(.ref o0)])) rfl rfl (hb hby d12_1)
  obtain ⟨T2, _, L2, X2, ⟨rfl, Nq2, e2⟩, st2⟩ := Own.callS (y := (⟨"java/lang/Math", "addExact", "(II)I"⟩ : MethodName)) (W := 0) (argsL := [(.int (Int32.ofNat ln)), (.int p1)]) (rest := []) X1 hx hZ hown (hw _ (List.mem_of_getElem? (i := 28) rfl)) (hw _ (List.mem_of_getElem? (i := 29) rfl)) (hw _ (List.mem_of_getElem? (i := 30) rfl)) (hw _ (List.mem_of_getElem? (i := 31) rfl)) (by decide) e1 (rm2 l Z a0 hw [] (Int32.ofNat ln) p1 ln c_ h0 n0 (own_oi (by omega)) hc (by omega)) (by decide) (by decide) (by decide) (by decide) (g := (mkF m 5 #[.val (.ref o0), .val (.int p1), .unset] [(.int p1), (.int (Int32.ofNat ln))])) rfl (by rw [hml]; rfl) (lenOf pd_1 rfl) rfl (by show 2 * 0 + _ ≤ _; exact Nat.le_of_eq rfl) (hb hby d12_5)
  have N2 := Fr.app N0 Nq2
  obtain ⟨v3, hv3⟩ : ∃ z : Int32, z = ((Int32.ofNat ln) + p1) := ⟨_, rfl⟩
  obtain ⟨T4, X4, e4, st4⟩ := getF X2 hx hZ hown (host := "") (Or.inl (hw _ (List.mem_of_getElem? (i := 15) rfl))) Via.refl e2 F0 (g := (mkF m 11 #[.val (.ref o0), .val (.int p1), .val (.int v3)] [(.ref o0), (.int v3)])) rfl rfl (hb hby d12_11)
  refine hD _ (T4.setTop (mkF m 15 #[.val (.ref o0), .val (.int p1), .val (.int v3)] [(.int (Int32.ofNat N)), (.int v3)])) (fun t kt_ => ?_) ?_
  · show Steps p.tables e below (s₁.setTop (mkF m 0 #[.val (.ref o0), .val (.int p1), .unset] [])) t
    refine XS.aloadN X0.here hx rfl (hb hby d12_0) rfl rfl ?_
    show Steps p.tables e below (s₁.setTop (mkF m 1 #[.val (.ref o0), .val (.int p1), .unset] [(.ref o0)])) t
    refine st1 _ ?_
    show Steps p.tables e below (T1.setTop (mkF m 4 #[.val (.ref o0), .val (.int p1), .unset] [(.int (Int32.ofNat ln))])) t
    refine XS.iloadN X1.here hx rfl (hb hby d12_4) rfl ?_
    show Steps p.tables e below (T1.setTop (mkF m 5 #[.val (.ref o0), .val (.int p1), .unset] [(.int p1), (.int (Int32.ofNat ln))])) t
    refine st2 _ ?_
    show Steps p.tables e below (T2.setTop (mkF m 8 #[.val (.ref o0), .val (.int p1), .unset] [(.int ((Int32.ofNat ln) + p1))])) t
    refine Own.nmI hv3 ?_
    show Steps p.tables e below (T2.setTop (mkF m 8 #[.val (.ref o0), .val (.int p1), .unset] [(.int v3)])) t
    refine XS.istoreN X2.here hx rfl (hb hby d12_8) rfl (l' := #[.val (.ref o0), .val (.int p1), .val (.int v3)]) rfl ?_
    show Steps p.tables e below (T2.setTop (mkF m 9 #[.val (.ref o0), .val (.int p1), .val (.int v3)] [])) t
    refine XS.iloadN X2.here hx rfl (hb hby d12_9) rfl ?_
    show Steps p.tables e below (T2.setTop (mkF m 10 #[.val (.ref o0), .val (.int p1), .val (.int v3)] [(.int v3)])) t
    refine XS.aloadN X2.here hx rfl (hb hby d12_10) rfl rfl ?_
    show Steps p.tables e below (T2.setTop (mkF m 11 #[.val (.ref o0), .val (.int p1), .val (.int v3)] [(.ref o0), (.int v3)])) t
    refine st4 _ ?_
    show Steps p.tables e below (T4.setTop (mkF m 14 #[.val (.ref o0), .val (.int p1), .val (.int v3)] [(.ref r), (.int v3)])) t
    refine Own.lenI X4 hx hZ e4 A0 (g := (mkF m 14 #[.val (.ref o0), .val (.int p1), .val (.int v3)] [(.ref r), (.int v3)])) rfl rfl (hb hby d12_14) _ ?_
    show Steps p.tables e below (T4.setTop (mkF m 15 #[.val (.ref o0), .val (.int p1), .val (.int v3)] [(.int (Int32.ofNat N)), (.int v3)])) t
    exact kt_
  by_cases hc5 : (Int32.ofNat N) < v3
  · have hgt := hc5
    rw [own_lt, hv3, own_oi (by omega), own_add (own_oi (by omega)) hc (by omega)] at hgt
    obtain ⟨T6, X6, e6, st6⟩ := getF X4 hx hZ hown (host := "") (Or.inl (hw _ (List.mem_of_getElem? (i := 15) rfl))) Via.refl e4 F0 (g := (mkF m 20 #[.val (.ref o0), .val (.int p1), .val (.int v3)] [(.ref o0), (.ref o0)])) rfl rfl (hb hby d12_20)
    obtain ⟨T7, X7, e7, st7⟩ := getF X6 hx hZ hown (host := "") (Or.inl (hw _ (List.mem_of_getElem? (i := 15) rfl))) Via.refl e6 F0 (g := (mkF m 24 #[.val (.ref o0), .val (.int p1), .val (.int v3)] [(.ref o0), (.ref r), (.ref o0)])) rfl rfl (hb hby d12_24)
    obtain ⟨T8, _, L8, X8, ⟨rfl, Nq8, e8⟩, st8⟩ := Own.callS (y := (⟨"com/example/edom/edom/mapping/ArrayGrowth", "grownLength", "(II)I"⟩ : MethodName)) (W := 2) (argsL := [(.int (Int32.ofNat N)), (.int v3)]) (rest := [(.ref r), (.ref o0)]) X7 hx hZ hown (hw _ (List.mem_of_getElem? (i := 32) rfl)) (hw _ (List.mem_of_getElem? (i := 33) rfl)) (hw _ (List.mem_of_getElem? (i := 34) rfl)) (hw _ (List.mem_of_getElem? (i := 35) rfl)) (by decide) e7 (rm6 l Z a0 hw [] (Int32.ofNat N) v3  h0 n0 ) (by decide) (by decide) (by decide) (by decide) (g := (mkF m 29 #[.val (.ref o0), .val (.int p1), .val (.int v3)] [(.int v3), (.int (Int32.ofNat N)), (.ref r), (.ref o0)])) rfl (by rw [hml]; rfl) (lenOf pd_1 rfl) rfl (by show 2 * 0 + _ ≤ _; exact Nat.le_of_eq rfl) (hb hby d12_29)
    have N8 := Fr.app N2 Nq8
    obtain ⟨T9, _, L9, X9, ⟨b9, f9, rfl, Nq9, Kq9, gb9, A9, hfit9, hk9⟩, st9⟩ := Own.callS (y := (⟨"java/util/Arrays", "copyOf", "([BI)[B"⟩ : MethodName)) (W := 1) (argsL := [(.ref r), (.int (own_grow (Int32.ofNat N) v3))]) (rest := [(.ref o0)]) X8 hx hZ hown (hw _ (List.mem_of_getElem? (i := 44) rfl)) (hw _ (List.mem_of_getElem? (i := 45) rfl)) (hw _ (List.mem_of_getElem? (i := 46) rfl)) (hw _ (List.mem_of_getElem? (i := 47) rfl)) (by decide) e8 (rm8 l Z a0 hw [] r (own_grow (Int32.ofNat N) v3) N (max (ln + c_) (2 * N)) g h0 n0 Z0 hN20 (own_growT (own_oi (by omega)) (by rw [hv3]; exact own_add (own_oi (by omega)) hc (by omega)) (by omega) (by omega)) (by omega) (by omega) hgf A0) (by decide) (by decide) (by decide) (by decide) (g := (mkF m 32 #[.val (.ref o0), .val (.int p1), .val (.int v3)] [(.int (own_grow (Int32.ofNat N) v3)), (.ref r), (.ref o0)])) rfl (by rw [hml]; rfl) (lenOf pd_5 rfl) rfl (by show 2 * 0 + _ ≤ _; exact Nat.le_of_eq rfl) (hb hby d12_32)
    have N9 := Fr.app N8 Nq9
    have lt_o0_b9 : (o0 : Nat) < b9 := Nat.lt_of_lt_of_le E0.lt gb9
    have g0_b9 : n0 ≤ b9 := Nat.le_trans Z0 gb9
    have gk_b9 : h0.size ≤ b9 := Nat.le_trans K0.1 gb9
    have f10 : Exa Z T9.heap o0 "com/example/edom/edom/mapping/Utf8Output" := E0.keep Kq9
    have f11 : Fld Z T9.heap o0 "com/example/edom/edom/mapping/Utf8Output" "bytes" "[B" (.ref r) := F0.keep Kq9 nin0
    have f12 : Fld Z T9.heap o0 "com/example/edom/edom/mapping/Utf8Output" "length" "I" (.int (Int32.ofNat ln)) := F1.keep Kq9 nin0
    have f13 : Own.AvI Z T9.heap r .byte N g := A0.keep Kq9 nin0
    have Z9 : n0 ≤ T9.heap.size := Nat.le_trans Z0 Kq9.1
    have K9 : Keep h0 T9.heap [o0] := K0.trans Kq9 all0
    obtain ⟨T14, h14, X14, e14, W14, st14⟩ := putF X9 hx hZ hown (host := "") (Or.inl (hw _ (List.mem_of_getElem? (i := 15) rfl))) Via.refl rfl f11 f10 (Or.inl (hw _ (List.mem_of_getElem? (i := 16) rfl))) (hw _ (List.mem_of_getElem? (i := 2) rfl)) (ty := (.array .byte)) (by decide) rfl rfl (g := (mkF m 35 #[.val (.ref o0), .val (.int p1), .val (.int v3)] [(.ref b9), (.ref o0)])) rfl rfl (hb hby d12_35)
    have f15 : Fld Z h14 o0 "com/example/edom/edom/mapping/Utf8Output" "bytes" "[B" (.ref b9) := f11.same W14
    have f16 : Exa Z h14 o0 "com/example/edom/edom/mapping/Utf8Output" := f10.wr W14
    have f17 : Fld Z h14 o0 "com/example/edom/edom/mapping/Utf8Output" "length" "I" (.int (Int32.ofNat ln)) := f12.other W14 (Or.inr (slot_ne (Or.inl (hw _ (List.mem_of_getElem? (i := 27) rfl))) (Or.inl (hw _ (List.mem_of_getElem? (i := 16) rfl))) (by decide) (t := .int) (t' := (.array .byte)) (by decide) (by decide)))
    have f18 : Own.AvI Z h14 r .byte N g := f13.other W14 (Own.ne_of (by omega))
    have f19 : Own.AvI Z h14 b9 .byte (max (ln + c_) (2 * N)) f9 := A9.other W14 (Own.ne_of (by omega))
    have N14 := Fr.snoc X14 N9 (show n0 ≤ o0 by omega)
    have Z14 : n0 ≤ h14.size := Nat.le_trans Z9 (Keep.of_wr W14).1
    have K14 : Keep h0 h14 [o0] := K9.wr W14 (Or.inl (List.mem_of_getElem? (i := 0) rfl))
    refine hD _ (T14.setTop (mkF m 38 #[.val (.ref o0), .val (.int p1), .val (.int v3)] [])) (fun t kt_ => ?_) ?_
    · show Steps p.tables e below (T4.setTop (mkF m 15 #[.val (.ref o0), .val (.int p1), .val (.int v3)] [(.int (Int32.ofNat N)), (.int v3)])) t
      refine XS.icmpNo X4.here hx rfl (hb hby d12_15) rfl (tlt hc5).2.2.2 ?_
      show Steps p.tables e below (T4.setTop (mkF m 18 #[.val (.ref o0), .val (.int p1), .val (.int v3)] [])) t
      refine XS.aloadN X4.here hx rfl (hb hby d12_18) rfl rfl ?_
      show Steps p.tables e below (T4.setTop (mkF m 19 #[.val (.ref o0), .val (.int p1), .val (.int v3)] [(.ref o0)])) t
      refine XS.aloadN X4.here hx rfl (hb hby d12_19) rfl rfl ?_
      show Steps p.tables e below (T4.setTop (mkF m 20 #[.val (.ref o0), .val (.int p1), .val (.int v3)] [(.ref o0), (.ref o0)])) t
      refine st6 _ ?_
      show Steps p.tables e below (T6.setTop (mkF m 23 #[.val (.ref o0), .val (.int p1), .val (.int v3)] [(.ref r), (.ref o0)])) t
      refine XS.aloadN X6.here hx rfl (hb hby d12_23) rfl rfl ?_
      show Steps p.tables e below (T6.setTop (mkF m 24 #[.val (.ref o0), .val (.int p1), .val (.int v3)] [(.ref o0), (.ref r), (.ref o0)])) t
      refine st7 _ ?_
      show Steps p.tables e below (T7.setTop (mkF m 27 #[.val (.ref o0), .val (.int p1), .val (.int v3)] [(.ref r), (.ref r), (.ref o0)])) t
      refine Own.lenI X7 hx hZ e7 A0 (g := (mkF m 27 #[.val (.ref o0), .val (.int p1), .val (.int v3)] [(.ref r), (.ref r), (.ref o0)])) rfl rfl (hb hby d12_27) _ ?_
      show Steps p.tables e below (T7.setTop (mkF m 28 #[.val (.ref o0), .val (.int p1), .val (.int v3)] [(.int (Int32.ofNat N)), (.ref r), (.ref o0)])) t
      refine XS.iloadN X7.here hx rfl (hb hby d12_28) rfl ?_
      show Steps p.tables e below (T7.setTop (mkF m 29 #[.val (.ref o0), .val (.int p1), .val (.int v3)] [(.int v3), (.int (Int32.ofNat N)), (.ref r), (.ref o0)])) t
      refine st8 _ ?_
      show Steps p.tables e below (T8.setTop (mkF m 32 #[.val (.ref o0), .val (.int p1), .val (.int v3)] [(.int (own_grow (Int32.ofNat N) v3)), (.ref r), (.ref o0)])) t
      refine st9 _ ?_
      show Steps p.tables e below (T9.setTop (mkF m 35 #[.val (.ref o0), .val (.int p1), .val (.int v3)] [(.ref b9), (.ref o0)])) t
      refine st14 _ ?_
      show Steps p.tables e below (T14.setTop (mkF m 38 #[.val (.ref o0), .val (.int p1), .val (.int v3)] [])) t
      exact kt_
    exact Own.retV hR X14 hx hret (hb hby d12_38) (by decide) (by decide) (by rw [e14]; exact ⟨rfl, N14, K14, b9, _, _, by omega, by omega, by omega, Or.inr gk_b9, fun i hi => hk9 i (by omega) (by have q := hc5; rw [own_lt, hv3, own_oi (by omega), own_add (own_oi (by omega)) hc (by omega)] at q; omega), f16, f15, f17, f19, hfit9⟩)
  · refine hD _ (T4.setTop (mkF m 38 #[.val (.ref o0), .val (.int p1), .val (.int v3)] [])) (fun t kt_ => ?_) ?_
    · show Steps p.tables e below (T4.setTop (mkF m 15 #[.val (.ref o0), .val (.int p1), .val (.int v3)] [(.int (Int32.ofNat N)), (.int v3)])) t
      refine XS.icmpYes X4.here hx rfl (pc0 := 15) (pc' := 38) rfl (hb hby d12_15) rfl (flt hc5).2.2.2 (by decide) (by decide) ?_
      show Steps p.tables e below (T4.setTop (mkF m 38 #[.val (.ref o0), .val (.int p1), .val (.int v3)] [])) t
      exact kt_
    exact Own.retV hR X4 hx hret (hb hby d12_38) (by decide) (by decide) (by rw [e4]; exact ⟨rfl, N2, K0, r, N, g, by have q := hc5; rw [own_lt, hv3, own_oi (by omega), own_add (own_oi (by omega)) hc (by omega)] at q; omega, by omega, hor, Or.inl rfl, fun i hi => rfl, E0, F0, F1, A0, hgf⟩)
theorem d13_0 : decode prog_41_method_2_code 0 = .ok (.aload_n 0, 1) := by decide +kernel
theorem d13_1 : decode prog_41_method_2_code 1 = .ok (.iconst 1, 1) := by decide +kernel
theorem d13_2 : decode prog_41_method_2_code 2 = .ok (.invokevirtual 13, 3) := by decide +kernel
theorem d13_5 : decode prog_41_method_2_code 5 = .ok (.aload_n 0, 1) := by decide +kernel
theorem d13_6 : decode prog_41_method_2_code 6 = .ok (.getfield 7, 3) := by decide +kernel
theorem d13_9 : decode prog_41_method_2_code 9 = .ok (.aload_n 0, 1) := by decide +kernel
theorem d13_10 : decode prog_41_method_2_code 10 = .ok (.dup, 1) := by decide +kernel
theorem d13_11 : decode prog_41_method_2_code 11 = .ok (.getfield 17, 3) := by decide +kernel
theorem d13_14 : decode prog_41_method_2_code 14 = .ok (.dup_x1, 1) := by decide +kernel
theorem d13_15 : decode prog_41_method_2_code 15 = .ok (.iconst 1, 1) := by decide +kernel
theorem d13_16 : decode prog_41_method_2_code 16 = .ok (.iadd, 1) := by decide +kernel
theorem d13_17 : decode prog_41_method_2_code 17 = .ok (.putfield 17, 3) := by decide +kernel
theorem d13_20 : decode prog_41_method_2_code 20 = .ok (.iload_n 1, 1) := by decide +kernel
theorem d13_21 : decode prog_41_method_2_code 21 = .ok (.i2b, 1) := by decide +kernel
theorem d13_22 : decode prog_41_method_2_code 22 = .ok (.bastore, 1) := by decide +kernel
theorem d13_23 : decode prog_41_method_2_code 23 = .ok (.return_, 1) := by decide +kernel
theorem pd_6 : parseMethodDescriptor "(I)V" = some ⟨[.int], none⟩ := by decide +kernel
theorem ef_13 (m : MethodId) (o0 : Addr) (p1 : Int32) : entryFrame m #[(.ref o0), (.int p1)] 2 = mkF m 0 #[.val (.ref o0), .val (.int p1)] [] := by first | (simp [entryFrame, mkF, argsToLocals, Value.category]; done) | rfl
def Q13 (Z : State) (o0 : Nat) (p1 : Int32) (r N ln : Nat) (g : Nat → Int32) (h0 : Heap) (n0 : Nat) (v : Option Value) (h : Heap) (L : List Loc) : Prop := v = none ∧ Fr n0 L ∧ Keep h0 h [o0, r] ∧ ∃ (r' N' : Nat) (g' : Nat → Int32), ln + 1 ≤ N' ∧ N' ≤ 20 ∧ o0 < r' ∧ (∀ i, i < ln → g' i = g i) ∧ g' ln = nar .byte p1.toInt8.toInt32 ∧ Exa Z h o0 "com/example/edom/edom/mapping/Utf8Output" ∧ Fld Z h o0 "com/example/edom/edom/mapping/Utf8Output" "bytes" "[B" (.ref r') ∧ Fld Z h o0 "com/example/edom/edom/mapping/Utf8Output" "length" "I" (.int (Int32.ofNat (ln + 1))) ∧ Own.AvI Z h r' .byte N' g' ∧ Own.FitsB g'
set_option maxRecDepth 65536 in
set_option maxHeartbeats 40000000 in
theorem rm13 (l : Launch) (Z : State) (a0 : Array Value) (hw : ∀ d ∈ tables_1, d.before a0 Z = true) (ws : List Jvm.Cond) (o0 : Nat) (p1 : Int32) (r N ln : Nat) (g : Nat → Int32) (h0 : Heap) (n0 : Nat) (Z0 : n0 ≤ h0.size) (g0 : n0 ≤ o0) (hor : o0 < r) (hgf : Own.FitsB g) (hlN : ln ≤ N) (hl10 : ln ≤ 10) (hN20 : N ≤ 20) (hlc : ln + 1 ≤ 10) (E0 : Exa Z h0 o0 "com/example/edom/edom/mapping/Utf8Output") (F0 : Fld Z h0 o0 "com/example/edom/edom/mapping/Utf8Output" "bytes" "[B" (.ref r)) (F1 : Fld Z h0 o0 "com/example/edom/edom/mapping/Utf8Output" "length" "I" (.int (Int32.ofNat ln))) (A0 : Own.AvI Z h0 r .byte N g) :
    MetFree l (⟨"com/example/edom/edom/mapping/Utf8Output", "write", "(I)V"⟩ : MethodName) (head1 (Jvm.Cond.code (⟨"com/example/edom/edom/mapping/Utf8Output", "write", "(I)V"⟩ : MethodName) prog_41_method_2_code 2 none :: ws) ({ frames := 3, cells := 1, slots := 20, locals := 47 } : Room)) (fun a U => a = #[(.ref o0), (.int p1)] ∧ Z.Warmed39 U.vm ∧ U.heap = h0) (fun _ _ _ _ _ => True) (fun _ U o U' => ∃ v L, o = .returned v ∧ Q13 Z o0 p1 r N ln g h0 n0 v U'.heap L ∧ FrameEnd U o U' L ({ frames := 3, cells := 1, slots := 20, locals := 47 } : Room).cells ({ frames := 3, cells := 1, slots := 20, locals := 47 } : Room).slots) := by
  refine Own.enter (Q := Q13 Z o0 p1 r N ln g h0 n0) (plainFor_of_name pn_3) ?_
  intro p e s m below meth c s₁ D hx hby hml hown hnm hret hZ X0 e0 hD hR
  have N0 := Fr.nil n0
  have K0 : Keep h0 h0 [o0, r] := Keep.refl h0 _
  rw [show entryFrame m #[(.ref o0), (.int p1)] 2 = mkF m 0 #[.val (.ref o0), .val (.int p1)] [] from ef_13 m o0 p1]
  obtain ⟨T1, _, L1, X1, ⟨rfl, Nq1, Kq1, r1, N1n, g1, hN1_1, hN2_1, hor1, hr1, hk1, E1, Fb1, Fl1, A1, hg1⟩, st1⟩ := Own.callP (y := (⟨"com/example/edom/edom/mapping/Utf8Output", "ensureRoom", "(I)V"⟩ : MethodName)) (W := 0) (argsL := [(.int (1 : Int32))]) (rest := []) (a := o0) X0 hx hZ hown (hw _ (List.mem_of_getElem? (i := 22) rfl)) (hw _ (List.mem_of_getElem? (i := 23) rfl)) (hw _ (List.mem_of_getElem? (i := 24) rfl)) (hw _ (List.mem_of_getElem? (i := 2) rfl)) (hw _ (List.mem_of_getElem? (i := 3) rfl)) (hw _ (List.mem_of_getElem? (i := 25) rfl)) (by decide) e0 E0 (rm12 l Z a0 hw [] o0 (1 : Int32) r N ln g 1 h0 n0 Z0 g0 hor hgf hlN hl10 hN20 (by decide) (by decide) hlc E0 F0 F1 A0) (by decide) (by decide) (by decide) (by decide) (g := (mkF m 2 #[.val (.ref o0), .val (.int p1)] [(.int (1 : Int32)), (.ref o0)])) rfl (by rw [hml]; rfl) (lenOf pd_6 rfl) rfl (by show 2 * 0 + _ ≤ _; exact Nat.le_of_eq rfl) (hb hby d13_2)
  have N1 := Fr.app N0 Nq1
  have Z1 : n0 ≤ T1.heap.size := Nat.le_trans Z0 Kq1.1
  have K1 : Keep h0 T1.heap [o0, r] := K0.trans Kq1 (allS (Or.inl (List.mem_of_getElem? (i := 0) rfl)) all0)
  have mem1 : (r1 : Nat) ∈ [o0, r] ∨ h0.size ≤ r1 := by
    rcases hr1 with q | q
    · exact Or.inl (by rw [q]; exact List.mem_of_getElem? (i := 1) rfl)
    · exact Or.inr q
  obtain ⟨T2, X2, e2, st2⟩ := getF X1 hx hZ hown (host := "") (Or.inl (hw _ (List.mem_of_getElem? (i := 15) rfl))) Via.refl rfl Fb1 (g := (mkF m 6 #[.val (.ref o0), .val (.int p1)] [(.ref o0)])) rfl rfl (hb hby d13_6)
  obtain ⟨T3, X3, e3, st3⟩ := getF X2 hx hZ hown (host := "") (Or.inl (hw _ (List.mem_of_getElem? (i := 26) rfl))) Via.refl e2 Fl1 (g := (mkF m 11 #[.val (.ref o0), .val (.int p1)] [(.ref o0), (.ref o0), (.ref r1)])) rfl rfl (hb hby d13_11)
  obtain ⟨T4, h4, X4, e4, W4, st4⟩ := putF X3 hx hZ hown (host := "") (Or.inl (hw _ (List.mem_of_getElem? (i := 26) rfl))) Via.refl e3 Fl1 E1 (Or.inl (hw _ (List.mem_of_getElem? (i := 27) rfl))) (hw _ (List.mem_of_getElem? (i := 2) rfl)) (ty := .int) (by decide) rfl rfl (g := (mkF m 17 #[.val (.ref o0), .val (.int p1)] [(.int ((Int32.ofNat ln) + (1 : Int32))), (.ref o0), (.int (Int32.ofNat ln)), (.ref r1)])) rfl rfl (hb hby d13_17)
  have f5 : Fld Z h4 o0 "com/example/edom/edom/mapping/Utf8Output" "length" "I" (.int ((Int32.ofNat ln) + (1 : Int32))) := Fl1.same W4
  have f6 : Exa Z h4 o0 "com/example/edom/edom/mapping/Utf8Output" := E1.wr W4
  have f7 : Fld Z h4 o0 "com/example/edom/edom/mapping/Utf8Output" "bytes" "[B" (.ref r1) := Fb1.other W4 (Or.inr (slot_ne (Or.inl (hw _ (List.mem_of_getElem? (i := 16) rfl))) (Or.inl (hw _ (List.mem_of_getElem? (i := 27) rfl))) (by decide) (t := (.array .byte)) (t' := .int) (by decide) (by decide)))
  have f8 : Own.AvI Z h4 r1 .byte N1n g1 := A1.other W4 (Own.ne_of (by omega))
  have N4 := Fr.snoc X4 N1 (show n0 ≤ o0 by omega)
  have Z4 : n0 ≤ h4.size := Nat.le_trans Z1 (Keep.of_wr W4).1
  have K4 : Keep h0 h4 [o0, r] := K1.wr W4 (Or.inl (List.mem_of_getElem? (i := 0) rfl))
  have hj9 : 0 ≤ (Int32.ofNat ln).toInt ∧ (Int32.ofNat ln).toInt < (N1n : Nat) := by rw [own_oi (by omega)]; omega
  obtain ⟨T10, h10, X10, e10, A10, W10, st10⟩ := Own.stoB X4 hx hZ e4 f8 hj9 (g := (mkF m 22 #[.val (.ref o0), .val (.int p1)] [(.int (p1.toInt8.toInt32)), (.int (Int32.ofNat ln)), (.ref r1)])) rfl rfl (hb hby d13_22)
  have f11 : Exa Z h10 o0 "com/example/edom/edom/mapping/Utf8Output" := f6.wr W10
  have f12 : Fld Z h10 o0 "com/example/edom/edom/mapping/Utf8Output" "bytes" "[B" (.ref r1) := f7.other W10 (Or.inl (Own.ne_of (by omega)))
  have f13 : Fld Z h10 o0 "com/example/edom/edom/mapping/Utf8Output" "length" "I" (.int ((Int32.ofNat ln) + (1 : Int32))) := f5.other W10 (Or.inl (Own.ne_of (by omega)))
  have N10 := Fr.snoc X10 N4 (show n0 ≤ r1 by omega)
  have Z10 : n0 ≤ h10.size := Nat.le_trans Z4 (Keep.of_wr W10).1
  have K10 : Keep h0 h10 [o0, r] := K4.wr W10 mem1
  refine hD _ (T10.setTop (mkF m 23 #[.val (.ref o0), .val (.int p1)] [])) (fun t kt_ => ?_) ?_
  · show Steps p.tables e below (s₁.setTop (mkF m 0 #[.val (.ref o0), .val (.int p1)] [])) t
    refine XS.aloadN X0.here hx rfl (hb hby d13_0) rfl rfl ?_
    show Steps p.tables e below (s₁.setTop (mkF m 1 #[.val (.ref o0), .val (.int p1)] [(.ref o0)])) t
    refine XS.iconst X0.here hx rfl (hb hby d13_1) ?_
    show Steps p.tables e below (s₁.setTop (mkF m 2 #[.val (.ref o0), .val (.int p1)] [(.int (1 : Int32)), (.ref o0)])) t
    refine st1 _ ?_
    show Steps p.tables e below (T1.setTop (mkF m 5 #[.val (.ref o0), .val (.int p1)] [])) t
    refine XS.aloadN X1.here hx rfl (hb hby d13_5) rfl rfl ?_
    show Steps p.tables e below (T1.setTop (mkF m 6 #[.val (.ref o0), .val (.int p1)] [(.ref o0)])) t
    refine st2 _ ?_
    show Steps p.tables e below (T2.setTop (mkF m 9 #[.val (.ref o0), .val (.int p1)] [(.ref r1)])) t
    refine XS.aloadN X2.here hx rfl (hb hby d13_9) rfl rfl ?_
    show Steps p.tables e below (T2.setTop (mkF m 10 #[.val (.ref o0), .val (.int p1)] [(.ref o0), (.ref r1)])) t
    refine XS.dup X2.here hx rfl (hb hby d13_10) rfl rfl ?_
    show Steps p.tables e below (T2.setTop (mkF m 11 #[.val (.ref o0), .val (.int p1)] [(.ref o0), (.ref o0), (.ref r1)])) t
    refine st3 _ ?_
    show Steps p.tables e below (T3.setTop (mkF m 14 #[.val (.ref o0), .val (.int p1)] [(.int (Int32.ofNat ln)), (.ref o0), (.ref r1)])) t
    refine XT.dupX1 X3.here hx rfl (hb hby d13_14) rfl rfl rfl ?_
    show Steps p.tables e below (T3.setTop (mkF m 15 #[.val (.ref o0), .val (.int p1)] [(.int (Int32.ofNat ln)), (.ref o0), (.int (Int32.ofNat ln)), (.ref r1)])) t
    refine XS.iconst X3.here hx rfl (hb hby d13_15) ?_
    show Steps p.tables e below (T3.setTop (mkF m 16 #[.val (.ref o0), .val (.int p1)] [(.int (1 : Int32)), (.int (Int32.ofNat ln)), (.ref o0), (.int (Int32.ofNat ln)), (.ref r1)])) t
    refine XS.iadd X3.here hx rfl (hb hby d13_16) rfl ?_
    show Steps p.tables e below (T3.setTop (mkF m 17 #[.val (.ref o0), .val (.int p1)] [(.int ((Int32.ofNat ln) + (1 : Int32))), (.ref o0), (.int (Int32.ofNat ln)), (.ref r1)])) t
    refine st4 _ ?_
    show Steps p.tables e below (T4.setTop (mkF m 20 #[.val (.ref o0), .val (.int p1)] [(.int (Int32.ofNat ln)), (.ref r1)])) t
    refine XS.iloadN X4.here hx rfl (hb hby d13_20) rfl ?_
    show Steps p.tables e below (T4.setTop (mkF m 21 #[.val (.ref o0), .val (.int p1)] [(.int p1), (.int (Int32.ofNat ln)), (.ref r1)])) t
    refine XS.i2b X4.here hx rfl (hb hby d13_21) rfl ?_
    show Steps p.tables e below (T4.setTop (mkF m 22 #[.val (.ref o0), .val (.int p1)] [(.int (p1.toInt8.toInt32)), (.int (Int32.ofNat ln)), (.ref r1)])) t
    refine st10 _ ?_
    show Steps p.tables e below (T10.setTop (mkF m 23 #[.val (.ref o0), .val (.int p1)] [])) t
    exact kt_
  exact Own.retV hR X10 hx hret (hb hby d13_23) (by decide) (by decide) (by rw [e10]; exact ⟨rfl, N10, K10, r1, _, _, hN1_1, hN2_1, hor1, fun i hi => by
      show (if i = (Int32.ofNat ln).toInt.toNat then _ else g1 i) = g i
      rw [own_oi (by omega), if_neg (by omega)]; exact hk1 i hi, by
      show (if ln = (Int32.ofNat ln).toInt.toNat then _ else g1 ln) = _
      rw [own_oi (by omega), if_pos (by omega)], f11, f12, by rw [← Int32.ofNat_succ]; exact f13, A10, Own.FitsB.upd hg1⟩)
theorem d14_0 : decode prog_41_method_3_code 0 = .ok (.aload_n 0, 1) := by decide +kernel
theorem d14_1 : decode prog_41_method_3_code 1 = .ok (.getfield 17, 3) := by decide +kernel
theorem d14_4 : decode prog_41_method_3_code 4 = .ok (.ifCond .ne 21, 3) := by decide +kernel
theorem d14_7 : decode prog_41_method_3_code 7 = .ok (.aload_n 0, 1) := by decide +kernel
theorem d14_8 : decode prog_41_method_3_code 8 = .ok (.aload_n 1, 1) := by decide +kernel
theorem d14_9 : decode prog_41_method_3_code 9 = .ok (.iload_n 2, 1) := by decide +kernel
theorem d14_10 : decode prog_41_method_3_code 10 = .ok (.iload_n 2, 1) := by decide +kernel
theorem d14_11 : decode prog_41_method_3_code 11 = .ok (.iload_n 3, 1) := by decide +kernel
theorem d14_12 : decode prog_41_method_3_code 12 = .ok (.iadd, 1) := by decide +kernel
theorem d14_13 : decode prog_41_method_3_code 13 = .ok (.invokestatic 21, 3) := by decide +kernel
theorem d14_16 : decode prog_41_method_3_code 16 = .ok (.putfield 7, 3) := by decide +kernel
theorem d14_19 : decode prog_41_method_3_code 19 = .ok (.aload_n 0, 1) := by decide +kernel
theorem d14_20 : decode prog_41_method_3_code 20 = .ok (.iload_n 3, 1) := by decide +kernel
theorem d14_21 : decode prog_41_method_3_code 21 = .ok (.putfield 17, 3) := by decide +kernel
theorem d14_24 : decode prog_41_method_3_code 24 = .ok (.return_, 1) := by decide +kernel
theorem d14_25 : decode prog_41_method_3_code 25 = .ok (.aload_n 0, 1) := by decide +kernel
theorem d14_26 : decode prog_41_method_3_code 26 = .ok (.iload_n 3, 1) := by decide +kernel
theorem d14_27 : decode prog_41_method_3_code 27 = .ok (.invokevirtual 13, 3) := by decide +kernel
theorem d14_30 : decode prog_41_method_3_code 30 = .ok (.aload_n 1, 1) := by decide +kernel
theorem d14_31 : decode prog_41_method_3_code 31 = .ok (.iload_n 2, 1) := by decide +kernel
theorem d14_32 : decode prog_41_method_3_code 32 = .ok (.aload_n 0, 1) := by decide +kernel
theorem d14_33 : decode prog_41_method_3_code 33 = .ok (.getfield 7, 3) := by decide +kernel
theorem d14_36 : decode prog_41_method_3_code 36 = .ok (.aload_n 0, 1) := by decide +kernel
theorem d14_37 : decode prog_41_method_3_code 37 = .ok (.getfield 17, 3) := by decide +kernel
theorem d14_40 : decode prog_41_method_3_code 40 = .ok (.iload_n 3, 1) := by decide +kernel
theorem d14_41 : decode prog_41_method_3_code 41 = .ok (.invokestatic 27, 3) := by decide +kernel
theorem d14_44 : decode prog_41_method_3_code 44 = .ok (.aload_n 0, 1) := by decide +kernel
theorem d14_45 : decode prog_41_method_3_code 45 = .ok (.dup, 1) := by decide +kernel
theorem d14_46 : decode prog_41_method_3_code 46 = .ok (.getfield 17, 3) := by decide +kernel
theorem d14_49 : decode prog_41_method_3_code 49 = .ok (.iload_n 3, 1) := by decide +kernel
theorem d14_50 : decode prog_41_method_3_code 50 = .ok (.iadd, 1) := by decide +kernel
theorem d14_51 : decode prog_41_method_3_code 51 = .ok (.putfield 17, 3) := by decide +kernel
theorem d14_54 : decode prog_41_method_3_code 54 = .ok (.return_, 1) := by decide +kernel
theorem ef_14 (m : MethodId) (o0 : Addr) (o1 : Addr) (p2 : Int32) (p3 : Int32) : entryFrame m #[(.ref o0), (.ref o1), (.int p2), (.int p3)] 4 = mkF m 0 #[.val (.ref o0), .val (.ref o1), .val (.int p2), .val (.int p3)] [] := by first | (simp [entryFrame, mkF, argsToLocals, Value.category]; done) | rfl
def Q14 (Z : State) (o0 : Nat) (o1 : Nat) (p2 : Int32) (p3 : Int32) (r N ln : Nat) (g : Nat → Int32) (S c_ : Nat) (sf : Nat → Int32) (h0 : Heap) (n0 : Nat) (v : Option Value) (h : Heap) (L : List Loc) : Prop := v = none ∧ Fr n0 L ∧ Keep h0 h [o0, r] ∧ ∃ (r' N' : Nat) (g' : Nat → Int32), ln + c_ ≤ N' ∧ N' ≤ 20 ∧ o0 < r' ∧ (∀ i, i < ln → g' i = g i) ∧ (∀ i, i < c_ → g' (ln + i) = sf (S + i)) ∧ Exa Z h o0 "com/example/edom/edom/mapping/Utf8Output" ∧ Fld Z h o0 "com/example/edom/edom/mapping/Utf8Output" "bytes" "[B" (.ref r') ∧ Fld Z h o0 "com/example/edom/edom/mapping/Utf8Output" "length" "I" (.int (Int32.ofNat (ln + c_))) ∧ Own.AvI Z h r' .byte N' g' ∧ Own.FitsB g'
set_option maxRecDepth 65536 in
set_option maxHeartbeats 40000000 in
theorem rm14 (l : Launch) (Z : State) (a0 : Array Value) (hw : ∀ d ∈ tables_1, d.before a0 Z = true) (ws : List Jvm.Cond) (o0 : Nat) (o1 : Nat) (p2 : Int32) (p3 : Int32) (r N ln : Nat) (g : Nat → Int32) (S c_ : Nat) (sf : Nat → Int32) (h0 : Heap) (n0 : Nat) (Z0 : n0 ≤ h0.size) (g0 : n0 ≤ o0) (hor : o0 < r) (hgf : Own.FitsB g) (hlN : ln ≤ N) (hl10 : ln ≤ 10) (hN20 : N ≤ 20) (hS : p2.toInt = S) (hc : p3.toInt = c_) (hSc : S + c_ ≤ 3) (hsf : Own.FitsB sf) (l1 : o1 < o0) (hlc : ln + c_ ≤ 10) (E0 : Exa Z h0 o0 "com/example/edom/edom/mapping/Utf8Output") (F0 : Fld Z h0 o0 "com/example/edom/edom/mapping/Utf8Output" "bytes" "[B" (.ref r)) (F1 : Fld Z h0 o0 "com/example/edom/edom/mapping/Utf8Output" "length" "I" (.int (Int32.ofNat ln))) (A0 : Own.AvI Z h0 r .byte N g) (A1 : Own.AvI Z h0 o1 .byte 3 sf) (E1 : Exa Z h0 o1 "[B") :
    MetFree l (⟨"com/example/edom/edom/mapping/Utf8Output", "write", "([BII)V"⟩ : MethodName) (head1 (Jvm.Cond.code (⟨"com/example/edom/edom/mapping/Utf8Output", "write", "([BII)V"⟩ : MethodName) prog_41_method_3_code 4 none :: ws) ({ frames := 3, cells := 1, slots := 20, locals := 49 } : Room)) (fun a U => a = #[(.ref o0), (.ref o1), (.int p2), (.int p3)] ∧ Z.Warmed39 U.vm ∧ U.heap = h0) (fun _ _ _ _ _ => True) (fun _ U o U' => ∃ v L, o = .returned v ∧ Q14 Z o0 o1 p2 p3 r N ln g S c_ sf h0 n0 v U'.heap L ∧ FrameEnd U o U' L ({ frames := 3, cells := 1, slots := 20, locals := 49 } : Room).cells ({ frames := 3, cells := 1, slots := 20, locals := 49 } : Room).slots) := by
  refine Own.enter (Q := Q14 Z o0 o1 p2 p3 r N ln g S c_ sf h0 n0) (plainFor_of_name pn_3) ?_
  intro p e s m below meth c s₁ D hx hby hml hown hnm hret hZ X0 e0 hD hR
  have N0 := Fr.nil n0
  have K0 : Keep h0 h0 [o0, r] := Keep.refl h0 _
  rw [show entryFrame m #[(.ref o0), (.ref o1), (.int p2), (.int p3)] 4 = mkF m 0 #[.val (.ref o0), .val (.ref o1), .val (.int p2), .val (.int p3)] [] from ef_14 m o0 o1 p2 p3]
  obtain ⟨T1, X1, e1, st1⟩ := getF X0 hx hZ hown (host := "") (Or.inl (hw _ (List.mem_of_getElem? (i := 26) rfl))) Via.refl e0 F1 (g := (mkF m 1 #[.val (.ref o0), .val (.ref o1), .val (.int p2), .val (.int p3)] [(.ref o0)])) rfl rfl (hb hby d14_1)
  refine hD _ (T1.setTop (mkF m 4 #[.val (.ref o0), .val (.ref o1), .val (.int p2), .val (.int p3)] [(.int (Int32.ofNat ln))])) (fun t kt_ => ?_) ?_
  · show Steps p.tables e below (s₁.setTop (mkF m 0 #[.val (.ref o0), .val (.ref o1), .val (.int p2), .val (.int p3)] [])) t
    refine XS.aloadN X0.here hx rfl (hb hby d14_0) rfl rfl ?_
    show Steps p.tables e below (s₁.setTop (mkF m 1 #[.val (.ref o0), .val (.ref o1), .val (.int p2), .val (.int p3)] [(.ref o0)])) t
    refine st1 _ ?_
    show Steps p.tables e below (T1.setTop (mkF m 4 #[.val (.ref o0), .val (.ref o1), .val (.int p2), .val (.int p3)] [(.int (Int32.ofNat ln))])) t
    exact kt_
  by_cases hc2 : (Int32.ofNat ln) = (0 : Int32)
  · obtain ⟨T3, _, L3, X3, ⟨b3, f3, rfl, Nq3, Kq3, gb3, A3, hfit3, hk3⟩, st3⟩ := Own.callS (y := (⟨"java/util/Arrays", "copyOfRange", "([BII)[B"⟩ : MethodName)) (W := 1) (argsL := [(.ref o1), (.int p2), (.int (p2 + p3))]) (rest := [(.ref o0)]) X1 hx hZ hown (hw _ (List.mem_of_getElem? (i := 76) rfl)) (hw _ (List.mem_of_getElem? (i := 77) rfl)) (hw _ (List.mem_of_getElem? (i := 46) rfl)) (hw _ (List.mem_of_getElem? (i := 78) rfl)) (by decide) e1 (rm10 l Z a0 hw [] o1 p2 (p2 + p3) 3 S c_ sf h0 n0 Z0 (by decide) hS (own_add hS hc (by omega)) hSc hsf (by omega) A1 E1) (by decide) (by decide) (by decide) (by decide) (g := (mkF m 13 #[.val (.ref o0), .val (.ref o1), .val (.int p2), .val (.int p3)] [(.int (p2 + p3)), (.int p2), (.ref o1), (.ref o0)])) rfl (by rw [hml]; rfl) (lenOf pd_3 rfl) rfl (by show 2 * 0 + _ ≤ _; exact Nat.le_of_eq rfl) (hb hby d14_13)
    have N3 := Fr.app N0 Nq3
    have lt_o0_b3 : (o0 : Nat) < b3 := Nat.lt_of_lt_of_le E0.lt gb3
    have lt_o1_b3 : (o1 : Nat) < b3 := Nat.lt_of_lt_of_le A1.lt gb3
    have g0_b3 : n0 ≤ b3 := Nat.le_trans Z0 gb3
    have gk_b3 : h0.size ≤ b3 := Nat.le_trans K0.1 gb3
    have f4 : Exa Z T3.heap o0 "com/example/edom/edom/mapping/Utf8Output" := E0.keep Kq3
    have f5 : Fld Z T3.heap o0 "com/example/edom/edom/mapping/Utf8Output" "bytes" "[B" (.ref r) := F0.keep Kq3 nin0
    have f6 : Fld Z T3.heap o0 "com/example/edom/edom/mapping/Utf8Output" "length" "I" (.int (Int32.ofNat ln)) := F1.keep Kq3 nin0
    have f7 : Own.AvI Z T3.heap r .byte N g := A0.keep Kq3 nin0
    have f8 : Own.AvI Z T3.heap o1 .byte 3 sf := A1.keep Kq3 nin0
    have f9 : Exa Z T3.heap o1 "[B" := E1.keep Kq3
    have Z3 : n0 ≤ T3.heap.size := Nat.le_trans Z0 Kq3.1
    have K3 : Keep h0 T3.heap [o0, r] := K0.trans Kq3 all0
    obtain ⟨T10, h10, X10, e10, W10, st10⟩ := putF X3 hx hZ hown (host := "") (Or.inl (hw _ (List.mem_of_getElem? (i := 15) rfl))) Via.refl rfl f5 f4 (Or.inl (hw _ (List.mem_of_getElem? (i := 16) rfl))) (hw _ (List.mem_of_getElem? (i := 2) rfl)) (ty := (.array .byte)) (by decide) rfl rfl (g := (mkF m 16 #[.val (.ref o0), .val (.ref o1), .val (.int p2), .val (.int p3)] [(.ref b3), (.ref o0)])) rfl rfl (hb hby d14_16)
    have f11 : Fld Z h10 o0 "com/example/edom/edom/mapping/Utf8Output" "bytes" "[B" (.ref b3) := f5.same W10
    have f12 : Exa Z h10 o0 "com/example/edom/edom/mapping/Utf8Output" := f4.wr W10
    have f13 : Fld Z h10 o0 "com/example/edom/edom/mapping/Utf8Output" "length" "I" (.int (Int32.ofNat ln)) := f6.other W10 (Or.inr (slot_ne (Or.inl (hw _ (List.mem_of_getElem? (i := 27) rfl))) (Or.inl (hw _ (List.mem_of_getElem? (i := 16) rfl))) (by decide) (t := .int) (t' := (.array .byte)) (by decide) (by decide)))
    have f14 : Own.AvI Z h10 r .byte N g := f7.other W10 (Own.ne_of (by omega))
    have f15 : Own.AvI Z h10 o1 .byte 3 sf := f8.other W10 (Own.ne_of (by omega))
    have f16 : Exa Z h10 o1 "[B" := f9.wr W10
    have f17 : Own.AvI Z h10 b3 .byte c_ f3 := A3.other W10 (Own.ne_of (by omega))
    have N10 := Fr.snoc X10 N3 (show n0 ≤ o0 by omega)
    have Z10 : n0 ≤ h10.size := Nat.le_trans Z3 (Keep.of_wr W10).1
    have K10 : Keep h0 h10 [o0, r] := K3.wr W10 (Or.inl (List.mem_of_getElem? (i := 0) rfl))
    obtain ⟨T18, h18, X18, e18, W18, st18⟩ := putF X10 hx hZ hown (host := "") (Or.inl (hw _ (List.mem_of_getElem? (i := 26) rfl))) Via.refl e10 f13 f12 (Or.inl (hw _ (List.mem_of_getElem? (i := 27) rfl))) (hw _ (List.mem_of_getElem? (i := 2) rfl)) (ty := .int) (by decide) rfl rfl (g := (mkF m 21 #[.val (.ref o0), .val (.ref o1), .val (.int p2), .val (.int p3)] [(.int p3), (.ref o0)])) rfl rfl (hb hby d14_21)
    have f19 : Fld Z h18 o0 "com/example/edom/edom/mapping/Utf8Output" "length" "I" (.int p3) := f13.same W18
    have f20 : Exa Z h18 o0 "com/example/edom/edom/mapping/Utf8Output" := f12.wr W18
    have f21 : Fld Z h18 o0 "com/example/edom/edom/mapping/Utf8Output" "bytes" "[B" (.ref b3) := f11.other W18 (Or.inr (slot_ne (Or.inl (hw _ (List.mem_of_getElem? (i := 16) rfl))) (Or.inl (hw _ (List.mem_of_getElem? (i := 27) rfl))) (by decide) (t := (.array .byte)) (t' := .int) (by decide) (by decide)))
    have f22 : Own.AvI Z h18 r .byte N g := f14.other W18 (Own.ne_of (by omega))
    have f23 : Own.AvI Z h18 o1 .byte 3 sf := f15.other W18 (Own.ne_of (by omega))
    have f24 : Exa Z h18 o1 "[B" := f16.wr W18
    have f25 : Own.AvI Z h18 b3 .byte c_ f3 := f17.other W18 (Own.ne_of (by omega))
    have N18 := Fr.snoc X18 N10 (show n0 ≤ o0 by omega)
    have Z18 : n0 ≤ h18.size := Nat.le_trans Z10 (Keep.of_wr W18).1
    have K18 : Keep h0 h18 [o0, r] := K10.wr W18 (Or.inl (List.mem_of_getElem? (i := 0) rfl))
    refine hD _ (T18.setTop (mkF m 24 #[.val (.ref o0), .val (.ref o1), .val (.int p2), .val (.int p3)] [])) (fun t kt_ => ?_) ?_
    · show Steps p.tables e below (T1.setTop (mkF m 4 #[.val (.ref o0), .val (.ref o1), .val (.int p2), .val (.int p3)] [(.int (Int32.ofNat ln))])) t
      refine XS.ifNo X1.here hx rfl (hb hby d14_4) rfl ((if0 _ _).trans (teq hc2).2) ?_
      show Steps p.tables e below (T1.setTop (mkF m 7 #[.val (.ref o0), .val (.ref o1), .val (.int p2), .val (.int p3)] [])) t
      refine XS.aloadN X1.here hx rfl (hb hby d14_7) rfl rfl ?_
      show Steps p.tables e below (T1.setTop (mkF m 8 #[.val (.ref o0), .val (.ref o1), .val (.int p2), .val (.int p3)] [(.ref o0)])) t
      refine XS.aloadN X1.here hx rfl (hb hby d14_8) rfl rfl ?_
      show Steps p.tables e below (T1.setTop (mkF m 9 #[.val (.ref o0), .val (.ref o1), .val (.int p2), .val (.int p3)] [(.ref o1), (.ref o0)])) t
      refine XS.iloadN X1.here hx rfl (hb hby d14_9) rfl ?_
      show Steps p.tables e below (T1.setTop (mkF m 10 #[.val (.ref o0), .val (.ref o1), .val (.int p2), .val (.int p3)] [(.int p2), (.ref o1), (.ref o0)])) t
      refine XS.iloadN X1.here hx rfl (hb hby d14_10) rfl ?_
      show Steps p.tables e below (T1.setTop (mkF m 11 #[.val (.ref o0), .val (.ref o1), .val (.int p2), .val (.int p3)] [(.int p2), (.int p2), (.ref o1), (.ref o0)])) t
      refine XS.iloadN X1.here hx rfl (hb hby d14_11) rfl ?_
      show Steps p.tables e below (T1.setTop (mkF m 12 #[.val (.ref o0), .val (.ref o1), .val (.int p2), .val (.int p3)] [(.int p3), (.int p2), (.int p2), (.ref o1), (.ref o0)])) t
      refine XS.iadd X1.here hx rfl (hb hby d14_12) rfl ?_
      show Steps p.tables e below (T1.setTop (mkF m 13 #[.val (.ref o0), .val (.ref o1), .val (.int p2), .val (.int p3)] [(.int (p2 + p3)), (.int p2), (.ref o1), (.ref o0)])) t
      refine st3 _ ?_
      show Steps p.tables e below (T3.setTop (mkF m 16 #[.val (.ref o0), .val (.ref o1), .val (.int p2), .val (.int p3)] [(.ref b3), (.ref o0)])) t
      refine st10 _ ?_
      show Steps p.tables e below (T10.setTop (mkF m 19 #[.val (.ref o0), .val (.ref o1), .val (.int p2), .val (.int p3)] [])) t
      refine XS.aloadN X10.here hx rfl (hb hby d14_19) rfl rfl ?_
      show Steps p.tables e below (T10.setTop (mkF m 20 #[.val (.ref o0), .val (.ref o1), .val (.int p2), .val (.int p3)] [(.ref o0)])) t
      refine XS.iloadN X10.here hx rfl (hb hby d14_20) rfl ?_
      show Steps p.tables e below (T10.setTop (mkF m 21 #[.val (.ref o0), .val (.ref o1), .val (.int p2), .val (.int p3)] [(.int p3), (.ref o0)])) t
      refine st18 _ ?_
      show Steps p.tables e below (T18.setTop (mkF m 24 #[.val (.ref o0), .val (.ref o1), .val (.int p2), .val (.int p3)] [])) t
      exact kt_
    have hl0 : ln = 0 := by have q := hc2; rw [own_eq, own_oi (by omega), own_k.1] at q; omega
    exact Own.retV hR X18 hx hret (hb hby d14_24) (by decide) (by decide) (by rw [e18]; exact ⟨rfl, N18, K18, b3, c_, f3, by omega, by omega, by omega, fun i hi => by omega, fun i hi => by rw [hl0, Nat.zero_add]; exact hk3 i hi, f20, f21, (by rw [show Int32.ofNat (ln + c_) = p3 from by rw [own_eq, own_oi (by omega), hc]; omega]; exact f19), f25, hfit3⟩)
  · obtain ⟨T26, _, L26, X26, ⟨rfl, Nq26, Kq26, r26, N26n, g26, hN1_26, hN2_26, hor26, hr26, hk26, E26, Fb26, Fl26, A26, hg26⟩, st26⟩ := Own.callP (y := (⟨"com/example/edom/edom/mapping/Utf8Output", "ensureRoom", "(I)V"⟩ : MethodName)) (W := 0) (argsL := [(.int p3)]) (rest := []) (a := o0) X1 hx hZ hown (hw _ (List.mem_of_getElem? (i := 22) rfl)) (hw _ (List.mem_of_getElem? (i := 23) rfl)) (hw _ (List.mem_of_getElem? (i := 24) rfl)) (hw _ (List.mem_of_getElem? (i := 2) rfl)) (hw _ (List.mem_of_getElem? (i := 3) rfl)) (hw _ (List.mem_of_getElem? (i := 25) rfl)) (by decide) e1 E0 (rm12 l Z a0 hw [] o0 p3 r N ln g c_ h0 n0 Z0 g0 hor hgf hlN hl10 hN20 hc (by omega) hlc E0 F0 F1 A0) (by decide) (by decide) (by decide) (by decide) (g := (mkF m 27 #[.val (.ref o0), .val (.ref o1), .val (.int p2), .val (.int p3)] [(.int p3), (.ref o0)])) rfl (by rw [hml]; rfl) (lenOf pd_6 rfl) rfl (by show 2 * 0 + _ ≤ _; exact Nat.le_of_eq rfl) (hb hby d14_27)
    have N26 := Fr.app N0 Nq26
    have f27 : Own.AvI Z T26.heap o1 .byte 3 sf := A1.keep Kq26 (ninS (Own.ne_of (by omega)) nin0)
    have f28 : Exa Z T26.heap o1 "[B" := E1.keep Kq26
    have Z26 : n0 ≤ T26.heap.size := Nat.le_trans Z0 Kq26.1
    have K26 : Keep h0 T26.heap [o0, r] := K0.trans Kq26 (allS (Or.inl (List.mem_of_getElem? (i := 0) rfl)) all0)
    have mem26 : (r26 : Nat) ∈ [o0, r] ∨ h0.size ≤ r26 := by
      rcases hr26 with q | q
      · exact Or.inl (by rw [q]; exact List.mem_of_getElem? (i := 1) rfl)
      · exact Or.inr q
    obtain ⟨T29, X29, e29, st29⟩ := getF X26 hx hZ hown (host := "") (Or.inl (hw _ (List.mem_of_getElem? (i := 15) rfl))) Via.refl rfl Fb26 (g := (mkF m 33 #[.val (.ref o0), .val (.ref o1), .val (.int p2), .val (.int p3)] [(.ref o0), (.int p2), (.ref o1)])) rfl rfl (hb hby d14_33)
    obtain ⟨T30, X30, e30, st30⟩ := getF X29 hx hZ hown (host := "") (Or.inl (hw _ (List.mem_of_getElem? (i := 26) rfl))) Via.refl e29 Fl26 (g := (mkF m 37 #[.val (.ref o0), .val (.ref o1), .val (.int p2), .val (.int p3)] [(.ref o0), (.ref r26), (.int p2), (.ref o1)])) rfl rfl (hb hby d14_37)
    obtain ⟨T31, h31, L31, X31, e31, N31, Kc31, A31, st31⟩ := Own.copyB X30 hx hZ hown (hw _ (List.mem_of_getElem? (i := 64) rfl)) (hw _ (List.mem_of_getElem? (i := 54) rfl)) (hw _ (List.mem_of_getElem? (i := 52) rfl)) (hw _ (List.mem_of_getElem? (i := 53) rfl)) e30 f27 A26 hsf hg26 (S := S) (D := ln) (M := c_) hS (own_oi (by omega)) hc (by omega) (by omega) N26 (show n0 ≤ r26 by omega) (g := (mkF m 41 #[.val (.ref o0), .val (.ref o1), .val (.int p2), .val (.int p3)] [(.int p3), (.int (Int32.ofNat ln)), (.ref r26), (.int p2), (.ref o1)])) rfl (by rw [hml]; rfl) rfl (hb hby d14_41) (by decide) (W := 0) (by show 2 * 0 + _ ≤ _; exact Nat.le_of_eq rfl) (by decide +kernel)
    have f32 : Own.AvI Z h31 o1 .byte 3 sf := f27.keep Kc31 (ninS (Own.ne_of (by omega)) nin0)
    have f33 : Exa Z h31 o1 "[B" := f28.keep Kc31
    have f34 : Exa Z h31 o0 "com/example/edom/edom/mapping/Utf8Output" := E26.keep Kc31
    have f35 : Fld Z h31 o0 "com/example/edom/edom/mapping/Utf8Output" "bytes" "[B" (.ref r26) := Fb26.keep Kc31 (ninS (Own.ne_of (by omega)) nin0)
    have f36 : Fld Z h31 o0 "com/example/edom/edom/mapping/Utf8Output" "length" "I" (.int (Int32.ofNat ln)) := Fl26.keep Kc31 (ninS (Own.ne_of (by omega)) nin0)
    have Z31 : n0 ≤ h31.size := Nat.le_trans Z26 Kc31.1
    have K31 : Keep h0 h31 [o0, r] := K26.trans Kc31 (allS mem26 all0)
    obtain ⟨T37, X37, e37, st37⟩ := getF X31 hx hZ hown (host := "") (Or.inl (hw _ (List.mem_of_getElem? (i := 26) rfl))) Via.refl e31 f36 (g := (mkF m 46 #[.val (.ref o0), .val (.ref o1), .val (.int p2), .val (.int p3)] [(.ref o0), (.ref o0)])) rfl rfl (hb hby d14_46)
    obtain ⟨T38, h38, X38, e38, W38, st38⟩ := putF X37 hx hZ hown (host := "") (Or.inl (hw _ (List.mem_of_getElem? (i := 26) rfl))) Via.refl e37 f36 f34 (Or.inl (hw _ (List.mem_of_getElem? (i := 27) rfl))) (hw _ (List.mem_of_getElem? (i := 2) rfl)) (ty := .int) (by decide) rfl rfl (g := (mkF m 51 #[.val (.ref o0), .val (.ref o1), .val (.int p2), .val (.int p3)] [(.int ((Int32.ofNat ln) + p3)), (.ref o0)])) rfl rfl (hb hby d14_51)
    have f39 : Fld Z h38 o0 "com/example/edom/edom/mapping/Utf8Output" "length" "I" (.int ((Int32.ofNat ln) + p3)) := f36.same W38
    have f40 : Own.AvI Z h38 o1 .byte 3 sf := f32.other W38 (Own.ne_of (by omega))
    have f41 : Exa Z h38 o1 "[B" := f33.wr W38
    have f42 : Exa Z h38 o0 "com/example/edom/edom/mapping/Utf8Output" := f34.wr W38
    have f43 : Fld Z h38 o0 "com/example/edom/edom/mapping/Utf8Output" "bytes" "[B" (.ref r26) := f35.other W38 (Or.inr (slot_ne (Or.inl (hw _ (List.mem_of_getElem? (i := 16) rfl))) (Or.inl (hw _ (List.mem_of_getElem? (i := 27) rfl))) (by decide) (t := (.array .byte)) (t' := .int) (by decide) (by decide)))
    have f44 : Own.AvI Z h38 r26 .byte N26n (fun ii => if ln ≤ ii ∧ ii < ln + c_ then sf (S + (ii - ln)) else g26 ii) := A31.other W38 (Own.ne_of (by omega))
    have N38 := Fr.snoc X38 N31 (show n0 ≤ o0 by omega)
    have Z38 : n0 ≤ h38.size := Nat.le_trans Z31 (Keep.of_wr W38).1
    have K38 : Keep h0 h38 [o0, r] := K31.wr W38 (Or.inl (List.mem_of_getElem? (i := 0) rfl))
    refine hD _ (T38.setTop (mkF m 54 #[.val (.ref o0), .val (.ref o1), .val (.int p2), .val (.int p3)] [])) (fun t kt_ => ?_) ?_
    · show Steps p.tables e below (T1.setTop (mkF m 4 #[.val (.ref o0), .val (.ref o1), .val (.int p2), .val (.int p3)] [(.int (Int32.ofNat ln))])) t
      refine XS.ifYes X1.here hx rfl (pc0 := 4) (pc' := 25) rfl (hb hby d14_4) rfl ((if0 _ _).trans (feq hc2).2) (by decide) (by decide) ?_
      show Steps p.tables e below (T1.setTop (mkF m 25 #[.val (.ref o0), .val (.ref o1), .val (.int p2), .val (.int p3)] [])) t
      refine XS.aloadN X1.here hx rfl (hb hby d14_25) rfl rfl ?_
      show Steps p.tables e below (T1.setTop (mkF m 26 #[.val (.ref o0), .val (.ref o1), .val (.int p2), .val (.int p3)] [(.ref o0)])) t
      refine XS.iloadN X1.here hx rfl (hb hby d14_26) rfl ?_
      show Steps p.tables e below (T1.setTop (mkF m 27 #[.val (.ref o0), .val (.ref o1), .val (.int p2), .val (.int p3)] [(.int p3), (.ref o0)])) t
      refine st26 _ ?_
      show Steps p.tables e below (T26.setTop (mkF m 30 #[.val (.ref o0), .val (.ref o1), .val (.int p2), .val (.int p3)] [])) t
      refine XS.aloadN X26.here hx rfl (hb hby d14_30) rfl rfl ?_
      show Steps p.tables e below (T26.setTop (mkF m 31 #[.val (.ref o0), .val (.ref o1), .val (.int p2), .val (.int p3)] [(.ref o1)])) t
      refine XS.iloadN X26.here hx rfl (hb hby d14_31) rfl ?_
      show Steps p.tables e below (T26.setTop (mkF m 32 #[.val (.ref o0), .val (.ref o1), .val (.int p2), .val (.int p3)] [(.int p2), (.ref o1)])) t
      refine XS.aloadN X26.here hx rfl (hb hby d14_32) rfl rfl ?_
      show Steps p.tables e below (T26.setTop (mkF m 33 #[.val (.ref o0), .val (.ref o1), .val (.int p2), .val (.int p3)] [(.ref o0), (.int p2), (.ref o1)])) t
      refine st29 _ ?_
      show Steps p.tables e below (T29.setTop (mkF m 36 #[.val (.ref o0), .val (.ref o1), .val (.int p2), .val (.int p3)] [(.ref r26), (.int p2), (.ref o1)])) t
      refine XS.aloadN X29.here hx rfl (hb hby d14_36) rfl rfl ?_
      show Steps p.tables e below (T29.setTop (mkF m 37 #[.val (.ref o0), .val (.ref o1), .val (.int p2), .val (.int p3)] [(.ref o0), (.ref r26), (.int p2), (.ref o1)])) t
      refine st30 _ ?_
      show Steps p.tables e below (T30.setTop (mkF m 40 #[.val (.ref o0), .val (.ref o1), .val (.int p2), .val (.int p3)] [(.int (Int32.ofNat ln)), (.ref r26), (.int p2), (.ref o1)])) t
      refine XS.iloadN X30.here hx rfl (hb hby d14_40) rfl ?_
      show Steps p.tables e below (T30.setTop (mkF m 41 #[.val (.ref o0), .val (.ref o1), .val (.int p2), .val (.int p3)] [(.int p3), (.int (Int32.ofNat ln)), (.ref r26), (.int p2), (.ref o1)])) t
      refine st31 _ ?_
      show Steps p.tables e below (T31.setTop (mkF m 44 #[.val (.ref o0), .val (.ref o1), .val (.int p2), .val (.int p3)] [])) t
      refine XS.aloadN X31.here hx rfl (hb hby d14_44) rfl rfl ?_
      show Steps p.tables e below (T31.setTop (mkF m 45 #[.val (.ref o0), .val (.ref o1), .val (.int p2), .val (.int p3)] [(.ref o0)])) t
      refine XS.dup X31.here hx rfl (hb hby d14_45) rfl rfl ?_
      show Steps p.tables e below (T31.setTop (mkF m 46 #[.val (.ref o0), .val (.ref o1), .val (.int p2), .val (.int p3)] [(.ref o0), (.ref o0)])) t
      refine st37 _ ?_
      show Steps p.tables e below (T37.setTop (mkF m 49 #[.val (.ref o0), .val (.ref o1), .val (.int p2), .val (.int p3)] [(.int (Int32.ofNat ln)), (.ref o0)])) t
      refine XS.iloadN X37.here hx rfl (hb hby d14_49) rfl ?_
      show Steps p.tables e below (T37.setTop (mkF m 50 #[.val (.ref o0), .val (.ref o1), .val (.int p2), .val (.int p3)] [(.int p3), (.int (Int32.ofNat ln)), (.ref o0)])) t
      refine XS.iadd X37.here hx rfl (hb hby d14_50) rfl ?_
      show Steps p.tables e below (T37.setTop (mkF m 51 #[.val (.ref o0), .val (.ref o1), .val (.int p2), .val (.int p3)] [(.int ((Int32.ofNat ln) + p3)), (.ref o0)])) t
      refine st38 _ ?_
      show Steps p.tables e below (T38.setTop (mkF m 54 #[.val (.ref o0), .val (.ref o1), .val (.int p2), .val (.int p3)] [])) t
      exact kt_
    exact Own.retV hR X38 hx hret (hb hby d14_54) (by decide) (by decide) (by rw [e38]; exact ⟨rfl, N38, K38, r26, _, _, hN1_26, hN2_26, hor26, fun i hi => by
        show (if ln ≤ i ∧ i < ln + c_ then _ else g26 i) = g i
        rw [if_neg (by omega)]; exact hk26 i hi, fun i hi => by
        show (if ln ≤ ln + i ∧ ln + i < ln + c_ then sf (S + (ln + i - ln)) else _) = _
        rw [if_pos (by omega), Nat.add_sub_cancel_left], f42, f43, (by rw [show Int32.ofNat (ln + c_) = Int32.ofNat ln + p3 from by rw [own_eq, own_oi (by omega), own_add (own_oi (by omega)) hc (by omega)]]; exact f39), f44, Own.FitsB.cp hsf hg26⟩)
theorem d15_0 : decode prog_41_method_4_code 0 = .ok (.aload_n 0, 1) := by decide +kernel
theorem d15_1 : decode prog_41_method_4_code 1 = .ok (.getfield 17, 3) := by decide +kernel
theorem d15_4 : decode prog_41_method_4_code 4 = .ok (.aload_n 0, 1) := by decide +kernel
theorem d15_5 : decode prog_41_method_4_code 5 = .ok (.getfield 7, 3) := by decide +kernel
theorem d15_8 : decode prog_41_method_4_code 8 = .ok (.arraylength, 1) := by decide +kernel
theorem d15_9 : decode prog_41_method_4_code 9 = .ok (.if_icmp .ne 10, 3) := by decide +kernel
theorem d15_12 : decode prog_41_method_4_code 12 = .ok (.aload_n 0, 1) := by decide +kernel
theorem d15_13 : decode prog_41_method_4_code 13 = .ok (.getfield 7, 3) := by decide +kernel
theorem d15_16 : decode prog_41_method_4_code 16 = .ok (.goto 14, 3) := by decide +kernel
theorem d15_19 : decode prog_41_method_4_code 19 = .ok (.aload_n 0, 1) := by decide +kernel
theorem d15_20 : decode prog_41_method_4_code 20 = .ok (.getfield 7, 3) := by decide +kernel
theorem d15_23 : decode prog_41_method_4_code 23 = .ok (.aload_n 0, 1) := by decide +kernel
theorem d15_24 : decode prog_41_method_4_code 24 = .ok (.getfield 17, 3) := by decide +kernel
theorem d15_27 : decode prog_41_method_4_code 27 = .ok (.invokestatic 33, 3) := by decide +kernel
theorem d15_30 : decode prog_41_method_4_code 30 = .ok (.areturn, 1) := by decide +kernel
theorem ef_15 (m : MethodId) (o0 : Addr) : entryFrame m #[(.ref o0)] 1 = mkF m 0 #[.val (.ref o0)] [] := by first | (simp [entryFrame, mkF, argsToLocals, Value.category]; done) | rfl
def Q15 (Z : State) (o0 : Nat) (r N ln : Nat) (g : Nat → Int32) (h0 : Heap) (n0 : Nat) (v : Option Value) (h : Heap) (L : List Loc) : Prop := ∃ (b : Nat) (f' : Nat → Int32), v = some (.ref b) ∧ Fr n0 L ∧ Keep h0 h [] ∧ Own.AvI Z h b .byte ln f' ∧ ∀ i, i < ln → f' i = g i
set_option maxRecDepth 65536 in
set_option maxHeartbeats 40000000 in
theorem rm15 (l : Launch) (Z : State) (a0 : Array Value) (hw : ∀ d ∈ tables_1, d.before a0 Z = true) (ws : List Jvm.Cond) (o0 : Nat) (r N ln : Nat) (g : Nat → Int32) (h0 : Heap) (n0 : Nat) (Z0 : n0 ≤ h0.size) (g0 : n0 ≤ o0) (hor : o0 < r) (hgf : Own.FitsB g) (hlN : ln ≤ N) (hl10 : ln ≤ 10) (hN20 : N ≤ 20) (E0 : Exa Z h0 o0 "com/example/edom/edom/mapping/Utf8Output") (F0 : Fld Z h0 o0 "com/example/edom/edom/mapping/Utf8Output" "bytes" "[B" (.ref r)) (F1 : Fld Z h0 o0 "com/example/edom/edom/mapping/Utf8Output" "length" "I" (.int (Int32.ofNat ln))) (A0 : Own.AvI Z h0 r .byte N g) :
    MetFree l (⟨"com/example/edom/edom/mapping/Utf8Output", "toByteArray", "()[B"⟩ : MethodName) (head1 (Jvm.Cond.code (⟨"com/example/edom/edom/mapping/Utf8Output", "toByteArray", "()[B"⟩ : MethodName) prog_41_method_4_code 1 (some (.array .byte)) :: ws) ({ frames := 2, cells := 1, slots := 20, locals := 32 } : Room)) (fun a U => a = #[(.ref o0)] ∧ Z.Warmed39 U.vm ∧ U.heap = h0) (fun _ _ _ _ _ => True) (fun _ U o U' => ∃ v L, o = .returned v ∧ Q15 Z o0 r N ln g h0 n0 v U'.heap L ∧ FrameEnd U o U' L ({ frames := 2, cells := 1, slots := 20, locals := 32 } : Room).cells ({ frames := 2, cells := 1, slots := 20, locals := 32 } : Room).slots) := by
  refine Own.enter (Q := Q15 Z o0 r N ln g h0 n0) (plainFor_of_name pn_3) ?_
  intro p e s m below meth c s₁ D hx hby hml hown hnm hret hZ X0 e0 hD hR
  have N0 := Fr.nil n0
  have K0 : Keep h0 h0 [] := Keep.refl h0 _
  rw [show entryFrame m #[(.ref o0)] 1 = mkF m 0 #[.val (.ref o0)] [] from ef_15 m o0]
  obtain ⟨T1, X1, e1, st1⟩ := getF X0 hx hZ hown (host := "") (Or.inl (hw _ (List.mem_of_getElem? (i := 26) rfl))) Via.refl e0 F1 (g := (mkF m 1 #[.val (.ref o0)] [(.ref o0)])) rfl rfl (hb hby d15_1)
  obtain ⟨T2, X2, e2, st2⟩ := getF X1 hx hZ hown (host := "") (Or.inl (hw _ (List.mem_of_getElem? (i := 15) rfl))) Via.refl e1 F0 (g := (mkF m 5 #[.val (.ref o0)] [(.ref o0), (.int (Int32.ofNat ln))])) rfl rfl (hb hby d15_5)
  refine hD _ (T2.setTop (mkF m 9 #[.val (.ref o0)] [(.int (Int32.ofNat N)), (.int (Int32.ofNat ln))])) (fun t kt_ => ?_) ?_
  · show Steps p.tables e below (s₁.setTop (mkF m 0 #[.val (.ref o0)] [])) t
    refine XS.aloadN X0.here hx rfl (hb hby d15_0) rfl rfl ?_
    show Steps p.tables e below (s₁.setTop (mkF m 1 #[.val (.ref o0)] [(.ref o0)])) t
    refine st1 _ ?_
    show Steps p.tables e below (T1.setTop (mkF m 4 #[.val (.ref o0)] [(.int (Int32.ofNat ln))])) t
    refine XS.aloadN X1.here hx rfl (hb hby d15_4) rfl rfl ?_
    show Steps p.tables e below (T1.setTop (mkF m 5 #[.val (.ref o0)] [(.ref o0), (.int (Int32.ofNat ln))])) t
    refine st2 _ ?_
    show Steps p.tables e below (T2.setTop (mkF m 8 #[.val (.ref o0)] [(.ref r), (.int (Int32.ofNat ln))])) t
    refine Own.lenI X2 hx hZ e2 A0 (g := (mkF m 8 #[.val (.ref o0)] [(.ref r), (.int (Int32.ofNat ln))])) rfl rfl (hb hby d15_8) _ ?_
    show Steps p.tables e below (T2.setTop (mkF m 9 #[.val (.ref o0)] [(.int (Int32.ofNat N)), (.int (Int32.ofNat ln))])) t
    exact kt_
  by_cases hc3 : (Int32.ofNat ln) = (Int32.ofNat N)
  · obtain ⟨T4, X4, e4, st4⟩ := getF X2 hx hZ hown (host := "") (Or.inl (hw _ (List.mem_of_getElem? (i := 15) rfl))) Via.refl e2 F0 (g := (mkF m 13 #[.val (.ref o0)] [(.ref o0)])) rfl rfl (hb hby d15_13)
    refine hD _ (T4.setTop (mkF m 30 #[.val (.ref o0)] [(.ref r)])) (fun t kt_ => ?_) ?_
    · show Steps p.tables e below (T2.setTop (mkF m 9 #[.val (.ref o0)] [(.int (Int32.ofNat N)), (.int (Int32.ofNat ln))])) t
      refine XS.icmpNo X2.here hx rfl (hb hby d15_9) rfl (teq hc3).2 ?_
      show Steps p.tables e below (T2.setTop (mkF m 12 #[.val (.ref o0)] [])) t
      refine XS.aloadN X2.here hx rfl (hb hby d15_12) rfl rfl ?_
      show Steps p.tables e below (T2.setTop (mkF m 13 #[.val (.ref o0)] [(.ref o0)])) t
      refine st4 _ ?_
      show Steps p.tables e below (T4.setTop (mkF m 16 #[.val (.ref o0)] [(.ref r)])) t
      refine XS.goto X4.here hx rfl (pc0 := 16) (pc' := 30) rfl (hb hby d15_16) (by decide) (by decide) ?_
      show Steps p.tables e below (T4.setTop (mkF m 30 #[.val (.ref o0)] [(.ref r)])) t
      exact kt_
    have hNl : ln = N := by have q := hc3; rw [own_eq, own_oi (by omega), own_oi (by omega)] at q; omega
    exact Own.retA hR X4 hx rfl hret rfl (hb hby d15_30) (by decide) (by decide) (by rw [e4]; exact ⟨r, g, rfl, N0, K0, by rw [hNl]; exact A0, fun i hi => rfl⟩)
  · obtain ⟨T5, X5, e5, st5⟩ := getF X2 hx hZ hown (host := "") (Or.inl (hw _ (List.mem_of_getElem? (i := 15) rfl))) Via.refl e2 F0 (g := (mkF m 20 #[.val (.ref o0)] [(.ref o0)])) rfl rfl (hb hby d15_20)
    obtain ⟨T6, X6, e6, st6⟩ := getF X5 hx hZ hown (host := "") (Or.inl (hw _ (List.mem_of_getElem? (i := 26) rfl))) Via.refl e5 F1 (g := (mkF m 24 #[.val (.ref o0)] [(.ref o0), (.ref r)])) rfl rfl (hb hby d15_24)
    obtain ⟨T7, _, L7, X7, ⟨b7, f7, rfl, Nq7, Kq7, gb7, A7, hfit7, hk7⟩, st7⟩ := Own.callS (y := (⟨"java/util/Arrays", "copyOf", "([BI)[B"⟩ : MethodName)) (W := 0) (argsL := [(.ref r), (.int (Int32.ofNat ln))]) (rest := []) X6 hx hZ hown (hw _ (List.mem_of_getElem? (i := 44) rfl)) (hw _ (List.mem_of_getElem? (i := 45) rfl)) (hw _ (List.mem_of_getElem? (i := 46) rfl)) (hw _ (List.mem_of_getElem? (i := 47) rfl)) (by decide) e6 (rm8 l Z a0 hw [] r (Int32.ofNat ln) N ln g h0 n0 Z0 hN20 (own_oi (by omega)) (by omega) (by have q := hc3; rw [own_eq, own_oi (by omega), own_oi (by omega)] at q; omega) hgf A0) (by decide) (by decide) (by decide) (by decide) (g := (mkF m 27 #[.val (.ref o0)] [(.int (Int32.ofNat ln)), (.ref r)])) rfl (by rw [hml]; rfl) (lenOf pd_5 rfl) rfl (by show 2 * 0 + _ ≤ _; exact Nat.le_of_eq rfl) (hb hby d15_27)
    have N7 := Fr.app N0 Nq7
    have lt_o0_b7 : (o0 : Nat) < b7 := Nat.lt_of_lt_of_le E0.lt gb7
    have g0_b7 : n0 ≤ b7 := Nat.le_trans Z0 gb7
    have gk_b7 : h0.size ≤ b7 := Nat.le_trans K0.1 gb7
    have f8 : Exa Z T7.heap o0 "com/example/edom/edom/mapping/Utf8Output" := E0.keep Kq7
    have f9 : Fld Z T7.heap o0 "com/example/edom/edom/mapping/Utf8Output" "bytes" "[B" (.ref r) := F0.keep Kq7 nin0
    have f10 : Fld Z T7.heap o0 "com/example/edom/edom/mapping/Utf8Output" "length" "I" (.int (Int32.ofNat ln)) := F1.keep Kq7 nin0
    have f11 : Own.AvI Z T7.heap r .byte N g := A0.keep Kq7 nin0
    have Z7 : n0 ≤ T7.heap.size := Nat.le_trans Z0 Kq7.1
    have K7 : Keep h0 T7.heap [] := K0.trans Kq7 all0
    refine hD _ (T7.setTop (mkF m 30 #[.val (.ref o0)] [(.ref b7)])) (fun t kt_ => ?_) ?_
    · show Steps p.tables e below (T2.setTop (mkF m 9 #[.val (.ref o0)] [(.int (Int32.ofNat N)), (.int (Int32.ofNat ln))])) t
      refine XS.icmpYes X2.here hx rfl (pc0 := 9) (pc' := 19) rfl (hb hby d15_9) rfl (feq hc3).2 (by decide) (by decide) ?_
      show Steps p.tables e below (T2.setTop (mkF m 19 #[.val (.ref o0)] [])) t
      refine XS.aloadN X2.here hx rfl (hb hby d15_19) rfl rfl ?_
      show Steps p.tables e below (T2.setTop (mkF m 20 #[.val (.ref o0)] [(.ref o0)])) t
      refine st5 _ ?_
      show Steps p.tables e below (T5.setTop (mkF m 23 #[.val (.ref o0)] [(.ref r)])) t
      refine XS.aloadN X5.here hx rfl (hb hby d15_23) rfl rfl ?_
      show Steps p.tables e below (T5.setTop (mkF m 24 #[.val (.ref o0)] [(.ref o0), (.ref r)])) t
      refine st6 _ ?_
      show Steps p.tables e below (T6.setTop (mkF m 27 #[.val (.ref o0)] [(.int (Int32.ofNat ln)), (.ref r)])) t
      refine st7 _ ?_
      show Steps p.tables e below (T7.setTop (mkF m 30 #[.val (.ref o0)] [(.ref b7)])) t
      exact kt_
    exact Own.retA hR X7 hx rfl hret rfl (hb hby d15_30) (by decide) (by decide) ⟨b7, _, rfl, N7, K7, A7, fun i hi => hk7 i (by omega) hi⟩
theorem d16_0 : decode method_3_code 0 = .ok (.aload_n 0, 1) := by decide +kernel
theorem d16_1 : decode method_3_code 1 = .ok (.iload_n 1, 1) := by decide +kernel
theorem d16_2 : decode method_3_code 2 = .ok (.iload_n 2, 1) := by decide +kernel
theorem d16_3 : decode method_3_code 3 = .ok (.bastore, 1) := by decide +kernel
theorem d16_4 : decode method_3_code 4 = .ok (.iload_n 1, 1) := by decide +kernel
theorem d16_5 : decode method_3_code 5 = .ok (.iconst 1, 1) := by decide +kernel
theorem d16_6 : decode method_3_code 6 = .ok (.iadd, 1) := by decide +kernel
theorem d16_7 : decode method_3_code 7 = .ok (.ireturn, 1) := by decide +kernel
theorem pn_4 : plainName "com/example/edom/edom/mapping/Utf8OutputToByteArrayPinLaw" = true := by first | (simp [plainName, overriddenIn]; done) | decide +kernel
theorem ef_16 (m : MethodId) (o0 : Addr) (p1 : Int32) (p2 : Int32) : entryFrame m #[(.ref o0), (.int p1), (.int p2)] 3 = mkF m 0 #[.val (.ref o0), .val (.int p1), .val (.int p2)] [] := by first | (simp [entryFrame, mkF, argsToLocals, Value.category]; done) | rfl
def Q16 (Z : State) (o0 : Nat) (p1 : Int32) (p2 : Int32) (k : Nat) (ef : Nat → Int32) (h0 : Heap) (n0 : Nat) (v : Option Value) (h : Heap) (L : List Loc) : Prop := v = some (.int (Int32.ofNat (k + 1))) ∧ Fr n0 L ∧ Keep h0 h [o0] ∧ Own.AvI Z h o0 .byte 10 (fun ii => if ii = k then nar .byte p2 else ef ii)
set_option maxRecDepth 65536 in
set_option maxHeartbeats 40000000 in
theorem rm16 (l : Launch) (Z : State) (a0 : Array Value) (hw : ∀ d ∈ tables_1, d.before a0 Z = true) (ws : List Jvm.Cond) (o0 : Nat) (p1 : Int32) (p2 : Int32) (k : Nat) (ef : Nat → Int32) (h0 : Heap) (n0 : Nat) (Z0 : n0 ≤ h0.size) (g0 : n0 ≤ o0) (hk : p1.toInt = k) (hk10 : k < 10) (A0 : Own.AvI Z h0 o0 .byte 10 ef) :
    MetFree l (⟨"com/example/edom/edom/mapping/Utf8OutputToByteArrayPinLaw", "put", "([BIB)I"⟩ : MethodName) (head1 (Jvm.Cond.code (⟨"com/example/edom/edom/mapping/Utf8OutputToByteArrayPinLaw", "put", "([BIB)I"⟩ : MethodName) method_3_code 3 (some .int) :: ws) ({ frames := 0, cells := 0, slots := 0, locals := 0 } : Room)) (fun a U => a = #[(.ref o0), (.int p1), (.int p2)] ∧ Z.Warmed39 U.vm ∧ U.heap = h0) (fun _ _ _ _ _ => True) (fun _ U o U' => ∃ v L, o = .returned v ∧ Q16 Z o0 p1 p2 k ef h0 n0 v U'.heap L ∧ FrameEnd U o U' L ({ frames := 0, cells := 0, slots := 0, locals := 0 } : Room).cells ({ frames := 0, cells := 0, slots := 0, locals := 0 } : Room).slots) := by
  refine Own.enter (Q := Q16 Z o0 p1 p2 k ef h0 n0) (plainFor_of_name pn_4) ?_
  intro p e s m below meth c s₁ D hx hby hml hown hnm hret hZ X0 e0 hD hR
  have N0 := Fr.nil n0
  have K0 : Keep h0 h0 [o0] := Keep.refl h0 _
  rw [show entryFrame m #[(.ref o0), (.int p1), (.int p2)] 3 = mkF m 0 #[.val (.ref o0), .val (.int p1), .val (.int p2)] [] from ef_16 m o0 p1 p2]
  have hj1 : 0 ≤ p1.toInt ∧ p1.toInt < (10 : Nat) := by omega
  obtain ⟨T2, h2, X2, e2, A2, W2, st2⟩ := Own.stoB X0 hx hZ e0 A0 hj1 (g := (mkF m 3 #[.val (.ref o0), .val (.int p1), .val (.int p2)] [(.int p2), (.int p1), (.ref o0)])) rfl rfl (hb hby d16_3)
  have N2 := Fr.snoc X2 N0 (show n0 ≤ o0 by omega)
  have Z2 : n0 ≤ h2.size := Nat.le_trans Z0 (Keep.of_wr W2).1
  have K2 : Keep h0 h2 [o0] := K0.wr W2 (Or.inl (List.mem_of_getElem? (i := 0) rfl))
  refine hD _ (T2.setTop (mkF m 7 #[.val (.ref o0), .val (.int p1), .val (.int p2)] [(.int (p1 + (1 : Int32)))])) (fun t kt_ => ?_) ?_
  · show Steps p.tables e below (s₁.setTop (mkF m 0 #[.val (.ref o0), .val (.int p1), .val (.int p2)] [])) t
    refine XS.aloadN X0.here hx rfl (hb hby d16_0) rfl rfl ?_
    show Steps p.tables e below (s₁.setTop (mkF m 1 #[.val (.ref o0), .val (.int p1), .val (.int p2)] [(.ref o0)])) t
    refine XS.iloadN X0.here hx rfl (hb hby d16_1) rfl ?_
    show Steps p.tables e below (s₁.setTop (mkF m 2 #[.val (.ref o0), .val (.int p1), .val (.int p2)] [(.int p1), (.ref o0)])) t
    refine XS.iloadN X0.here hx rfl (hb hby d16_2) rfl ?_
    show Steps p.tables e below (s₁.setTop (mkF m 3 #[.val (.ref o0), .val (.int p1), .val (.int p2)] [(.int p2), (.int p1), (.ref o0)])) t
    refine st2 _ ?_
    show Steps p.tables e below (T2.setTop (mkF m 4 #[.val (.ref o0), .val (.int p1), .val (.int p2)] [])) t
    refine XS.iloadN X2.here hx rfl (hb hby d16_4) rfl ?_
    show Steps p.tables e below (T2.setTop (mkF m 5 #[.val (.ref o0), .val (.int p1), .val (.int p2)] [(.int p1)])) t
    refine XS.iconst X2.here hx rfl (hb hby d16_5) ?_
    show Steps p.tables e below (T2.setTop (mkF m 6 #[.val (.ref o0), .val (.int p1), .val (.int p2)] [(.int (1 : Int32)), (.int p1)])) t
    refine XS.iadd X2.here hx rfl (hb hby d16_6) rfl ?_
    show Steps p.tables e below (T2.setTop (mkF m 7 #[.val (.ref o0), .val (.int p1), .val (.int p2)] [(.int (p1 + (1 : Int32)))])) t
    exact kt_
  exact Own.retI hR X2 hx hret (hb hby d16_7) (by decide) (by decide) (by rw [e2]; exact ⟨by rw [show p1 + 1 = Int32.ofNat (k + 1) from by rw [own_eq, own_oi (by omega), own_add hk (b := 1) (by decide) (by omega)]], N2, K2, by rw [show k = p1.toInt.toNat by omega]; exact A2⟩)
theorem d17_0 : decode method_4_code 0 = .ok (.iload_n 1, 1) := by decide +kernel
theorem d17_1 : decode method_4_code 1 = .ok (.istore 5, 2) := by decide +kernel
theorem d17_3 : decode method_4_code 3 = .ok (.iload 4, 2) := by decide +kernel
theorem d17_5 : decode method_4_code 5 = .ok (.ifCond .le 14, 3) := by decide +kernel
theorem d17_8 : decode method_4_code 8 = .ok (.aload_n 0, 1) := by decide +kernel
theorem d17_9 : decode method_4_code 9 = .ok (.iload 5, 2) := by decide +kernel
theorem d17_11 : decode method_4_code 11 = .ok (.aload_n 2, 1) := by decide +kernel
theorem d17_12 : decode method_4_code 12 = .ok (.iload_n 3, 1) := by decide +kernel
theorem d17_13 : decode method_4_code 13 = .ok (.baload, 1) := by decide +kernel
theorem d17_14 : decode method_4_code 14 = .ok (.invokestatic 14, 3) := by decide +kernel
theorem d17_17 : decode method_4_code 17 = .ok (.istore 5, 2) := by decide +kernel
theorem d17_19 : decode method_4_code 19 = .ok (.iload 4, 2) := by decide +kernel
theorem d17_21 : decode method_4_code 21 = .ok (.iconst 1, 1) := by decide +kernel
theorem d17_22 : decode method_4_code 22 = .ok (.if_icmp .le 16, 3) := by decide +kernel
theorem d17_25 : decode method_4_code 25 = .ok (.aload_n 0, 1) := by decide +kernel
theorem d17_26 : decode method_4_code 26 = .ok (.iload 5, 2) := by decide +kernel
theorem d17_28 : decode method_4_code 28 = .ok (.aload_n 2, 1) := by decide +kernel
theorem d17_29 : decode method_4_code 29 = .ok (.iload_n 3, 1) := by decide +kernel
theorem d17_30 : decode method_4_code 30 = .ok (.iconst 1, 1) := by decide +kernel
theorem d17_31 : decode method_4_code 31 = .ok (.iadd, 1) := by decide +kernel
theorem d17_32 : decode method_4_code 32 = .ok (.baload, 1) := by decide +kernel
theorem d17_33 : decode method_4_code 33 = .ok (.invokestatic 14, 3) := by decide +kernel
theorem d17_36 : decode method_4_code 36 = .ok (.istore 5, 2) := by decide +kernel
theorem d17_38 : decode method_4_code 38 = .ok (.iload 4, 2) := by decide +kernel
theorem d17_40 : decode method_4_code 40 = .ok (.iconst 2, 1) := by decide +kernel
theorem d17_41 : decode method_4_code 41 = .ok (.if_icmp .le 16, 3) := by decide +kernel
theorem d17_44 : decode method_4_code 44 = .ok (.aload_n 0, 1) := by decide +kernel
theorem d17_45 : decode method_4_code 45 = .ok (.iload 5, 2) := by decide +kernel
theorem d17_47 : decode method_4_code 47 = .ok (.aload_n 2, 1) := by decide +kernel
theorem d17_48 : decode method_4_code 48 = .ok (.iload_n 3, 1) := by decide +kernel
theorem d17_49 : decode method_4_code 49 = .ok (.iconst 2, 1) := by decide +kernel
theorem d17_50 : decode method_4_code 50 = .ok (.iadd, 1) := by decide +kernel
theorem d17_51 : decode method_4_code 51 = .ok (.baload, 1) := by decide +kernel
theorem d17_52 : decode method_4_code 52 = .ok (.invokestatic 14, 3) := by decide +kernel
theorem d17_55 : decode method_4_code 55 = .ok (.istore 5, 2) := by decide +kernel
theorem d17_57 : decode method_4_code 57 = .ok (.iload 5, 2) := by decide +kernel
theorem d17_59 : decode method_4_code 59 = .ok (.ireturn, 1) := by decide +kernel
theorem pd_7 : parseMethodDescriptor "([BIB)I" = some ⟨[(.array .byte), .int, .byte], some .int⟩ := by decide +kernel
theorem ef_17 (m : MethodId) (o0 : Addr) (p1 : Int32) (o2 : Addr) (p3 : Int32) (p4 : Int32) : entryFrame m #[(.ref o0), (.int p1), (.ref o2), (.int p3), (.int p4)] 6 = mkF m 0 #[.val (.ref o0), .val (.int p1), .val (.ref o2), .val (.int p3), .val (.int p4), .unset] [] := by first | (simp [entryFrame, mkF, argsToLocals, Value.category]; done) | rfl
def Q17 (Z : State) (o0 : Nat) (p1 : Int32) (o2 : Nat) (p3 : Int32) (p4 : Int32) (k S c_ : Nat) (ef sf : Nat → Int32) (h0 : Heap) (n0 : Nat) (v : Option Value) (h : Heap) (L : List Loc) : Prop := v = some (.int (Int32.ofNat (k + c_))) ∧ Fr n0 L ∧ Keep h0 h [o0] ∧ Own.AvI Z h o0 .byte 10 (own_rng ef sf k S c_)
set_option maxRecDepth 65536 in
set_option maxHeartbeats 40000000 in
theorem rm17 (l : Launch) (Z : State) (a0 : Array Value) (hw : ∀ d ∈ tables_1, d.before a0 Z = true) (ws : List Jvm.Cond) (o0 : Nat) (p1 : Int32) (o2 : Nat) (p3 : Int32) (p4 : Int32) (k S c_ : Nat) (ef sf : Nat → Int32) (h0 : Heap) (n0 : Nat) (Z0 : n0 ≤ h0.size) (g0 : n0 ≤ o0) (l2 : o2 < o0) (hk : p1.toInt = k) (hS : p3.toInt = S) (hc : p4.toInt = c_) (hSc : S + c_ ≤ 3) (hkc : k + c_ ≤ 10) (hsf : Own.FitsB sf) (A0 : Own.AvI Z h0 o0 .byte 10 ef) (A2 : Own.AvI Z h0 o2 .byte 3 sf) :
    MetFree l (⟨"com/example/edom/edom/mapping/Utf8OutputToByteArrayPinLaw", "putRange", "([BI[BII)I"⟩ : MethodName) (head1 (Jvm.Cond.code (⟨"com/example/edom/edom/mapping/Utf8OutputToByteArrayPinLaw", "putRange", "([BI[BII)I"⟩ : MethodName) method_4_code 6 (some .int) :: ws) ({ frames := 1, cells := 0, slots := 0, locals := 14 } : Room)) (fun a U => a = #[(.ref o0), (.int p1), (.ref o2), (.int p3), (.int p4)] ∧ Z.Warmed39 U.vm ∧ U.heap = h0) (fun _ _ _ _ _ => True) (fun _ U o U' => ∃ v L, o = .returned v ∧ Q17 Z o0 p1 o2 p3 p4 k S c_ ef sf h0 n0 v U'.heap L ∧ FrameEnd U o U' L ({ frames := 1, cells := 0, slots := 0, locals := 14 } : Room).cells ({ frames := 1, cells := 0, slots := 0, locals := 14 } : Room).slots) := by
  refine Own.enter (Q := Q17 Z o0 p1 o2 p3 p4 k S c_ ef sf h0 n0) (plainFor_of_name pn_4) ?_
  intro p e s m below meth c s₁ D hx hby hml hown hnm hret hZ X0 e0 hD hR
  have N0 := Fr.nil n0
  have K0 : Keep h0 h0 [o0] := Keep.refl h0 _
  rw [show entryFrame m #[(.ref o0), (.int p1), (.ref o2), (.int p3), (.int p4)] 6 = mkF m 0 #[.val (.ref o0), .val (.int p1), .val (.ref o2), .val (.int p3), .val (.int p4), .unset] [] from ef_17 m o0 p1 o2 p3 p4]
  refine hD _ (s₁.setTop (mkF m 5 #[.val (.ref o0), .val (.int p1), .val (.ref o2), .val (.int p3), .val (.int p4), .val (.int p1)] [(.int p4)])) (fun t kt_ => ?_) ?_
  · show Steps p.tables e below (s₁.setTop (mkF m 0 #[.val (.ref o0), .val (.int p1), .val (.ref o2), .val (.int p3), .val (.int p4), .unset] [])) t
    refine XS.iloadN X0.here hx rfl (hb hby d17_0) rfl ?_
    show Steps p.tables e below (s₁.setTop (mkF m 1 #[.val (.ref o0), .val (.int p1), .val (.ref o2), .val (.int p3), .val (.int p4), .unset] [(.int p1)])) t
    refine XS.istore X0.here hx rfl (hb hby d17_1) rfl (l' := #[.val (.ref o0), .val (.int p1), .val (.ref o2), .val (.int p3), .val (.int p4), .val (.int p1)]) rfl ?_
    show Steps p.tables e below (s₁.setTop (mkF m 3 #[.val (.ref o0), .val (.int p1), .val (.ref o2), .val (.int p3), .val (.int p4), .val (.int p1)] [])) t
    refine XS.iload X0.here hx rfl (hb hby d17_3) rfl ?_
    show Steps p.tables e below (s₁.setTop (mkF m 5 #[.val (.ref o0), .val (.int p1), .val (.ref o2), .val (.int p3), .val (.int p4), .val (.int p1)] [(.int p4)])) t
    exact kt_
  by_cases hc1 : (0 : Int32) < p4
  · have hj2 : 0 ≤ p3.toInt ∧ p3.toInt < (3 : Nat) := by
      have kk := own_k
      have z5 := hc1
      rw [own_lt] at z5
      omega
    have kk := own_k
    have zz5 := hc1
    rw [own_lt] at zz5
    obtain ⟨T3, _, L3, X3, ⟨rfl, Nq3, Kq3, A3⟩, st3⟩ := Own.callS (y := (⟨"com/example/edom/edom/mapping/Utf8OutputToByteArrayPinLaw", "put", "([BIB)I"⟩ : MethodName)) (W := 0) (argsL := [(.ref o0), (.int p1), (.int (sf p3.toInt.toNat))]) (rest := []) X0 hx hZ hown (hw _ (List.mem_of_getElem? (i := 55) rfl)) (hw _ (List.mem_of_getElem? (i := 56) rfl)) (hw _ (List.mem_of_getElem? (i := 57) rfl)) (hw _ (List.mem_of_getElem? (i := 58) rfl)) (by decide) e0 (rm16 l Z a0 hw [] o0 p1 (sf p3.toInt.toNat) k ef h0 n0 Z0 g0 hk (by omega) A0) (by decide) (by decide) (by decide) (by decide) (g := (mkF m 14 #[.val (.ref o0), .val (.int p1), .val (.ref o2), .val (.int p3), .val (.int p4), .val (.int p1)] [(.int (sf p3.toInt.toNat)), (.int p1), (.ref o0)])) rfl (by rw [hml]; rfl) (lenOf pd_7 rfl) rfl (by show 2 * 0 + _ ≤ _; exact Nat.le_of_eq rfl) (hb hby d17_14)
    have N3 := Fr.app N0 Nq3
    have f4 : Own.AvI Z T3.heap o2 .byte 3 sf := A2.keep Kq3 (ninS (Own.ne_of (by omega)) nin0)
    have Z3 : n0 ≤ T3.heap.size := Nat.le_trans Z0 Kq3.1
    have K3 : Keep h0 T3.heap [o0] := K0.trans Kq3 (allS (Or.inl (List.mem_of_getElem? (i := 0) rfl)) all0)
    refine hD _ (T3.setTop (mkF m 22 #[.val (.ref o0), .val (.int p1), .val (.ref o2), .val (.int p3), .val (.int p4), .val (.int (Int32.ofNat (k + 1)))] [(.int (1 : Int32)), (.int p4)])) (fun t kt_ => ?_) ?_
    · show Steps p.tables e below (s₁.setTop (mkF m 5 #[.val (.ref o0), .val (.int p1), .val (.ref o2), .val (.int p3), .val (.int p4), .val (.int p1)] [(.int p4)])) t
      refine XS.ifNo X0.here hx rfl (hb hby d17_5) rfl ((if0 _ _).trans (tlt hc1).2.2.2) ?_
      show Steps p.tables e below (s₁.setTop (mkF m 8 #[.val (.ref o0), .val (.int p1), .val (.ref o2), .val (.int p3), .val (.int p4), .val (.int p1)] [])) t
      refine XS.aloadN X0.here hx rfl (hb hby d17_8) rfl rfl ?_
      show Steps p.tables e below (s₁.setTop (mkF m 9 #[.val (.ref o0), .val (.int p1), .val (.ref o2), .val (.int p3), .val (.int p4), .val (.int p1)] [(.ref o0)])) t
      refine XS.iload X0.here hx rfl (hb hby d17_9) rfl ?_
      show Steps p.tables e below (s₁.setTop (mkF m 11 #[.val (.ref o0), .val (.int p1), .val (.ref o2), .val (.int p3), .val (.int p4), .val (.int p1)] [(.int p1), (.ref o0)])) t
      refine XS.aloadN X0.here hx rfl (hb hby d17_11) rfl rfl ?_
      show Steps p.tables e below (s₁.setTop (mkF m 12 #[.val (.ref o0), .val (.int p1), .val (.ref o2), .val (.int p3), .val (.int p4), .val (.int p1)] [(.ref o2), (.int p1), (.ref o0)])) t
      refine XS.iloadN X0.here hx rfl (hb hby d17_12) rfl ?_
      show Steps p.tables e below (s₁.setTop (mkF m 13 #[.val (.ref o0), .val (.int p1), .val (.ref o2), .val (.int p3), .val (.int p4), .val (.int p1)] [(.int p3), (.ref o2), (.int p1), (.ref o0)])) t
      refine Own.ldB X0 hx hZ e0 A2 hj2 (g := (mkF m 13 #[.val (.ref o0), .val (.int p1), .val (.ref o2), .val (.int p3), .val (.int p4), .val (.int p1)] [(.int p3), (.ref o2), (.int p1), (.ref o0)])) rfl rfl (hb hby d17_13) _ ?_
      show Steps p.tables e below (s₁.setTop (mkF m 14 #[.val (.ref o0), .val (.int p1), .val (.ref o2), .val (.int p3), .val (.int p4), .val (.int p1)] [(.int (sf p3.toInt.toNat)), (.int p1), (.ref o0)])) t
      refine st3 _ ?_
      show Steps p.tables e below (T3.setTop (mkF m 17 #[.val (.ref o0), .val (.int p1), .val (.ref o2), .val (.int p3), .val (.int p4), .val (.int p1)] [(.int (Int32.ofNat (k + 1)))])) t
      refine XS.istore X3.here hx rfl (hb hby d17_17) rfl (l' := #[.val (.ref o0), .val (.int p1), .val (.ref o2), .val (.int p3), .val (.int p4), .val (.int (Int32.ofNat (k + 1)))]) rfl ?_
      show Steps p.tables e below (T3.setTop (mkF m 19 #[.val (.ref o0), .val (.int p1), .val (.ref o2), .val (.int p3), .val (.int p4), .val (.int (Int32.ofNat (k + 1)))] [])) t
      refine XS.iload X3.here hx rfl (hb hby d17_19) rfl ?_
      show Steps p.tables e below (T3.setTop (mkF m 21 #[.val (.ref o0), .val (.int p1), .val (.ref o2), .val (.int p3), .val (.int p4), .val (.int (Int32.ofNat (k + 1)))] [(.int p4)])) t
      refine XS.iconst X3.here hx rfl (hb hby d17_21) ?_
      show Steps p.tables e below (T3.setTop (mkF m 22 #[.val (.ref o0), .val (.int p1), .val (.ref o2), .val (.int p3), .val (.int p4), .val (.int (Int32.ofNat (k + 1)))] [(.int (1 : Int32)), (.int p4)])) t
      exact kt_
    by_cases hc5 : (1 : Int32) < p4
    · have hj6 : 0 ≤ (p3 + (1 : Int32)).toInt ∧ (p3 + (1 : Int32)).toInt < (3 : Nat) := by
        have kk := own_k
        have z5 := hc1
        rw [own_lt] at z5
        have z22 := hc5
        rw [own_lt] at z22
        rw [own_add hS (b := 1) (by decide) (by omega)]
        omega
      have kk := own_k
      have zz22 := hc5
      rw [own_lt] at zz22
      obtain ⟨T7, _, L7, X7, ⟨rfl, Nq7, Kq7, A7⟩, st7⟩ := Own.callS (y := (⟨"com/example/edom/edom/mapping/Utf8OutputToByteArrayPinLaw", "put", "([BIB)I"⟩ : MethodName)) (W := 0) (argsL := [(.ref o0), (.int (Int32.ofNat (k + 1))), (.int (sf (p3 + (1 : Int32)).toInt.toNat))]) (rest := []) X3 hx hZ hown (hw _ (List.mem_of_getElem? (i := 55) rfl)) (hw _ (List.mem_of_getElem? (i := 56) rfl)) (hw _ (List.mem_of_getElem? (i := 57) rfl)) (hw _ (List.mem_of_getElem? (i := 58) rfl)) (by decide) rfl (rm16 l Z a0 hw [] o0 (Int32.ofNat (k + 1)) (sf (p3 + (1 : Int32)).toInt.toNat) (k + 1) (fun ii => if ii = k then nar .byte (sf p3.toInt.toNat) else ef ii) T3.heap n0 Z3 g0 (own_oi (by omega)) (by omega) A3) (by decide) (by decide) (by decide) (by decide) (g := (mkF m 33 #[.val (.ref o0), .val (.int p1), .val (.ref o2), .val (.int p3), .val (.int p4), .val (.int (Int32.ofNat (k + 1)))] [(.int (sf (p3 + (1 : Int32)).toInt.toNat)), (.int (Int32.ofNat (k + 1))), (.ref o0)])) rfl (by rw [hml]; rfl) (lenOf pd_7 rfl) rfl (by show 2 * 0 + _ ≤ _; exact Nat.le_of_eq rfl) (hb hby d17_33)
      have N7 := Fr.app N3 Nq7
      have f8 : Own.AvI Z T7.heap o2 .byte 3 sf := f4.keep Kq7 (ninS (Own.ne_of (by omega)) nin0)
      have Z7 : n0 ≤ T7.heap.size := Nat.le_trans Z3 Kq7.1
      have K7 : Keep h0 T7.heap [o0] := K3.trans Kq7 (allS (Or.inl (List.mem_of_getElem? (i := 0) rfl)) all0)
      refine hD _ (T7.setTop (mkF m 41 #[.val (.ref o0), .val (.int p1), .val (.ref o2), .val (.int p3), .val (.int p4), .val (.int (Int32.ofNat ((k + 1) + 1)))] [(.int (2 : Int32)), (.int p4)])) (fun t kt_ => ?_) ?_
      · show Steps p.tables e below (T3.setTop (mkF m 22 #[.val (.ref o0), .val (.int p1), .val (.ref o2), .val (.int p3), .val (.int p4), .val (.int (Int32.ofNat (k + 1)))] [(.int (1 : Int32)), (.int p4)])) t
        refine XS.icmpNo X3.here hx rfl (hb hby d17_22) rfl (tlt hc5).2.2.2 ?_
        show Steps p.tables e below (T3.setTop (mkF m 25 #[.val (.ref o0), .val (.int p1), .val (.ref o2), .val (.int p3), .val (.int p4), .val (.int (Int32.ofNat (k + 1)))] [])) t
        refine XS.aloadN X3.here hx rfl (hb hby d17_25) rfl rfl ?_
        show Steps p.tables e below (T3.setTop (mkF m 26 #[.val (.ref o0), .val (.int p1), .val (.ref o2), .val (.int p3), .val (.int p4), .val (.int (Int32.ofNat (k + 1)))] [(.ref o0)])) t
        refine XS.iload X3.here hx rfl (hb hby d17_26) rfl ?_
        show Steps p.tables e below (T3.setTop (mkF m 28 #[.val (.ref o0), .val (.int p1), .val (.ref o2), .val (.int p3), .val (.int p4), .val (.int (Int32.ofNat (k + 1)))] [(.int (Int32.ofNat (k + 1))), (.ref o0)])) t
        refine XS.aloadN X3.here hx rfl (hb hby d17_28) rfl rfl ?_
        show Steps p.tables e below (T3.setTop (mkF m 29 #[.val (.ref o0), .val (.int p1), .val (.ref o2), .val (.int p3), .val (.int p4), .val (.int (Int32.ofNat (k + 1)))] [(.ref o2), (.int (Int32.ofNat (k + 1))), (.ref o0)])) t
        refine XS.iloadN X3.here hx rfl (hb hby d17_29) rfl ?_
        show Steps p.tables e below (T3.setTop (mkF m 30 #[.val (.ref o0), .val (.int p1), .val (.ref o2), .val (.int p3), .val (.int p4), .val (.int (Int32.ofNat (k + 1)))] [(.int p3), (.ref o2), (.int (Int32.ofNat (k + 1))), (.ref o0)])) t
        refine XS.iconst X3.here hx rfl (hb hby d17_30) ?_
        show Steps p.tables e below (T3.setTop (mkF m 31 #[.val (.ref o0), .val (.int p1), .val (.ref o2), .val (.int p3), .val (.int p4), .val (.int (Int32.ofNat (k + 1)))] [(.int (1 : Int32)), (.int p3), (.ref o2), (.int (Int32.ofNat (k + 1))), (.ref o0)])) t
        refine XS.iadd X3.here hx rfl (hb hby d17_31) rfl ?_
        show Steps p.tables e below (T3.setTop (mkF m 32 #[.val (.ref o0), .val (.int p1), .val (.ref o2), .val (.int p3), .val (.int p4), .val (.int (Int32.ofNat (k + 1)))] [(.int (p3 + (1 : Int32))), (.ref o2), (.int (Int32.ofNat (k + 1))), (.ref o0)])) t
        refine Own.ldB X3 hx hZ rfl f4 hj6 (g := (mkF m 32 #[.val (.ref o0), .val (.int p1), .val (.ref o2), .val (.int p3), .val (.int p4), .val (.int (Int32.ofNat (k + 1)))] [(.int (p3 + (1 : Int32))), (.ref o2), (.int (Int32.ofNat (k + 1))), (.ref o0)])) rfl rfl (hb hby d17_32) _ ?_
        show Steps p.tables e below (T3.setTop (mkF m 33 #[.val (.ref o0), .val (.int p1), .val (.ref o2), .val (.int p3), .val (.int p4), .val (.int (Int32.ofNat (k + 1)))] [(.int (sf (p3 + (1 : Int32)).toInt.toNat)), (.int (Int32.ofNat (k + 1))), (.ref o0)])) t
        refine st7 _ ?_
        show Steps p.tables e below (T7.setTop (mkF m 36 #[.val (.ref o0), .val (.int p1), .val (.ref o2), .val (.int p3), .val (.int p4), .val (.int (Int32.ofNat (k + 1)))] [(.int (Int32.ofNat ((k + 1) + 1)))])) t
        refine XS.istore X7.here hx rfl (hb hby d17_36) rfl (l' := #[.val (.ref o0), .val (.int p1), .val (.ref o2), .val (.int p3), .val (.int p4), .val (.int (Int32.ofNat ((k + 1) + 1)))]) rfl ?_
        show Steps p.tables e below (T7.setTop (mkF m 38 #[.val (.ref o0), .val (.int p1), .val (.ref o2), .val (.int p3), .val (.int p4), .val (.int (Int32.ofNat ((k + 1) + 1)))] [])) t
        refine XS.iload X7.here hx rfl (hb hby d17_38) rfl ?_
        show Steps p.tables e below (T7.setTop (mkF m 40 #[.val (.ref o0), .val (.int p1), .val (.ref o2), .val (.int p3), .val (.int p4), .val (.int (Int32.ofNat ((k + 1) + 1)))] [(.int p4)])) t
        refine XS.iconst X7.here hx rfl (hb hby d17_40) ?_
        show Steps p.tables e below (T7.setTop (mkF m 41 #[.val (.ref o0), .val (.int p1), .val (.ref o2), .val (.int p3), .val (.int p4), .val (.int (Int32.ofNat ((k + 1) + 1)))] [(.int (2 : Int32)), (.int p4)])) t
        exact kt_
      by_cases hc9 : (2 : Int32) < p4
      · have hj10 : 0 ≤ (p3 + (2 : Int32)).toInt ∧ (p3 + (2 : Int32)).toInt < (3 : Nat) := by
          have kk := own_k
          have z5 := hc1
          rw [own_lt] at z5
          have z22 := hc5
          rw [own_lt] at z22
          have z41 := hc9
          rw [own_lt] at z41
          rw [own_add hS (b := 2) (by decide) (by omega)]
          omega
        have kk := own_k
        have zz41 := hc9
        rw [own_lt] at zz41
        obtain ⟨T11, _, L11, X11, ⟨rfl, Nq11, Kq11, A11⟩, st11⟩ := Own.callS (y := (⟨"com/example/edom/edom/mapping/Utf8OutputToByteArrayPinLaw", "put", "([BIB)I"⟩ : MethodName)) (W := 0) (argsL := [(.ref o0), (.int (Int32.ofNat ((k + 1) + 1))), (.int (sf (p3 + (2 : Int32)).toInt.toNat))]) (rest := []) X7 hx hZ hown (hw _ (List.mem_of_getElem? (i := 55) rfl)) (hw _ (List.mem_of_getElem? (i := 56) rfl)) (hw _ (List.mem_of_getElem? (i := 57) rfl)) (hw _ (List.mem_of_getElem? (i := 58) rfl)) (by decide) rfl (rm16 l Z a0 hw [] o0 (Int32.ofNat ((k + 1) + 1)) (sf (p3 + (2 : Int32)).toInt.toNat) ((k + 1) + 1) (fun ii => if ii = (k + 1) then nar .byte (sf (p3 + (1 : Int32)).toInt.toNat) else (fun ii => if ii = k then nar .byte (sf p3.toInt.toNat) else ef ii) ii) T7.heap n0 Z7 g0 (own_oi (by omega)) (by omega) A7) (by decide) (by decide) (by decide) (by decide) (g := (mkF m 52 #[.val (.ref o0), .val (.int p1), .val (.ref o2), .val (.int p3), .val (.int p4), .val (.int (Int32.ofNat ((k + 1) + 1)))] [(.int (sf (p3 + (2 : Int32)).toInt.toNat)), (.int (Int32.ofNat ((k + 1) + 1))), (.ref o0)])) rfl (by rw [hml]; rfl) (lenOf pd_7 rfl) rfl (by show 2 * 0 + _ ≤ _; exact Nat.le_of_eq rfl) (hb hby d17_52)
        have N11 := Fr.app N7 Nq11
        have f12 : Own.AvI Z T11.heap o2 .byte 3 sf := f8.keep Kq11 (ninS (Own.ne_of (by omega)) nin0)
        have Z11 : n0 ≤ T11.heap.size := Nat.le_trans Z7 Kq11.1
        have K11 : Keep h0 T11.heap [o0] := K7.trans Kq11 (allS (Or.inl (List.mem_of_getElem? (i := 0) rfl)) all0)
        refine hD _ (T11.setTop (mkF m 59 #[.val (.ref o0), .val (.int p1), .val (.ref o2), .val (.int p3), .val (.int p4), .val (.int (Int32.ofNat (((k + 1) + 1) + 1)))] [(.int (Int32.ofNat (((k + 1) + 1) + 1)))])) (fun t kt_ => ?_) ?_
        · show Steps p.tables e below (T7.setTop (mkF m 41 #[.val (.ref o0), .val (.int p1), .val (.ref o2), .val (.int p3), .val (.int p4), .val (.int (Int32.ofNat ((k + 1) + 1)))] [(.int (2 : Int32)), (.int p4)])) t
          refine XS.icmpNo X7.here hx rfl (hb hby d17_41) rfl (tlt hc9).2.2.2 ?_
          show Steps p.tables e below (T7.setTop (mkF m 44 #[.val (.ref o0), .val (.int p1), .val (.ref o2), .val (.int p3), .val (.int p4), .val (.int (Int32.ofNat ((k + 1) + 1)))] [])) t
          refine XS.aloadN X7.here hx rfl (hb hby d17_44) rfl rfl ?_
          show Steps p.tables e below (T7.setTop (mkF m 45 #[.val (.ref o0), .val (.int p1), .val (.ref o2), .val (.int p3), .val (.int p4), .val (.int (Int32.ofNat ((k + 1) + 1)))] [(.ref o0)])) t
          refine XS.iload X7.here hx rfl (hb hby d17_45) rfl ?_
          show Steps p.tables e below (T7.setTop (mkF m 47 #[.val (.ref o0), .val (.int p1), .val (.ref o2), .val (.int p3), .val (.int p4), .val (.int (Int32.ofNat ((k + 1) + 1)))] [(.int (Int32.ofNat ((k + 1) + 1))), (.ref o0)])) t
          refine XS.aloadN X7.here hx rfl (hb hby d17_47) rfl rfl ?_
          show Steps p.tables e below (T7.setTop (mkF m 48 #[.val (.ref o0), .val (.int p1), .val (.ref o2), .val (.int p3), .val (.int p4), .val (.int (Int32.ofNat ((k + 1) + 1)))] [(.ref o2), (.int (Int32.ofNat ((k + 1) + 1))), (.ref o0)])) t
          refine XS.iloadN X7.here hx rfl (hb hby d17_48) rfl ?_
          show Steps p.tables e below (T7.setTop (mkF m 49 #[.val (.ref o0), .val (.int p1), .val (.ref o2), .val (.int p3), .val (.int p4), .val (.int (Int32.ofNat ((k + 1) + 1)))] [(.int p3), (.ref o2), (.int (Int32.ofNat ((k + 1) + 1))), (.ref o0)])) t
          refine XS.iconst X7.here hx rfl (hb hby d17_49) ?_
          show Steps p.tables e below (T7.setTop (mkF m 50 #[.val (.ref o0), .val (.int p1), .val (.ref o2), .val (.int p3), .val (.int p4), .val (.int (Int32.ofNat ((k + 1) + 1)))] [(.int (2 : Int32)), (.int p3), (.ref o2), (.int (Int32.ofNat ((k + 1) + 1))), (.ref o0)])) t
          refine XS.iadd X7.here hx rfl (hb hby d17_50) rfl ?_
          show Steps p.tables e below (T7.setTop (mkF m 51 #[.val (.ref o0), .val (.int p1), .val (.ref o2), .val (.int p3), .val (.int p4), .val (.int (Int32.ofNat ((k + 1) + 1)))] [(.int (p3 + (2 : Int32))), (.ref o2), (.int (Int32.ofNat ((k + 1) + 1))), (.ref o0)])) t
          refine Own.ldB X7 hx hZ rfl f8 hj10 (g := (mkF m 51 #[.val (.ref o0), .val (.int p1), .val (.ref o2), .val (.int p3), .val (.int p4), .val (.int (Int32.ofNat ((k + 1) + 1)))] [(.int (p3 + (2 : Int32))), (.ref o2), (.int (Int32.ofNat ((k + 1) + 1))), (.ref o0)])) rfl rfl (hb hby d17_51) _ ?_
          show Steps p.tables e below (T7.setTop (mkF m 52 #[.val (.ref o0), .val (.int p1), .val (.ref o2), .val (.int p3), .val (.int p4), .val (.int (Int32.ofNat ((k + 1) + 1)))] [(.int (sf (p3 + (2 : Int32)).toInt.toNat)), (.int (Int32.ofNat ((k + 1) + 1))), (.ref o0)])) t
          refine st11 _ ?_
          show Steps p.tables e below (T11.setTop (mkF m 55 #[.val (.ref o0), .val (.int p1), .val (.ref o2), .val (.int p3), .val (.int p4), .val (.int (Int32.ofNat ((k + 1) + 1)))] [(.int (Int32.ofNat (((k + 1) + 1) + 1)))])) t
          refine XS.istore X11.here hx rfl (hb hby d17_55) rfl (l' := #[.val (.ref o0), .val (.int p1), .val (.ref o2), .val (.int p3), .val (.int p4), .val (.int (Int32.ofNat (((k + 1) + 1) + 1)))]) rfl ?_
          show Steps p.tables e below (T11.setTop (mkF m 57 #[.val (.ref o0), .val (.int p1), .val (.ref o2), .val (.int p3), .val (.int p4), .val (.int (Int32.ofNat (((k + 1) + 1) + 1)))] [])) t
          refine XS.iload X11.here hx rfl (hb hby d17_57) rfl ?_
          show Steps p.tables e below (T11.setTop (mkF m 59 #[.val (.ref o0), .val (.int p1), .val (.ref o2), .val (.int p3), .val (.int p4), .val (.int (Int32.ofNat (((k + 1) + 1) + 1)))] [(.int (Int32.ofNat (((k + 1) + 1) + 1)))])) t
          exact kt_
        have kk := own_k
        have z5 := hc1
        rw [own_lt] at z5
        have z22 := hc5
        rw [own_lt] at z22
        have z41 := hc9
        rw [own_lt] at z41
        have hcn : c_ = 3 := by omega
        have hres : Own.AvI Z T11.heap o0 .byte 10 (own_rng ef sf k S c_) := by
          rw [hcn]
          refine A11.congr fun i hi => ?_
          have n1 : ∀ j, nar .byte (sf j) = sf j := fun j => own_narfit (hsf j)
          have x1 : (p3 + 1).toInt = ((S + 1 : Nat) : Int) := own_add hS (by decide) (by omega)
          have x2 : (p3 + 2).toInt = ((S + 2 : Nat) : Int) := own_add hS (by decide) (by omega)
          unfold own_rng
          show (if k ≤ i ∧ i < k + 3 then sf (S + (i - k)) else ef i) = if i = k + 1 + 1 then nar .byte (sf (p3 + 2).toInt.toNat) else if i = k + 1 then nar .byte (sf (p3 + 1).toInt.toNat) else if i = k then nar .byte (sf p3.toInt.toNat) else ef i
          by_cases q2 : i = k + 2
          · rw [if_pos (by omega), if_pos (by omega), n1]; congr 1; omega
          rw [if_neg (show ¬ i = k + 1 + 1 by omega)]
          by_cases q1 : i = k + 1
          · rw [if_pos (by omega), if_pos (by omega), n1]; congr 1; omega
          rw [if_neg (show ¬ i = k + 1 by omega)]
          by_cases q0 : i = k + 0
          · rw [if_pos (by omega), if_pos (by omega), n1]; congr 1; omega
          rw [if_neg (show ¬ i = k by omega)]
          rw [if_neg (by omega)]
        exact Own.retI hR X11 hx hret (hb hby d17_59) (by decide) (by decide) ⟨by rw [hcn], N11, K11, hres⟩
      · refine hD _ (T7.setTop (mkF m 59 #[.val (.ref o0), .val (.int p1), .val (.ref o2), .val (.int p3), .val (.int p4), .val (.int (Int32.ofNat ((k + 1) + 1)))] [(.int (Int32.ofNat ((k + 1) + 1)))])) (fun t kt_ => ?_) ?_
        · show Steps p.tables e below (T7.setTop (mkF m 41 #[.val (.ref o0), .val (.int p1), .val (.ref o2), .val (.int p3), .val (.int p4), .val (.int (Int32.ofNat ((k + 1) + 1)))] [(.int (2 : Int32)), (.int p4)])) t
          refine XS.icmpYes X7.here hx rfl (pc0 := 41) (pc' := 57) rfl (hb hby d17_41) rfl (flt hc9).2.2.2 (by decide) (by decide) ?_
          show Steps p.tables e below (T7.setTop (mkF m 57 #[.val (.ref o0), .val (.int p1), .val (.ref o2), .val (.int p3), .val (.int p4), .val (.int (Int32.ofNat ((k + 1) + 1)))] [])) t
          refine XS.iload X7.here hx rfl (hb hby d17_57) rfl ?_
          show Steps p.tables e below (T7.setTop (mkF m 59 #[.val (.ref o0), .val (.int p1), .val (.ref o2), .val (.int p3), .val (.int p4), .val (.int (Int32.ofNat ((k + 1) + 1)))] [(.int (Int32.ofNat ((k + 1) + 1)))])) t
          exact kt_
        have kk := own_k
        have z5 := hc1
        rw [own_lt] at z5
        have z22 := hc5
        rw [own_lt] at z22
        have z41 := hc9
        rw [own_lt] at z41
        have hcn : c_ = 2 := by omega
        have hres : Own.AvI Z T7.heap o0 .byte 10 (own_rng ef sf k S c_) := by
          rw [hcn]
          refine A7.congr fun i hi => ?_
          have n1 : ∀ j, nar .byte (sf j) = sf j := fun j => own_narfit (hsf j)
          have x1 : (p3 + 1).toInt = ((S + 1 : Nat) : Int) := own_add hS (by decide) (by omega)
          unfold own_rng
          show (if k ≤ i ∧ i < k + 2 then sf (S + (i - k)) else ef i) = if i = k + 1 then nar .byte (sf (p3 + 1).toInt.toNat) else if i = k then nar .byte (sf p3.toInt.toNat) else ef i
          by_cases q1 : i = k + 1
          · rw [if_pos (by omega), if_pos (by omega), n1]; congr 1; omega
          rw [if_neg (show ¬ i = k + 1 by omega)]
          by_cases q0 : i = k + 0
          · rw [if_pos (by omega), if_pos (by omega), n1]; congr 1; omega
          rw [if_neg (show ¬ i = k by omega)]
          rw [if_neg (by omega)]
        exact Own.retI hR X7 hx hret (hb hby d17_59) (by decide) (by decide) ⟨by rw [hcn], N7, K7, hres⟩
    · refine hD _ (T3.setTop (mkF m 41 #[.val (.ref o0), .val (.int p1), .val (.ref o2), .val (.int p3), .val (.int p4), .val (.int (Int32.ofNat (k + 1)))] [(.int (2 : Int32)), (.int p4)])) (fun t kt_ => ?_) ?_
      · show Steps p.tables e below (T3.setTop (mkF m 22 #[.val (.ref o0), .val (.int p1), .val (.ref o2), .val (.int p3), .val (.int p4), .val (.int (Int32.ofNat (k + 1)))] [(.int (1 : Int32)), (.int p4)])) t
        refine XS.icmpYes X3.here hx rfl (pc0 := 22) (pc' := 38) rfl (hb hby d17_22) rfl (flt hc5).2.2.2 (by decide) (by decide) ?_
        show Steps p.tables e below (T3.setTop (mkF m 38 #[.val (.ref o0), .val (.int p1), .val (.ref o2), .val (.int p3), .val (.int p4), .val (.int (Int32.ofNat (k + 1)))] [])) t
        refine XS.iload X3.here hx rfl (hb hby d17_38) rfl ?_
        show Steps p.tables e below (T3.setTop (mkF m 40 #[.val (.ref o0), .val (.int p1), .val (.ref o2), .val (.int p3), .val (.int p4), .val (.int (Int32.ofNat (k + 1)))] [(.int p4)])) t
        refine XS.iconst X3.here hx rfl (hb hby d17_40) ?_
        show Steps p.tables e below (T3.setTop (mkF m 41 #[.val (.ref o0), .val (.int p1), .val (.ref o2), .val (.int p3), .val (.int p4), .val (.int (Int32.ofNat (k + 1)))] [(.int (2 : Int32)), (.int p4)])) t
        exact kt_
      have hc13 : ¬ ((2 : Int32) < p4) := by have q := hc5; have kk := own_k; rw [own_lt] at q ⊢; omega
      refine hD _ (T3.setTop (mkF m 59 #[.val (.ref o0), .val (.int p1), .val (.ref o2), .val (.int p3), .val (.int p4), .val (.int (Int32.ofNat (k + 1)))] [(.int (Int32.ofNat (k + 1)))])) (fun t kt_ => ?_) ?_
      · show Steps p.tables e below (T3.setTop (mkF m 41 #[.val (.ref o0), .val (.int p1), .val (.ref o2), .val (.int p3), .val (.int p4), .val (.int (Int32.ofNat (k + 1)))] [(.int (2 : Int32)), (.int p4)])) t
        refine XS.icmpYes X3.here hx rfl (pc0 := 41) (pc' := 57) rfl (hb hby d17_41) rfl (flt hc13).2.2.2 (by decide) (by decide) ?_
        show Steps p.tables e below (T3.setTop (mkF m 57 #[.val (.ref o0), .val (.int p1), .val (.ref o2), .val (.int p3), .val (.int p4), .val (.int (Int32.ofNat (k + 1)))] [])) t
        refine XS.iload X3.here hx rfl (hb hby d17_57) rfl ?_
        show Steps p.tables e below (T3.setTop (mkF m 59 #[.val (.ref o0), .val (.int p1), .val (.ref o2), .val (.int p3), .val (.int p4), .val (.int (Int32.ofNat (k + 1)))] [(.int (Int32.ofNat (k + 1)))])) t
        exact kt_
      have kk := own_k
      have z5 := hc1
      rw [own_lt] at z5
      have z22 := hc5
      rw [own_lt] at z22
      have hcn : c_ = 1 := by omega
      have hres : Own.AvI Z T3.heap o0 .byte 10 (own_rng ef sf k S c_) := by
        rw [hcn]
        refine A3.congr fun i hi => ?_
        have n1 : ∀ j, nar .byte (sf j) = sf j := fun j => own_narfit (hsf j)
        unfold own_rng
        show (if k ≤ i ∧ i < k + 1 then sf (S + (i - k)) else ef i) = if i = k then nar .byte (sf p3.toInt.toNat) else ef i
        by_cases q0 : i = k + 0
        · rw [if_pos (by omega), if_pos (by omega), n1]; congr 1; omega
        rw [if_neg (show ¬ i = k by omega)]
        rw [if_neg (by omega)]
      exact Own.retI hR X3 hx hret (hb hby d17_59) (by decide) (by decide) ⟨by rw [hcn], N3, K3, hres⟩
  · refine hD _ (s₁.setTop (mkF m 22 #[.val (.ref o0), .val (.int p1), .val (.ref o2), .val (.int p3), .val (.int p4), .val (.int p1)] [(.int (1 : Int32)), (.int p4)])) (fun t kt_ => ?_) ?_
    · show Steps p.tables e below (s₁.setTop (mkF m 5 #[.val (.ref o0), .val (.int p1), .val (.ref o2), .val (.int p3), .val (.int p4), .val (.int p1)] [(.int p4)])) t
      refine XS.ifYes X0.here hx rfl (pc0 := 5) (pc' := 19) rfl (hb hby d17_5) rfl ((if0 _ _).trans (flt hc1).2.2.2) (by decide) (by decide) ?_
      show Steps p.tables e below (s₁.setTop (mkF m 19 #[.val (.ref o0), .val (.int p1), .val (.ref o2), .val (.int p3), .val (.int p4), .val (.int p1)] [])) t
      refine XS.iload X0.here hx rfl (hb hby d17_19) rfl ?_
      show Steps p.tables e below (s₁.setTop (mkF m 21 #[.val (.ref o0), .val (.int p1), .val (.ref o2), .val (.int p3), .val (.int p4), .val (.int p1)] [(.int p4)])) t
      refine XS.iconst X0.here hx rfl (hb hby d17_21) ?_
      show Steps p.tables e below (s₁.setTop (mkF m 22 #[.val (.ref o0), .val (.int p1), .val (.ref o2), .val (.int p3), .val (.int p4), .val (.int p1)] [(.int (1 : Int32)), (.int p4)])) t
      exact kt_
    have hc14 : ¬ ((1 : Int32) < p4) := by have q := hc1; have kk := own_k; rw [own_lt] at q ⊢; omega
    refine hD _ (s₁.setTop (mkF m 41 #[.val (.ref o0), .val (.int p1), .val (.ref o2), .val (.int p3), .val (.int p4), .val (.int p1)] [(.int (2 : Int32)), (.int p4)])) (fun t kt_ => ?_) ?_
    · show Steps p.tables e below (s₁.setTop (mkF m 22 #[.val (.ref o0), .val (.int p1), .val (.ref o2), .val (.int p3), .val (.int p4), .val (.int p1)] [(.int (1 : Int32)), (.int p4)])) t
      refine XS.icmpYes X0.here hx rfl (pc0 := 22) (pc' := 38) rfl (hb hby d17_22) rfl (flt hc14).2.2.2 (by decide) (by decide) ?_
      show Steps p.tables e below (s₁.setTop (mkF m 38 #[.val (.ref o0), .val (.int p1), .val (.ref o2), .val (.int p3), .val (.int p4), .val (.int p1)] [])) t
      refine XS.iload X0.here hx rfl (hb hby d17_38) rfl ?_
      show Steps p.tables e below (s₁.setTop (mkF m 40 #[.val (.ref o0), .val (.int p1), .val (.ref o2), .val (.int p3), .val (.int p4), .val (.int p1)] [(.int p4)])) t
      refine XS.iconst X0.here hx rfl (hb hby d17_40) ?_
      show Steps p.tables e below (s₁.setTop (mkF m 41 #[.val (.ref o0), .val (.int p1), .val (.ref o2), .val (.int p3), .val (.int p4), .val (.int p1)] [(.int (2 : Int32)), (.int p4)])) t
      exact kt_
    have hc15 : ¬ ((2 : Int32) < p4) := by have q := hc1; have kk := own_k; rw [own_lt] at q ⊢; omega
    refine hD _ (s₁.setTop (mkF m 59 #[.val (.ref o0), .val (.int p1), .val (.ref o2), .val (.int p3), .val (.int p4), .val (.int p1)] [(.int p1)])) (fun t kt_ => ?_) ?_
    · show Steps p.tables e below (s₁.setTop (mkF m 41 #[.val (.ref o0), .val (.int p1), .val (.ref o2), .val (.int p3), .val (.int p4), .val (.int p1)] [(.int (2 : Int32)), (.int p4)])) t
      refine XS.icmpYes X0.here hx rfl (pc0 := 41) (pc' := 57) rfl (hb hby d17_41) rfl (flt hc15).2.2.2 (by decide) (by decide) ?_
      show Steps p.tables e below (s₁.setTop (mkF m 57 #[.val (.ref o0), .val (.int p1), .val (.ref o2), .val (.int p3), .val (.int p4), .val (.int p1)] [])) t
      refine XS.iload X0.here hx rfl (hb hby d17_57) rfl ?_
      show Steps p.tables e below (s₁.setTop (mkF m 59 #[.val (.ref o0), .val (.int p1), .val (.ref o2), .val (.int p3), .val (.int p4), .val (.int p1)] [(.int p1)])) t
      exact kt_
    have kk := own_k
    have z5 := hc1
    rw [own_lt] at z5
    have hcn : c_ = 0 := by omega
    have hres : Own.AvI Z h0 o0 .byte 10 (own_rng ef sf k S c_) := by
      rw [hcn]
      refine A0.congr fun i hi => ?_
      unfold own_rng
      show (if k ≤ i ∧ i < k + 0 then sf (S + (i - k)) else ef i) = ef i
      rw [if_neg (by omega)]
    exact Own.retI hR X0 hx hret (hb hby d17_59) (by decide) (by decide) (by rw [e0]; exact ⟨by rw [hcn]; exact congrArg (fun z => some (Value.int z)) (own_ofi hk (by omega)), N0, K0, hres⟩)
theorem d18_0 : decode method_5_code 0 = .ok (.iload_n 2, 1) := by decide +kernel
theorem d18_1 : decode method_5_code 1 = .ok (.iload_n 3, 1) := by decide +kernel
theorem d18_2 : decode method_5_code 2 = .ok (.if_icmp .ge 12, 3) := by decide +kernel
theorem d18_5 : decode method_5_code 5 = .ok (.aload_n 0, 1) := by decide +kernel
theorem d18_6 : decode method_5_code 6 = .ok (.iload_n 2, 1) := by decide +kernel
theorem d18_7 : decode method_5_code 7 = .ok (.baload, 1) := by decide +kernel
theorem d18_8 : decode method_5_code 8 = .ok (.aload_n 1, 1) := by decide +kernel
theorem d18_9 : decode method_5_code 9 = .ok (.iload_n 2, 1) := by decide +kernel
theorem d18_10 : decode method_5_code 10 = .ok (.baload, 1) := by decide +kernel
theorem d18_11 : decode method_5_code 11 = .ok (.if_icmp .ne 7, 3) := by decide +kernel
theorem d18_14 : decode method_5_code 14 = .ok (.iconst 1, 1) := by decide +kernel
theorem d18_15 : decode method_5_code 15 = .ok (.goto 4, 3) := by decide +kernel
theorem d18_18 : decode method_5_code 18 = .ok (.iconst 0, 1) := by decide +kernel
theorem d18_19 : decode method_5_code 19 = .ok (.ireturn, 1) := by decide +kernel
theorem ef_18 (m : MethodId) (o0 : Addr) (o1 : Addr) (p2 : Int32) (p3 : Int32) : entryFrame m #[(.ref o0), (.ref o1), (.int p2), (.int p3)] 4 = mkF m 0 #[.val (.ref o0), .val (.ref o1), .val (.int p2), .val (.int p3)] [] := by first | (simp [entryFrame, mkF, argsToLocals, Value.category]; done) | rfl
def Q18 (Z : State) (o0 : Nat) (o1 : Nat) (p2 : Int32) (p3 : Int32) (nr : Nat) (fr fe : Nat → Int32) (h0 : Heap) (n0 : Nat) (v : Option Value) (h : Heap) (L : List Loc) : Prop := v = some (.int (Own.b2i (own_at fr fe p2 p3))) ∧ Fr n0 L ∧ h = h0
set_option maxRecDepth 65536 in
set_option maxHeartbeats 40000000 in
theorem rm18 (l : Launch) (Z : State) (a0 : Array Value) (hw : ∀ d ∈ tables_1, d.before a0 Z = true) (ws : List Jvm.Cond) (o0 : Nat) (o1 : Nat) (p2 : Int32) (p3 : Int32) (nr : Nat) (fr fe : Nat → Int32) (h0 : Heap) (n0 : Nat) (hi : 0 ≤ p2.toInt ∧ p2.toInt < 10) (hn : p3.toInt = nr) (A0 : Own.AvI Z h0 o0 .byte nr fr) (A1 : Own.AvI Z h0 o1 .byte 10 fe) :
    MetFree l (⟨"com/example/edom/edom/mapping/Utf8OutputToByteArrayPinLaw", "at", "([B[BII)Z"⟩ : MethodName) (head1 (Jvm.Cond.code (⟨"com/example/edom/edom/mapping/Utf8OutputToByteArrayPinLaw", "at", "([B[BII)Z"⟩ : MethodName) method_5_code 4 (some .boolean) :: ws) ({ frames := 0, cells := 0, slots := 0, locals := 0 } : Room)) (fun a U => a = #[(.ref o0), (.ref o1), (.int p2), (.int p3)] ∧ Z.Warmed39 U.vm ∧ U.heap = h0) (fun _ _ _ _ _ => True) (fun _ U o U' => ∃ v L, o = .returned v ∧ Q18 Z o0 o1 p2 p3 nr fr fe h0 n0 v U'.heap L ∧ FrameEnd U o U' L ({ frames := 0, cells := 0, slots := 0, locals := 0 } : Room).cells ({ frames := 0, cells := 0, slots := 0, locals := 0 } : Room).slots) := by
  refine Own.enter (Q := Q18 Z o0 o1 p2 p3 nr fr fe h0 n0) (plainFor_of_name pn_4) ?_
  intro p e s m below meth c s₁ D hx hby hml hown hnm hret hZ X0 e0 hD hR
  have N0 := Fr.nil n0
  rw [show entryFrame m #[(.ref o0), (.ref o1), (.int p2), (.int p3)] 4 = mkF m 0 #[.val (.ref o0), .val (.ref o1), .val (.int p2), .val (.int p3)] [] from ef_18 m o0 o1 p2 p3]
  refine hD _ (s₁.setTop (mkF m 2 #[.val (.ref o0), .val (.ref o1), .val (.int p2), .val (.int p3)] [(.int p3), (.int p2)])) (fun t kt_ => ?_) ?_
  · show Steps p.tables e below (s₁.setTop (mkF m 0 #[.val (.ref o0), .val (.ref o1), .val (.int p2), .val (.int p3)] [])) t
    refine XS.iloadN X0.here hx rfl (hb hby d18_0) rfl ?_
    show Steps p.tables e below (s₁.setTop (mkF m 1 #[.val (.ref o0), .val (.ref o1), .val (.int p2), .val (.int p3)] [(.int p2)])) t
    refine XS.iloadN X0.here hx rfl (hb hby d18_1) rfl ?_
    show Steps p.tables e below (s₁.setTop (mkF m 2 #[.val (.ref o0), .val (.ref o1), .val (.int p2), .val (.int p3)] [(.int p3), (.int p2)])) t
    exact kt_
  by_cases hc1 : p2 < p3
  · have hj2 : 0 ≤ p2.toInt ∧ p2.toInt < (nr : Nat) := by have q := hc1; rw [own_lt] at q; omega
    have hj3 : 0 ≤ p2.toInt ∧ p2.toInt < (10 : Nat) := by have q := hc1; rw [own_lt] at q; omega
    refine hD _ (s₁.setTop (mkF m 11 #[.val (.ref o0), .val (.ref o1), .val (.int p2), .val (.int p3)] [(.int (fe p2.toInt.toNat)), (.int (fr p2.toInt.toNat))])) (fun t kt_ => ?_) ?_
    · show Steps p.tables e below (s₁.setTop (mkF m 2 #[.val (.ref o0), .val (.ref o1), .val (.int p2), .val (.int p3)] [(.int p3), (.int p2)])) t
      refine XS.icmpNo X0.here hx rfl (hb hby d18_2) rfl (tlt hc1).2.1 ?_
      show Steps p.tables e below (s₁.setTop (mkF m 5 #[.val (.ref o0), .val (.ref o1), .val (.int p2), .val (.int p3)] [])) t
      refine XS.aloadN X0.here hx rfl (hb hby d18_5) rfl rfl ?_
      show Steps p.tables e below (s₁.setTop (mkF m 6 #[.val (.ref o0), .val (.ref o1), .val (.int p2), .val (.int p3)] [(.ref o0)])) t
      refine XS.iloadN X0.here hx rfl (hb hby d18_6) rfl ?_
      show Steps p.tables e below (s₁.setTop (mkF m 7 #[.val (.ref o0), .val (.ref o1), .val (.int p2), .val (.int p3)] [(.int p2), (.ref o0)])) t
      refine Own.ldB X0 hx hZ e0 A0 hj2 (g := (mkF m 7 #[.val (.ref o0), .val (.ref o1), .val (.int p2), .val (.int p3)] [(.int p2), (.ref o0)])) rfl rfl (hb hby d18_7) _ ?_
      show Steps p.tables e below (s₁.setTop (mkF m 8 #[.val (.ref o0), .val (.ref o1), .val (.int p2), .val (.int p3)] [(.int (fr p2.toInt.toNat))])) t
      refine XS.aloadN X0.here hx rfl (hb hby d18_8) rfl rfl ?_
      show Steps p.tables e below (s₁.setTop (mkF m 9 #[.val (.ref o0), .val (.ref o1), .val (.int p2), .val (.int p3)] [(.ref o1), (.int (fr p2.toInt.toNat))])) t
      refine XS.iloadN X0.here hx rfl (hb hby d18_9) rfl ?_
      show Steps p.tables e below (s₁.setTop (mkF m 10 #[.val (.ref o0), .val (.ref o1), .val (.int p2), .val (.int p3)] [(.int p2), (.ref o1), (.int (fr p2.toInt.toNat))])) t
      refine Own.ldB X0 hx hZ e0 A1 hj3 (g := (mkF m 10 #[.val (.ref o0), .val (.ref o1), .val (.int p2), .val (.int p3)] [(.int p2), (.ref o1), (.int (fr p2.toInt.toNat))])) rfl rfl (hb hby d18_10) _ ?_
      show Steps p.tables e below (s₁.setTop (mkF m 11 #[.val (.ref o0), .val (.ref o1), .val (.int p2), .val (.int p3)] [(.int (fe p2.toInt.toNat)), (.int (fr p2.toInt.toNat))])) t
      exact kt_
    by_cases hc4 : (fr p2.toInt.toNat) = (fe p2.toInt.toNat)
    · refine hD _ (s₁.setTop (mkF m 19 #[.val (.ref o0), .val (.ref o1), .val (.int p2), .val (.int p3)] [(.int (1 : Int32))])) (fun t kt_ => ?_) ?_
      · show Steps p.tables e below (s₁.setTop (mkF m 11 #[.val (.ref o0), .val (.ref o1), .val (.int p2), .val (.int p3)] [(.int (fe p2.toInt.toNat)), (.int (fr p2.toInt.toNat))])) t
        refine XS.icmpNo X0.here hx rfl (hb hby d18_11) rfl (teq hc4).2 ?_
        show Steps p.tables e below (s₁.setTop (mkF m 14 #[.val (.ref o0), .val (.ref o1), .val (.int p2), .val (.int p3)] [])) t
        refine XS.iconst X0.here hx rfl (hb hby d18_14) ?_
        show Steps p.tables e below (s₁.setTop (mkF m 15 #[.val (.ref o0), .val (.ref o1), .val (.int p2), .val (.int p3)] [(.int (1 : Int32))])) t
        refine XS.goto X0.here hx rfl (pc0 := 15) (pc' := 19) rfl (hb hby d18_15) (by decide) (by decide) ?_
        show Steps p.tables e below (s₁.setTop (mkF m 19 #[.val (.ref o0), .val (.ref o1), .val (.int p2), .val (.int p3)] [(.int (1 : Int32))])) t
        exact kt_
      have hk : own_at fr fe p2 p3 = true := decide_eq_true (Or.inr hc4)
      exact Own.retN hR X0 hx (t := .boolean) hret (by simp) (hb hby d18_19) (by decide) (by decide) (by decide) ⟨by rw [hk]; rfl, N0, e0⟩
    · refine hD _ (s₁.setTop (mkF m 19 #[.val (.ref o0), .val (.ref o1), .val (.int p2), .val (.int p3)] [(.int (0 : Int32))])) (fun t kt_ => ?_) ?_
      · show Steps p.tables e below (s₁.setTop (mkF m 11 #[.val (.ref o0), .val (.ref o1), .val (.int p2), .val (.int p3)] [(.int (fe p2.toInt.toNat)), (.int (fr p2.toInt.toNat))])) t
        refine XS.icmpYes X0.here hx rfl (pc0 := 11) (pc' := 18) rfl (hb hby d18_11) rfl (feq hc4).2 (by decide) (by decide) ?_
        show Steps p.tables e below (s₁.setTop (mkF m 18 #[.val (.ref o0), .val (.ref o1), .val (.int p2), .val (.int p3)] [])) t
        refine XS.iconst X0.here hx rfl (hb hby d18_18) ?_
        show Steps p.tables e below (s₁.setTop (mkF m 19 #[.val (.ref o0), .val (.ref o1), .val (.int p2), .val (.int p3)] [(.int (0 : Int32))])) t
        exact kt_
      have hk : own_at fr fe p2 p3 = false := decide_eq_false (by rintro (q | q); exact q hc1; exact hc4 q)
      exact Own.retN hR X0 hx (t := .boolean) hret (by simp) (hb hby d18_19) (by decide) (by decide) (by decide) ⟨by rw [hk]; rfl, N0, e0⟩
  · refine hD _ (s₁.setTop (mkF m 19 #[.val (.ref o0), .val (.ref o1), .val (.int p2), .val (.int p3)] [(.int (1 : Int32))])) (fun t kt_ => ?_) ?_
    · show Steps p.tables e below (s₁.setTop (mkF m 2 #[.val (.ref o0), .val (.ref o1), .val (.int p2), .val (.int p3)] [(.int p3), (.int p2)])) t
      refine XS.icmpYes X0.here hx rfl (pc0 := 2) (pc' := 14) rfl (hb hby d18_2) rfl (flt hc1).2.1 (by decide) (by decide) ?_
      show Steps p.tables e below (s₁.setTop (mkF m 14 #[.val (.ref o0), .val (.ref o1), .val (.int p2), .val (.int p3)] [])) t
      refine XS.iconst X0.here hx rfl (hb hby d18_14) ?_
      show Steps p.tables e below (s₁.setTop (mkF m 15 #[.val (.ref o0), .val (.ref o1), .val (.int p2), .val (.int p3)] [(.int (1 : Int32))])) t
      refine XS.goto X0.here hx rfl (pc0 := 15) (pc' := 19) rfl (hb hby d18_15) (by decide) (by decide) ?_
      show Steps p.tables e below (s₁.setTop (mkF m 19 #[.val (.ref o0), .val (.ref o1), .val (.int p2), .val (.int p3)] [(.int (1 : Int32))])) t
      exact kt_
    have hk : own_at fr fe p2 p3 = true := decide_eq_true (Or.inl hc1)
    exact Own.retN hR X0 hx (t := .boolean) hret (by simp) (hb hby d18_19) (by decide) (by decide) (by decide) ⟨by rw [hk]; rfl, N0, e0⟩
theorem own_agI {g g' ef : Nat → Int32} {ln : Nat} {x : Int32} (hag : ∀ i, i < ln → g i = ef i) (hka : ∀ i, i < ln → g' i = g i) (hkb : g' ln = x) : ∀ i, i < ln + 1 → g' i = (fun ii => if ii = ln then x else ef ii) i := fun i hi => by
  show g' i = if i = ln then x else ef i
  by_cases q : i = ln
  · rw [if_pos q, q, hkb]
  · rw [if_neg q, hka i (by omega), hag i (by omega)]
theorem own_agR {g g' ef sf : Nat → Int32} {ln S c : Nat} (hag : ∀ i, i < ln → g i = ef i) (hka : ∀ i, i < ln → g' i = g i) (hkb : ∀ i, i < c → g' (ln + i) = sf (S + i)) : ∀ i, i < ln + c → g' i = own_rng ef sf ln S c i := fun i hi => by
  unfold own_rng
  by_cases q : i < ln
  · rw [if_neg (by omega), hka i q, hag i q]
  · rw [if_pos (by omega), ← hkb (i - ln) (by omega), show ln + (i - ln) = i by omega]
theorem own_atT {r e g : Nat → Int32} {ln : Nat} {i : Int32} (hl : ln ≤ 10) (hi : 0 ≤ i.toInt) (hk : ∀ i, i < ln → r i = g i) (hag : ∀ i, i < ln → g i = e i) : own_at r e i (Int32.ofNat ln) = true := by
  refine decide_eq_true ?_
  by_cases q : i < Int32.ofNat ln
  · right
    rw [own_lt, own_oi (by omega)] at q
    rw [hk _ (by omega), hag _ (by omega)]
  · exact Or.inl q
theorem pd_8 : parseMethodDescriptor "()[B" = some ⟨[], some (.array .byte)⟩ := by decide +kernel
theorem pd_9 : parseMethodDescriptor "([B[BII)Z" = some ⟨[(.array .byte), (.array .byte), .int, .int], some .boolean⟩ := by decide +kernel
theorem pd_10 : parseMethodDescriptor "([BII)V" = some ⟨[(.array .byte), .int, .int], none⟩ := by decide +kernel
theorem pd_11 : parseMethodDescriptor "([BI[BII)I" = some ⟨[(.array .byte), .int, (.array .byte), .int, .int], some .int⟩ := by decide +kernel
theorem ef_0 (m : MethodId) (p0 : Int32) (p1 : Int32) (p2 : Int32) (p3 : Int32) (p4 : Int32) (p5 : Int32) : entryFrame m #[(.int p0), (.int p1), (.int p2), (.int p3), (.int p4), (.int p5)] maxLocals = mkF m 0 #[.val (.int p0), .val (.int p1), .val (.int p2), .val (.int p3), .val (.int p4), .val (.int p5), .unset, .unset, .unset, .unset, .unset, .unset, .unset, .unset, .unset] [] := by first | (simp [entryFrame, mkF, argsToLocals, Value.category, maxLocals]; done) | rfl
def Q0 (Z : State) (p0 : Int32) (p1 : Int32) (p2 : Int32) (p3 : Int32) (p4 : Int32) (p5 : Int32) (h0 : Heap) (n0 : Nat) (v : Option Value) (h : Heap) (L : List Loc) : Prop := v = some (.int 1) ∧ Fr n0 L
set_option maxRecDepth 65536 in
set_option maxHeartbeats 40000000 in
theorem rm0 (l : Launch) (Z : State) (a0 : Array Value) (hw : ∀ d ∈ tables_1, d.before a0 Z = true) (ws : List Jvm.Cond) (p0 : Int32) (p1 : Int32) (p2 : Int32) (p3 : Int32) (p4 : Int32) (p5 : Int32) (h0 : Heap) (n0 : Nat) (Z0 : n0 ≤ h0.size) :
    MetFree l x (head1 (Jvm.Cond.code x code maxLocals ret :: ws) room_1) (fun a U => a = #[(.int p0), (.int p1), (.int p2), (.int p3), (.int p4), (.int p5)] ∧ Z.Warmed39 U.vm ∧ U.heap = h0) (fun _ _ _ _ _ => True) (fun _ U o U' => ∃ v L, o = .returned v ∧ Q0 Z p0 p1 p2 p3 p4 p5 h0 n0 v U'.heap L ∧ FrameEnd U o U' L room_1.cells room_1.slots) := by
  refine Own.enter (Q := Q0 Z p0 p1 p2 p3 p4 p5 h0 n0) (plainFor_of_name pn_4) ?_
  intro p e s m below meth c s₁ D hx hby hml hown hnm hret hZ X0 e0 hD hR
  have N0 := Fr.nil n0
  rw [show entryFrame m #[(.int p0), (.int p1), (.int p2), (.int p3), (.int p4), (.int p5)] maxLocals = mkF m 0 #[.val (.int p0), .val (.int p1), .val (.int p2), .val (.int p3), .val (.int p4), .val (.int p5), .unset, .unset, .unset, .unset, .unset, .unset, .unset, .unset, .unset] [] from ef_0 m p0 p1 p2 p3 p4 p5]
  obtain ⟨T1, h1, k1, X1, e1, E1, A1, Q1, st1⟩ := newPE X0 hx hZ (hw _ (List.mem_of_getElem? (i := 0) rfl)) e0 (g := (mkF m 1 #[.val (.int p0), .val (.int p1), .val (.int p2), .val (.int p3), .val (.int p4), .val (.int p5), .unset, .unset, .unset, .unset, .unset, .unset, .unset, .unset, .unset] [(.int (3 : Int32))])) rfl (hb hby at_1) rfl (by decide) (cap := 3) (by decide) (by decide) (by decide) (by decide) (ad := "[B") (by decide)
  obtain ⟨b1, g_b1⟩ : ∃ z : Nat, z = h0.size := ⟨_, rfl⟩
  rw [← g_b1] at A1 Q1 st1
  have g0_b1 : n0 ≤ b1 := by rw [g_b1]; exact Z0
  have f2 : Own.AvI Z h1 b1 .byte 3 (fun _ => 0) := Own.AvI.new A1 (by decide) rfl
  have Z1 : n0 ≤ h1.size := Nat.le_trans Z0 E1.1
  have hj3 : 0 ≤ (0 : Int32).toInt ∧ (0 : Int32).toInt < (3 : Nat) := ⟨by decide, by decide⟩
  obtain ⟨T4, h4, X4, e4, A4, W4, st4⟩ := Own.stoB X1 hx hZ e1 f2 hj3 (g := (mkF m 10 #[.val (.int p0), .val (.int p1), .val (.int p2), .val (.int p3), .val (.int p4), .val (.int p5), .val (.ref b1), .unset, .unset, .unset, .unset, .unset, .unset, .unset, .unset] [(.int (p2.toInt8.toInt32)), (.int (0 : Int32)), (.ref b1)])) rfl rfl (hb hby at_10)
  have f5 : Exa Z h4 b1 "[B" := Q1.wr W4
  have N4 := Fr.snoc X4 N0 (show n0 ≤ b1 by omega)
  have Z4 : n0 ≤ h4.size := Nat.le_trans Z1 (Keep.of_wr W4).1
  have hj6 : 0 ≤ (1 : Int32).toInt ∧ (1 : Int32).toInt < (3 : Nat) := ⟨by decide, by decide⟩
  obtain ⟨T7, h7, X7, e7, A7, W7, st7⟩ := Own.stoB X4 hx hZ e4 A4 hj6 (g := (mkF m 19 #[.val (.int p0), .val (.int p1), .val (.int p2), .val (.int p3), .val (.int p4), .val (.int p5), .val (.ref b1), .unset, .unset, .unset, .unset, .unset, .unset, .unset, .unset] [(.int (((p2.toUInt32 >>> ((8 : Int32) &&& 31).toUInt32).toInt32).toInt8.toInt32)), (.int (1 : Int32)), (.ref b1)])) rfl rfl (hb hby at_19)
  have f8 : Exa Z h7 b1 "[B" := f5.wr W7
  have N7 := Fr.snoc X7 N4 (show n0 ≤ b1 by omega)
  have Z7 : n0 ≤ h7.size := Nat.le_trans Z4 (Keep.of_wr W7).1
  have hj9 : 0 ≤ (2 : Int32).toInt ∧ (2 : Int32).toInt < (3 : Nat) := ⟨by decide, by decide⟩
  obtain ⟨T10, h10, X10, e10, A10, W10, st10⟩ := Own.stoB X7 hx hZ e7 A7 hj9 (g := (mkF m 28 #[.val (.int p0), .val (.int p1), .val (.int p2), .val (.int p3), .val (.int p4), .val (.int p5), .val (.ref b1), .unset, .unset, .unset, .unset, .unset, .unset, .unset, .unset] [(.int (((p2.toUInt32 >>> ((16 : Int32) &&& 31).toUInt32).toInt32).toInt8.toInt32)), (.int (2 : Int32)), (.ref b1)])) rfl rfl (hb hby at_28)
  have f11 : Exa Z h10 b1 "[B" := f8.wr W10
  have N10 := Fr.snoc X10 N7 (show n0 ≤ b1 by omega)
  have Z10 : n0 ≤ h10.size := Nat.le_trans Z7 (Keep.of_wr W10).1
  obtain ⟨sf, Asf, hsf⟩ : ∃ z : Nat → Int32, Own.AvI Z h10 b1 .byte 3 z ∧ Own.FitsB z := ⟨_, A10, Own.FitsB.upd (Own.FitsB.upd (Own.FitsB.upd Own.FitsB.zero))⟩
  obtain ⟨v12, hv12⟩ : ∃ z : Int32, z = (p3 &&& (3 : Int32)) := ⟨_, rfl⟩
  obtain ⟨cA, hcA, hcA3⟩ := own_c3 hv12
  have hnz13 : ((4 : Int32) - v12) ≠ 0 := (own_4 hcA hcA3).2
  obtain ⟨v14, hv14⟩ : ∃ z : Int32, z = ((((p3.toUInt32 >>> ((2 : Int32) &&& 31).toUInt32).toInt32) &&& (255 : Int32)) % ((4 : Int32) - v12)) := ⟨_, rfl⟩
  obtain ⟨sA, hsA, hscA⟩ := own_off hcA hcA3 hv14
  obtain ⟨v15, hv15⟩ : ∃ z : Int32, z = (p4 &&& (3 : Int32)) := ⟨_, rfl⟩
  obtain ⟨cB, hcB, hcB3⟩ := own_c3 hv15
  have hnz16 : ((4 : Int32) - v15) ≠ 0 := (own_4 hcB hcB3).2
  obtain ⟨v17, hv17⟩ : ∃ z : Int32, z = ((((p4.toUInt32 >>> ((2 : Int32) &&& 31).toUInt32).toInt32) &&& (255 : Int32)) % ((4 : Int32) - v15)) := ⟨_, rfl⟩
  obtain ⟨sB, hsB, hscB⟩ := own_off hcB hcB3 hv17
  obtain ⟨T18, h18, k18, X18, e18, E18, A18, st18⟩ := newP X10 hx hZ (hw _ (List.mem_of_getElem? (i := 0) rfl)) e10 (g := (mkF m 71 #[.val (.int p0), .val (.int p1), .val (.int p2), .val (.int p3), .val (.int p4), .val (.int p5), .val (.ref b1), .val (.int v12), .val (.int v14), .val (.int v15), .val (.int v17), .unset, .unset, .unset, .unset] [(.int (10 : Int32))])) rfl (hb hby at_71) rfl (by decide) (cap := 10) (by decide) (by decide) (by decide) (by decide)
  obtain ⟨b18, g_b18⟩ : ∃ z : Nat, z = h10.size := ⟨_, rfl⟩
  rw [← g_b18] at A18 st18
  have lt_b1_b18 : (b1 : Nat) < b18 := by rw [g_b18]; exact Asf.lt
  have g0_b18 : n0 ≤ b18 := by rw [g_b18]; exact Z10
  have f19 : Own.AvI Z h18 b1 .byte 3 sf := Asf.ext E18
  have f20 : Exa Z h18 b1 "[B" := (f11.ext E18)
  have f21 : Own.AvI Z h18 b18 .byte 10 (fun _ => 0) := Own.AvI.new A18 (by decide) rfl
  have Z18 : n0 ≤ h18.size := Nat.le_trans Z10 E18.1
  obtain ⟨T22, h22, X22, e22, E22, A22, D22, -, st22⟩ := newO X18 hx hZ hown (hw _ (List.mem_of_getElem? (i := 1) rfl)) (hw _ (List.mem_of_getElem? (i := 2) rfl)) (hw _ (List.mem_of_getElem? (i := 3) rfl)) e18 (g := (mkF m 78 #[.val (.int p0), .val (.int p1), .val (.int p2), .val (.int p3), .val (.int p4), .val (.int p5), .val (.ref b1), .val (.int v12), .val (.int v14), .val (.int v15), .val (.int v17), .val (.ref b18), .val (.int (0 : Int32)), .unset, .unset] [])) rfl (hb hby at_78) (by decide) (by decide)
  obtain ⟨b22, g_b22⟩ : ∃ z : Nat, z = h18.size := ⟨_, rfl⟩
  rw [← g_b22] at A22 D22 st22
  have lt_b1_b22 : (b1 : Nat) < b22 := by rw [g_b22]; exact f19.lt
  have lt_b18_b22 : (b18 : Nat) < b22 := by rw [g_b22]; exact f21.lt
  have g0_b22 : n0 ≤ b22 := by rw [g_b22]; exact Z18
  have f23 : Own.AvI Z h22 b1 .byte 3 sf := f19.ext E22
  have f24 : Exa Z h22 b1 "[B" := (f20.ext E22)
  have f25 : Own.AvI Z h22 b18 .byte 10 (fun _ => 0) := f21.ext E22
  have f26 : Fld Z h22 b22 "com/example/edom/edom/mapping/Utf8Output" "bytes" "[B" .null := D22 (Or.inl (hw _ (List.mem_of_getElem? (i := 16) rfl))) (ty := (.array .byte)) (by decide)
  have f27 : Fld Z h22 b22 "com/example/edom/edom/mapping/Utf8Output" "length" "I" (.int (0 : Int32)) := D22 (Or.inl (hw _ (List.mem_of_getElem? (i := 27) rfl))) (ty := .int) (by decide)
  have Z22 : n0 ≤ h22.size := Nat.le_trans Z18 E22.1
  obtain ⟨T28, _, L28, X28, ⟨rfl, Nq28, Kq28, r28, hr28, E28, Fb28, Fl28, A28, hg28⟩, st28⟩ := Own.callI (y := (⟨"com/example/edom/edom/mapping/Utf8Output", "<init>", "()V"⟩ : MethodName)) (W := 1) (argsL := []) (rest := [(.ref b22)]) (a := b22) X22 hx hZ hown rfl (hw _ (List.mem_of_getElem? (i := 4) rfl)) (hw _ (List.mem_of_getElem? (i := 5) rfl)) (hw _ (List.mem_of_getElem? (i := 3) rfl)) (hw _ (List.mem_of_getElem? (i := 6) rfl)) (by decide) e22 (rm11 l Z a0 hw [] b22  h22 n0 Z22 g0_b22 A22 f26 f27) (by decide) (by decide) (by decide) (by decide) (g := (mkF m 82 #[.val (.int p0), .val (.int p1), .val (.int p2), .val (.int p3), .val (.int p4), .val (.int p5), .val (.ref b1), .val (.int v12), .val (.int v14), .val (.int v15), .val (.int v17), .val (.ref b18), .val (.int (0 : Int32)), .unset, .unset] [(.ref b22), (.ref b22)])) rfl (by rw [hml]; rfl) (lenOf pd_4 rfl) rfl (by show 2 * 0 + _ ≤ _; exact Nat.le_of_eq rfl) (hb hby at_82)
  have N28 := Fr.app N10 Nq28
  have f29 : Own.AvI Z T28.heap b1 .byte 3 sf := f23.keep Kq28 (ninS (Own.ne_of (by omega)) nin0)
  have f30 : Exa Z T28.heap b1 "[B" := f24.keep Kq28
  have f31 : Own.AvI Z T28.heap b18 .byte 10 (fun _ => 0) := f25.keep Kq28 (ninS (Own.ne_of (by omega)) nin0)
  have Z28 : n0 ≤ T28.heap.size := Nat.le_trans Z22 Kq28.1
  have hag0 : ∀ i, i < 0 → (fun _ => 0 : Nat → Int32) i = (fun _ => 0 : Nat → Int32) i := fun _ _ => rfl
  refine hD _ (T28.setTop (mkF m 87 #[.val (.int p0), .val (.int p1), .val (.int p2), .val (.int p3), .val (.int p4), .val (.int p5), .val (.ref b1), .val (.int v12), .val (.int v14), .val (.int v15), .val (.int v17), .val (.ref b18), .val (.int (0 : Int32)), .val (.ref b22), .unset] [])) (fun t kt_ => ?_) ?_
  · show Steps p.tables e below (s₁.setTop (mkF m 0 #[.val (.int p0), .val (.int p1), .val (.int p2), .val (.int p3), .val (.int p4), .val (.int p5), .unset, .unset, .unset, .unset, .unset, .unset, .unset, .unset, .unset] [])) t
    refine XS.iconst X0.here hx rfl (hb hby at_0) ?_
    show Steps p.tables e below (s₁.setTop (mkF m 1 #[.val (.int p0), .val (.int p1), .val (.int p2), .val (.int p3), .val (.int p4), .val (.int p5), .unset, .unset, .unset, .unset, .unset, .unset, .unset, .unset, .unset] [(.int (3 : Int32))])) t
    refine st1 _ ?_
    show Steps p.tables e below (T1.setTop (mkF m 3 #[.val (.int p0), .val (.int p1), .val (.int p2), .val (.int p3), .val (.int p4), .val (.int p5), .unset, .unset, .unset, .unset, .unset, .unset, .unset, .unset, .unset] [(.ref b1)])) t
    refine XS.astore X1.here hx rfl (hb hby at_3) rfl rfl (l' := #[.val (.int p0), .val (.int p1), .val (.int p2), .val (.int p3), .val (.int p4), .val (.int p5), .val (.ref b1), .unset, .unset, .unset, .unset, .unset, .unset, .unset, .unset]) rfl ?_
    show Steps p.tables e below (T1.setTop (mkF m 5 #[.val (.int p0), .val (.int p1), .val (.int p2), .val (.int p3), .val (.int p4), .val (.int p5), .val (.ref b1), .unset, .unset, .unset, .unset, .unset, .unset, .unset, .unset] [])) t
    refine XS.aload X1.here hx rfl (hb hby at_5) rfl rfl ?_
    show Steps p.tables e below (T1.setTop (mkF m 7 #[.val (.int p0), .val (.int p1), .val (.int p2), .val (.int p3), .val (.int p4), .val (.int p5), .val (.ref b1), .unset, .unset, .unset, .unset, .unset, .unset, .unset, .unset] [(.ref b1)])) t
    refine XS.iconst X1.here hx rfl (hb hby at_7) ?_
    show Steps p.tables e below (T1.setTop (mkF m 8 #[.val (.int p0), .val (.int p1), .val (.int p2), .val (.int p3), .val (.int p4), .val (.int p5), .val (.ref b1), .unset, .unset, .unset, .unset, .unset, .unset, .unset, .unset] [(.int (0 : Int32)), (.ref b1)])) t
    refine XS.iloadN X1.here hx rfl (hb hby at_8) rfl ?_
    show Steps p.tables e below (T1.setTop (mkF m 9 #[.val (.int p0), .val (.int p1), .val (.int p2), .val (.int p3), .val (.int p4), .val (.int p5), .val (.ref b1), .unset, .unset, .unset, .unset, .unset, .unset, .unset, .unset] [(.int p2), (.int (0 : Int32)), (.ref b1)])) t
    refine XS.i2b X1.here hx rfl (hb hby at_9) rfl ?_
    show Steps p.tables e below (T1.setTop (mkF m 10 #[.val (.int p0), .val (.int p1), .val (.int p2), .val (.int p3), .val (.int p4), .val (.int p5), .val (.ref b1), .unset, .unset, .unset, .unset, .unset, .unset, .unset, .unset] [(.int (p2.toInt8.toInt32)), (.int (0 : Int32)), (.ref b1)])) t
    refine st4 _ ?_
    show Steps p.tables e below (T4.setTop (mkF m 11 #[.val (.int p0), .val (.int p1), .val (.int p2), .val (.int p3), .val (.int p4), .val (.int p5), .val (.ref b1), .unset, .unset, .unset, .unset, .unset, .unset, .unset, .unset] [])) t
    refine XS.aload X4.here hx rfl (hb hby at_11) rfl rfl ?_
    show Steps p.tables e below (T4.setTop (mkF m 13 #[.val (.int p0), .val (.int p1), .val (.int p2), .val (.int p3), .val (.int p4), .val (.int p5), .val (.ref b1), .unset, .unset, .unset, .unset, .unset, .unset, .unset, .unset] [(.ref b1)])) t
    refine XS.iconst X4.here hx rfl (hb hby at_13) ?_
    show Steps p.tables e below (T4.setTop (mkF m 14 #[.val (.int p0), .val (.int p1), .val (.int p2), .val (.int p3), .val (.int p4), .val (.int p5), .val (.ref b1), .unset, .unset, .unset, .unset, .unset, .unset, .unset, .unset] [(.int (1 : Int32)), (.ref b1)])) t
    refine XS.iloadN X4.here hx rfl (hb hby at_14) rfl ?_
    show Steps p.tables e below (T4.setTop (mkF m 15 #[.val (.int p0), .val (.int p1), .val (.int p2), .val (.int p3), .val (.int p4), .val (.int p5), .val (.ref b1), .unset, .unset, .unset, .unset, .unset, .unset, .unset, .unset] [(.int p2), (.int (1 : Int32)), (.ref b1)])) t
    refine XS.bipush X4.here hx rfl (hb hby at_15) ?_
    show Steps p.tables e below (T4.setTop (mkF m 17 #[.val (.int p0), .val (.int p1), .val (.int p2), .val (.int p3), .val (.int p4), .val (.int p5), .val (.ref b1), .unset, .unset, .unset, .unset, .unset, .unset, .unset, .unset] [(.int (8 : Int32)), (.int p2), (.int (1 : Int32)), (.ref b1)])) t
    refine XS.iushr X4.here hx rfl (hb hby at_17) rfl ?_
    show Steps p.tables e below (T4.setTop (mkF m 18 #[.val (.int p0), .val (.int p1), .val (.int p2), .val (.int p3), .val (.int p4), .val (.int p5), .val (.ref b1), .unset, .unset, .unset, .unset, .unset, .unset, .unset, .unset] [(.int ((p2.toUInt32 >>> ((8 : Int32) &&& 31).toUInt32).toInt32)), (.int (1 : Int32)), (.ref b1)])) t
    refine XS.i2b X4.here hx rfl (hb hby at_18) rfl ?_
    show Steps p.tables e below (T4.setTop (mkF m 19 #[.val (.int p0), .val (.int p1), .val (.int p2), .val (.int p3), .val (.int p4), .val (.int p5), .val (.ref b1), .unset, .unset, .unset, .unset, .unset, .unset, .unset, .unset] [(.int (((p2.toUInt32 >>> ((8 : Int32) &&& 31).toUInt32).toInt32).toInt8.toInt32)), (.int (1 : Int32)), (.ref b1)])) t
    refine st7 _ ?_
    show Steps p.tables e below (T7.setTop (mkF m 20 #[.val (.int p0), .val (.int p1), .val (.int p2), .val (.int p3), .val (.int p4), .val (.int p5), .val (.ref b1), .unset, .unset, .unset, .unset, .unset, .unset, .unset, .unset] [])) t
    refine XS.aload X7.here hx rfl (hb hby at_20) rfl rfl ?_
    show Steps p.tables e below (T7.setTop (mkF m 22 #[.val (.int p0), .val (.int p1), .val (.int p2), .val (.int p3), .val (.int p4), .val (.int p5), .val (.ref b1), .unset, .unset, .unset, .unset, .unset, .unset, .unset, .unset] [(.ref b1)])) t
    refine XS.iconst X7.here hx rfl (hb hby at_22) ?_
    show Steps p.tables e below (T7.setTop (mkF m 23 #[.val (.int p0), .val (.int p1), .val (.int p2), .val (.int p3), .val (.int p4), .val (.int p5), .val (.ref b1), .unset, .unset, .unset, .unset, .unset, .unset, .unset, .unset] [(.int (2 : Int32)), (.ref b1)])) t
    refine XS.iloadN X7.here hx rfl (hb hby at_23) rfl ?_
    show Steps p.tables e below (T7.setTop (mkF m 24 #[.val (.int p0), .val (.int p1), .val (.int p2), .val (.int p3), .val (.int p4), .val (.int p5), .val (.ref b1), .unset, .unset, .unset, .unset, .unset, .unset, .unset, .unset] [(.int p2), (.int (2 : Int32)), (.ref b1)])) t
    refine XS.bipush X7.here hx rfl (hb hby at_24) ?_
    show Steps p.tables e below (T7.setTop (mkF m 26 #[.val (.int p0), .val (.int p1), .val (.int p2), .val (.int p3), .val (.int p4), .val (.int p5), .val (.ref b1), .unset, .unset, .unset, .unset, .unset, .unset, .unset, .unset] [(.int (16 : Int32)), (.int p2), (.int (2 : Int32)), (.ref b1)])) t
    refine XS.iushr X7.here hx rfl (hb hby at_26) rfl ?_
    show Steps p.tables e below (T7.setTop (mkF m 27 #[.val (.int p0), .val (.int p1), .val (.int p2), .val (.int p3), .val (.int p4), .val (.int p5), .val (.ref b1), .unset, .unset, .unset, .unset, .unset, .unset, .unset, .unset] [(.int ((p2.toUInt32 >>> ((16 : Int32) &&& 31).toUInt32).toInt32)), (.int (2 : Int32)), (.ref b1)])) t
    refine XS.i2b X7.here hx rfl (hb hby at_27) rfl ?_
    show Steps p.tables e below (T7.setTop (mkF m 28 #[.val (.int p0), .val (.int p1), .val (.int p2), .val (.int p3), .val (.int p4), .val (.int p5), .val (.ref b1), .unset, .unset, .unset, .unset, .unset, .unset, .unset, .unset] [(.int (((p2.toUInt32 >>> ((16 : Int32) &&& 31).toUInt32).toInt32).toInt8.toInt32)), (.int (2 : Int32)), (.ref b1)])) t
    refine st10 _ ?_
    show Steps p.tables e below (T10.setTop (mkF m 29 #[.val (.int p0), .val (.int p1), .val (.int p2), .val (.int p3), .val (.int p4), .val (.int p5), .val (.ref b1), .unset, .unset, .unset, .unset, .unset, .unset, .unset, .unset] [])) t
    refine XS.iloadN X10.here hx rfl (hb hby at_29) rfl ?_
    show Steps p.tables e below (T10.setTop (mkF m 30 #[.val (.int p0), .val (.int p1), .val (.int p2), .val (.int p3), .val (.int p4), .val (.int p5), .val (.ref b1), .unset, .unset, .unset, .unset, .unset, .unset, .unset, .unset] [(.int p3)])) t
    refine XS.iconst X10.here hx rfl (hb hby at_30) ?_
    show Steps p.tables e below (T10.setTop (mkF m 31 #[.val (.int p0), .val (.int p1), .val (.int p2), .val (.int p3), .val (.int p4), .val (.int p5), .val (.ref b1), .unset, .unset, .unset, .unset, .unset, .unset, .unset, .unset] [(.int (3 : Int32)), (.int p3)])) t
    refine XS.iand X10.here hx rfl (hb hby at_31) rfl ?_
    show Steps p.tables e below (T10.setTop (mkF m 32 #[.val (.int p0), .val (.int p1), .val (.int p2), .val (.int p3), .val (.int p4), .val (.int p5), .val (.ref b1), .unset, .unset, .unset, .unset, .unset, .unset, .unset, .unset] [(.int (p3 &&& (3 : Int32)))])) t
    refine Own.nmI hv12 ?_
    show Steps p.tables e below (T10.setTop (mkF m 32 #[.val (.int p0), .val (.int p1), .val (.int p2), .val (.int p3), .val (.int p4), .val (.int p5), .val (.ref b1), .unset, .unset, .unset, .unset, .unset, .unset, .unset, .unset] [(.int v12)])) t
    refine XS.istore X10.here hx rfl (hb hby at_32) rfl (l' := #[.val (.int p0), .val (.int p1), .val (.int p2), .val (.int p3), .val (.int p4), .val (.int p5), .val (.ref b1), .val (.int v12), .unset, .unset, .unset, .unset, .unset, .unset, .unset]) rfl ?_
    show Steps p.tables e below (T10.setTop (mkF m 34 #[.val (.int p0), .val (.int p1), .val (.int p2), .val (.int p3), .val (.int p4), .val (.int p5), .val (.ref b1), .val (.int v12), .unset, .unset, .unset, .unset, .unset, .unset, .unset] [])) t
    refine XS.iloadN X10.here hx rfl (hb hby at_34) rfl ?_
    show Steps p.tables e below (T10.setTop (mkF m 35 #[.val (.int p0), .val (.int p1), .val (.int p2), .val (.int p3), .val (.int p4), .val (.int p5), .val (.ref b1), .val (.int v12), .unset, .unset, .unset, .unset, .unset, .unset, .unset] [(.int p3)])) t
    refine XS.iconst X10.here hx rfl (hb hby at_35) ?_
    show Steps p.tables e below (T10.setTop (mkF m 36 #[.val (.int p0), .val (.int p1), .val (.int p2), .val (.int p3), .val (.int p4), .val (.int p5), .val (.ref b1), .val (.int v12), .unset, .unset, .unset, .unset, .unset, .unset, .unset] [(.int (2 : Int32)), (.int p3)])) t
    refine XS.iushr X10.here hx rfl (hb hby at_36) rfl ?_
    show Steps p.tables e below (T10.setTop (mkF m 37 #[.val (.int p0), .val (.int p1), .val (.int p2), .val (.int p3), .val (.int p4), .val (.int p5), .val (.ref b1), .val (.int v12), .unset, .unset, .unset, .unset, .unset, .unset, .unset] [(.int ((p3.toUInt32 >>> ((2 : Int32) &&& 31).toUInt32).toInt32))])) t
    refine XS.sipush X10.here hx rfl (hb hby at_37) ?_
    show Steps p.tables e below (T10.setTop (mkF m 40 #[.val (.int p0), .val (.int p1), .val (.int p2), .val (.int p3), .val (.int p4), .val (.int p5), .val (.ref b1), .val (.int v12), .unset, .unset, .unset, .unset, .unset, .unset, .unset] [(.int (255 : Int32)), (.int ((p3.toUInt32 >>> ((2 : Int32) &&& 31).toUInt32).toInt32))])) t
    refine XS.iand X10.here hx rfl (hb hby at_40) rfl ?_
    show Steps p.tables e below (T10.setTop (mkF m 41 #[.val (.int p0), .val (.int p1), .val (.int p2), .val (.int p3), .val (.int p4), .val (.int p5), .val (.ref b1), .val (.int v12), .unset, .unset, .unset, .unset, .unset, .unset, .unset] [(.int (((p3.toUInt32 >>> ((2 : Int32) &&& 31).toUInt32).toInt32) &&& (255 : Int32)))])) t
    refine XS.iconst X10.here hx rfl (hb hby at_41) ?_
    show Steps p.tables e below (T10.setTop (mkF m 42 #[.val (.int p0), .val (.int p1), .val (.int p2), .val (.int p3), .val (.int p4), .val (.int p5), .val (.ref b1), .val (.int v12), .unset, .unset, .unset, .unset, .unset, .unset, .unset] [(.int (4 : Int32)), (.int (((p3.toUInt32 >>> ((2 : Int32) &&& 31).toUInt32).toInt32) &&& (255 : Int32)))])) t
    refine XS.iload X10.here hx rfl (hb hby at_42) rfl ?_
    show Steps p.tables e below (T10.setTop (mkF m 44 #[.val (.int p0), .val (.int p1), .val (.int p2), .val (.int p3), .val (.int p4), .val (.int p5), .val (.ref b1), .val (.int v12), .unset, .unset, .unset, .unset, .unset, .unset, .unset] [(.int v12), (.int (4 : Int32)), (.int (((p3.toUInt32 >>> ((2 : Int32) &&& 31).toUInt32).toInt32) &&& (255 : Int32)))])) t
    refine XS.isub X10.here hx rfl (hb hby at_44) rfl ?_
    show Steps p.tables e below (T10.setTop (mkF m 45 #[.val (.int p0), .val (.int p1), .val (.int p2), .val (.int p3), .val (.int p4), .val (.int p5), .val (.ref b1), .val (.int v12), .unset, .unset, .unset, .unset, .unset, .unset, .unset] [(.int ((4 : Int32) - v12)), (.int (((p3.toUInt32 >>> ((2 : Int32) &&& 31).toUInt32).toInt32) &&& (255 : Int32)))])) t
    refine Jvm.RoadKit.iremM (g := (mkF m 45 #[.val (.int p0), .val (.int p1), .val (.int p2), .val (.int p3), .val (.int p4), .val (.int p5), .val (.ref b1), .val (.int v12), .unset, .unset, .unset, .unset, .unset, .unset, .unset] [(.int ((4 : Int32) - v12)), (.int (((p3.toUInt32 >>> ((2 : Int32) &&& 31).toUInt32).toInt32) &&& (255 : Int32)))])) X10 hx rfl (hb hby at_45) rfl hnz13 ?_
    show Steps p.tables e below (T10.setTop (mkF m 46 #[.val (.int p0), .val (.int p1), .val (.int p2), .val (.int p3), .val (.int p4), .val (.int p5), .val (.ref b1), .val (.int v12), .unset, .unset, .unset, .unset, .unset, .unset, .unset] [(.int ((((p3.toUInt32 >>> ((2 : Int32) &&& 31).toUInt32).toInt32) &&& (255 : Int32)) % ((4 : Int32) - v12)))])) t
    refine Own.nmI hv14 ?_
    show Steps p.tables e below (T10.setTop (mkF m 46 #[.val (.int p0), .val (.int p1), .val (.int p2), .val (.int p3), .val (.int p4), .val (.int p5), .val (.ref b1), .val (.int v12), .unset, .unset, .unset, .unset, .unset, .unset, .unset] [(.int v14)])) t
    refine XS.istore X10.here hx rfl (hb hby at_46) rfl (l' := #[.val (.int p0), .val (.int p1), .val (.int p2), .val (.int p3), .val (.int p4), .val (.int p5), .val (.ref b1), .val (.int v12), .val (.int v14), .unset, .unset, .unset, .unset, .unset, .unset]) rfl ?_
    show Steps p.tables e below (T10.setTop (mkF m 48 #[.val (.int p0), .val (.int p1), .val (.int p2), .val (.int p3), .val (.int p4), .val (.int p5), .val (.ref b1), .val (.int v12), .val (.int v14), .unset, .unset, .unset, .unset, .unset, .unset] [])) t
    refine XS.iload X10.here hx rfl (hb hby at_48) rfl ?_
    show Steps p.tables e below (T10.setTop (mkF m 50 #[.val (.int p0), .val (.int p1), .val (.int p2), .val (.int p3), .val (.int p4), .val (.int p5), .val (.ref b1), .val (.int v12), .val (.int v14), .unset, .unset, .unset, .unset, .unset, .unset] [(.int p4)])) t
    refine XS.iconst X10.here hx rfl (hb hby at_50) ?_
    show Steps p.tables e below (T10.setTop (mkF m 51 #[.val (.int p0), .val (.int p1), .val (.int p2), .val (.int p3), .val (.int p4), .val (.int p5), .val (.ref b1), .val (.int v12), .val (.int v14), .unset, .unset, .unset, .unset, .unset, .unset] [(.int (3 : Int32)), (.int p4)])) t
    refine XS.iand X10.here hx rfl (hb hby at_51) rfl ?_
    show Steps p.tables e below (T10.setTop (mkF m 52 #[.val (.int p0), .val (.int p1), .val (.int p2), .val (.int p3), .val (.int p4), .val (.int p5), .val (.ref b1), .val (.int v12), .val (.int v14), .unset, .unset, .unset, .unset, .unset, .unset] [(.int (p4 &&& (3 : Int32)))])) t
    refine Own.nmI hv15 ?_
    show Steps p.tables e below (T10.setTop (mkF m 52 #[.val (.int p0), .val (.int p1), .val (.int p2), .val (.int p3), .val (.int p4), .val (.int p5), .val (.ref b1), .val (.int v12), .val (.int v14), .unset, .unset, .unset, .unset, .unset, .unset] [(.int v15)])) t
    refine XS.istore X10.here hx rfl (hb hby at_52) rfl (l' := #[.val (.int p0), .val (.int p1), .val (.int p2), .val (.int p3), .val (.int p4), .val (.int p5), .val (.ref b1), .val (.int v12), .val (.int v14), .val (.int v15), .unset, .unset, .unset, .unset, .unset]) rfl ?_
    show Steps p.tables e below (T10.setTop (mkF m 54 #[.val (.int p0), .val (.int p1), .val (.int p2), .val (.int p3), .val (.int p4), .val (.int p5), .val (.ref b1), .val (.int v12), .val (.int v14), .val (.int v15), .unset, .unset, .unset, .unset, .unset] [])) t
    refine XS.iload X10.here hx rfl (hb hby at_54) rfl ?_
    show Steps p.tables e below (T10.setTop (mkF m 56 #[.val (.int p0), .val (.int p1), .val (.int p2), .val (.int p3), .val (.int p4), .val (.int p5), .val (.ref b1), .val (.int v12), .val (.int v14), .val (.int v15), .unset, .unset, .unset, .unset, .unset] [(.int p4)])) t
    refine XS.iconst X10.here hx rfl (hb hby at_56) ?_
    show Steps p.tables e below (T10.setTop (mkF m 57 #[.val (.int p0), .val (.int p1), .val (.int p2), .val (.int p3), .val (.int p4), .val (.int p5), .val (.ref b1), .val (.int v12), .val (.int v14), .val (.int v15), .unset, .unset, .unset, .unset, .unset] [(.int (2 : Int32)), (.int p4)])) t
    refine XS.iushr X10.here hx rfl (hb hby at_57) rfl ?_
    show Steps p.tables e below (T10.setTop (mkF m 58 #[.val (.int p0), .val (.int p1), .val (.int p2), .val (.int p3), .val (.int p4), .val (.int p5), .val (.ref b1), .val (.int v12), .val (.int v14), .val (.int v15), .unset, .unset, .unset, .unset, .unset] [(.int ((p4.toUInt32 >>> ((2 : Int32) &&& 31).toUInt32).toInt32))])) t
    refine XS.sipush X10.here hx rfl (hb hby at_58) ?_
    show Steps p.tables e below (T10.setTop (mkF m 61 #[.val (.int p0), .val (.int p1), .val (.int p2), .val (.int p3), .val (.int p4), .val (.int p5), .val (.ref b1), .val (.int v12), .val (.int v14), .val (.int v15), .unset, .unset, .unset, .unset, .unset] [(.int (255 : Int32)), (.int ((p4.toUInt32 >>> ((2 : Int32) &&& 31).toUInt32).toInt32))])) t
    refine XS.iand X10.here hx rfl (hb hby at_61) rfl ?_
    show Steps p.tables e below (T10.setTop (mkF m 62 #[.val (.int p0), .val (.int p1), .val (.int p2), .val (.int p3), .val (.int p4), .val (.int p5), .val (.ref b1), .val (.int v12), .val (.int v14), .val (.int v15), .unset, .unset, .unset, .unset, .unset] [(.int (((p4.toUInt32 >>> ((2 : Int32) &&& 31).toUInt32).toInt32) &&& (255 : Int32)))])) t
    refine XS.iconst X10.here hx rfl (hb hby at_62) ?_
    show Steps p.tables e below (T10.setTop (mkF m 63 #[.val (.int p0), .val (.int p1), .val (.int p2), .val (.int p3), .val (.int p4), .val (.int p5), .val (.ref b1), .val (.int v12), .val (.int v14), .val (.int v15), .unset, .unset, .unset, .unset, .unset] [(.int (4 : Int32)), (.int (((p4.toUInt32 >>> ((2 : Int32) &&& 31).toUInt32).toInt32) &&& (255 : Int32)))])) t
    refine XS.iload X10.here hx rfl (hb hby at_63) rfl ?_
    show Steps p.tables e below (T10.setTop (mkF m 65 #[.val (.int p0), .val (.int p1), .val (.int p2), .val (.int p3), .val (.int p4), .val (.int p5), .val (.ref b1), .val (.int v12), .val (.int v14), .val (.int v15), .unset, .unset, .unset, .unset, .unset] [(.int v15), (.int (4 : Int32)), (.int (((p4.toUInt32 >>> ((2 : Int32) &&& 31).toUInt32).toInt32) &&& (255 : Int32)))])) t
    refine XS.isub X10.here hx rfl (hb hby at_65) rfl ?_
    show Steps p.tables e below (T10.setTop (mkF m 66 #[.val (.int p0), .val (.int p1), .val (.int p2), .val (.int p3), .val (.int p4), .val (.int p5), .val (.ref b1), .val (.int v12), .val (.int v14), .val (.int v15), .unset, .unset, .unset, .unset, .unset] [(.int ((4 : Int32) - v15)), (.int (((p4.toUInt32 >>> ((2 : Int32) &&& 31).toUInt32).toInt32) &&& (255 : Int32)))])) t
    refine Jvm.RoadKit.iremM (g := (mkF m 66 #[.val (.int p0), .val (.int p1), .val (.int p2), .val (.int p3), .val (.int p4), .val (.int p5), .val (.ref b1), .val (.int v12), .val (.int v14), .val (.int v15), .unset, .unset, .unset, .unset, .unset] [(.int ((4 : Int32) - v15)), (.int (((p4.toUInt32 >>> ((2 : Int32) &&& 31).toUInt32).toInt32) &&& (255 : Int32)))])) X10 hx rfl (hb hby at_66) rfl hnz16 ?_
    show Steps p.tables e below (T10.setTop (mkF m 67 #[.val (.int p0), .val (.int p1), .val (.int p2), .val (.int p3), .val (.int p4), .val (.int p5), .val (.ref b1), .val (.int v12), .val (.int v14), .val (.int v15), .unset, .unset, .unset, .unset, .unset] [(.int ((((p4.toUInt32 >>> ((2 : Int32) &&& 31).toUInt32).toInt32) &&& (255 : Int32)) % ((4 : Int32) - v15)))])) t
    refine Own.nmI hv17 ?_
    show Steps p.tables e below (T10.setTop (mkF m 67 #[.val (.int p0), .val (.int p1), .val (.int p2), .val (.int p3), .val (.int p4), .val (.int p5), .val (.ref b1), .val (.int v12), .val (.int v14), .val (.int v15), .unset, .unset, .unset, .unset, .unset] [(.int v17)])) t
    refine XS.istore X10.here hx rfl (hb hby at_67) rfl (l' := #[.val (.int p0), .val (.int p1), .val (.int p2), .val (.int p3), .val (.int p4), .val (.int p5), .val (.ref b1), .val (.int v12), .val (.int v14), .val (.int v15), .val (.int v17), .unset, .unset, .unset, .unset]) rfl ?_
    show Steps p.tables e below (T10.setTop (mkF m 69 #[.val (.int p0), .val (.int p1), .val (.int p2), .val (.int p3), .val (.int p4), .val (.int p5), .val (.ref b1), .val (.int v12), .val (.int v14), .val (.int v15), .val (.int v17), .unset, .unset, .unset, .unset] [])) t
    refine XS.bipush X10.here hx rfl (hb hby at_69) ?_
    show Steps p.tables e below (T10.setTop (mkF m 71 #[.val (.int p0), .val (.int p1), .val (.int p2), .val (.int p3), .val (.int p4), .val (.int p5), .val (.ref b1), .val (.int v12), .val (.int v14), .val (.int v15), .val (.int v17), .unset, .unset, .unset, .unset] [(.int (10 : Int32))])) t
    refine st18 _ ?_
    show Steps p.tables e below (T18.setTop (mkF m 73 #[.val (.int p0), .val (.int p1), .val (.int p2), .val (.int p3), .val (.int p4), .val (.int p5), .val (.ref b1), .val (.int v12), .val (.int v14), .val (.int v15), .val (.int v17), .unset, .unset, .unset, .unset] [(.ref b18)])) t
    refine XS.astore X18.here hx rfl (hb hby at_73) rfl rfl (l' := #[.val (.int p0), .val (.int p1), .val (.int p2), .val (.int p3), .val (.int p4), .val (.int p5), .val (.ref b1), .val (.int v12), .val (.int v14), .val (.int v15), .val (.int v17), .val (.ref b18), .unset, .unset, .unset]) rfl ?_
    show Steps p.tables e below (T18.setTop (mkF m 75 #[.val (.int p0), .val (.int p1), .val (.int p2), .val (.int p3), .val (.int p4), .val (.int p5), .val (.ref b1), .val (.int v12), .val (.int v14), .val (.int v15), .val (.int v17), .val (.ref b18), .unset, .unset, .unset] [])) t
    refine XS.iconst X18.here hx rfl (hb hby at_75) ?_
    show Steps p.tables e below (T18.setTop (mkF m 76 #[.val (.int p0), .val (.int p1), .val (.int p2), .val (.int p3), .val (.int p4), .val (.int p5), .val (.ref b1), .val (.int v12), .val (.int v14), .val (.int v15), .val (.int v17), .val (.ref b18), .unset, .unset, .unset] [(.int (0 : Int32))])) t
    refine XS.istore X18.here hx rfl (hb hby at_76) rfl (l' := #[.val (.int p0), .val (.int p1), .val (.int p2), .val (.int p3), .val (.int p4), .val (.int p5), .val (.ref b1), .val (.int v12), .val (.int v14), .val (.int v15), .val (.int v17), .val (.ref b18), .val (.int (0 : Int32)), .unset, .unset]) rfl ?_
    show Steps p.tables e below (T18.setTop (mkF m 78 #[.val (.int p0), .val (.int p1), .val (.int p2), .val (.int p3), .val (.int p4), .val (.int p5), .val (.ref b1), .val (.int v12), .val (.int v14), .val (.int v15), .val (.int v17), .val (.ref b18), .val (.int (0 : Int32)), .unset, .unset] [])) t
    refine st22 _ ?_
    show Steps p.tables e below (T22.setTop (mkF m 81 #[.val (.int p0), .val (.int p1), .val (.int p2), .val (.int p3), .val (.int p4), .val (.int p5), .val (.ref b1), .val (.int v12), .val (.int v14), .val (.int v15), .val (.int v17), .val (.ref b18), .val (.int (0 : Int32)), .unset, .unset] [(.ref b22)])) t
    refine XS.dup X22.here hx rfl (hb hby at_81) rfl rfl ?_
    show Steps p.tables e below (T22.setTop (mkF m 82 #[.val (.int p0), .val (.int p1), .val (.int p2), .val (.int p3), .val (.int p4), .val (.int p5), .val (.ref b1), .val (.int v12), .val (.int v14), .val (.int v15), .val (.int v17), .val (.ref b18), .val (.int (0 : Int32)), .unset, .unset] [(.ref b22), (.ref b22)])) t
    refine st28 _ ?_
    show Steps p.tables e below (T28.setTop (mkF m 85 #[.val (.int p0), .val (.int p1), .val (.int p2), .val (.int p3), .val (.int p4), .val (.int p5), .val (.ref b1), .val (.int v12), .val (.int v14), .val (.int v15), .val (.int v17), .val (.ref b18), .val (.int (0 : Int32)), .unset, .unset] [(.ref b22)])) t
    refine XS.astore X28.here hx rfl (hb hby at_85) rfl rfl (l' := #[.val (.int p0), .val (.int p1), .val (.int p2), .val (.int p3), .val (.int p4), .val (.int p5), .val (.ref b1), .val (.int v12), .val (.int v14), .val (.int v15), .val (.int v17), .val (.ref b18), .val (.int (0 : Int32)), .val (.ref b22), .unset]) rfl ?_
    show Steps p.tables e below (T28.setTop (mkF m 87 #[.val (.int p0), .val (.int p1), .val (.int p2), .val (.int p3), .val (.int p4), .val (.int p5), .val (.ref b1), .val (.int v12), .val (.int v14), .val (.int v15), .val (.int v17), .val (.ref b18), .val (.int (0 : Int32)), .val (.ref b22), .unset] [])) t
    exact kt_
  have J140 : ∀ (T32 : State) (locs32 : List Loc) (h32 : Heap) (r_140 : Nat) (N_140 : Nat) (ln_140 : Nat) (g_140 : Nat → Int32) (ef_140 : Nat → Int32), Stand p l e room_1 s m #[(.int p0), (.int p1), (.int p2), (.int p3), (.int p4), (.int p5)] below meth c T32 locs32 5 35 → T32.heap = h32 → Fr n0 locs32 → n0 ≤ h32.size → Own.AvI Z h32 b1 .byte 3 sf → Exa Z h32 b1 "[B" → Own.AvI Z h32 b18 .byte 10 ef_140 → Exa Z h32 b22 "com/example/edom/edom/mapping/Utf8Output" → Fld Z h32 b22 "com/example/edom/edom/mapping/Utf8Output" "bytes" "[B" (.ref r_140) → Fld Z h32 b22 "com/example/edom/edom/mapping/Utf8Output" "length" "I" (.int (Int32.ofNat ln_140)) → Own.AvI Z h32 r_140 .byte N_140 g_140 → (b22 : Nat) < r_140 → Own.FitsB g_140 → ln_140 ≤ N_140 → N_140 ≤ 20 → ln_140 ≤ 3 → (∀ i, i < ln_140 → g_140 i = ef_140 i) → D (T32.setTop (mkF m 140 #[.val (.int p0), .val (.int p1), .val (.int p2), .val (.int p3), .val (.int p4), .val (.int p5), .val (.ref b1), .val (.int v12), .val (.int v14), .val (.int v15), .val (.int v17), .val (.ref b18), .val (.int (Int32.ofNat ln_140)), .val (.ref b22), .unset] [])) := by
    intro T32 locs32 h32 r_140 N_140 ln_140 g_140 ef_140 X32 e32 N32 Z32 f33 f34 f35 f36 f37 f38 f39 hor_140 hgf_140 hlN_140 hN20_140 hl_140 hag_140
    refine hD _ (T32.setTop (mkF m 142 #[.val (.int p0), .val (.int p1), .val (.int p2), .val (.int p3), .val (.int p4), .val (.int p5), .val (.ref b1), .val (.int v12), .val (.int v14), .val (.int v15), .val (.int v17), .val (.ref b18), .val (.int (Int32.ofNat ln_140)), .val (.ref b22), .unset] [(.int p5)])) (fun t kt_ => ?_) ?_
    · show Steps p.tables e below (T32.setTop (mkF m 140 #[.val (.int p0), .val (.int p1), .val (.int p2), .val (.int p3), .val (.int p4), .val (.int p5), .val (.ref b1), .val (.int v12), .val (.int v14), .val (.int v15), .val (.int v17), .val (.ref b18), .val (.int (Int32.ofNat ln_140)), .val (.ref b22), .unset] [])) t
      refine XS.iload X32.here hx rfl (hb hby at_140) rfl ?_
      show Steps p.tables e below (T32.setTop (mkF m 142 #[.val (.int p0), .val (.int p1), .val (.int p2), .val (.int p3), .val (.int p4), .val (.int p5), .val (.ref b1), .val (.int v12), .val (.int v14), .val (.int v15), .val (.int v17), .val (.ref b18), .val (.int (Int32.ofNat ln_140)), .val (.ref b22), .unset] [(.int p5)])) t
      exact kt_
    have J173 : ∀ (T40 : State) (locs40 : List Loc) (h40 : Heap) (r_173 : Nat) (N_173 : Nat) (ln_173 : Nat) (g_173 : Nat → Int32) (ef_173 : Nat → Int32), Stand p l e room_1 s m #[(.int p0), (.int p1), (.int p2), (.int p3), (.int p4), (.int p5)] below meth c T40 locs40 6 55 → T40.heap = h40 → Fr n0 locs40 → n0 ≤ h40.size → Own.AvI Z h40 b1 .byte 3 sf → Exa Z h40 b1 "[B" → Own.AvI Z h40 b18 .byte 10 ef_173 → Exa Z h40 b22 "com/example/edom/edom/mapping/Utf8Output" → Fld Z h40 b22 "com/example/edom/edom/mapping/Utf8Output" "bytes" "[B" (.ref r_173) → Fld Z h40 b22 "com/example/edom/edom/mapping/Utf8Output" "length" "I" (.int (Int32.ofNat ln_173)) → Own.AvI Z h40 r_173 .byte N_173 g_173 → (b22 : Nat) < r_173 → Own.FitsB g_173 → ln_173 ≤ N_173 → N_173 ≤ 20 → ln_173 ≤ 6 → (∀ i, i < ln_173 → g_173 i = ef_173 i) → D (T40.setTop (mkF m 173 #[.val (.int p0), .val (.int p1), .val (.int p2), .val (.int p3), .val (.int p4), .val (.int p5), .val (.ref b1), .val (.int v12), .val (.int v14), .val (.int v15), .val (.int v17), .val (.ref b18), .val (.int (Int32.ofNat ln_173)), .val (.ref b22), .unset] [])) := by
      intro T40 locs40 h40 r_173 N_173 ln_173 g_173 ef_173 X40 e40 N40 Z40 f41 f42 f43 f44 f45 f46 f47 hor_173 hgf_173 hlN_173 hN20_173 hl_173 hag_173
      refine hD _ (T40.setTop (mkF m 175 #[.val (.int p0), .val (.int p1), .val (.int p2), .val (.int p3), .val (.int p4), .val (.int p5), .val (.ref b1), .val (.int v12), .val (.int v14), .val (.int v15), .val (.int v17), .val (.ref b18), .val (.int (Int32.ofNat ln_173)), .val (.ref b22), .unset] [(.int p5)])) (fun t kt_ => ?_) ?_
      · show Steps p.tables e below (T40.setTop (mkF m 173 #[.val (.int p0), .val (.int p1), .val (.int p2), .val (.int p3), .val (.int p4), .val (.int p5), .val (.ref b1), .val (.int v12), .val (.int v14), .val (.int v15), .val (.int v17), .val (.ref b18), .val (.int (Int32.ofNat ln_173)), .val (.ref b22), .unset] [])) t
        refine XS.iload X40.here hx rfl (hb hby at_173) rfl ?_
        show Steps p.tables e below (T40.setTop (mkF m 175 #[.val (.int p0), .val (.int p1), .val (.int p2), .val (.int p3), .val (.int p4), .val (.int p5), .val (.ref b1), .val (.int v12), .val (.int v14), .val (.int v15), .val (.int v17), .val (.ref b18), .val (.int (Int32.ofNat ln_173)), .val (.ref b22), .unset] [(.int p5)])) t
        exact kt_
      have J197 : ∀ (T48 : State) (locs48 : List Loc) (h48 : Heap) (r_197 : Nat) (N_197 : Nat) (ln_197 : Nat) (g_197 : Nat → Int32) (ef_197 : Nat → Int32), Stand p l e room_1 s m #[(.int p0), (.int p1), (.int p2), (.int p3), (.int p4), (.int p5)] below meth c T48 locs48 7 75 → T48.heap = h48 → Fr n0 locs48 → n0 ≤ h48.size → Own.AvI Z h48 b1 .byte 3 sf → Exa Z h48 b1 "[B" → Own.AvI Z h48 b18 .byte 10 ef_197 → Exa Z h48 b22 "com/example/edom/edom/mapping/Utf8Output" → Fld Z h48 b22 "com/example/edom/edom/mapping/Utf8Output" "bytes" "[B" (.ref r_197) → Fld Z h48 b22 "com/example/edom/edom/mapping/Utf8Output" "length" "I" (.int (Int32.ofNat ln_197)) → Own.AvI Z h48 r_197 .byte N_197 g_197 → (b22 : Nat) < r_197 → Own.FitsB g_197 → ln_197 ≤ N_197 → N_197 ≤ 20 → ln_197 ≤ 7 → (∀ i, i < ln_197 → g_197 i = ef_197 i) → D (T48.setTop (mkF m 197 #[.val (.int p0), .val (.int p1), .val (.int p2), .val (.int p3), .val (.int p4), .val (.int p5), .val (.ref b1), .val (.int v12), .val (.int v14), .val (.int v15), .val (.int v17), .val (.ref b18), .val (.int (Int32.ofNat ln_197)), .val (.ref b22), .unset] [])) := by
        intro T48 locs48 h48 r_197 N_197 ln_197 g_197 ef_197 X48 e48 N48 Z48 f49 f50 f51 f52 f53 f54 f55 hor_197 hgf_197 hlN_197 hN20_197 hl_197 hag_197
        refine hD _ (T48.setTop (mkF m 199 #[.val (.int p0), .val (.int p1), .val (.int p2), .val (.int p3), .val (.int p4), .val (.int p5), .val (.ref b1), .val (.int v12), .val (.int v14), .val (.int v15), .val (.int v17), .val (.ref b18), .val (.int (Int32.ofNat ln_197)), .val (.ref b22), .unset] [(.int p5)])) (fun t kt_ => ?_) ?_
        · show Steps p.tables e below (T48.setTop (mkF m 197 #[.val (.int p0), .val (.int p1), .val (.int p2), .val (.int p3), .val (.int p4), .val (.int p5), .val (.ref b1), .val (.int v12), .val (.int v14), .val (.int v15), .val (.int v17), .val (.ref b18), .val (.int (Int32.ofNat ln_197)), .val (.ref b22), .unset] [])) t
          refine XS.iload X48.here hx rfl (hb hby at_197) rfl ?_
          show Steps p.tables e below (T48.setTop (mkF m 199 #[.val (.int p0), .val (.int p1), .val (.int p2), .val (.int p3), .val (.int p4), .val (.int p5), .val (.ref b1), .val (.int v12), .val (.int v14), .val (.int v15), .val (.int v17), .val (.ref b18), .val (.int (Int32.ofNat ln_197)), .val (.ref b22), .unset] [(.int p5)])) t
          exact kt_
        have J231 : ∀ (T56 : State) (locs56 : List Loc) (h56 : Heap) (r_231 : Nat) (N_231 : Nat) (ln_231 : Nat) (g_231 : Nat → Int32) (ef_231 : Nat → Int32), Stand p l e room_1 s m #[(.int p0), (.int p1), (.int p2), (.int p3), (.int p4), (.int p5)] below meth c T56 locs56 8 95 → T56.heap = h56 → Fr n0 locs56 → n0 ≤ h56.size → Own.AvI Z h56 b1 .byte 3 sf → Exa Z h56 b1 "[B" → Own.AvI Z h56 b18 .byte 10 ef_231 → Exa Z h56 b22 "com/example/edom/edom/mapping/Utf8Output" → Fld Z h56 b22 "com/example/edom/edom/mapping/Utf8Output" "bytes" "[B" (.ref r_231) → Fld Z h56 b22 "com/example/edom/edom/mapping/Utf8Output" "length" "I" (.int (Int32.ofNat ln_231)) → Own.AvI Z h56 r_231 .byte N_231 g_231 → (b22 : Nat) < r_231 → Own.FitsB g_231 → ln_231 ≤ N_231 → N_231 ≤ 20 → ln_231 ≤ 10 → (∀ i, i < ln_231 → g_231 i = ef_231 i) → D (T56.setTop (mkF m 231 #[.val (.int p0), .val (.int p1), .val (.int p2), .val (.int p3), .val (.int p4), .val (.int p5), .val (.ref b1), .val (.int v12), .val (.int v14), .val (.int v15), .val (.int v17), .val (.ref b18), .val (.int (Int32.ofNat ln_231)), .val (.ref b22), .unset] [])) := by
          intro T56 locs56 h56 r_231 N_231 ln_231 g_231 ef_231 X56 e56 N56 Z56 f57 f58 f59 f60 f61 f62 f63 hor_231 hgf_231 hlN_231 hN20_231 hl_231 hag_231
          obtain ⟨T64, _, L64, X64, ⟨b64, f64, rfl, Nq64, Kq64, A64, hk64⟩, st64⟩ := Own.callV (y := (⟨"com/example/edom/edom/mapping/Utf8Output", "toByteArray", "()[B"⟩ : MethodName)) (W := 0) (argsL := []) (rest := []) (a := b22) X56 hx hZ hown (hw _ (List.mem_of_getElem? (i := 68) rfl)) (hw _ (List.mem_of_getElem? (i := 69) rfl)) (hw _ (List.mem_of_getElem? (i := 71) rfl)) (hw _ (List.mem_of_getElem? (i := 70) rfl)) (hw _ (List.mem_of_getElem? (i := 3) rfl)) (hw _ (List.mem_of_getElem? (i := 72) rfl)) (by decide) e56 f60 (rm15 l Z a0 hw [] b22 r_231 N_231 ln_231 g_231 h56 n0 Z56 g0_b22 hor_231 hgf_231 hlN_231 (by omega) hN20_231 f60 f61 f62 f63) (by decide) (by decide) (by decide) (by decide) (g := (mkF m 233 #[.val (.int p0), .val (.int p1), .val (.int p2), .val (.int p3), .val (.int p4), .val (.int p5), .val (.ref b1), .val (.int v12), .val (.int v14), .val (.int v15), .val (.int v17), .val (.ref b18), .val (.int (Int32.ofNat ln_231)), .val (.ref b22), .unset] [(.ref b22)])) rfl (by rw [hml]; rfl) (lenOf pd_8 rfl) rfl (by show 2 * 0 + _ ≤ _; exact Nat.le_of_eq rfl) (hb hby at_233)
          have N64 := Fr.app N56 Nq64
          have f65 : Own.AvI Z T64.heap b1 .byte 3 sf := f57.keep Kq64 nin0
          have f66 : Exa Z T64.heap b1 "[B" := f58.keep Kq64
          have f67 : Own.AvI Z T64.heap b18 .byte 10 ef_231 := f59.keep Kq64 nin0
          have f68 : Exa Z T64.heap b22 "com/example/edom/edom/mapping/Utf8Output" := f60.keep Kq64
          have f69 : Fld Z T64.heap b22 "com/example/edom/edom/mapping/Utf8Output" "bytes" "[B" (.ref r_231) := f61.keep Kq64 nin0
          have f70 : Fld Z T64.heap b22 "com/example/edom/edom/mapping/Utf8Output" "length" "I" (.int (Int32.ofNat ln_231)) := f62.keep Kq64 nin0
          have f71 : Own.AvI Z T64.heap r_231 .byte N_231 g_231 := f63.keep Kq64 nin0
          refine hD _ (T64.setTop (mkF m 243 #[.val (.int p0), .val (.int p1), .val (.int p2), .val (.int p3), .val (.int p4), .val (.int p5), .val (.ref b1), .val (.int v12), .val (.int v14), .val (.int v15), .val (.int v17), .val (.ref b18), .val (.int (Int32.ofNat ln_231)), .val (.ref b22), .val (.ref b64)] [(.int (Int32.ofNat ln_231)), (.int (Int32.ofNat ln_231))])) (fun t kt_ => ?_) ?_
          · show Steps p.tables e below (T56.setTop (mkF m 231 #[.val (.int p0), .val (.int p1), .val (.int p2), .val (.int p3), .val (.int p4), .val (.int p5), .val (.ref b1), .val (.int v12), .val (.int v14), .val (.int v15), .val (.int v17), .val (.ref b18), .val (.int (Int32.ofNat ln_231)), .val (.ref b22), .unset] [])) t
            refine XS.aload X56.here hx rfl (hb hby at_231) rfl rfl ?_
            show Steps p.tables e below (T56.setTop (mkF m 233 #[.val (.int p0), .val (.int p1), .val (.int p2), .val (.int p3), .val (.int p4), .val (.int p5), .val (.ref b1), .val (.int v12), .val (.int v14), .val (.int v15), .val (.int v17), .val (.ref b18), .val (.int (Int32.ofNat ln_231)), .val (.ref b22), .unset] [(.ref b22)])) t
            refine st64 _ ?_
            show Steps p.tables e below (T64.setTop (mkF m 236 #[.val (.int p0), .val (.int p1), .val (.int p2), .val (.int p3), .val (.int p4), .val (.int p5), .val (.ref b1), .val (.int v12), .val (.int v14), .val (.int v15), .val (.int v17), .val (.ref b18), .val (.int (Int32.ofNat ln_231)), .val (.ref b22), .unset] [(.ref b64)])) t
            refine XS.astore X64.here hx rfl (hb hby at_236) rfl rfl (l' := #[.val (.int p0), .val (.int p1), .val (.int p2), .val (.int p3), .val (.int p4), .val (.int p5), .val (.ref b1), .val (.int v12), .val (.int v14), .val (.int v15), .val (.int v17), .val (.ref b18), .val (.int (Int32.ofNat ln_231)), .val (.ref b22), .val (.ref b64)]) rfl ?_
            show Steps p.tables e below (T64.setTop (mkF m 238 #[.val (.int p0), .val (.int p1), .val (.int p2), .val (.int p3), .val (.int p4), .val (.int p5), .val (.ref b1), .val (.int v12), .val (.int v14), .val (.int v15), .val (.int v17), .val (.ref b18), .val (.int (Int32.ofNat ln_231)), .val (.ref b22), .val (.ref b64)] [])) t
            refine XS.aload X64.here hx rfl (hb hby at_238) rfl rfl ?_
            show Steps p.tables e below (T64.setTop (mkF m 240 #[.val (.int p0), .val (.int p1), .val (.int p2), .val (.int p3), .val (.int p4), .val (.int p5), .val (.ref b1), .val (.int v12), .val (.int v14), .val (.int v15), .val (.int v17), .val (.ref b18), .val (.int (Int32.ofNat ln_231)), .val (.ref b22), .val (.ref b64)] [(.ref b64)])) t
            refine Own.lenI X64 hx hZ rfl A64 (g := (mkF m 240 #[.val (.int p0), .val (.int p1), .val (.int p2), .val (.int p3), .val (.int p4), .val (.int p5), .val (.ref b1), .val (.int v12), .val (.int v14), .val (.int v15), .val (.int v17), .val (.ref b18), .val (.int (Int32.ofNat ln_231)), .val (.ref b22), .val (.ref b64)] [(.ref b64)])) rfl rfl (hb hby at_240) _ ?_
            show Steps p.tables e below (T64.setTop (mkF m 241 #[.val (.int p0), .val (.int p1), .val (.int p2), .val (.int p3), .val (.int p4), .val (.int p5), .val (.ref b1), .val (.int v12), .val (.int v14), .val (.int v15), .val (.int v17), .val (.ref b18), .val (.int (Int32.ofNat ln_231)), .val (.ref b22), .val (.ref b64)] [(.int (Int32.ofNat ln_231))])) t
            refine XS.iload X64.here hx rfl (hb hby at_241) rfl ?_
            show Steps p.tables e below (T64.setTop (mkF m 243 #[.val (.int p0), .val (.int p1), .val (.int p2), .val (.int p3), .val (.int p4), .val (.int p5), .val (.ref b1), .val (.int v12), .val (.int v14), .val (.int v15), .val (.int v17), .val (.ref b18), .val (.int (Int32.ofNat ln_231)), .val (.ref b22), .val (.ref b64)] [(.int (Int32.ofNat ln_231)), (.int (Int32.ofNat ln_231))])) t
            exact kt_
          have hc72 : (Int32.ofNat ln_231) = (Int32.ofNat ln_231) := rfl
          obtain ⟨T73, _, L73, X73, ⟨rfl, Nq73, e73⟩, st73⟩ := Own.callS (y := (⟨"com/example/edom/edom/mapping/Utf8OutputToByteArrayPinLaw", "at", "([B[BII)Z"⟩ : MethodName)) (W := 0) (argsL := [(.ref b64), (.ref b18), (.int (0 : Int32)), (.int (Int32.ofNat ln_231))]) (rest := []) X64 hx hZ hown (hw _ (List.mem_of_getElem? (i := 73) rfl)) (hw _ (List.mem_of_getElem? (i := 74) rfl)) (hw _ (List.mem_of_getElem? (i := 57) rfl)) (hw _ (List.mem_of_getElem? (i := 75) rfl)) (by decide) rfl (rm18 l Z a0 hw [] b64 b18 (0 : Int32) (Int32.ofNat ln_231) ln_231 f64 ef_231 T64.heap n0 (by decide) (own_oi (by omega)) A64 f67) (by decide) (by decide) (by decide) (by decide) (g := (mkF m 253 #[.val (.int p0), .val (.int p1), .val (.int p2), .val (.int p3), .val (.int p4), .val (.int p5), .val (.ref b1), .val (.int v12), .val (.int v14), .val (.int v15), .val (.int v17), .val (.ref b18), .val (.int (Int32.ofNat ln_231)), .val (.ref b22), .val (.ref b64)] [(.int (Int32.ofNat ln_231)), (.int (0 : Int32)), (.ref b18), (.ref b64)])) rfl (by rw [hml]; rfl) (lenOf pd_9 rfl) rfl (by show 2 * 0 + _ ≤ _; exact Nat.le_of_eq rfl) (hb hby at_253)
          have N73 := Fr.app N64 Nq73
          refine hD _ (T73.setTop (mkF m 256 #[.val (.int p0), .val (.int p1), .val (.int p2), .val (.int p3), .val (.int p4), .val (.int p5), .val (.ref b1), .val (.int v12), .val (.int v14), .val (.int v15), .val (.int v17), .val (.ref b18), .val (.int (Int32.ofNat ln_231)), .val (.ref b22), .val (.ref b64)] [(.int (Own.b2i (own_at f64 ef_231 (0 : Int32) (Int32.ofNat ln_231))))])) (fun t kt_ => ?_) ?_
          · show Steps p.tables e below (T64.setTop (mkF m 243 #[.val (.int p0), .val (.int p1), .val (.int p2), .val (.int p3), .val (.int p4), .val (.int p5), .val (.ref b1), .val (.int v12), .val (.int v14), .val (.int v15), .val (.int v17), .val (.ref b18), .val (.int (Int32.ofNat ln_231)), .val (.ref b22), .val (.ref b64)] [(.int (Int32.ofNat ln_231)), (.int (Int32.ofNat ln_231))])) t
            refine XS.icmpNo X64.here hx rfl (hb hby at_243) rfl (teq hc72).2 ?_
            show Steps p.tables e below (T64.setTop (mkF m 246 #[.val (.int p0), .val (.int p1), .val (.int p2), .val (.int p3), .val (.int p4), .val (.int p5), .val (.ref b1), .val (.int v12), .val (.int v14), .val (.int v15), .val (.int v17), .val (.ref b18), .val (.int (Int32.ofNat ln_231)), .val (.ref b22), .val (.ref b64)] [])) t
            refine XS.aload X64.here hx rfl (hb hby at_246) rfl rfl ?_
            show Steps p.tables e below (T64.setTop (mkF m 248 #[.val (.int p0), .val (.int p1), .val (.int p2), .val (.int p3), .val (.int p4), .val (.int p5), .val (.ref b1), .val (.int v12), .val (.int v14), .val (.int v15), .val (.int v17), .val (.ref b18), .val (.int (Int32.ofNat ln_231)), .val (.ref b22), .val (.ref b64)] [(.ref b64)])) t
            refine XS.aload X64.here hx rfl (hb hby at_248) rfl rfl ?_
            show Steps p.tables e below (T64.setTop (mkF m 250 #[.val (.int p0), .val (.int p1), .val (.int p2), .val (.int p3), .val (.int p4), .val (.int p5), .val (.ref b1), .val (.int v12), .val (.int v14), .val (.int v15), .val (.int v17), .val (.ref b18), .val (.int (Int32.ofNat ln_231)), .val (.ref b22), .val (.ref b64)] [(.ref b18), (.ref b64)])) t
            refine XS.iconst X64.here hx rfl (hb hby at_250) ?_
            show Steps p.tables e below (T64.setTop (mkF m 251 #[.val (.int p0), .val (.int p1), .val (.int p2), .val (.int p3), .val (.int p4), .val (.int p5), .val (.ref b1), .val (.int v12), .val (.int v14), .val (.int v15), .val (.int v17), .val (.ref b18), .val (.int (Int32.ofNat ln_231)), .val (.ref b22), .val (.ref b64)] [(.int (0 : Int32)), (.ref b18), (.ref b64)])) t
            refine XS.iload X64.here hx rfl (hb hby at_251) rfl ?_
            show Steps p.tables e below (T64.setTop (mkF m 253 #[.val (.int p0), .val (.int p1), .val (.int p2), .val (.int p3), .val (.int p4), .val (.int p5), .val (.ref b1), .val (.int v12), .val (.int v14), .val (.int v15), .val (.int v17), .val (.ref b18), .val (.int (Int32.ofNat ln_231)), .val (.ref b22), .val (.ref b64)] [(.int (Int32.ofNat ln_231)), (.int (0 : Int32)), (.ref b18), (.ref b64)])) t
            refine st73 _ ?_
            show Steps p.tables e below (T73.setTop (mkF m 256 #[.val (.int p0), .val (.int p1), .val (.int p2), .val (.int p3), .val (.int p4), .val (.int p5), .val (.ref b1), .val (.int v12), .val (.int v14), .val (.int v15), .val (.int v17), .val (.ref b18), .val (.int (Int32.ofNat ln_231)), .val (.ref b22), .val (.ref b64)] [(.int (Own.b2i (own_at f64 ef_231 (0 : Int32) (Int32.ofNat ln_231))))])) t
            exact kt_
          have hc74 : (own_at f64 ef_231 (0 : Int32) (Int32.ofNat ln_231)) = true := own_atT (by omega) (by decide) hk64 hag_231
          obtain ⟨T75, _, L75, X75, ⟨rfl, Nq75, e75⟩, st75⟩ := Own.callS (y := (⟨"com/example/edom/edom/mapping/Utf8OutputToByteArrayPinLaw", "at", "([B[BII)Z"⟩ : MethodName)) (W := 0) (argsL := [(.ref b64), (.ref b18), (.int (1 : Int32)), (.int (Int32.ofNat ln_231))]) (rest := []) X73 hx hZ hown (hw _ (List.mem_of_getElem? (i := 73) rfl)) (hw _ (List.mem_of_getElem? (i := 74) rfl)) (hw _ (List.mem_of_getElem? (i := 57) rfl)) (hw _ (List.mem_of_getElem? (i := 75) rfl)) (by decide) e73 (rm18 l Z a0 hw [] b64 b18 (1 : Int32) (Int32.ofNat ln_231) ln_231 f64 ef_231 T64.heap n0 (by decide) (own_oi (by omega)) A64 f67) (by decide) (by decide) (by decide) (by decide) (g := (mkF m 266 #[.val (.int p0), .val (.int p1), .val (.int p2), .val (.int p3), .val (.int p4), .val (.int p5), .val (.ref b1), .val (.int v12), .val (.int v14), .val (.int v15), .val (.int v17), .val (.ref b18), .val (.int (Int32.ofNat ln_231)), .val (.ref b22), .val (.ref b64)] [(.int (Int32.ofNat ln_231)), (.int (1 : Int32)), (.ref b18), (.ref b64)])) rfl (by rw [hml]; rfl) (lenOf pd_9 rfl) rfl (by show 2 * 0 + _ ≤ _; exact Nat.le_of_eq rfl) (hb hby at_266)
          have N75 := Fr.app N73 Nq75
          refine hD _ (T75.setTop (mkF m 269 #[.val (.int p0), .val (.int p1), .val (.int p2), .val (.int p3), .val (.int p4), .val (.int p5), .val (.ref b1), .val (.int v12), .val (.int v14), .val (.int v15), .val (.int v17), .val (.ref b18), .val (.int (Int32.ofNat ln_231)), .val (.ref b22), .val (.ref b64)] [(.int (Own.b2i (own_at f64 ef_231 (1 : Int32) (Int32.ofNat ln_231))))])) (fun t kt_ => ?_) ?_
          · show Steps p.tables e below (T73.setTop (mkF m 256 #[.val (.int p0), .val (.int p1), .val (.int p2), .val (.int p3), .val (.int p4), .val (.int p5), .val (.ref b1), .val (.int v12), .val (.int v14), .val (.int v15), .val (.int v17), .val (.ref b18), .val (.int (Int32.ofNat ln_231)), .val (.ref b22), .val (.ref b64)] [(.int (Own.b2i (own_at f64 ef_231 (0 : Int32) (Int32.ofNat ln_231))))])) t
            refine XS.ifNo X73.here hx rfl (hb hby at_256) rfl ((if0 _ _).trans (feq (fun q => Own.b2i_eq0.mp q hc74)).1) ?_
            show Steps p.tables e below (T73.setTop (mkF m 259 #[.val (.int p0), .val (.int p1), .val (.int p2), .val (.int p3), .val (.int p4), .val (.int p5), .val (.ref b1), .val (.int v12), .val (.int v14), .val (.int v15), .val (.int v17), .val (.ref b18), .val (.int (Int32.ofNat ln_231)), .val (.ref b22), .val (.ref b64)] [])) t
            refine XS.aload X73.here hx rfl (hb hby at_259) rfl rfl ?_
            show Steps p.tables e below (T73.setTop (mkF m 261 #[.val (.int p0), .val (.int p1), .val (.int p2), .val (.int p3), .val (.int p4), .val (.int p5), .val (.ref b1), .val (.int v12), .val (.int v14), .val (.int v15), .val (.int v17), .val (.ref b18), .val (.int (Int32.ofNat ln_231)), .val (.ref b22), .val (.ref b64)] [(.ref b64)])) t
            refine XS.aload X73.here hx rfl (hb hby at_261) rfl rfl ?_
            show Steps p.tables e below (T73.setTop (mkF m 263 #[.val (.int p0), .val (.int p1), .val (.int p2), .val (.int p3), .val (.int p4), .val (.int p5), .val (.ref b1), .val (.int v12), .val (.int v14), .val (.int v15), .val (.int v17), .val (.ref b18), .val (.int (Int32.ofNat ln_231)), .val (.ref b22), .val (.ref b64)] [(.ref b18), (.ref b64)])) t
            refine XS.iconst X73.here hx rfl (hb hby at_263) ?_
            show Steps p.tables e below (T73.setTop (mkF m 264 #[.val (.int p0), .val (.int p1), .val (.int p2), .val (.int p3), .val (.int p4), .val (.int p5), .val (.ref b1), .val (.int v12), .val (.int v14), .val (.int v15), .val (.int v17), .val (.ref b18), .val (.int (Int32.ofNat ln_231)), .val (.ref b22), .val (.ref b64)] [(.int (1 : Int32)), (.ref b18), (.ref b64)])) t
            refine XS.iload X73.here hx rfl (hb hby at_264) rfl ?_
            show Steps p.tables e below (T73.setTop (mkF m 266 #[.val (.int p0), .val (.int p1), .val (.int p2), .val (.int p3), .val (.int p4), .val (.int p5), .val (.ref b1), .val (.int v12), .val (.int v14), .val (.int v15), .val (.int v17), .val (.ref b18), .val (.int (Int32.ofNat ln_231)), .val (.ref b22), .val (.ref b64)] [(.int (Int32.ofNat ln_231)), (.int (1 : Int32)), (.ref b18), (.ref b64)])) t
            refine st75 _ ?_
            show Steps p.tables e below (T75.setTop (mkF m 269 #[.val (.int p0), .val (.int p1), .val (.int p2), .val (.int p3), .val (.int p4), .val (.int p5), .val (.ref b1), .val (.int v12), .val (.int v14), .val (.int v15), .val (.int v17), .val (.ref b18), .val (.int (Int32.ofNat ln_231)), .val (.ref b22), .val (.ref b64)] [(.int (Own.b2i (own_at f64 ef_231 (1 : Int32) (Int32.ofNat ln_231))))])) t
            exact kt_
          have hc76 : (own_at f64 ef_231 (1 : Int32) (Int32.ofNat ln_231)) = true := own_atT (by omega) (by decide) hk64 hag_231
          obtain ⟨T77, _, L77, X77, ⟨rfl, Nq77, e77⟩, st77⟩ := Own.callS (y := (⟨"com/example/edom/edom/mapping/Utf8OutputToByteArrayPinLaw", "at", "([B[BII)Z"⟩ : MethodName)) (W := 0) (argsL := [(.ref b64), (.ref b18), (.int (2 : Int32)), (.int (Int32.ofNat ln_231))]) (rest := []) X75 hx hZ hown (hw _ (List.mem_of_getElem? (i := 73) rfl)) (hw _ (List.mem_of_getElem? (i := 74) rfl)) (hw _ (List.mem_of_getElem? (i := 57) rfl)) (hw _ (List.mem_of_getElem? (i := 75) rfl)) (by decide) e75 (rm18 l Z a0 hw [] b64 b18 (2 : Int32) (Int32.ofNat ln_231) ln_231 f64 ef_231 T64.heap n0 (by decide) (own_oi (by omega)) A64 f67) (by decide) (by decide) (by decide) (by decide) (g := (mkF m 279 #[.val (.int p0), .val (.int p1), .val (.int p2), .val (.int p3), .val (.int p4), .val (.int p5), .val (.ref b1), .val (.int v12), .val (.int v14), .val (.int v15), .val (.int v17), .val (.ref b18), .val (.int (Int32.ofNat ln_231)), .val (.ref b22), .val (.ref b64)] [(.int (Int32.ofNat ln_231)), (.int (2 : Int32)), (.ref b18), (.ref b64)])) rfl (by rw [hml]; rfl) (lenOf pd_9 rfl) rfl (by show 2 * 0 + _ ≤ _; exact Nat.le_of_eq rfl) (hb hby at_279)
          have N77 := Fr.app N75 Nq77
          refine hD _ (T77.setTop (mkF m 282 #[.val (.int p0), .val (.int p1), .val (.int p2), .val (.int p3), .val (.int p4), .val (.int p5), .val (.ref b1), .val (.int v12), .val (.int v14), .val (.int v15), .val (.int v17), .val (.ref b18), .val (.int (Int32.ofNat ln_231)), .val (.ref b22), .val (.ref b64)] [(.int (Own.b2i (own_at f64 ef_231 (2 : Int32) (Int32.ofNat ln_231))))])) (fun t kt_ => ?_) ?_
          · show Steps p.tables e below (T75.setTop (mkF m 269 #[.val (.int p0), .val (.int p1), .val (.int p2), .val (.int p3), .val (.int p4), .val (.int p5), .val (.ref b1), .val (.int v12), .val (.int v14), .val (.int v15), .val (.int v17), .val (.ref b18), .val (.int (Int32.ofNat ln_231)), .val (.ref b22), .val (.ref b64)] [(.int (Own.b2i (own_at f64 ef_231 (1 : Int32) (Int32.ofNat ln_231))))])) t
            refine XS.ifNo X75.here hx rfl (hb hby at_269) rfl ((if0 _ _).trans (feq (fun q => Own.b2i_eq0.mp q hc76)).1) ?_
            show Steps p.tables e below (T75.setTop (mkF m 272 #[.val (.int p0), .val (.int p1), .val (.int p2), .val (.int p3), .val (.int p4), .val (.int p5), .val (.ref b1), .val (.int v12), .val (.int v14), .val (.int v15), .val (.int v17), .val (.ref b18), .val (.int (Int32.ofNat ln_231)), .val (.ref b22), .val (.ref b64)] [])) t
            refine XS.aload X75.here hx rfl (hb hby at_272) rfl rfl ?_
            show Steps p.tables e below (T75.setTop (mkF m 274 #[.val (.int p0), .val (.int p1), .val (.int p2), .val (.int p3), .val (.int p4), .val (.int p5), .val (.ref b1), .val (.int v12), .val (.int v14), .val (.int v15), .val (.int v17), .val (.ref b18), .val (.int (Int32.ofNat ln_231)), .val (.ref b22), .val (.ref b64)] [(.ref b64)])) t
            refine XS.aload X75.here hx rfl (hb hby at_274) rfl rfl ?_
            show Steps p.tables e below (T75.setTop (mkF m 276 #[.val (.int p0), .val (.int p1), .val (.int p2), .val (.int p3), .val (.int p4), .val (.int p5), .val (.ref b1), .val (.int v12), .val (.int v14), .val (.int v15), .val (.int v17), .val (.ref b18), .val (.int (Int32.ofNat ln_231)), .val (.ref b22), .val (.ref b64)] [(.ref b18), (.ref b64)])) t
            refine XS.iconst X75.here hx rfl (hb hby at_276) ?_
            show Steps p.tables e below (T75.setTop (mkF m 277 #[.val (.int p0), .val (.int p1), .val (.int p2), .val (.int p3), .val (.int p4), .val (.int p5), .val (.ref b1), .val (.int v12), .val (.int v14), .val (.int v15), .val (.int v17), .val (.ref b18), .val (.int (Int32.ofNat ln_231)), .val (.ref b22), .val (.ref b64)] [(.int (2 : Int32)), (.ref b18), (.ref b64)])) t
            refine XS.iload X75.here hx rfl (hb hby at_277) rfl ?_
            show Steps p.tables e below (T75.setTop (mkF m 279 #[.val (.int p0), .val (.int p1), .val (.int p2), .val (.int p3), .val (.int p4), .val (.int p5), .val (.ref b1), .val (.int v12), .val (.int v14), .val (.int v15), .val (.int v17), .val (.ref b18), .val (.int (Int32.ofNat ln_231)), .val (.ref b22), .val (.ref b64)] [(.int (Int32.ofNat ln_231)), (.int (2 : Int32)), (.ref b18), (.ref b64)])) t
            refine st77 _ ?_
            show Steps p.tables e below (T77.setTop (mkF m 282 #[.val (.int p0), .val (.int p1), .val (.int p2), .val (.int p3), .val (.int p4), .val (.int p5), .val (.ref b1), .val (.int v12), .val (.int v14), .val (.int v15), .val (.int v17), .val (.ref b18), .val (.int (Int32.ofNat ln_231)), .val (.ref b22), .val (.ref b64)] [(.int (Own.b2i (own_at f64 ef_231 (2 : Int32) (Int32.ofNat ln_231))))])) t
            exact kt_
          have hc78 : (own_at f64 ef_231 (2 : Int32) (Int32.ofNat ln_231)) = true := own_atT (by omega) (by decide) hk64 hag_231
          obtain ⟨T79, _, L79, X79, ⟨rfl, Nq79, e79⟩, st79⟩ := Own.callS (y := (⟨"com/example/edom/edom/mapping/Utf8OutputToByteArrayPinLaw", "at", "([B[BII)Z"⟩ : MethodName)) (W := 0) (argsL := [(.ref b64), (.ref b18), (.int (3 : Int32)), (.int (Int32.ofNat ln_231))]) (rest := []) X77 hx hZ hown (hw _ (List.mem_of_getElem? (i := 73) rfl)) (hw _ (List.mem_of_getElem? (i := 74) rfl)) (hw _ (List.mem_of_getElem? (i := 57) rfl)) (hw _ (List.mem_of_getElem? (i := 75) rfl)) (by decide) e77 (rm18 l Z a0 hw [] b64 b18 (3 : Int32) (Int32.ofNat ln_231) ln_231 f64 ef_231 T64.heap n0 (by decide) (own_oi (by omega)) A64 f67) (by decide) (by decide) (by decide) (by decide) (g := (mkF m 292 #[.val (.int p0), .val (.int p1), .val (.int p2), .val (.int p3), .val (.int p4), .val (.int p5), .val (.ref b1), .val (.int v12), .val (.int v14), .val (.int v15), .val (.int v17), .val (.ref b18), .val (.int (Int32.ofNat ln_231)), .val (.ref b22), .val (.ref b64)] [(.int (Int32.ofNat ln_231)), (.int (3 : Int32)), (.ref b18), (.ref b64)])) rfl (by rw [hml]; rfl) (lenOf pd_9 rfl) rfl (by show 2 * 0 + _ ≤ _; exact Nat.le_of_eq rfl) (hb hby at_292)
          have N79 := Fr.app N77 Nq79
          refine hD _ (T79.setTop (mkF m 295 #[.val (.int p0), .val (.int p1), .val (.int p2), .val (.int p3), .val (.int p4), .val (.int p5), .val (.ref b1), .val (.int v12), .val (.int v14), .val (.int v15), .val (.int v17), .val (.ref b18), .val (.int (Int32.ofNat ln_231)), .val (.ref b22), .val (.ref b64)] [(.int (Own.b2i (own_at f64 ef_231 (3 : Int32) (Int32.ofNat ln_231))))])) (fun t kt_ => ?_) ?_
          · show Steps p.tables e below (T77.setTop (mkF m 282 #[.val (.int p0), .val (.int p1), .val (.int p2), .val (.int p3), .val (.int p4), .val (.int p5), .val (.ref b1), .val (.int v12), .val (.int v14), .val (.int v15), .val (.int v17), .val (.ref b18), .val (.int (Int32.ofNat ln_231)), .val (.ref b22), .val (.ref b64)] [(.int (Own.b2i (own_at f64 ef_231 (2 : Int32) (Int32.ofNat ln_231))))])) t
            refine XS.ifNo X77.here hx rfl (hb hby at_282) rfl ((if0 _ _).trans (feq (fun q => Own.b2i_eq0.mp q hc78)).1) ?_
            show Steps p.tables e below (T77.setTop (mkF m 285 #[.val (.int p0), .val (.int p1), .val (.int p2), .val (.int p3), .val (.int p4), .val (.int p5), .val (.ref b1), .val (.int v12), .val (.int v14), .val (.int v15), .val (.int v17), .val (.ref b18), .val (.int (Int32.ofNat ln_231)), .val (.ref b22), .val (.ref b64)] [])) t
            refine XS.aload X77.here hx rfl (hb hby at_285) rfl rfl ?_
            show Steps p.tables e below (T77.setTop (mkF m 287 #[.val (.int p0), .val (.int p1), .val (.int p2), .val (.int p3), .val (.int p4), .val (.int p5), .val (.ref b1), .val (.int v12), .val (.int v14), .val (.int v15), .val (.int v17), .val (.ref b18), .val (.int (Int32.ofNat ln_231)), .val (.ref b22), .val (.ref b64)] [(.ref b64)])) t
            refine XS.aload X77.here hx rfl (hb hby at_287) rfl rfl ?_
            show Steps p.tables e below (T77.setTop (mkF m 289 #[.val (.int p0), .val (.int p1), .val (.int p2), .val (.int p3), .val (.int p4), .val (.int p5), .val (.ref b1), .val (.int v12), .val (.int v14), .val (.int v15), .val (.int v17), .val (.ref b18), .val (.int (Int32.ofNat ln_231)), .val (.ref b22), .val (.ref b64)] [(.ref b18), (.ref b64)])) t
            refine XS.iconst X77.here hx rfl (hb hby at_289) ?_
            show Steps p.tables e below (T77.setTop (mkF m 290 #[.val (.int p0), .val (.int p1), .val (.int p2), .val (.int p3), .val (.int p4), .val (.int p5), .val (.ref b1), .val (.int v12), .val (.int v14), .val (.int v15), .val (.int v17), .val (.ref b18), .val (.int (Int32.ofNat ln_231)), .val (.ref b22), .val (.ref b64)] [(.int (3 : Int32)), (.ref b18), (.ref b64)])) t
            refine XS.iload X77.here hx rfl (hb hby at_290) rfl ?_
            show Steps p.tables e below (T77.setTop (mkF m 292 #[.val (.int p0), .val (.int p1), .val (.int p2), .val (.int p3), .val (.int p4), .val (.int p5), .val (.ref b1), .val (.int v12), .val (.int v14), .val (.int v15), .val (.int v17), .val (.ref b18), .val (.int (Int32.ofNat ln_231)), .val (.ref b22), .val (.ref b64)] [(.int (Int32.ofNat ln_231)), (.int (3 : Int32)), (.ref b18), (.ref b64)])) t
            refine st79 _ ?_
            show Steps p.tables e below (T79.setTop (mkF m 295 #[.val (.int p0), .val (.int p1), .val (.int p2), .val (.int p3), .val (.int p4), .val (.int p5), .val (.ref b1), .val (.int v12), .val (.int v14), .val (.int v15), .val (.int v17), .val (.ref b18), .val (.int (Int32.ofNat ln_231)), .val (.ref b22), .val (.ref b64)] [(.int (Own.b2i (own_at f64 ef_231 (3 : Int32) (Int32.ofNat ln_231))))])) t
            exact kt_
          have hc80 : (own_at f64 ef_231 (3 : Int32) (Int32.ofNat ln_231)) = true := own_atT (by omega) (by decide) hk64 hag_231
          obtain ⟨T81, _, L81, X81, ⟨rfl, Nq81, e81⟩, st81⟩ := Own.callS (y := (⟨"com/example/edom/edom/mapping/Utf8OutputToByteArrayPinLaw", "at", "([B[BII)Z"⟩ : MethodName)) (W := 0) (argsL := [(.ref b64), (.ref b18), (.int (4 : Int32)), (.int (Int32.ofNat ln_231))]) (rest := []) X79 hx hZ hown (hw _ (List.mem_of_getElem? (i := 73) rfl)) (hw _ (List.mem_of_getElem? (i := 74) rfl)) (hw _ (List.mem_of_getElem? (i := 57) rfl)) (hw _ (List.mem_of_getElem? (i := 75) rfl)) (by decide) e79 (rm18 l Z a0 hw [] b64 b18 (4 : Int32) (Int32.ofNat ln_231) ln_231 f64 ef_231 T64.heap n0 (by decide) (own_oi (by omega)) A64 f67) (by decide) (by decide) (by decide) (by decide) (g := (mkF m 305 #[.val (.int p0), .val (.int p1), .val (.int p2), .val (.int p3), .val (.int p4), .val (.int p5), .val (.ref b1), .val (.int v12), .val (.int v14), .val (.int v15), .val (.int v17), .val (.ref b18), .val (.int (Int32.ofNat ln_231)), .val (.ref b22), .val (.ref b64)] [(.int (Int32.ofNat ln_231)), (.int (4 : Int32)), (.ref b18), (.ref b64)])) rfl (by rw [hml]; rfl) (lenOf pd_9 rfl) rfl (by show 2 * 0 + _ ≤ _; exact Nat.le_of_eq rfl) (hb hby at_305)
          have N81 := Fr.app N79 Nq81
          refine hD _ (T81.setTop (mkF m 308 #[.val (.int p0), .val (.int p1), .val (.int p2), .val (.int p3), .val (.int p4), .val (.int p5), .val (.ref b1), .val (.int v12), .val (.int v14), .val (.int v15), .val (.int v17), .val (.ref b18), .val (.int (Int32.ofNat ln_231)), .val (.ref b22), .val (.ref b64)] [(.int (Own.b2i (own_at f64 ef_231 (4 : Int32) (Int32.ofNat ln_231))))])) (fun t kt_ => ?_) ?_
          · show Steps p.tables e below (T79.setTop (mkF m 295 #[.val (.int p0), .val (.int p1), .val (.int p2), .val (.int p3), .val (.int p4), .val (.int p5), .val (.ref b1), .val (.int v12), .val (.int v14), .val (.int v15), .val (.int v17), .val (.ref b18), .val (.int (Int32.ofNat ln_231)), .val (.ref b22), .val (.ref b64)] [(.int (Own.b2i (own_at f64 ef_231 (3 : Int32) (Int32.ofNat ln_231))))])) t
            refine XS.ifNo X79.here hx rfl (hb hby at_295) rfl ((if0 _ _).trans (feq (fun q => Own.b2i_eq0.mp q hc80)).1) ?_
            show Steps p.tables e below (T79.setTop (mkF m 298 #[.val (.int p0), .val (.int p1), .val (.int p2), .val (.int p3), .val (.int p4), .val (.int p5), .val (.ref b1), .val (.int v12), .val (.int v14), .val (.int v15), .val (.int v17), .val (.ref b18), .val (.int (Int32.ofNat ln_231)), .val (.ref b22), .val (.ref b64)] [])) t
            refine XS.aload X79.here hx rfl (hb hby at_298) rfl rfl ?_
            show Steps p.tables e below (T79.setTop (mkF m 300 #[.val (.int p0), .val (.int p1), .val (.int p2), .val (.int p3), .val (.int p4), .val (.int p5), .val (.ref b1), .val (.int v12), .val (.int v14), .val (.int v15), .val (.int v17), .val (.ref b18), .val (.int (Int32.ofNat ln_231)), .val (.ref b22), .val (.ref b64)] [(.ref b64)])) t
            refine XS.aload X79.here hx rfl (hb hby at_300) rfl rfl ?_
            show Steps p.tables e below (T79.setTop (mkF m 302 #[.val (.int p0), .val (.int p1), .val (.int p2), .val (.int p3), .val (.int p4), .val (.int p5), .val (.ref b1), .val (.int v12), .val (.int v14), .val (.int v15), .val (.int v17), .val (.ref b18), .val (.int (Int32.ofNat ln_231)), .val (.ref b22), .val (.ref b64)] [(.ref b18), (.ref b64)])) t
            refine XS.iconst X79.here hx rfl (hb hby at_302) ?_
            show Steps p.tables e below (T79.setTop (mkF m 303 #[.val (.int p0), .val (.int p1), .val (.int p2), .val (.int p3), .val (.int p4), .val (.int p5), .val (.ref b1), .val (.int v12), .val (.int v14), .val (.int v15), .val (.int v17), .val (.ref b18), .val (.int (Int32.ofNat ln_231)), .val (.ref b22), .val (.ref b64)] [(.int (4 : Int32)), (.ref b18), (.ref b64)])) t
            refine XS.iload X79.here hx rfl (hb hby at_303) rfl ?_
            show Steps p.tables e below (T79.setTop (mkF m 305 #[.val (.int p0), .val (.int p1), .val (.int p2), .val (.int p3), .val (.int p4), .val (.int p5), .val (.ref b1), .val (.int v12), .val (.int v14), .val (.int v15), .val (.int v17), .val (.ref b18), .val (.int (Int32.ofNat ln_231)), .val (.ref b22), .val (.ref b64)] [(.int (Int32.ofNat ln_231)), (.int (4 : Int32)), (.ref b18), (.ref b64)])) t
            refine st81 _ ?_
            show Steps p.tables e below (T81.setTop (mkF m 308 #[.val (.int p0), .val (.int p1), .val (.int p2), .val (.int p3), .val (.int p4), .val (.int p5), .val (.ref b1), .val (.int v12), .val (.int v14), .val (.int v15), .val (.int v17), .val (.ref b18), .val (.int (Int32.ofNat ln_231)), .val (.ref b22), .val (.ref b64)] [(.int (Own.b2i (own_at f64 ef_231 (4 : Int32) (Int32.ofNat ln_231))))])) t
            exact kt_
          have hc82 : (own_at f64 ef_231 (4 : Int32) (Int32.ofNat ln_231)) = true := own_atT (by omega) (by decide) hk64 hag_231
          obtain ⟨T83, _, L83, X83, ⟨rfl, Nq83, e83⟩, st83⟩ := Own.callS (y := (⟨"com/example/edom/edom/mapping/Utf8OutputToByteArrayPinLaw", "at", "([B[BII)Z"⟩ : MethodName)) (W := 0) (argsL := [(.ref b64), (.ref b18), (.int (5 : Int32)), (.int (Int32.ofNat ln_231))]) (rest := []) X81 hx hZ hown (hw _ (List.mem_of_getElem? (i := 73) rfl)) (hw _ (List.mem_of_getElem? (i := 74) rfl)) (hw _ (List.mem_of_getElem? (i := 57) rfl)) (hw _ (List.mem_of_getElem? (i := 75) rfl)) (by decide) e81 (rm18 l Z a0 hw [] b64 b18 (5 : Int32) (Int32.ofNat ln_231) ln_231 f64 ef_231 T64.heap n0 (by decide) (own_oi (by omega)) A64 f67) (by decide) (by decide) (by decide) (by decide) (g := (mkF m 318 #[.val (.int p0), .val (.int p1), .val (.int p2), .val (.int p3), .val (.int p4), .val (.int p5), .val (.ref b1), .val (.int v12), .val (.int v14), .val (.int v15), .val (.int v17), .val (.ref b18), .val (.int (Int32.ofNat ln_231)), .val (.ref b22), .val (.ref b64)] [(.int (Int32.ofNat ln_231)), (.int (5 : Int32)), (.ref b18), (.ref b64)])) rfl (by rw [hml]; rfl) (lenOf pd_9 rfl) rfl (by show 2 * 0 + _ ≤ _; exact Nat.le_of_eq rfl) (hb hby at_318)
          have N83 := Fr.app N81 Nq83
          refine hD _ (T83.setTop (mkF m 321 #[.val (.int p0), .val (.int p1), .val (.int p2), .val (.int p3), .val (.int p4), .val (.int p5), .val (.ref b1), .val (.int v12), .val (.int v14), .val (.int v15), .val (.int v17), .val (.ref b18), .val (.int (Int32.ofNat ln_231)), .val (.ref b22), .val (.ref b64)] [(.int (Own.b2i (own_at f64 ef_231 (5 : Int32) (Int32.ofNat ln_231))))])) (fun t kt_ => ?_) ?_
          · show Steps p.tables e below (T81.setTop (mkF m 308 #[.val (.int p0), .val (.int p1), .val (.int p2), .val (.int p3), .val (.int p4), .val (.int p5), .val (.ref b1), .val (.int v12), .val (.int v14), .val (.int v15), .val (.int v17), .val (.ref b18), .val (.int (Int32.ofNat ln_231)), .val (.ref b22), .val (.ref b64)] [(.int (Own.b2i (own_at f64 ef_231 (4 : Int32) (Int32.ofNat ln_231))))])) t
            refine XS.ifNo X81.here hx rfl (hb hby at_308) rfl ((if0 _ _).trans (feq (fun q => Own.b2i_eq0.mp q hc82)).1) ?_
            show Steps p.tables e below (T81.setTop (mkF m 311 #[.val (.int p0), .val (.int p1), .val (.int p2), .val (.int p3), .val (.int p4), .val (.int p5), .val (.ref b1), .val (.int v12), .val (.int v14), .val (.int v15), .val (.int v17), .val (.ref b18), .val (.int (Int32.ofNat ln_231)), .val (.ref b22), .val (.ref b64)] [])) t
            refine XS.aload X81.here hx rfl (hb hby at_311) rfl rfl ?_
            show Steps p.tables e below (T81.setTop (mkF m 313 #[.val (.int p0), .val (.int p1), .val (.int p2), .val (.int p3), .val (.int p4), .val (.int p5), .val (.ref b1), .val (.int v12), .val (.int v14), .val (.int v15), .val (.int v17), .val (.ref b18), .val (.int (Int32.ofNat ln_231)), .val (.ref b22), .val (.ref b64)] [(.ref b64)])) t
            refine XS.aload X81.here hx rfl (hb hby at_313) rfl rfl ?_
            show Steps p.tables e below (T81.setTop (mkF m 315 #[.val (.int p0), .val (.int p1), .val (.int p2), .val (.int p3), .val (.int p4), .val (.int p5), .val (.ref b1), .val (.int v12), .val (.int v14), .val (.int v15), .val (.int v17), .val (.ref b18), .val (.int (Int32.ofNat ln_231)), .val (.ref b22), .val (.ref b64)] [(.ref b18), (.ref b64)])) t
            refine XS.iconst X81.here hx rfl (hb hby at_315) ?_
            show Steps p.tables e below (T81.setTop (mkF m 316 #[.val (.int p0), .val (.int p1), .val (.int p2), .val (.int p3), .val (.int p4), .val (.int p5), .val (.ref b1), .val (.int v12), .val (.int v14), .val (.int v15), .val (.int v17), .val (.ref b18), .val (.int (Int32.ofNat ln_231)), .val (.ref b22), .val (.ref b64)] [(.int (5 : Int32)), (.ref b18), (.ref b64)])) t
            refine XS.iload X81.here hx rfl (hb hby at_316) rfl ?_
            show Steps p.tables e below (T81.setTop (mkF m 318 #[.val (.int p0), .val (.int p1), .val (.int p2), .val (.int p3), .val (.int p4), .val (.int p5), .val (.ref b1), .val (.int v12), .val (.int v14), .val (.int v15), .val (.int v17), .val (.ref b18), .val (.int (Int32.ofNat ln_231)), .val (.ref b22), .val (.ref b64)] [(.int (Int32.ofNat ln_231)), (.int (5 : Int32)), (.ref b18), (.ref b64)])) t
            refine st83 _ ?_
            show Steps p.tables e below (T83.setTop (mkF m 321 #[.val (.int p0), .val (.int p1), .val (.int p2), .val (.int p3), .val (.int p4), .val (.int p5), .val (.ref b1), .val (.int v12), .val (.int v14), .val (.int v15), .val (.int v17), .val (.ref b18), .val (.int (Int32.ofNat ln_231)), .val (.ref b22), .val (.ref b64)] [(.int (Own.b2i (own_at f64 ef_231 (5 : Int32) (Int32.ofNat ln_231))))])) t
            exact kt_
          have hc84 : (own_at f64 ef_231 (5 : Int32) (Int32.ofNat ln_231)) = true := own_atT (by omega) (by decide) hk64 hag_231
          obtain ⟨T85, _, L85, X85, ⟨rfl, Nq85, e85⟩, st85⟩ := Own.callS (y := (⟨"com/example/edom/edom/mapping/Utf8OutputToByteArrayPinLaw", "at", "([B[BII)Z"⟩ : MethodName)) (W := 0) (argsL := [(.ref b64), (.ref b18), (.int (6 : Int32)), (.int (Int32.ofNat ln_231))]) (rest := []) X83 hx hZ hown (hw _ (List.mem_of_getElem? (i := 73) rfl)) (hw _ (List.mem_of_getElem? (i := 74) rfl)) (hw _ (List.mem_of_getElem? (i := 57) rfl)) (hw _ (List.mem_of_getElem? (i := 75) rfl)) (by decide) e83 (rm18 l Z a0 hw [] b64 b18 (6 : Int32) (Int32.ofNat ln_231) ln_231 f64 ef_231 T64.heap n0 (by decide) (own_oi (by omega)) A64 f67) (by decide) (by decide) (by decide) (by decide) (g := (mkF m 332 #[.val (.int p0), .val (.int p1), .val (.int p2), .val (.int p3), .val (.int p4), .val (.int p5), .val (.ref b1), .val (.int v12), .val (.int v14), .val (.int v15), .val (.int v17), .val (.ref b18), .val (.int (Int32.ofNat ln_231)), .val (.ref b22), .val (.ref b64)] [(.int (Int32.ofNat ln_231)), (.int (6 : Int32)), (.ref b18), (.ref b64)])) rfl (by rw [hml]; rfl) (lenOf pd_9 rfl) rfl (by show 2 * 0 + _ ≤ _; exact Nat.le_of_eq rfl) (hb hby at_332)
          have N85 := Fr.app N83 Nq85
          refine hD _ (T85.setTop (mkF m 335 #[.val (.int p0), .val (.int p1), .val (.int p2), .val (.int p3), .val (.int p4), .val (.int p5), .val (.ref b1), .val (.int v12), .val (.int v14), .val (.int v15), .val (.int v17), .val (.ref b18), .val (.int (Int32.ofNat ln_231)), .val (.ref b22), .val (.ref b64)] [(.int (Own.b2i (own_at f64 ef_231 (6 : Int32) (Int32.ofNat ln_231))))])) (fun t kt_ => ?_) ?_
          · show Steps p.tables e below (T83.setTop (mkF m 321 #[.val (.int p0), .val (.int p1), .val (.int p2), .val (.int p3), .val (.int p4), .val (.int p5), .val (.ref b1), .val (.int v12), .val (.int v14), .val (.int v15), .val (.int v17), .val (.ref b18), .val (.int (Int32.ofNat ln_231)), .val (.ref b22), .val (.ref b64)] [(.int (Own.b2i (own_at f64 ef_231 (5 : Int32) (Int32.ofNat ln_231))))])) t
            refine XS.ifNo X83.here hx rfl (hb hby at_321) rfl ((if0 _ _).trans (feq (fun q => Own.b2i_eq0.mp q hc84)).1) ?_
            show Steps p.tables e below (T83.setTop (mkF m 324 #[.val (.int p0), .val (.int p1), .val (.int p2), .val (.int p3), .val (.int p4), .val (.int p5), .val (.ref b1), .val (.int v12), .val (.int v14), .val (.int v15), .val (.int v17), .val (.ref b18), .val (.int (Int32.ofNat ln_231)), .val (.ref b22), .val (.ref b64)] [])) t
            refine XS.aload X83.here hx rfl (hb hby at_324) rfl rfl ?_
            show Steps p.tables e below (T83.setTop (mkF m 326 #[.val (.int p0), .val (.int p1), .val (.int p2), .val (.int p3), .val (.int p4), .val (.int p5), .val (.ref b1), .val (.int v12), .val (.int v14), .val (.int v15), .val (.int v17), .val (.ref b18), .val (.int (Int32.ofNat ln_231)), .val (.ref b22), .val (.ref b64)] [(.ref b64)])) t
            refine XS.aload X83.here hx rfl (hb hby at_326) rfl rfl ?_
            show Steps p.tables e below (T83.setTop (mkF m 328 #[.val (.int p0), .val (.int p1), .val (.int p2), .val (.int p3), .val (.int p4), .val (.int p5), .val (.ref b1), .val (.int v12), .val (.int v14), .val (.int v15), .val (.int v17), .val (.ref b18), .val (.int (Int32.ofNat ln_231)), .val (.ref b22), .val (.ref b64)] [(.ref b18), (.ref b64)])) t
            refine XS.bipush X83.here hx rfl (hb hby at_328) ?_
            show Steps p.tables e below (T83.setTop (mkF m 330 #[.val (.int p0), .val (.int p1), .val (.int p2), .val (.int p3), .val (.int p4), .val (.int p5), .val (.ref b1), .val (.int v12), .val (.int v14), .val (.int v15), .val (.int v17), .val (.ref b18), .val (.int (Int32.ofNat ln_231)), .val (.ref b22), .val (.ref b64)] [(.int (6 : Int32)), (.ref b18), (.ref b64)])) t
            refine XS.iload X83.here hx rfl (hb hby at_330) rfl ?_
            show Steps p.tables e below (T83.setTop (mkF m 332 #[.val (.int p0), .val (.int p1), .val (.int p2), .val (.int p3), .val (.int p4), .val (.int p5), .val (.ref b1), .val (.int v12), .val (.int v14), .val (.int v15), .val (.int v17), .val (.ref b18), .val (.int (Int32.ofNat ln_231)), .val (.ref b22), .val (.ref b64)] [(.int (Int32.ofNat ln_231)), (.int (6 : Int32)), (.ref b18), (.ref b64)])) t
            refine st85 _ ?_
            show Steps p.tables e below (T85.setTop (mkF m 335 #[.val (.int p0), .val (.int p1), .val (.int p2), .val (.int p3), .val (.int p4), .val (.int p5), .val (.ref b1), .val (.int v12), .val (.int v14), .val (.int v15), .val (.int v17), .val (.ref b18), .val (.int (Int32.ofNat ln_231)), .val (.ref b22), .val (.ref b64)] [(.int (Own.b2i (own_at f64 ef_231 (6 : Int32) (Int32.ofNat ln_231))))])) t
            exact kt_
          have hc86 : (own_at f64 ef_231 (6 : Int32) (Int32.ofNat ln_231)) = true := own_atT (by omega) (by decide) hk64 hag_231
          obtain ⟨T87, _, L87, X87, ⟨rfl, Nq87, e87⟩, st87⟩ := Own.callS (y := (⟨"com/example/edom/edom/mapping/Utf8OutputToByteArrayPinLaw", "at", "([B[BII)Z"⟩ : MethodName)) (W := 0) (argsL := [(.ref b64), (.ref b18), (.int (7 : Int32)), (.int (Int32.ofNat ln_231))]) (rest := []) X85 hx hZ hown (hw _ (List.mem_of_getElem? (i := 73) rfl)) (hw _ (List.mem_of_getElem? (i := 74) rfl)) (hw _ (List.mem_of_getElem? (i := 57) rfl)) (hw _ (List.mem_of_getElem? (i := 75) rfl)) (by decide) e85 (rm18 l Z a0 hw [] b64 b18 (7 : Int32) (Int32.ofNat ln_231) ln_231 f64 ef_231 T64.heap n0 (by decide) (own_oi (by omega)) A64 f67) (by decide) (by decide) (by decide) (by decide) (g := (mkF m 346 #[.val (.int p0), .val (.int p1), .val (.int p2), .val (.int p3), .val (.int p4), .val (.int p5), .val (.ref b1), .val (.int v12), .val (.int v14), .val (.int v15), .val (.int v17), .val (.ref b18), .val (.int (Int32.ofNat ln_231)), .val (.ref b22), .val (.ref b64)] [(.int (Int32.ofNat ln_231)), (.int (7 : Int32)), (.ref b18), (.ref b64)])) rfl (by rw [hml]; rfl) (lenOf pd_9 rfl) rfl (by show 2 * 0 + _ ≤ _; exact Nat.le_of_eq rfl) (hb hby at_346)
          have N87 := Fr.app N85 Nq87
          refine hD _ (T87.setTop (mkF m 349 #[.val (.int p0), .val (.int p1), .val (.int p2), .val (.int p3), .val (.int p4), .val (.int p5), .val (.ref b1), .val (.int v12), .val (.int v14), .val (.int v15), .val (.int v17), .val (.ref b18), .val (.int (Int32.ofNat ln_231)), .val (.ref b22), .val (.ref b64)] [(.int (Own.b2i (own_at f64 ef_231 (7 : Int32) (Int32.ofNat ln_231))))])) (fun t kt_ => ?_) ?_
          · show Steps p.tables e below (T85.setTop (mkF m 335 #[.val (.int p0), .val (.int p1), .val (.int p2), .val (.int p3), .val (.int p4), .val (.int p5), .val (.ref b1), .val (.int v12), .val (.int v14), .val (.int v15), .val (.int v17), .val (.ref b18), .val (.int (Int32.ofNat ln_231)), .val (.ref b22), .val (.ref b64)] [(.int (Own.b2i (own_at f64 ef_231 (6 : Int32) (Int32.ofNat ln_231))))])) t
            refine XS.ifNo X85.here hx rfl (hb hby at_335) rfl ((if0 _ _).trans (feq (fun q => Own.b2i_eq0.mp q hc86)).1) ?_
            show Steps p.tables e below (T85.setTop (mkF m 338 #[.val (.int p0), .val (.int p1), .val (.int p2), .val (.int p3), .val (.int p4), .val (.int p5), .val (.ref b1), .val (.int v12), .val (.int v14), .val (.int v15), .val (.int v17), .val (.ref b18), .val (.int (Int32.ofNat ln_231)), .val (.ref b22), .val (.ref b64)] [])) t
            refine XS.aload X85.here hx rfl (hb hby at_338) rfl rfl ?_
            show Steps p.tables e below (T85.setTop (mkF m 340 #[.val (.int p0), .val (.int p1), .val (.int p2), .val (.int p3), .val (.int p4), .val (.int p5), .val (.ref b1), .val (.int v12), .val (.int v14), .val (.int v15), .val (.int v17), .val (.ref b18), .val (.int (Int32.ofNat ln_231)), .val (.ref b22), .val (.ref b64)] [(.ref b64)])) t
            refine XS.aload X85.here hx rfl (hb hby at_340) rfl rfl ?_
            show Steps p.tables e below (T85.setTop (mkF m 342 #[.val (.int p0), .val (.int p1), .val (.int p2), .val (.int p3), .val (.int p4), .val (.int p5), .val (.ref b1), .val (.int v12), .val (.int v14), .val (.int v15), .val (.int v17), .val (.ref b18), .val (.int (Int32.ofNat ln_231)), .val (.ref b22), .val (.ref b64)] [(.ref b18), (.ref b64)])) t
            refine XS.bipush X85.here hx rfl (hb hby at_342) ?_
            show Steps p.tables e below (T85.setTop (mkF m 344 #[.val (.int p0), .val (.int p1), .val (.int p2), .val (.int p3), .val (.int p4), .val (.int p5), .val (.ref b1), .val (.int v12), .val (.int v14), .val (.int v15), .val (.int v17), .val (.ref b18), .val (.int (Int32.ofNat ln_231)), .val (.ref b22), .val (.ref b64)] [(.int (7 : Int32)), (.ref b18), (.ref b64)])) t
            refine XS.iload X85.here hx rfl (hb hby at_344) rfl ?_
            show Steps p.tables e below (T85.setTop (mkF m 346 #[.val (.int p0), .val (.int p1), .val (.int p2), .val (.int p3), .val (.int p4), .val (.int p5), .val (.ref b1), .val (.int v12), .val (.int v14), .val (.int v15), .val (.int v17), .val (.ref b18), .val (.int (Int32.ofNat ln_231)), .val (.ref b22), .val (.ref b64)] [(.int (Int32.ofNat ln_231)), (.int (7 : Int32)), (.ref b18), (.ref b64)])) t
            refine st87 _ ?_
            show Steps p.tables e below (T87.setTop (mkF m 349 #[.val (.int p0), .val (.int p1), .val (.int p2), .val (.int p3), .val (.int p4), .val (.int p5), .val (.ref b1), .val (.int v12), .val (.int v14), .val (.int v15), .val (.int v17), .val (.ref b18), .val (.int (Int32.ofNat ln_231)), .val (.ref b22), .val (.ref b64)] [(.int (Own.b2i (own_at f64 ef_231 (7 : Int32) (Int32.ofNat ln_231))))])) t
            exact kt_
          have hc88 : (own_at f64 ef_231 (7 : Int32) (Int32.ofNat ln_231)) = true := own_atT (by omega) (by decide) hk64 hag_231
          obtain ⟨T89, _, L89, X89, ⟨rfl, Nq89, e89⟩, st89⟩ := Own.callS (y := (⟨"com/example/edom/edom/mapping/Utf8OutputToByteArrayPinLaw", "at", "([B[BII)Z"⟩ : MethodName)) (W := 0) (argsL := [(.ref b64), (.ref b18), (.int (8 : Int32)), (.int (Int32.ofNat ln_231))]) (rest := []) X87 hx hZ hown (hw _ (List.mem_of_getElem? (i := 73) rfl)) (hw _ (List.mem_of_getElem? (i := 74) rfl)) (hw _ (List.mem_of_getElem? (i := 57) rfl)) (hw _ (List.mem_of_getElem? (i := 75) rfl)) (by decide) e87 (rm18 l Z a0 hw [] b64 b18 (8 : Int32) (Int32.ofNat ln_231) ln_231 f64 ef_231 T64.heap n0 (by decide) (own_oi (by omega)) A64 f67) (by decide) (by decide) (by decide) (by decide) (g := (mkF m 360 #[.val (.int p0), .val (.int p1), .val (.int p2), .val (.int p3), .val (.int p4), .val (.int p5), .val (.ref b1), .val (.int v12), .val (.int v14), .val (.int v15), .val (.int v17), .val (.ref b18), .val (.int (Int32.ofNat ln_231)), .val (.ref b22), .val (.ref b64)] [(.int (Int32.ofNat ln_231)), (.int (8 : Int32)), (.ref b18), (.ref b64)])) rfl (by rw [hml]; rfl) (lenOf pd_9 rfl) rfl (by show 2 * 0 + _ ≤ _; exact Nat.le_of_eq rfl) (hb hby at_360)
          have N89 := Fr.app N87 Nq89
          refine hD _ (T89.setTop (mkF m 363 #[.val (.int p0), .val (.int p1), .val (.int p2), .val (.int p3), .val (.int p4), .val (.int p5), .val (.ref b1), .val (.int v12), .val (.int v14), .val (.int v15), .val (.int v17), .val (.ref b18), .val (.int (Int32.ofNat ln_231)), .val (.ref b22), .val (.ref b64)] [(.int (Own.b2i (own_at f64 ef_231 (8 : Int32) (Int32.ofNat ln_231))))])) (fun t kt_ => ?_) ?_
          · show Steps p.tables e below (T87.setTop (mkF m 349 #[.val (.int p0), .val (.int p1), .val (.int p2), .val (.int p3), .val (.int p4), .val (.int p5), .val (.ref b1), .val (.int v12), .val (.int v14), .val (.int v15), .val (.int v17), .val (.ref b18), .val (.int (Int32.ofNat ln_231)), .val (.ref b22), .val (.ref b64)] [(.int (Own.b2i (own_at f64 ef_231 (7 : Int32) (Int32.ofNat ln_231))))])) t
            refine XS.ifNo X87.here hx rfl (hb hby at_349) rfl ((if0 _ _).trans (feq (fun q => Own.b2i_eq0.mp q hc88)).1) ?_
            show Steps p.tables e below (T87.setTop (mkF m 352 #[.val (.int p0), .val (.int p1), .val (.int p2), .val (.int p3), .val (.int p4), .val (.int p5), .val (.ref b1), .val (.int v12), .val (.int v14), .val (.int v15), .val (.int v17), .val (.ref b18), .val (.int (Int32.ofNat ln_231)), .val (.ref b22), .val (.ref b64)] [])) t
            refine XS.aload X87.here hx rfl (hb hby at_352) rfl rfl ?_
            show Steps p.tables e below (T87.setTop (mkF m 354 #[.val (.int p0), .val (.int p1), .val (.int p2), .val (.int p3), .val (.int p4), .val (.int p5), .val (.ref b1), .val (.int v12), .val (.int v14), .val (.int v15), .val (.int v17), .val (.ref b18), .val (.int (Int32.ofNat ln_231)), .val (.ref b22), .val (.ref b64)] [(.ref b64)])) t
            refine XS.aload X87.here hx rfl (hb hby at_354) rfl rfl ?_
            show Steps p.tables e below (T87.setTop (mkF m 356 #[.val (.int p0), .val (.int p1), .val (.int p2), .val (.int p3), .val (.int p4), .val (.int p5), .val (.ref b1), .val (.int v12), .val (.int v14), .val (.int v15), .val (.int v17), .val (.ref b18), .val (.int (Int32.ofNat ln_231)), .val (.ref b22), .val (.ref b64)] [(.ref b18), (.ref b64)])) t
            refine XS.bipush X87.here hx rfl (hb hby at_356) ?_
            show Steps p.tables e below (T87.setTop (mkF m 358 #[.val (.int p0), .val (.int p1), .val (.int p2), .val (.int p3), .val (.int p4), .val (.int p5), .val (.ref b1), .val (.int v12), .val (.int v14), .val (.int v15), .val (.int v17), .val (.ref b18), .val (.int (Int32.ofNat ln_231)), .val (.ref b22), .val (.ref b64)] [(.int (8 : Int32)), (.ref b18), (.ref b64)])) t
            refine XS.iload X87.here hx rfl (hb hby at_358) rfl ?_
            show Steps p.tables e below (T87.setTop (mkF m 360 #[.val (.int p0), .val (.int p1), .val (.int p2), .val (.int p3), .val (.int p4), .val (.int p5), .val (.ref b1), .val (.int v12), .val (.int v14), .val (.int v15), .val (.int v17), .val (.ref b18), .val (.int (Int32.ofNat ln_231)), .val (.ref b22), .val (.ref b64)] [(.int (Int32.ofNat ln_231)), (.int (8 : Int32)), (.ref b18), (.ref b64)])) t
            refine st89 _ ?_
            show Steps p.tables e below (T89.setTop (mkF m 363 #[.val (.int p0), .val (.int p1), .val (.int p2), .val (.int p3), .val (.int p4), .val (.int p5), .val (.ref b1), .val (.int v12), .val (.int v14), .val (.int v15), .val (.int v17), .val (.ref b18), .val (.int (Int32.ofNat ln_231)), .val (.ref b22), .val (.ref b64)] [(.int (Own.b2i (own_at f64 ef_231 (8 : Int32) (Int32.ofNat ln_231))))])) t
            exact kt_
          have hc90 : (own_at f64 ef_231 (8 : Int32) (Int32.ofNat ln_231)) = true := own_atT (by omega) (by decide) hk64 hag_231
          obtain ⟨T91, _, L91, X91, ⟨rfl, Nq91, e91⟩, st91⟩ := Own.callS (y := (⟨"com/example/edom/edom/mapping/Utf8OutputToByteArrayPinLaw", "at", "([B[BII)Z"⟩ : MethodName)) (W := 0) (argsL := [(.ref b64), (.ref b18), (.int (9 : Int32)), (.int (Int32.ofNat ln_231))]) (rest := []) X89 hx hZ hown (hw _ (List.mem_of_getElem? (i := 73) rfl)) (hw _ (List.mem_of_getElem? (i := 74) rfl)) (hw _ (List.mem_of_getElem? (i := 57) rfl)) (hw _ (List.mem_of_getElem? (i := 75) rfl)) (by decide) e89 (rm18 l Z a0 hw [] b64 b18 (9 : Int32) (Int32.ofNat ln_231) ln_231 f64 ef_231 T64.heap n0 (by decide) (own_oi (by omega)) A64 f67) (by decide) (by decide) (by decide) (by decide) (g := (mkF m 374 #[.val (.int p0), .val (.int p1), .val (.int p2), .val (.int p3), .val (.int p4), .val (.int p5), .val (.ref b1), .val (.int v12), .val (.int v14), .val (.int v15), .val (.int v17), .val (.ref b18), .val (.int (Int32.ofNat ln_231)), .val (.ref b22), .val (.ref b64)] [(.int (Int32.ofNat ln_231)), (.int (9 : Int32)), (.ref b18), (.ref b64)])) rfl (by rw [hml]; rfl) (lenOf pd_9 rfl) rfl (by show 2 * 0 + _ ≤ _; exact Nat.le_of_eq rfl) (hb hby at_374)
          have N91 := Fr.app N89 Nq91
          refine hD _ (T91.setTop (mkF m 377 #[.val (.int p0), .val (.int p1), .val (.int p2), .val (.int p3), .val (.int p4), .val (.int p5), .val (.ref b1), .val (.int v12), .val (.int v14), .val (.int v15), .val (.int v17), .val (.ref b18), .val (.int (Int32.ofNat ln_231)), .val (.ref b22), .val (.ref b64)] [(.int (Own.b2i (own_at f64 ef_231 (9 : Int32) (Int32.ofNat ln_231))))])) (fun t kt_ => ?_) ?_
          · show Steps p.tables e below (T89.setTop (mkF m 363 #[.val (.int p0), .val (.int p1), .val (.int p2), .val (.int p3), .val (.int p4), .val (.int p5), .val (.ref b1), .val (.int v12), .val (.int v14), .val (.int v15), .val (.int v17), .val (.ref b18), .val (.int (Int32.ofNat ln_231)), .val (.ref b22), .val (.ref b64)] [(.int (Own.b2i (own_at f64 ef_231 (8 : Int32) (Int32.ofNat ln_231))))])) t
            refine XS.ifNo X89.here hx rfl (hb hby at_363) rfl ((if0 _ _).trans (feq (fun q => Own.b2i_eq0.mp q hc90)).1) ?_
            show Steps p.tables e below (T89.setTop (mkF m 366 #[.val (.int p0), .val (.int p1), .val (.int p2), .val (.int p3), .val (.int p4), .val (.int p5), .val (.ref b1), .val (.int v12), .val (.int v14), .val (.int v15), .val (.int v17), .val (.ref b18), .val (.int (Int32.ofNat ln_231)), .val (.ref b22), .val (.ref b64)] [])) t
            refine XS.aload X89.here hx rfl (hb hby at_366) rfl rfl ?_
            show Steps p.tables e below (T89.setTop (mkF m 368 #[.val (.int p0), .val (.int p1), .val (.int p2), .val (.int p3), .val (.int p4), .val (.int p5), .val (.ref b1), .val (.int v12), .val (.int v14), .val (.int v15), .val (.int v17), .val (.ref b18), .val (.int (Int32.ofNat ln_231)), .val (.ref b22), .val (.ref b64)] [(.ref b64)])) t
            refine XS.aload X89.here hx rfl (hb hby at_368) rfl rfl ?_
            show Steps p.tables e below (T89.setTop (mkF m 370 #[.val (.int p0), .val (.int p1), .val (.int p2), .val (.int p3), .val (.int p4), .val (.int p5), .val (.ref b1), .val (.int v12), .val (.int v14), .val (.int v15), .val (.int v17), .val (.ref b18), .val (.int (Int32.ofNat ln_231)), .val (.ref b22), .val (.ref b64)] [(.ref b18), (.ref b64)])) t
            refine XS.bipush X89.here hx rfl (hb hby at_370) ?_
            show Steps p.tables e below (T89.setTop (mkF m 372 #[.val (.int p0), .val (.int p1), .val (.int p2), .val (.int p3), .val (.int p4), .val (.int p5), .val (.ref b1), .val (.int v12), .val (.int v14), .val (.int v15), .val (.int v17), .val (.ref b18), .val (.int (Int32.ofNat ln_231)), .val (.ref b22), .val (.ref b64)] [(.int (9 : Int32)), (.ref b18), (.ref b64)])) t
            refine XS.iload X89.here hx rfl (hb hby at_372) rfl ?_
            show Steps p.tables e below (T89.setTop (mkF m 374 #[.val (.int p0), .val (.int p1), .val (.int p2), .val (.int p3), .val (.int p4), .val (.int p5), .val (.ref b1), .val (.int v12), .val (.int v14), .val (.int v15), .val (.int v17), .val (.ref b18), .val (.int (Int32.ofNat ln_231)), .val (.ref b22), .val (.ref b64)] [(.int (Int32.ofNat ln_231)), (.int (9 : Int32)), (.ref b18), (.ref b64)])) t
            refine st91 _ ?_
            show Steps p.tables e below (T91.setTop (mkF m 377 #[.val (.int p0), .val (.int p1), .val (.int p2), .val (.int p3), .val (.int p4), .val (.int p5), .val (.ref b1), .val (.int v12), .val (.int v14), .val (.int v15), .val (.int v17), .val (.ref b18), .val (.int (Int32.ofNat ln_231)), .val (.ref b22), .val (.ref b64)] [(.int (Own.b2i (own_at f64 ef_231 (9 : Int32) (Int32.ofNat ln_231))))])) t
            exact kt_
          have hc92 : (own_at f64 ef_231 (9 : Int32) (Int32.ofNat ln_231)) = true := own_atT (by omega) (by decide) hk64 hag_231
          refine hD _ (T91.setTop (mkF m 385 #[.val (.int p0), .val (.int p1), .val (.int p2), .val (.int p3), .val (.int p4), .val (.int p5), .val (.ref b1), .val (.int v12), .val (.int v14), .val (.int v15), .val (.int v17), .val (.ref b18), .val (.int (Int32.ofNat ln_231)), .val (.ref b22), .val (.ref b64)] [(.int (1 : Int32))])) (fun t kt_ => ?_) ?_
          · show Steps p.tables e below (T91.setTop (mkF m 377 #[.val (.int p0), .val (.int p1), .val (.int p2), .val (.int p3), .val (.int p4), .val (.int p5), .val (.ref b1), .val (.int v12), .val (.int v14), .val (.int v15), .val (.int v17), .val (.ref b18), .val (.int (Int32.ofNat ln_231)), .val (.ref b22), .val (.ref b64)] [(.int (Own.b2i (own_at f64 ef_231 (9 : Int32) (Int32.ofNat ln_231))))])) t
            refine XS.ifNo X91.here hx rfl (hb hby at_377) rfl ((if0 _ _).trans (feq (fun q => Own.b2i_eq0.mp q hc92)).1) ?_
            show Steps p.tables e below (T91.setTop (mkF m 380 #[.val (.int p0), .val (.int p1), .val (.int p2), .val (.int p3), .val (.int p4), .val (.int p5), .val (.ref b1), .val (.int v12), .val (.int v14), .val (.int v15), .val (.int v17), .val (.ref b18), .val (.int (Int32.ofNat ln_231)), .val (.ref b22), .val (.ref b64)] [])) t
            refine XS.iconst X91.here hx rfl (hb hby at_380) ?_
            show Steps p.tables e below (T91.setTop (mkF m 381 #[.val (.int p0), .val (.int p1), .val (.int p2), .val (.int p3), .val (.int p4), .val (.int p5), .val (.ref b1), .val (.int v12), .val (.int v14), .val (.int v15), .val (.int v17), .val (.ref b18), .val (.int (Int32.ofNat ln_231)), .val (.ref b22), .val (.ref b64)] [(.int (1 : Int32))])) t
            refine XS.goto X91.here hx rfl (pc0 := 381) (pc' := 385) rfl (hb hby at_381) (by decide) (by decide) ?_
            show Steps p.tables e below (T91.setTop (mkF m 385 #[.val (.int p0), .val (.int p1), .val (.int p2), .val (.int p3), .val (.int p4), .val (.int p5), .val (.ref b1), .val (.int v12), .val (.int v14), .val (.int v15), .val (.int v17), .val (.ref b18), .val (.int (Int32.ofNat ln_231)), .val (.ref b22), .val (.ref b64)] [(.int (1 : Int32))])) t
            exact kt_
          exact Own.retN hR X91 hx (t := .boolean) hret (by simp) (hb hby at_385) (by decide) (by decide) (by decide) ⟨rfl, N91⟩
        refine hD _ (T48.setTop (mkF m 202 #[.val (.int p0), .val (.int p1), .val (.int p2), .val (.int p3), .val (.int p4), .val (.int p5), .val (.ref b1), .val (.int v12), .val (.int v14), .val (.int v15), .val (.int v17), .val (.ref b18), .val (.int (Int32.ofNat ln_197)), .val (.ref b22), .unset] [(.int (p5 &&& (8 : Int32)))])) (fun t kt_ => ?_) ?_
        · show Steps p.tables e below (T48.setTop (mkF m 199 #[.val (.int p0), .val (.int p1), .val (.int p2), .val (.int p3), .val (.int p4), .val (.int p5), .val (.ref b1), .val (.int v12), .val (.int v14), .val (.int v15), .val (.int v17), .val (.ref b18), .val (.int (Int32.ofNat ln_197)), .val (.ref b22), .unset] [(.int p5)])) t
          refine XS.bipush X48.here hx rfl (hb hby at_199) ?_
          show Steps p.tables e below (T48.setTop (mkF m 201 #[.val (.int p0), .val (.int p1), .val (.int p2), .val (.int p3), .val (.int p4), .val (.int p5), .val (.ref b1), .val (.int v12), .val (.int v14), .val (.int v15), .val (.int v17), .val (.ref b18), .val (.int (Int32.ofNat ln_197)), .val (.ref b22), .unset] [(.int (8 : Int32)), (.int p5)])) t
          refine XS.iand X48.here hx rfl (hb hby at_201) rfl ?_
          show Steps p.tables e below (T48.setTop (mkF m 202 #[.val (.int p0), .val (.int p1), .val (.int p2), .val (.int p3), .val (.int p4), .val (.int p5), .val (.ref b1), .val (.int v12), .val (.int v14), .val (.int v15), .val (.int v17), .val (.ref b18), .val (.int (Int32.ofNat ln_197)), .val (.ref b22), .unset] [(.int (p5 &&& (8 : Int32)))])) t
          exact kt_
        by_cases hc93 : (p5 &&& (8 : Int32)) = (0 : Int32)
        · refine hD _ (T48.setTop (mkF m 231 #[.val (.int p0), .val (.int p1), .val (.int p2), .val (.int p3), .val (.int p4), .val (.int p5), .val (.ref b1), .val (.int v12), .val (.int v14), .val (.int v15), .val (.int v17), .val (.ref b18), .val (.int (Int32.ofNat ln_197)), .val (.ref b22), .unset] [])) (fun t kt_ => ?_) ?_
          · show Steps p.tables e below (T48.setTop (mkF m 202 #[.val (.int p0), .val (.int p1), .val (.int p2), .val (.int p3), .val (.int p4), .val (.int p5), .val (.ref b1), .val (.int v12), .val (.int v14), .val (.int v15), .val (.int v17), .val (.ref b18), .val (.int (Int32.ofNat ln_197)), .val (.ref b22), .unset] [(.int (p5 &&& (8 : Int32)))])) t
            refine XS.ifYes X48.here hx rfl (pc0 := 202) (pc' := 231) rfl (hb hby at_202) rfl ((if0 _ _).trans (teq hc93).1) (by decide) (by decide) ?_
            show Steps p.tables e below (T48.setTop (mkF m 231 #[.val (.int p0), .val (.int p1), .val (.int p2), .val (.int p3), .val (.int p4), .val (.int p5), .val (.ref b1), .val (.int v12), .val (.int v14), .val (.int v15), .val (.int v17), .val (.ref b18), .val (.int (Int32.ofNat ln_197)), .val (.ref b22), .unset] [])) t
            exact kt_
          exact J231 T48 _ h48 r_197 N_197 ln_197 g_197 ef_197 (Own.mono X48 (by decide) (by decide)) e48 N48 Z48 f49 f50 f51 f52 f53 f54 f55 hor_197 hgf_197 hlN_197 hN20_197 (by omega) hag_197
        · obtain ⟨T94, _, L94, X94, ⟨rfl, Nq94, Kq94, r94, N94n, g94, hN1_94, hN2_94, hor94, hka94, hkb94, E94, Fb94, Fl94, A94, hg94⟩, st94⟩ := Own.callV (y := (⟨"com/example/edom/edom/mapping/Utf8Output", "write", "([BII)V"⟩ : MethodName)) (W := 0) (argsL := [(.ref b1), (.int v14), (.int v12)]) (rest := []) (a := b22) X48 hx hZ hown (hw _ (List.mem_of_getElem? (i := 59) rfl)) (hw _ (List.mem_of_getElem? (i := 60) rfl)) (hw _ (List.mem_of_getElem? (i := 62) rfl)) (hw _ (List.mem_of_getElem? (i := 61) rfl)) (hw _ (List.mem_of_getElem? (i := 3) rfl)) (hw _ (List.mem_of_getElem? (i := 63) rfl)) (by decide) e48 f52 (rm14 l Z a0 hw [] b22 b1 v14 v12 r_197 N_197 ln_197 g_197 sA cA sf h48 n0 Z48 g0_b22 hor_197 hgf_197 hlN_197 (by omega) hN20_197 hsA hcA hscA hsf (by omega) (by omega) f52 f53 f54 f55 f49 f50) (by decide) (by decide) (by decide) (by decide) (g := (mkF m 213 #[.val (.int p0), .val (.int p1), .val (.int p2), .val (.int p3), .val (.int p4), .val (.int p5), .val (.ref b1), .val (.int v12), .val (.int v14), .val (.int v15), .val (.int v17), .val (.ref b18), .val (.int (Int32.ofNat ln_197)), .val (.ref b22), .unset] [(.int v12), (.int v14), (.ref b1), (.ref b22)])) rfl (by rw [hml]; rfl) (lenOf pd_10 rfl) rfl (by show 2 * 0 + _ ≤ _; exact Nat.le_of_eq rfl) (hb hby at_213)
          have N94 := Fr.app N48 Nq94
          have f95 : Own.AvI Z T94.heap b1 .byte 3 sf := f49.keep Kq94 (ninS (Own.ne_of (by omega)) (ninS (Own.ne_of (by omega)) nin0))
          have f96 : Exa Z T94.heap b1 "[B" := f50.keep Kq94
          have f97 : Own.AvI Z T94.heap b18 .byte 10 ef_197 := f51.keep Kq94 (ninS (Own.ne_of (by omega)) (ninS (Own.ne_of (by omega)) nin0))
          have Z94 : n0 ≤ T94.heap.size := Nat.le_trans Z48 Kq94.1
          obtain ⟨T98, _, L98, X98, ⟨rfl, Nq98, Kq98, A98⟩, st98⟩ := Own.callS (y := (⟨"com/example/edom/edom/mapping/Utf8OutputToByteArrayPinLaw", "putRange", "([BI[BII)I"⟩ : MethodName)) (W := 0) (argsL := [(.ref b18), (.int (Int32.ofNat ln_197)), (.ref b1), (.int v14), (.int v12)]) (rest := []) X94 hx hZ hown (hw _ (List.mem_of_getElem? (i := 65) rfl)) (hw _ (List.mem_of_getElem? (i := 66) rfl)) (hw _ (List.mem_of_getElem? (i := 57) rfl)) (hw _ (List.mem_of_getElem? (i := 67) rfl)) (by decide) rfl (rm17 l Z a0 hw [] b18 (Int32.ofNat ln_197) b1 v14 v12 ln_197 sA cA ef_197 sf T94.heap n0 Z94 g0_b18 lt_b1_b18 (own_oi (by omega)) hsA hcA hscA (by omega) hsf f97 f95) (by decide) (by decide) (by decide) (by decide) (g := (mkF m 226 #[.val (.int p0), .val (.int p1), .val (.int p2), .val (.int p3), .val (.int p4), .val (.int p5), .val (.ref b1), .val (.int v12), .val (.int v14), .val (.int v15), .val (.int v17), .val (.ref b18), .val (.int (Int32.ofNat ln_197)), .val (.ref b22), .unset] [(.int v12), (.int v14), (.ref b1), (.int (Int32.ofNat ln_197)), (.ref b18)])) rfl (by rw [hml]; rfl) (lenOf pd_11 rfl) rfl (by show 2 * 0 + _ ≤ _; exact Nat.le_of_eq rfl) (hb hby at_226)
          have N98 := Fr.app N94 Nq98
          have f99 : Own.AvI Z T98.heap b1 .byte 3 sf := f95.keep Kq98 (ninS (Own.ne_of (by omega)) nin0)
          have f100 : Exa Z T98.heap b1 "[B" := f96.keep Kq98
          have f101 : Exa Z T98.heap b22 "com/example/edom/edom/mapping/Utf8Output" := E94.keep Kq98
          have f102 : Fld Z T98.heap b22 "com/example/edom/edom/mapping/Utf8Output" "bytes" "[B" (.ref r94) := Fb94.keep Kq98 (ninS (Own.ne_of (by omega)) nin0)
          have f103 : Fld Z T98.heap b22 "com/example/edom/edom/mapping/Utf8Output" "length" "I" (.int (Int32.ofNat (ln_197 + cA))) := Fl94.keep Kq98 (ninS (Own.ne_of (by omega)) nin0)
          have f104 : Own.AvI Z T98.heap r94 .byte N94n g94 := A94.keep Kq98 (ninS (Own.ne_of (by omega)) nin0)
          have Z98 : n0 ≤ T98.heap.size := Nat.le_trans Z94 Kq98.1
          refine hD _ (T98.setTop (mkF m 231 #[.val (.int p0), .val (.int p1), .val (.int p2), .val (.int p3), .val (.int p4), .val (.int p5), .val (.ref b1), .val (.int v12), .val (.int v14), .val (.int v15), .val (.int v17), .val (.ref b18), .val (.int (Int32.ofNat (ln_197 + cA))), .val (.ref b22), .unset] [])) (fun t kt_ => ?_) ?_
          · show Steps p.tables e below (T48.setTop (mkF m 202 #[.val (.int p0), .val (.int p1), .val (.int p2), .val (.int p3), .val (.int p4), .val (.int p5), .val (.ref b1), .val (.int v12), .val (.int v14), .val (.int v15), .val (.int v17), .val (.ref b18), .val (.int (Int32.ofNat ln_197)), .val (.ref b22), .unset] [(.int (p5 &&& (8 : Int32)))])) t
            refine XS.ifNo X48.here hx rfl (hb hby at_202) rfl ((if0 _ _).trans (feq hc93).1) ?_
            show Steps p.tables e below (T48.setTop (mkF m 205 #[.val (.int p0), .val (.int p1), .val (.int p2), .val (.int p3), .val (.int p4), .val (.int p5), .val (.ref b1), .val (.int v12), .val (.int v14), .val (.int v15), .val (.int v17), .val (.ref b18), .val (.int (Int32.ofNat ln_197)), .val (.ref b22), .unset] [])) t
            refine XS.aload X48.here hx rfl (hb hby at_205) rfl rfl ?_
            show Steps p.tables e below (T48.setTop (mkF m 207 #[.val (.int p0), .val (.int p1), .val (.int p2), .val (.int p3), .val (.int p4), .val (.int p5), .val (.ref b1), .val (.int v12), .val (.int v14), .val (.int v15), .val (.int v17), .val (.ref b18), .val (.int (Int32.ofNat ln_197)), .val (.ref b22), .unset] [(.ref b22)])) t
            refine XS.aload X48.here hx rfl (hb hby at_207) rfl rfl ?_
            show Steps p.tables e below (T48.setTop (mkF m 209 #[.val (.int p0), .val (.int p1), .val (.int p2), .val (.int p3), .val (.int p4), .val (.int p5), .val (.ref b1), .val (.int v12), .val (.int v14), .val (.int v15), .val (.int v17), .val (.ref b18), .val (.int (Int32.ofNat ln_197)), .val (.ref b22), .unset] [(.ref b1), (.ref b22)])) t
            refine XS.iload X48.here hx rfl (hb hby at_209) rfl ?_
            show Steps p.tables e below (T48.setTop (mkF m 211 #[.val (.int p0), .val (.int p1), .val (.int p2), .val (.int p3), .val (.int p4), .val (.int p5), .val (.ref b1), .val (.int v12), .val (.int v14), .val (.int v15), .val (.int v17), .val (.ref b18), .val (.int (Int32.ofNat ln_197)), .val (.ref b22), .unset] [(.int v14), (.ref b1), (.ref b22)])) t
            refine XS.iload X48.here hx rfl (hb hby at_211) rfl ?_
            show Steps p.tables e below (T48.setTop (mkF m 213 #[.val (.int p0), .val (.int p1), .val (.int p2), .val (.int p3), .val (.int p4), .val (.int p5), .val (.ref b1), .val (.int v12), .val (.int v14), .val (.int v15), .val (.int v17), .val (.ref b18), .val (.int (Int32.ofNat ln_197)), .val (.ref b22), .unset] [(.int v12), (.int v14), (.ref b1), (.ref b22)])) t
            refine st94 _ ?_
            show Steps p.tables e below (T94.setTop (mkF m 216 #[.val (.int p0), .val (.int p1), .val (.int p2), .val (.int p3), .val (.int p4), .val (.int p5), .val (.ref b1), .val (.int v12), .val (.int v14), .val (.int v15), .val (.int v17), .val (.ref b18), .val (.int (Int32.ofNat ln_197)), .val (.ref b22), .unset] [])) t
            refine XS.aload X94.here hx rfl (hb hby at_216) rfl rfl ?_
            show Steps p.tables e below (T94.setTop (mkF m 218 #[.val (.int p0), .val (.int p1), .val (.int p2), .val (.int p3), .val (.int p4), .val (.int p5), .val (.ref b1), .val (.int v12), .val (.int v14), .val (.int v15), .val (.int v17), .val (.ref b18), .val (.int (Int32.ofNat ln_197)), .val (.ref b22), .unset] [(.ref b18)])) t
            refine XS.iload X94.here hx rfl (hb hby at_218) rfl ?_
            show Steps p.tables e below (T94.setTop (mkF m 220 #[.val (.int p0), .val (.int p1), .val (.int p2), .val (.int p3), .val (.int p4), .val (.int p5), .val (.ref b1), .val (.int v12), .val (.int v14), .val (.int v15), .val (.int v17), .val (.ref b18), .val (.int (Int32.ofNat ln_197)), .val (.ref b22), .unset] [(.int (Int32.ofNat ln_197)), (.ref b18)])) t
            refine XS.aload X94.here hx rfl (hb hby at_220) rfl rfl ?_
            show Steps p.tables e below (T94.setTop (mkF m 222 #[.val (.int p0), .val (.int p1), .val (.int p2), .val (.int p3), .val (.int p4), .val (.int p5), .val (.ref b1), .val (.int v12), .val (.int v14), .val (.int v15), .val (.int v17), .val (.ref b18), .val (.int (Int32.ofNat ln_197)), .val (.ref b22), .unset] [(.ref b1), (.int (Int32.ofNat ln_197)), (.ref b18)])) t
            refine XS.iload X94.here hx rfl (hb hby at_222) rfl ?_
            show Steps p.tables e below (T94.setTop (mkF m 224 #[.val (.int p0), .val (.int p1), .val (.int p2), .val (.int p3), .val (.int p4), .val (.int p5), .val (.ref b1), .val (.int v12), .val (.int v14), .val (.int v15), .val (.int v17), .val (.ref b18), .val (.int (Int32.ofNat ln_197)), .val (.ref b22), .unset] [(.int v14), (.ref b1), (.int (Int32.ofNat ln_197)), (.ref b18)])) t
            refine XS.iload X94.here hx rfl (hb hby at_224) rfl ?_
            show Steps p.tables e below (T94.setTop (mkF m 226 #[.val (.int p0), .val (.int p1), .val (.int p2), .val (.int p3), .val (.int p4), .val (.int p5), .val (.ref b1), .val (.int v12), .val (.int v14), .val (.int v15), .val (.int v17), .val (.ref b18), .val (.int (Int32.ofNat ln_197)), .val (.ref b22), .unset] [(.int v12), (.int v14), (.ref b1), (.int (Int32.ofNat ln_197)), (.ref b18)])) t
            refine st98 _ ?_
            show Steps p.tables e below (T98.setTop (mkF m 229 #[.val (.int p0), .val (.int p1), .val (.int p2), .val (.int p3), .val (.int p4), .val (.int p5), .val (.ref b1), .val (.int v12), .val (.int v14), .val (.int v15), .val (.int v17), .val (.ref b18), .val (.int (Int32.ofNat ln_197)), .val (.ref b22), .unset] [(.int (Int32.ofNat (ln_197 + cA)))])) t
            refine XS.istore X98.here hx rfl (hb hby at_229) rfl (l' := #[.val (.int p0), .val (.int p1), .val (.int p2), .val (.int p3), .val (.int p4), .val (.int p5), .val (.ref b1), .val (.int v12), .val (.int v14), .val (.int v15), .val (.int v17), .val (.ref b18), .val (.int (Int32.ofNat (ln_197 + cA))), .val (.ref b22), .unset]) rfl ?_
            show Steps p.tables e below (T98.setTop (mkF m 231 #[.val (.int p0), .val (.int p1), .val (.int p2), .val (.int p3), .val (.int p4), .val (.int p5), .val (.ref b1), .val (.int v12), .val (.int v14), .val (.int v15), .val (.int v17), .val (.ref b18), .val (.int (Int32.ofNat (ln_197 + cA))), .val (.ref b22), .unset] [])) t
            exact kt_
          exact J231 T98 _ T98.heap r94 N94n (ln_197 + cA) g94 (own_rng ef_197 sf ln_197 sA cA) X98 rfl N98 Z98 f99 f100 A98 f101 f102 f103 f104 hor94 hg94 hN1_94 hN2_94 (by omega) (own_agR hag_197 hka94 hkb94)
      refine hD _ (T40.setTop (mkF m 177 #[.val (.int p0), .val (.int p1), .val (.int p2), .val (.int p3), .val (.int p4), .val (.int p5), .val (.ref b1), .val (.int v12), .val (.int v14), .val (.int v15), .val (.int v17), .val (.ref b18), .val (.int (Int32.ofNat ln_173)), .val (.ref b22), .unset] [(.int (p5 &&& (4 : Int32)))])) (fun t kt_ => ?_) ?_
      · show Steps p.tables e below (T40.setTop (mkF m 175 #[.val (.int p0), .val (.int p1), .val (.int p2), .val (.int p3), .val (.int p4), .val (.int p5), .val (.ref b1), .val (.int v12), .val (.int v14), .val (.int v15), .val (.int v17), .val (.ref b18), .val (.int (Int32.ofNat ln_173)), .val (.ref b22), .unset] [(.int p5)])) t
        refine XS.iconst X40.here hx rfl (hb hby at_175) ?_
        show Steps p.tables e below (T40.setTop (mkF m 176 #[.val (.int p0), .val (.int p1), .val (.int p2), .val (.int p3), .val (.int p4), .val (.int p5), .val (.ref b1), .val (.int v12), .val (.int v14), .val (.int v15), .val (.int v17), .val (.ref b18), .val (.int (Int32.ofNat ln_173)), .val (.ref b22), .unset] [(.int (4 : Int32)), (.int p5)])) t
        refine XS.iand X40.here hx rfl (hb hby at_176) rfl ?_
        show Steps p.tables e below (T40.setTop (mkF m 177 #[.val (.int p0), .val (.int p1), .val (.int p2), .val (.int p3), .val (.int p4), .val (.int p5), .val (.ref b1), .val (.int v12), .val (.int v14), .val (.int v15), .val (.int v17), .val (.ref b18), .val (.int (Int32.ofNat ln_173)), .val (.ref b22), .unset] [(.int (p5 &&& (4 : Int32)))])) t
        exact kt_
      by_cases hc105 : (p5 &&& (4 : Int32)) = (0 : Int32)
      · refine hD _ (T40.setTop (mkF m 197 #[.val (.int p0), .val (.int p1), .val (.int p2), .val (.int p3), .val (.int p4), .val (.int p5), .val (.ref b1), .val (.int v12), .val (.int v14), .val (.int v15), .val (.int v17), .val (.ref b18), .val (.int (Int32.ofNat ln_173)), .val (.ref b22), .unset] [])) (fun t kt_ => ?_) ?_
        · show Steps p.tables e below (T40.setTop (mkF m 177 #[.val (.int p0), .val (.int p1), .val (.int p2), .val (.int p3), .val (.int p4), .val (.int p5), .val (.ref b1), .val (.int v12), .val (.int v14), .val (.int v15), .val (.int v17), .val (.ref b18), .val (.int (Int32.ofNat ln_173)), .val (.ref b22), .unset] [(.int (p5 &&& (4 : Int32)))])) t
          refine XS.ifYes X40.here hx rfl (pc0 := 177) (pc' := 197) rfl (hb hby at_177) rfl ((if0 _ _).trans (teq hc105).1) (by decide) (by decide) ?_
          show Steps p.tables e below (T40.setTop (mkF m 197 #[.val (.int p0), .val (.int p1), .val (.int p2), .val (.int p3), .val (.int p4), .val (.int p5), .val (.ref b1), .val (.int v12), .val (.int v14), .val (.int v15), .val (.int v17), .val (.ref b18), .val (.int (Int32.ofNat ln_173)), .val (.ref b22), .unset] [])) t
          exact kt_
        exact J197 T40 _ h40 r_173 N_173 ln_173 g_173 ef_173 (Own.mono X40 (by decide) (by decide)) e40 N40 Z40 f41 f42 f43 f44 f45 f46 f47 hor_173 hgf_173 hlN_173 hN20_173 (by omega) hag_173
      · obtain ⟨T106, _, L106, X106, ⟨rfl, Nq106, Kq106, r106, N106n, g106, hN1_106, hN2_106, hor106, hka106, hkb106, E106, Fb106, Fl106, A106, hg106⟩, st106⟩ := Own.callV (y := (⟨"com/example/edom/edom/mapping/Utf8Output", "write", "(I)V"⟩ : MethodName)) (W := 0) (argsL := [(.int p1)]) (rest := []) (a := b22) X40 hx hZ hown (hw _ (List.mem_of_getElem? (i := 17) rfl)) (hw _ (List.mem_of_getElem? (i := 18) rfl)) (hw _ (List.mem_of_getElem? (i := 20) rfl)) (hw _ (List.mem_of_getElem? (i := 19) rfl)) (hw _ (List.mem_of_getElem? (i := 3) rfl)) (hw _ (List.mem_of_getElem? (i := 21) rfl)) (by decide) e40 f44 (rm13 l Z a0 hw [] b22 p1 r_173 N_173 ln_173 g_173 h40 n0 Z40 g0_b22 hor_173 hgf_173 hlN_173 (by omega) hN20_173 (by omega) f44 f45 f46 f47) (by decide) (by decide) (by decide) (by decide) (g := (mkF m 183 #[.val (.int p0), .val (.int p1), .val (.int p2), .val (.int p3), .val (.int p4), .val (.int p5), .val (.ref b1), .val (.int v12), .val (.int v14), .val (.int v15), .val (.int v17), .val (.ref b18), .val (.int (Int32.ofNat ln_173)), .val (.ref b22), .unset] [(.int p1), (.ref b22)])) rfl (by rw [hml]; rfl) (lenOf pd_6 rfl) rfl (by show 2 * 0 + _ ≤ _; exact Nat.le_of_eq rfl) (hb hby at_183)
        have N106 := Fr.app N40 Nq106
        have f107 : Own.AvI Z T106.heap b1 .byte 3 sf := f41.keep Kq106 (ninS (Own.ne_of (by omega)) (ninS (Own.ne_of (by omega)) nin0))
        have f108 : Exa Z T106.heap b1 "[B" := f42.keep Kq106
        have f109 : Own.AvI Z T106.heap b18 .byte 10 ef_173 := f43.keep Kq106 (ninS (Own.ne_of (by omega)) (ninS (Own.ne_of (by omega)) nin0))
        have Z106 : n0 ≤ T106.heap.size := Nat.le_trans Z40 Kq106.1
        obtain ⟨T110, _, L110, X110, ⟨rfl, Nq110, Kq110, A110⟩, st110⟩ := Own.callS (y := (⟨"com/example/edom/edom/mapping/Utf8OutputToByteArrayPinLaw", "put", "([BIB)I"⟩ : MethodName)) (W := 0) (argsL := [(.ref b18), (.int (Int32.ofNat ln_173)), (.int (p1.toInt8.toInt32))]) (rest := []) X106 hx hZ hown (hw _ (List.mem_of_getElem? (i := 55) rfl)) (hw _ (List.mem_of_getElem? (i := 56) rfl)) (hw _ (List.mem_of_getElem? (i := 57) rfl)) (hw _ (List.mem_of_getElem? (i := 58) rfl)) (by decide) rfl (rm16 l Z a0 hw [] b18 (Int32.ofNat ln_173) (p1.toInt8.toInt32) ln_173 ef_173 T106.heap n0 Z106 g0_b18 (own_oi (by omega)) (by omega) f109) (by decide) (by decide) (by decide) (by decide) (g := (mkF m 192 #[.val (.int p0), .val (.int p1), .val (.int p2), .val (.int p3), .val (.int p4), .val (.int p5), .val (.ref b1), .val (.int v12), .val (.int v14), .val (.int v15), .val (.int v17), .val (.ref b18), .val (.int (Int32.ofNat ln_173)), .val (.ref b22), .unset] [(.int (p1.toInt8.toInt32)), (.int (Int32.ofNat ln_173)), (.ref b18)])) rfl (by rw [hml]; rfl) (lenOf pd_7 rfl) rfl (by show 2 * 0 + _ ≤ _; exact Nat.le_of_eq rfl) (hb hby at_192)
        have N110 := Fr.app N106 Nq110
        have f111 : Own.AvI Z T110.heap b1 .byte 3 sf := f107.keep Kq110 (ninS (Own.ne_of (by omega)) nin0)
        have f112 : Exa Z T110.heap b1 "[B" := f108.keep Kq110
        have f113 : Exa Z T110.heap b22 "com/example/edom/edom/mapping/Utf8Output" := E106.keep Kq110
        have f114 : Fld Z T110.heap b22 "com/example/edom/edom/mapping/Utf8Output" "bytes" "[B" (.ref r106) := Fb106.keep Kq110 (ninS (Own.ne_of (by omega)) nin0)
        have f115 : Fld Z T110.heap b22 "com/example/edom/edom/mapping/Utf8Output" "length" "I" (.int (Int32.ofNat (ln_173 + 1))) := Fl106.keep Kq110 (ninS (Own.ne_of (by omega)) nin0)
        have f116 : Own.AvI Z T110.heap r106 .byte N106n g106 := A106.keep Kq110 (ninS (Own.ne_of (by omega)) nin0)
        have Z110 : n0 ≤ T110.heap.size := Nat.le_trans Z106 Kq110.1
        refine hD _ (T110.setTop (mkF m 197 #[.val (.int p0), .val (.int p1), .val (.int p2), .val (.int p3), .val (.int p4), .val (.int p5), .val (.ref b1), .val (.int v12), .val (.int v14), .val (.int v15), .val (.int v17), .val (.ref b18), .val (.int (Int32.ofNat (ln_173 + 1))), .val (.ref b22), .unset] [])) (fun t kt_ => ?_) ?_
        · show Steps p.tables e below (T40.setTop (mkF m 177 #[.val (.int p0), .val (.int p1), .val (.int p2), .val (.int p3), .val (.int p4), .val (.int p5), .val (.ref b1), .val (.int v12), .val (.int v14), .val (.int v15), .val (.int v17), .val (.ref b18), .val (.int (Int32.ofNat ln_173)), .val (.ref b22), .unset] [(.int (p5 &&& (4 : Int32)))])) t
          refine XS.ifNo X40.here hx rfl (hb hby at_177) rfl ((if0 _ _).trans (feq hc105).1) ?_
          show Steps p.tables e below (T40.setTop (mkF m 180 #[.val (.int p0), .val (.int p1), .val (.int p2), .val (.int p3), .val (.int p4), .val (.int p5), .val (.ref b1), .val (.int v12), .val (.int v14), .val (.int v15), .val (.int v17), .val (.ref b18), .val (.int (Int32.ofNat ln_173)), .val (.ref b22), .unset] [])) t
          refine XS.aload X40.here hx rfl (hb hby at_180) rfl rfl ?_
          show Steps p.tables e below (T40.setTop (mkF m 182 #[.val (.int p0), .val (.int p1), .val (.int p2), .val (.int p3), .val (.int p4), .val (.int p5), .val (.ref b1), .val (.int v12), .val (.int v14), .val (.int v15), .val (.int v17), .val (.ref b18), .val (.int (Int32.ofNat ln_173)), .val (.ref b22), .unset] [(.ref b22)])) t
          refine XS.iloadN X40.here hx rfl (hb hby at_182) rfl ?_
          show Steps p.tables e below (T40.setTop (mkF m 183 #[.val (.int p0), .val (.int p1), .val (.int p2), .val (.int p3), .val (.int p4), .val (.int p5), .val (.ref b1), .val (.int v12), .val (.int v14), .val (.int v15), .val (.int v17), .val (.ref b18), .val (.int (Int32.ofNat ln_173)), .val (.ref b22), .unset] [(.int p1), (.ref b22)])) t
          refine st106 _ ?_
          show Steps p.tables e below (T106.setTop (mkF m 186 #[.val (.int p0), .val (.int p1), .val (.int p2), .val (.int p3), .val (.int p4), .val (.int p5), .val (.ref b1), .val (.int v12), .val (.int v14), .val (.int v15), .val (.int v17), .val (.ref b18), .val (.int (Int32.ofNat ln_173)), .val (.ref b22), .unset] [])) t
          refine XS.aload X106.here hx rfl (hb hby at_186) rfl rfl ?_
          show Steps p.tables e below (T106.setTop (mkF m 188 #[.val (.int p0), .val (.int p1), .val (.int p2), .val (.int p3), .val (.int p4), .val (.int p5), .val (.ref b1), .val (.int v12), .val (.int v14), .val (.int v15), .val (.int v17), .val (.ref b18), .val (.int (Int32.ofNat ln_173)), .val (.ref b22), .unset] [(.ref b18)])) t
          refine XS.iload X106.here hx rfl (hb hby at_188) rfl ?_
          show Steps p.tables e below (T106.setTop (mkF m 190 #[.val (.int p0), .val (.int p1), .val (.int p2), .val (.int p3), .val (.int p4), .val (.int p5), .val (.ref b1), .val (.int v12), .val (.int v14), .val (.int v15), .val (.int v17), .val (.ref b18), .val (.int (Int32.ofNat ln_173)), .val (.ref b22), .unset] [(.int (Int32.ofNat ln_173)), (.ref b18)])) t
          refine XS.iloadN X106.here hx rfl (hb hby at_190) rfl ?_
          show Steps p.tables e below (T106.setTop (mkF m 191 #[.val (.int p0), .val (.int p1), .val (.int p2), .val (.int p3), .val (.int p4), .val (.int p5), .val (.ref b1), .val (.int v12), .val (.int v14), .val (.int v15), .val (.int v17), .val (.ref b18), .val (.int (Int32.ofNat ln_173)), .val (.ref b22), .unset] [(.int p1), (.int (Int32.ofNat ln_173)), (.ref b18)])) t
          refine XS.i2b X106.here hx rfl (hb hby at_191) rfl ?_
          show Steps p.tables e below (T106.setTop (mkF m 192 #[.val (.int p0), .val (.int p1), .val (.int p2), .val (.int p3), .val (.int p4), .val (.int p5), .val (.ref b1), .val (.int v12), .val (.int v14), .val (.int v15), .val (.int v17), .val (.ref b18), .val (.int (Int32.ofNat ln_173)), .val (.ref b22), .unset] [(.int (p1.toInt8.toInt32)), (.int (Int32.ofNat ln_173)), (.ref b18)])) t
          refine st110 _ ?_
          show Steps p.tables e below (T110.setTop (mkF m 195 #[.val (.int p0), .val (.int p1), .val (.int p2), .val (.int p3), .val (.int p4), .val (.int p5), .val (.ref b1), .val (.int v12), .val (.int v14), .val (.int v15), .val (.int v17), .val (.ref b18), .val (.int (Int32.ofNat ln_173)), .val (.ref b22), .unset] [(.int (Int32.ofNat (ln_173 + 1)))])) t
          refine XS.istore X110.here hx rfl (hb hby at_195) rfl (l' := #[.val (.int p0), .val (.int p1), .val (.int p2), .val (.int p3), .val (.int p4), .val (.int p5), .val (.ref b1), .val (.int v12), .val (.int v14), .val (.int v15), .val (.int v17), .val (.ref b18), .val (.int (Int32.ofNat (ln_173 + 1))), .val (.ref b22), .unset]) rfl ?_
          show Steps p.tables e below (T110.setTop (mkF m 197 #[.val (.int p0), .val (.int p1), .val (.int p2), .val (.int p3), .val (.int p4), .val (.int p5), .val (.ref b1), .val (.int v12), .val (.int v14), .val (.int v15), .val (.int v17), .val (.ref b18), .val (.int (Int32.ofNat (ln_173 + 1))), .val (.ref b22), .unset] [])) t
          exact kt_
        exact J197 T110 _ T110.heap r106 N106n (ln_173 + 1) g106 (fun ii => if ii = ln_173 then nar .byte (p1.toInt8.toInt32) else ef_173 ii) X110 rfl N110 Z110 f111 f112 A110 f113 f114 f115 f116 hor106 hg106 hN1_106 hN2_106 (by omega) (own_agI hag_173 hka106 hkb106)
    refine hD _ (T32.setTop (mkF m 144 #[.val (.int p0), .val (.int p1), .val (.int p2), .val (.int p3), .val (.int p4), .val (.int p5), .val (.ref b1), .val (.int v12), .val (.int v14), .val (.int v15), .val (.int v17), .val (.ref b18), .val (.int (Int32.ofNat ln_140)), .val (.ref b22), .unset] [(.int (p5 &&& (2 : Int32)))])) (fun t kt_ => ?_) ?_
    · show Steps p.tables e below (T32.setTop (mkF m 142 #[.val (.int p0), .val (.int p1), .val (.int p2), .val (.int p3), .val (.int p4), .val (.int p5), .val (.ref b1), .val (.int v12), .val (.int v14), .val (.int v15), .val (.int v17), .val (.ref b18), .val (.int (Int32.ofNat ln_140)), .val (.ref b22), .unset] [(.int p5)])) t
      refine XS.iconst X32.here hx rfl (hb hby at_142) ?_
      show Steps p.tables e below (T32.setTop (mkF m 143 #[.val (.int p0), .val (.int p1), .val (.int p2), .val (.int p3), .val (.int p4), .val (.int p5), .val (.ref b1), .val (.int v12), .val (.int v14), .val (.int v15), .val (.int v17), .val (.ref b18), .val (.int (Int32.ofNat ln_140)), .val (.ref b22), .unset] [(.int (2 : Int32)), (.int p5)])) t
      refine XS.iand X32.here hx rfl (hb hby at_143) rfl ?_
      show Steps p.tables e below (T32.setTop (mkF m 144 #[.val (.int p0), .val (.int p1), .val (.int p2), .val (.int p3), .val (.int p4), .val (.int p5), .val (.ref b1), .val (.int v12), .val (.int v14), .val (.int v15), .val (.int v17), .val (.ref b18), .val (.int (Int32.ofNat ln_140)), .val (.ref b22), .unset] [(.int (p5 &&& (2 : Int32)))])) t
      exact kt_
    by_cases hc117 : (p5 &&& (2 : Int32)) = (0 : Int32)
    · refine hD _ (T32.setTop (mkF m 173 #[.val (.int p0), .val (.int p1), .val (.int p2), .val (.int p3), .val (.int p4), .val (.int p5), .val (.ref b1), .val (.int v12), .val (.int v14), .val (.int v15), .val (.int v17), .val (.ref b18), .val (.int (Int32.ofNat ln_140)), .val (.ref b22), .unset] [])) (fun t kt_ => ?_) ?_
      · show Steps p.tables e below (T32.setTop (mkF m 144 #[.val (.int p0), .val (.int p1), .val (.int p2), .val (.int p3), .val (.int p4), .val (.int p5), .val (.ref b1), .val (.int v12), .val (.int v14), .val (.int v15), .val (.int v17), .val (.ref b18), .val (.int (Int32.ofNat ln_140)), .val (.ref b22), .unset] [(.int (p5 &&& (2 : Int32)))])) t
        refine XS.ifYes X32.here hx rfl (pc0 := 144) (pc' := 173) rfl (hb hby at_144) rfl ((if0 _ _).trans (teq hc117).1) (by decide) (by decide) ?_
        show Steps p.tables e below (T32.setTop (mkF m 173 #[.val (.int p0), .val (.int p1), .val (.int p2), .val (.int p3), .val (.int p4), .val (.int p5), .val (.ref b1), .val (.int v12), .val (.int v14), .val (.int v15), .val (.int v17), .val (.ref b18), .val (.int (Int32.ofNat ln_140)), .val (.ref b22), .unset] [])) t
        exact kt_
      exact J173 T32 _ h32 r_140 N_140 ln_140 g_140 ef_140 (Own.mono X32 (by decide) (by decide)) e32 N32 Z32 f33 f34 f35 f36 f37 f38 f39 hor_140 hgf_140 hlN_140 hN20_140 (by omega) hag_140
    · obtain ⟨T118, _, L118, X118, ⟨rfl, Nq118, Kq118, r118, N118n, g118, hN1_118, hN2_118, hor118, hka118, hkb118, E118, Fb118, Fl118, A118, hg118⟩, st118⟩ := Own.callV (y := (⟨"com/example/edom/edom/mapping/Utf8Output", "write", "([BII)V"⟩ : MethodName)) (W := 0) (argsL := [(.ref b1), (.int v17), (.int v15)]) (rest := []) (a := b22) X32 hx hZ hown (hw _ (List.mem_of_getElem? (i := 59) rfl)) (hw _ (List.mem_of_getElem? (i := 60) rfl)) (hw _ (List.mem_of_getElem? (i := 62) rfl)) (hw _ (List.mem_of_getElem? (i := 61) rfl)) (hw _ (List.mem_of_getElem? (i := 3) rfl)) (hw _ (List.mem_of_getElem? (i := 63) rfl)) (by decide) e32 f36 (rm14 l Z a0 hw [] b22 b1 v17 v15 r_140 N_140 ln_140 g_140 sB cB sf h32 n0 Z32 g0_b22 hor_140 hgf_140 hlN_140 (by omega) hN20_140 hsB hcB hscB hsf (by omega) (by omega) f36 f37 f38 f39 f33 f34) (by decide) (by decide) (by decide) (by decide) (g := (mkF m 155 #[.val (.int p0), .val (.int p1), .val (.int p2), .val (.int p3), .val (.int p4), .val (.int p5), .val (.ref b1), .val (.int v12), .val (.int v14), .val (.int v15), .val (.int v17), .val (.ref b18), .val (.int (Int32.ofNat ln_140)), .val (.ref b22), .unset] [(.int v15), (.int v17), (.ref b1), (.ref b22)])) rfl (by rw [hml]; rfl) (lenOf pd_10 rfl) rfl (by show 2 * 0 + _ ≤ _; exact Nat.le_of_eq rfl) (hb hby at_155)
      have N118 := Fr.app N32 Nq118
      have f119 : Own.AvI Z T118.heap b1 .byte 3 sf := f33.keep Kq118 (ninS (Own.ne_of (by omega)) (ninS (Own.ne_of (by omega)) nin0))
      have f120 : Exa Z T118.heap b1 "[B" := f34.keep Kq118
      have f121 : Own.AvI Z T118.heap b18 .byte 10 ef_140 := f35.keep Kq118 (ninS (Own.ne_of (by omega)) (ninS (Own.ne_of (by omega)) nin0))
      have Z118 : n0 ≤ T118.heap.size := Nat.le_trans Z32 Kq118.1
      obtain ⟨T122, _, L122, X122, ⟨rfl, Nq122, Kq122, A122⟩, st122⟩ := Own.callS (y := (⟨"com/example/edom/edom/mapping/Utf8OutputToByteArrayPinLaw", "putRange", "([BI[BII)I"⟩ : MethodName)) (W := 0) (argsL := [(.ref b18), (.int (Int32.ofNat ln_140)), (.ref b1), (.int v17), (.int v15)]) (rest := []) X118 hx hZ hown (hw _ (List.mem_of_getElem? (i := 65) rfl)) (hw _ (List.mem_of_getElem? (i := 66) rfl)) (hw _ (List.mem_of_getElem? (i := 57) rfl)) (hw _ (List.mem_of_getElem? (i := 67) rfl)) (by decide) rfl (rm17 l Z a0 hw [] b18 (Int32.ofNat ln_140) b1 v17 v15 ln_140 sB cB ef_140 sf T118.heap n0 Z118 g0_b18 lt_b1_b18 (own_oi (by omega)) hsB hcB hscB (by omega) hsf f121 f119) (by decide) (by decide) (by decide) (by decide) (g := (mkF m 168 #[.val (.int p0), .val (.int p1), .val (.int p2), .val (.int p3), .val (.int p4), .val (.int p5), .val (.ref b1), .val (.int v12), .val (.int v14), .val (.int v15), .val (.int v17), .val (.ref b18), .val (.int (Int32.ofNat ln_140)), .val (.ref b22), .unset] [(.int v15), (.int v17), (.ref b1), (.int (Int32.ofNat ln_140)), (.ref b18)])) rfl (by rw [hml]; rfl) (lenOf pd_11 rfl) rfl (by show 2 * 0 + _ ≤ _; exact Nat.le_of_eq rfl) (hb hby at_168)
      have N122 := Fr.app N118 Nq122
      have f123 : Own.AvI Z T122.heap b1 .byte 3 sf := f119.keep Kq122 (ninS (Own.ne_of (by omega)) nin0)
      have f124 : Exa Z T122.heap b1 "[B" := f120.keep Kq122
      have f125 : Exa Z T122.heap b22 "com/example/edom/edom/mapping/Utf8Output" := E118.keep Kq122
      have f126 : Fld Z T122.heap b22 "com/example/edom/edom/mapping/Utf8Output" "bytes" "[B" (.ref r118) := Fb118.keep Kq122 (ninS (Own.ne_of (by omega)) nin0)
      have f127 : Fld Z T122.heap b22 "com/example/edom/edom/mapping/Utf8Output" "length" "I" (.int (Int32.ofNat (ln_140 + cB))) := Fl118.keep Kq122 (ninS (Own.ne_of (by omega)) nin0)
      have f128 : Own.AvI Z T122.heap r118 .byte N118n g118 := A118.keep Kq122 (ninS (Own.ne_of (by omega)) nin0)
      have Z122 : n0 ≤ T122.heap.size := Nat.le_trans Z118 Kq122.1
      refine hD _ (T122.setTop (mkF m 173 #[.val (.int p0), .val (.int p1), .val (.int p2), .val (.int p3), .val (.int p4), .val (.int p5), .val (.ref b1), .val (.int v12), .val (.int v14), .val (.int v15), .val (.int v17), .val (.ref b18), .val (.int (Int32.ofNat (ln_140 + cB))), .val (.ref b22), .unset] [])) (fun t kt_ => ?_) ?_
      · show Steps p.tables e below (T32.setTop (mkF m 144 #[.val (.int p0), .val (.int p1), .val (.int p2), .val (.int p3), .val (.int p4), .val (.int p5), .val (.ref b1), .val (.int v12), .val (.int v14), .val (.int v15), .val (.int v17), .val (.ref b18), .val (.int (Int32.ofNat ln_140)), .val (.ref b22), .unset] [(.int (p5 &&& (2 : Int32)))])) t
        refine XS.ifNo X32.here hx rfl (hb hby at_144) rfl ((if0 _ _).trans (feq hc117).1) ?_
        show Steps p.tables e below (T32.setTop (mkF m 147 #[.val (.int p0), .val (.int p1), .val (.int p2), .val (.int p3), .val (.int p4), .val (.int p5), .val (.ref b1), .val (.int v12), .val (.int v14), .val (.int v15), .val (.int v17), .val (.ref b18), .val (.int (Int32.ofNat ln_140)), .val (.ref b22), .unset] [])) t
        refine XS.aload X32.here hx rfl (hb hby at_147) rfl rfl ?_
        show Steps p.tables e below (T32.setTop (mkF m 149 #[.val (.int p0), .val (.int p1), .val (.int p2), .val (.int p3), .val (.int p4), .val (.int p5), .val (.ref b1), .val (.int v12), .val (.int v14), .val (.int v15), .val (.int v17), .val (.ref b18), .val (.int (Int32.ofNat ln_140)), .val (.ref b22), .unset] [(.ref b22)])) t
        refine XS.aload X32.here hx rfl (hb hby at_149) rfl rfl ?_
        show Steps p.tables e below (T32.setTop (mkF m 151 #[.val (.int p0), .val (.int p1), .val (.int p2), .val (.int p3), .val (.int p4), .val (.int p5), .val (.ref b1), .val (.int v12), .val (.int v14), .val (.int v15), .val (.int v17), .val (.ref b18), .val (.int (Int32.ofNat ln_140)), .val (.ref b22), .unset] [(.ref b1), (.ref b22)])) t
        refine XS.iload X32.here hx rfl (hb hby at_151) rfl ?_
        show Steps p.tables e below (T32.setTop (mkF m 153 #[.val (.int p0), .val (.int p1), .val (.int p2), .val (.int p3), .val (.int p4), .val (.int p5), .val (.ref b1), .val (.int v12), .val (.int v14), .val (.int v15), .val (.int v17), .val (.ref b18), .val (.int (Int32.ofNat ln_140)), .val (.ref b22), .unset] [(.int v17), (.ref b1), (.ref b22)])) t
        refine XS.iload X32.here hx rfl (hb hby at_153) rfl ?_
        show Steps p.tables e below (T32.setTop (mkF m 155 #[.val (.int p0), .val (.int p1), .val (.int p2), .val (.int p3), .val (.int p4), .val (.int p5), .val (.ref b1), .val (.int v12), .val (.int v14), .val (.int v15), .val (.int v17), .val (.ref b18), .val (.int (Int32.ofNat ln_140)), .val (.ref b22), .unset] [(.int v15), (.int v17), (.ref b1), (.ref b22)])) t
        refine st118 _ ?_
        show Steps p.tables e below (T118.setTop (mkF m 158 #[.val (.int p0), .val (.int p1), .val (.int p2), .val (.int p3), .val (.int p4), .val (.int p5), .val (.ref b1), .val (.int v12), .val (.int v14), .val (.int v15), .val (.int v17), .val (.ref b18), .val (.int (Int32.ofNat ln_140)), .val (.ref b22), .unset] [])) t
        refine XS.aload X118.here hx rfl (hb hby at_158) rfl rfl ?_
        show Steps p.tables e below (T118.setTop (mkF m 160 #[.val (.int p0), .val (.int p1), .val (.int p2), .val (.int p3), .val (.int p4), .val (.int p5), .val (.ref b1), .val (.int v12), .val (.int v14), .val (.int v15), .val (.int v17), .val (.ref b18), .val (.int (Int32.ofNat ln_140)), .val (.ref b22), .unset] [(.ref b18)])) t
        refine XS.iload X118.here hx rfl (hb hby at_160) rfl ?_
        show Steps p.tables e below (T118.setTop (mkF m 162 #[.val (.int p0), .val (.int p1), .val (.int p2), .val (.int p3), .val (.int p4), .val (.int p5), .val (.ref b1), .val (.int v12), .val (.int v14), .val (.int v15), .val (.int v17), .val (.ref b18), .val (.int (Int32.ofNat ln_140)), .val (.ref b22), .unset] [(.int (Int32.ofNat ln_140)), (.ref b18)])) t
        refine XS.aload X118.here hx rfl (hb hby at_162) rfl rfl ?_
        show Steps p.tables e below (T118.setTop (mkF m 164 #[.val (.int p0), .val (.int p1), .val (.int p2), .val (.int p3), .val (.int p4), .val (.int p5), .val (.ref b1), .val (.int v12), .val (.int v14), .val (.int v15), .val (.int v17), .val (.ref b18), .val (.int (Int32.ofNat ln_140)), .val (.ref b22), .unset] [(.ref b1), (.int (Int32.ofNat ln_140)), (.ref b18)])) t
        refine XS.iload X118.here hx rfl (hb hby at_164) rfl ?_
        show Steps p.tables e below (T118.setTop (mkF m 166 #[.val (.int p0), .val (.int p1), .val (.int p2), .val (.int p3), .val (.int p4), .val (.int p5), .val (.ref b1), .val (.int v12), .val (.int v14), .val (.int v15), .val (.int v17), .val (.ref b18), .val (.int (Int32.ofNat ln_140)), .val (.ref b22), .unset] [(.int v17), (.ref b1), (.int (Int32.ofNat ln_140)), (.ref b18)])) t
        refine XS.iload X118.here hx rfl (hb hby at_166) rfl ?_
        show Steps p.tables e below (T118.setTop (mkF m 168 #[.val (.int p0), .val (.int p1), .val (.int p2), .val (.int p3), .val (.int p4), .val (.int p5), .val (.ref b1), .val (.int v12), .val (.int v14), .val (.int v15), .val (.int v17), .val (.ref b18), .val (.int (Int32.ofNat ln_140)), .val (.ref b22), .unset] [(.int v15), (.int v17), (.ref b1), (.int (Int32.ofNat ln_140)), (.ref b18)])) t
        refine st122 _ ?_
        show Steps p.tables e below (T122.setTop (mkF m 171 #[.val (.int p0), .val (.int p1), .val (.int p2), .val (.int p3), .val (.int p4), .val (.int p5), .val (.ref b1), .val (.int v12), .val (.int v14), .val (.int v15), .val (.int v17), .val (.ref b18), .val (.int (Int32.ofNat ln_140)), .val (.ref b22), .unset] [(.int (Int32.ofNat (ln_140 + cB)))])) t
        refine XS.istore X122.here hx rfl (hb hby at_171) rfl (l' := #[.val (.int p0), .val (.int p1), .val (.int p2), .val (.int p3), .val (.int p4), .val (.int p5), .val (.ref b1), .val (.int v12), .val (.int v14), .val (.int v15), .val (.int v17), .val (.ref b18), .val (.int (Int32.ofNat (ln_140 + cB))), .val (.ref b22), .unset]) rfl ?_
        show Steps p.tables e below (T122.setTop (mkF m 173 #[.val (.int p0), .val (.int p1), .val (.int p2), .val (.int p3), .val (.int p4), .val (.int p5), .val (.ref b1), .val (.int v12), .val (.int v14), .val (.int v15), .val (.int v17), .val (.ref b18), .val (.int (Int32.ofNat (ln_140 + cB))), .val (.ref b22), .unset] [])) t
        exact kt_
      exact J173 T122 _ T122.heap r118 N118n (ln_140 + cB) g118 (own_rng ef_140 sf ln_140 sB cB) X122 rfl N122 Z122 f123 f124 A122 f125 f126 f127 f128 hor118 hg118 hN1_118 hN2_118 (by omega) (own_agR hag_140 hka118 hkb118)
  refine hD _ (T28.setTop (mkF m 91 #[.val (.int p0), .val (.int p1), .val (.int p2), .val (.int p3), .val (.int p4), .val (.int p5), .val (.ref b1), .val (.int v12), .val (.int v14), .val (.int v15), .val (.int v17), .val (.ref b18), .val (.int (0 : Int32)), .val (.ref b22), .unset] [(.int (p5 &&& (1 : Int32)))])) (fun t kt_ => ?_) ?_
  · show Steps p.tables e below (T28.setTop (mkF m 87 #[.val (.int p0), .val (.int p1), .val (.int p2), .val (.int p3), .val (.int p4), .val (.int p5), .val (.ref b1), .val (.int v12), .val (.int v14), .val (.int v15), .val (.int v17), .val (.ref b18), .val (.int (0 : Int32)), .val (.ref b22), .unset] [])) t
    refine XS.iload X28.here hx rfl (hb hby at_87) rfl ?_
    show Steps p.tables e below (T28.setTop (mkF m 89 #[.val (.int p0), .val (.int p1), .val (.int p2), .val (.int p3), .val (.int p4), .val (.int p5), .val (.ref b1), .val (.int v12), .val (.int v14), .val (.int v15), .val (.int v17), .val (.ref b18), .val (.int (0 : Int32)), .val (.ref b22), .unset] [(.int p5)])) t
    refine XS.iconst X28.here hx rfl (hb hby at_89) ?_
    show Steps p.tables e below (T28.setTop (mkF m 90 #[.val (.int p0), .val (.int p1), .val (.int p2), .val (.int p3), .val (.int p4), .val (.int p5), .val (.ref b1), .val (.int v12), .val (.int v14), .val (.int v15), .val (.int v17), .val (.ref b18), .val (.int (0 : Int32)), .val (.ref b22), .unset] [(.int (1 : Int32)), (.int p5)])) t
    refine XS.iand X28.here hx rfl (hb hby at_90) rfl ?_
    show Steps p.tables e below (T28.setTop (mkF m 91 #[.val (.int p0), .val (.int p1), .val (.int p2), .val (.int p3), .val (.int p4), .val (.int p5), .val (.ref b1), .val (.int v12), .val (.int v14), .val (.int v15), .val (.int v17), .val (.ref b18), .val (.int (0 : Int32)), .val (.ref b22), .unset] [(.int (p5 &&& (1 : Int32)))])) t
    exact kt_
  by_cases hc129 : (p5 &&& (1 : Int32)) = (0 : Int32)
  · obtain ⟨T130, _, L130, X130, ⟨rfl, Nq130, Kq130, r130, N130n, g130, hN1_130, hN2_130, hor130, hka130, hkb130, E130, Fb130, Fl130, A130, hg130⟩, st130⟩ := Own.callV (y := (⟨"com/example/edom/edom/mapping/Utf8Output", "write", "([BII)V"⟩ : MethodName)) (W := 0) (argsL := [(.ref b1), (.int v14), (.int v12)]) (rest := []) (a := b22) X28 hx hZ hown (hw _ (List.mem_of_getElem? (i := 59) rfl)) (hw _ (List.mem_of_getElem? (i := 60) rfl)) (hw _ (List.mem_of_getElem? (i := 62) rfl)) (hw _ (List.mem_of_getElem? (i := 61) rfl)) (hw _ (List.mem_of_getElem? (i := 3) rfl)) (hw _ (List.mem_of_getElem? (i := 63) rfl)) (by decide) rfl E28 (rm14 l Z a0 hw [] b22 b1 v14 v12 r28 0 0 (fun _ => 0) sA cA sf T28.heap n0 Z28 g0_b22 hr28 hg28 (Nat.le_refl 0) (by omega) (by decide) hsA hcA hscA hsf (by omega) (by omega) E28 Fb28 Fl28 A28 f29 f30) (by decide) (by decide) (by decide) (by decide) (g := (mkF m 122 #[.val (.int p0), .val (.int p1), .val (.int p2), .val (.int p3), .val (.int p4), .val (.int p5), .val (.ref b1), .val (.int v12), .val (.int v14), .val (.int v15), .val (.int v17), .val (.ref b18), .val (.int (0 : Int32)), .val (.ref b22), .unset] [(.int v12), (.int v14), (.ref b1), (.ref b22)])) rfl (by rw [hml]; rfl) (lenOf pd_10 rfl) rfl (by show 2 * 0 + _ ≤ _; exact Nat.le_of_eq rfl) (hb hby at_122)
    have N130 := Fr.app N28 Nq130
    have f131 : Own.AvI Z T130.heap b1 .byte 3 sf := f29.keep Kq130 (ninS (Own.ne_of (by omega)) (ninS (Own.ne_of (by omega)) nin0))
    have f132 : Exa Z T130.heap b1 "[B" := f30.keep Kq130
    have f133 : Own.AvI Z T130.heap b18 .byte 10 (fun _ => 0) := f31.keep Kq130 (ninS (Own.ne_of (by omega)) (ninS (Own.ne_of (by omega)) nin0))
    have Z130 : n0 ≤ T130.heap.size := Nat.le_trans Z28 Kq130.1
    obtain ⟨T134, _, L134, X134, ⟨rfl, Nq134, Kq134, A134⟩, st134⟩ := Own.callS (y := (⟨"com/example/edom/edom/mapping/Utf8OutputToByteArrayPinLaw", "putRange", "([BI[BII)I"⟩ : MethodName)) (W := 0) (argsL := [(.ref b18), (.int (0 : Int32)), (.ref b1), (.int v14), (.int v12)]) (rest := []) X130 hx hZ hown (hw _ (List.mem_of_getElem? (i := 65) rfl)) (hw _ (List.mem_of_getElem? (i := 66) rfl)) (hw _ (List.mem_of_getElem? (i := 57) rfl)) (hw _ (List.mem_of_getElem? (i := 67) rfl)) (by decide) rfl (rm17 l Z a0 hw [] b18 (0 : Int32) b1 v14 v12 0 sA cA (fun _ => 0) sf T130.heap n0 Z130 g0_b18 lt_b1_b18 (by decide) hsA hcA hscA (by omega) hsf f133 f131) (by decide) (by decide) (by decide) (by decide) (g := (mkF m 135 #[.val (.int p0), .val (.int p1), .val (.int p2), .val (.int p3), .val (.int p4), .val (.int p5), .val (.ref b1), .val (.int v12), .val (.int v14), .val (.int v15), .val (.int v17), .val (.ref b18), .val (.int (0 : Int32)), .val (.ref b22), .unset] [(.int v12), (.int v14), (.ref b1), (.int (0 : Int32)), (.ref b18)])) rfl (by rw [hml]; rfl) (lenOf pd_11 rfl) rfl (by show 2 * 0 + _ ≤ _; exact Nat.le_of_eq rfl) (hb hby at_135)
    have N134 := Fr.app N130 Nq134
    have f135 : Own.AvI Z T134.heap b1 .byte 3 sf := f131.keep Kq134 (ninS (Own.ne_of (by omega)) nin0)
    have f136 : Exa Z T134.heap b1 "[B" := f132.keep Kq134
    have f137 : Exa Z T134.heap b22 "com/example/edom/edom/mapping/Utf8Output" := E130.keep Kq134
    have f138 : Fld Z T134.heap b22 "com/example/edom/edom/mapping/Utf8Output" "bytes" "[B" (.ref r130) := Fb130.keep Kq134 (ninS (Own.ne_of (by omega)) nin0)
    have f139 : Fld Z T134.heap b22 "com/example/edom/edom/mapping/Utf8Output" "length" "I" (.int (Int32.ofNat (0 + cA))) := Fl130.keep Kq134 (ninS (Own.ne_of (by omega)) nin0)
    have f140 : Own.AvI Z T134.heap r130 .byte N130n g130 := A130.keep Kq134 (ninS (Own.ne_of (by omega)) nin0)
    have Z134 : n0 ≤ T134.heap.size := Nat.le_trans Z130 Kq134.1
    refine hD _ (T134.setTop (mkF m 140 #[.val (.int p0), .val (.int p1), .val (.int p2), .val (.int p3), .val (.int p4), .val (.int p5), .val (.ref b1), .val (.int v12), .val (.int v14), .val (.int v15), .val (.int v17), .val (.ref b18), .val (.int (Int32.ofNat (0 + cA))), .val (.ref b22), .unset] [])) (fun t kt_ => ?_) ?_
    · show Steps p.tables e below (T28.setTop (mkF m 91 #[.val (.int p0), .val (.int p1), .val (.int p2), .val (.int p3), .val (.int p4), .val (.int p5), .val (.ref b1), .val (.int v12), .val (.int v14), .val (.int v15), .val (.int v17), .val (.ref b18), .val (.int (0 : Int32)), .val (.ref b22), .unset] [(.int (p5 &&& (1 : Int32)))])) t
      refine XS.ifYes X28.here hx rfl (pc0 := 91) (pc' := 114) rfl (hb hby at_91) rfl ((if0 _ _).trans (teq hc129).1) (by decide) (by decide) ?_
      show Steps p.tables e below (T28.setTop (mkF m 114 #[.val (.int p0), .val (.int p1), .val (.int p2), .val (.int p3), .val (.int p4), .val (.int p5), .val (.ref b1), .val (.int v12), .val (.int v14), .val (.int v15), .val (.int v17), .val (.ref b18), .val (.int (0 : Int32)), .val (.ref b22), .unset] [])) t
      refine XS.aload X28.here hx rfl (hb hby at_114) rfl rfl ?_
      show Steps p.tables e below (T28.setTop (mkF m 116 #[.val (.int p0), .val (.int p1), .val (.int p2), .val (.int p3), .val (.int p4), .val (.int p5), .val (.ref b1), .val (.int v12), .val (.int v14), .val (.int v15), .val (.int v17), .val (.ref b18), .val (.int (0 : Int32)), .val (.ref b22), .unset] [(.ref b22)])) t
      refine XS.aload X28.here hx rfl (hb hby at_116) rfl rfl ?_
      show Steps p.tables e below (T28.setTop (mkF m 118 #[.val (.int p0), .val (.int p1), .val (.int p2), .val (.int p3), .val (.int p4), .val (.int p5), .val (.ref b1), .val (.int v12), .val (.int v14), .val (.int v15), .val (.int v17), .val (.ref b18), .val (.int (0 : Int32)), .val (.ref b22), .unset] [(.ref b1), (.ref b22)])) t
      refine XS.iload X28.here hx rfl (hb hby at_118) rfl ?_
      show Steps p.tables e below (T28.setTop (mkF m 120 #[.val (.int p0), .val (.int p1), .val (.int p2), .val (.int p3), .val (.int p4), .val (.int p5), .val (.ref b1), .val (.int v12), .val (.int v14), .val (.int v15), .val (.int v17), .val (.ref b18), .val (.int (0 : Int32)), .val (.ref b22), .unset] [(.int v14), (.ref b1), (.ref b22)])) t
      refine XS.iload X28.here hx rfl (hb hby at_120) rfl ?_
      show Steps p.tables e below (T28.setTop (mkF m 122 #[.val (.int p0), .val (.int p1), .val (.int p2), .val (.int p3), .val (.int p4), .val (.int p5), .val (.ref b1), .val (.int v12), .val (.int v14), .val (.int v15), .val (.int v17), .val (.ref b18), .val (.int (0 : Int32)), .val (.ref b22), .unset] [(.int v12), (.int v14), (.ref b1), (.ref b22)])) t
      refine st130 _ ?_
      show Steps p.tables e below (T130.setTop (mkF m 125 #[.val (.int p0), .val (.int p1), .val (.int p2), .val (.int p3), .val (.int p4), .val (.int p5), .val (.ref b1), .val (.int v12), .val (.int v14), .val (.int v15), .val (.int v17), .val (.ref b18), .val (.int (0 : Int32)), .val (.ref b22), .unset] [])) t
      refine XS.aload X130.here hx rfl (hb hby at_125) rfl rfl ?_
      show Steps p.tables e below (T130.setTop (mkF m 127 #[.val (.int p0), .val (.int p1), .val (.int p2), .val (.int p3), .val (.int p4), .val (.int p5), .val (.ref b1), .val (.int v12), .val (.int v14), .val (.int v15), .val (.int v17), .val (.ref b18), .val (.int (0 : Int32)), .val (.ref b22), .unset] [(.ref b18)])) t
      refine XS.iload X130.here hx rfl (hb hby at_127) rfl ?_
      show Steps p.tables e below (T130.setTop (mkF m 129 #[.val (.int p0), .val (.int p1), .val (.int p2), .val (.int p3), .val (.int p4), .val (.int p5), .val (.ref b1), .val (.int v12), .val (.int v14), .val (.int v15), .val (.int v17), .val (.ref b18), .val (.int (0 : Int32)), .val (.ref b22), .unset] [(.int (0 : Int32)), (.ref b18)])) t
      refine XS.aload X130.here hx rfl (hb hby at_129) rfl rfl ?_
      show Steps p.tables e below (T130.setTop (mkF m 131 #[.val (.int p0), .val (.int p1), .val (.int p2), .val (.int p3), .val (.int p4), .val (.int p5), .val (.ref b1), .val (.int v12), .val (.int v14), .val (.int v15), .val (.int v17), .val (.ref b18), .val (.int (0 : Int32)), .val (.ref b22), .unset] [(.ref b1), (.int (0 : Int32)), (.ref b18)])) t
      refine XS.iload X130.here hx rfl (hb hby at_131) rfl ?_
      show Steps p.tables e below (T130.setTop (mkF m 133 #[.val (.int p0), .val (.int p1), .val (.int p2), .val (.int p3), .val (.int p4), .val (.int p5), .val (.ref b1), .val (.int v12), .val (.int v14), .val (.int v15), .val (.int v17), .val (.ref b18), .val (.int (0 : Int32)), .val (.ref b22), .unset] [(.int v14), (.ref b1), (.int (0 : Int32)), (.ref b18)])) t
      refine XS.iload X130.here hx rfl (hb hby at_133) rfl ?_
      show Steps p.tables e below (T130.setTop (mkF m 135 #[.val (.int p0), .val (.int p1), .val (.int p2), .val (.int p3), .val (.int p4), .val (.int p5), .val (.ref b1), .val (.int v12), .val (.int v14), .val (.int v15), .val (.int v17), .val (.ref b18), .val (.int (0 : Int32)), .val (.ref b22), .unset] [(.int v12), (.int v14), (.ref b1), (.int (0 : Int32)), (.ref b18)])) t
      refine st134 _ ?_
      show Steps p.tables e below (T134.setTop (mkF m 138 #[.val (.int p0), .val (.int p1), .val (.int p2), .val (.int p3), .val (.int p4), .val (.int p5), .val (.ref b1), .val (.int v12), .val (.int v14), .val (.int v15), .val (.int v17), .val (.ref b18), .val (.int (0 : Int32)), .val (.ref b22), .unset] [(.int (Int32.ofNat (0 + cA)))])) t
      refine XS.istore X134.here hx rfl (hb hby at_138) rfl (l' := #[.val (.int p0), .val (.int p1), .val (.int p2), .val (.int p3), .val (.int p4), .val (.int p5), .val (.ref b1), .val (.int v12), .val (.int v14), .val (.int v15), .val (.int v17), .val (.ref b18), .val (.int (Int32.ofNat (0 + cA))), .val (.ref b22), .unset]) rfl ?_
      show Steps p.tables e below (T134.setTop (mkF m 140 #[.val (.int p0), .val (.int p1), .val (.int p2), .val (.int p3), .val (.int p4), .val (.int p5), .val (.ref b1), .val (.int v12), .val (.int v14), .val (.int v15), .val (.int v17), .val (.ref b18), .val (.int (Int32.ofNat (0 + cA))), .val (.ref b22), .unset] [])) t
      exact kt_
    exact J140 T134 _ T134.heap r130 N130n (0 + cA) g130 (own_rng (fun _ => 0) sf 0 sA cA) X134 rfl N134 Z134 f135 f136 A134 f137 f138 f139 f140 hor130 hg130 hN1_130 hN2_130 (by omega) (own_agR hag0 hka130 hkb130)
  · obtain ⟨T141, _, L141, X141, ⟨rfl, Nq141, Kq141, r141, N141n, g141, hN1_141, hN2_141, hor141, hka141, hkb141, E141, Fb141, Fl141, A141, hg141⟩, st141⟩ := Own.callV (y := (⟨"com/example/edom/edom/mapping/Utf8Output", "write", "(I)V"⟩ : MethodName)) (W := 0) (argsL := [(.int p0)]) (rest := []) (a := b22) X28 hx hZ hown (hw _ (List.mem_of_getElem? (i := 17) rfl)) (hw _ (List.mem_of_getElem? (i := 18) rfl)) (hw _ (List.mem_of_getElem? (i := 20) rfl)) (hw _ (List.mem_of_getElem? (i := 19) rfl)) (hw _ (List.mem_of_getElem? (i := 3) rfl)) (hw _ (List.mem_of_getElem? (i := 21) rfl)) (by decide) rfl E28 (rm13 l Z a0 hw [] b22 p0 r28 0 0 (fun _ => 0) T28.heap n0 Z28 g0_b22 hr28 hg28 (Nat.le_refl 0) (by omega) (by decide) (by omega) E28 Fb28 Fl28 A28) (by decide) (by decide) (by decide) (by decide) (g := (mkF m 97 #[.val (.int p0), .val (.int p1), .val (.int p2), .val (.int p3), .val (.int p4), .val (.int p5), .val (.ref b1), .val (.int v12), .val (.int v14), .val (.int v15), .val (.int v17), .val (.ref b18), .val (.int (0 : Int32)), .val (.ref b22), .unset] [(.int p0), (.ref b22)])) rfl (by rw [hml]; rfl) (lenOf pd_6 rfl) rfl (by show 2 * 0 + _ ≤ _; exact Nat.le_of_eq rfl) (hb hby at_97)
    have N141 := Fr.app N28 Nq141
    have f142 : Own.AvI Z T141.heap b1 .byte 3 sf := f29.keep Kq141 (ninS (Own.ne_of (by omega)) (ninS (Own.ne_of (by omega)) nin0))
    have f143 : Exa Z T141.heap b1 "[B" := f30.keep Kq141
    have f144 : Own.AvI Z T141.heap b18 .byte 10 (fun _ => 0) := f31.keep Kq141 (ninS (Own.ne_of (by omega)) (ninS (Own.ne_of (by omega)) nin0))
    have Z141 : n0 ≤ T141.heap.size := Nat.le_trans Z28 Kq141.1
    obtain ⟨T145, _, L145, X145, ⟨rfl, Nq145, Kq145, A145⟩, st145⟩ := Own.callS (y := (⟨"com/example/edom/edom/mapping/Utf8OutputToByteArrayPinLaw", "put", "([BIB)I"⟩ : MethodName)) (W := 0) (argsL := [(.ref b18), (.int (0 : Int32)), (.int (p0.toInt8.toInt32))]) (rest := []) X141 hx hZ hown (hw _ (List.mem_of_getElem? (i := 55) rfl)) (hw _ (List.mem_of_getElem? (i := 56) rfl)) (hw _ (List.mem_of_getElem? (i := 57) rfl)) (hw _ (List.mem_of_getElem? (i := 58) rfl)) (by decide) rfl (rm16 l Z a0 hw [] b18 (0 : Int32) (p0.toInt8.toInt32) 0 (fun _ => 0) T141.heap n0 Z141 g0_b18 (by decide) (by omega) f144) (by decide) (by decide) (by decide) (by decide) (g := (mkF m 106 #[.val (.int p0), .val (.int p1), .val (.int p2), .val (.int p3), .val (.int p4), .val (.int p5), .val (.ref b1), .val (.int v12), .val (.int v14), .val (.int v15), .val (.int v17), .val (.ref b18), .val (.int (0 : Int32)), .val (.ref b22), .unset] [(.int (p0.toInt8.toInt32)), (.int (0 : Int32)), (.ref b18)])) rfl (by rw [hml]; rfl) (lenOf pd_7 rfl) rfl (by show 2 * 0 + _ ≤ _; exact Nat.le_of_eq rfl) (hb hby at_106)
    have N145 := Fr.app N141 Nq145
    have f146 : Own.AvI Z T145.heap b1 .byte 3 sf := f142.keep Kq145 (ninS (Own.ne_of (by omega)) nin0)
    have f147 : Exa Z T145.heap b1 "[B" := f143.keep Kq145
    have f148 : Exa Z T145.heap b22 "com/example/edom/edom/mapping/Utf8Output" := E141.keep Kq145
    have f149 : Fld Z T145.heap b22 "com/example/edom/edom/mapping/Utf8Output" "bytes" "[B" (.ref r141) := Fb141.keep Kq145 (ninS (Own.ne_of (by omega)) nin0)
    have f150 : Fld Z T145.heap b22 "com/example/edom/edom/mapping/Utf8Output" "length" "I" (.int (Int32.ofNat (0 + 1))) := Fl141.keep Kq145 (ninS (Own.ne_of (by omega)) nin0)
    have f151 : Own.AvI Z T145.heap r141 .byte N141n g141 := A141.keep Kq145 (ninS (Own.ne_of (by omega)) nin0)
    have Z145 : n0 ≤ T145.heap.size := Nat.le_trans Z141 Kq145.1
    refine hD _ (T145.setTop (mkF m 140 #[.val (.int p0), .val (.int p1), .val (.int p2), .val (.int p3), .val (.int p4), .val (.int p5), .val (.ref b1), .val (.int v12), .val (.int v14), .val (.int v15), .val (.int v17), .val (.ref b18), .val (.int (Int32.ofNat (0 + 1))), .val (.ref b22), .unset] [])) (fun t kt_ => ?_) ?_
    · show Steps p.tables e below (T28.setTop (mkF m 91 #[.val (.int p0), .val (.int p1), .val (.int p2), .val (.int p3), .val (.int p4), .val (.int p5), .val (.ref b1), .val (.int v12), .val (.int v14), .val (.int v15), .val (.int v17), .val (.ref b18), .val (.int (0 : Int32)), .val (.ref b22), .unset] [(.int (p5 &&& (1 : Int32)))])) t
      refine XS.ifNo X28.here hx rfl (hb hby at_91) rfl ((if0 _ _).trans (feq hc129).1) ?_
      show Steps p.tables e below (T28.setTop (mkF m 94 #[.val (.int p0), .val (.int p1), .val (.int p2), .val (.int p3), .val (.int p4), .val (.int p5), .val (.ref b1), .val (.int v12), .val (.int v14), .val (.int v15), .val (.int v17), .val (.ref b18), .val (.int (0 : Int32)), .val (.ref b22), .unset] [])) t
      refine XS.aload X28.here hx rfl (hb hby at_94) rfl rfl ?_
      show Steps p.tables e below (T28.setTop (mkF m 96 #[.val (.int p0), .val (.int p1), .val (.int p2), .val (.int p3), .val (.int p4), .val (.int p5), .val (.ref b1), .val (.int v12), .val (.int v14), .val (.int v15), .val (.int v17), .val (.ref b18), .val (.int (0 : Int32)), .val (.ref b22), .unset] [(.ref b22)])) t
      refine XS.iloadN X28.here hx rfl (hb hby at_96) rfl ?_
      show Steps p.tables e below (T28.setTop (mkF m 97 #[.val (.int p0), .val (.int p1), .val (.int p2), .val (.int p3), .val (.int p4), .val (.int p5), .val (.ref b1), .val (.int v12), .val (.int v14), .val (.int v15), .val (.int v17), .val (.ref b18), .val (.int (0 : Int32)), .val (.ref b22), .unset] [(.int p0), (.ref b22)])) t
      refine st141 _ ?_
      show Steps p.tables e below (T141.setTop (mkF m 100 #[.val (.int p0), .val (.int p1), .val (.int p2), .val (.int p3), .val (.int p4), .val (.int p5), .val (.ref b1), .val (.int v12), .val (.int v14), .val (.int v15), .val (.int v17), .val (.ref b18), .val (.int (0 : Int32)), .val (.ref b22), .unset] [])) t
      refine XS.aload X141.here hx rfl (hb hby at_100) rfl rfl ?_
      show Steps p.tables e below (T141.setTop (mkF m 102 #[.val (.int p0), .val (.int p1), .val (.int p2), .val (.int p3), .val (.int p4), .val (.int p5), .val (.ref b1), .val (.int v12), .val (.int v14), .val (.int v15), .val (.int v17), .val (.ref b18), .val (.int (0 : Int32)), .val (.ref b22), .unset] [(.ref b18)])) t
      refine XS.iload X141.here hx rfl (hb hby at_102) rfl ?_
      show Steps p.tables e below (T141.setTop (mkF m 104 #[.val (.int p0), .val (.int p1), .val (.int p2), .val (.int p3), .val (.int p4), .val (.int p5), .val (.ref b1), .val (.int v12), .val (.int v14), .val (.int v15), .val (.int v17), .val (.ref b18), .val (.int (0 : Int32)), .val (.ref b22), .unset] [(.int (0 : Int32)), (.ref b18)])) t
      refine XS.iloadN X141.here hx rfl (hb hby at_104) rfl ?_
      show Steps p.tables e below (T141.setTop (mkF m 105 #[.val (.int p0), .val (.int p1), .val (.int p2), .val (.int p3), .val (.int p4), .val (.int p5), .val (.ref b1), .val (.int v12), .val (.int v14), .val (.int v15), .val (.int v17), .val (.ref b18), .val (.int (0 : Int32)), .val (.ref b22), .unset] [(.int p0), (.int (0 : Int32)), (.ref b18)])) t
      refine XS.i2b X141.here hx rfl (hb hby at_105) rfl ?_
      show Steps p.tables e below (T141.setTop (mkF m 106 #[.val (.int p0), .val (.int p1), .val (.int p2), .val (.int p3), .val (.int p4), .val (.int p5), .val (.ref b1), .val (.int v12), .val (.int v14), .val (.int v15), .val (.int v17), .val (.ref b18), .val (.int (0 : Int32)), .val (.ref b22), .unset] [(.int (p0.toInt8.toInt32)), (.int (0 : Int32)), (.ref b18)])) t
      refine st145 _ ?_
      show Steps p.tables e below (T145.setTop (mkF m 109 #[.val (.int p0), .val (.int p1), .val (.int p2), .val (.int p3), .val (.int p4), .val (.int p5), .val (.ref b1), .val (.int v12), .val (.int v14), .val (.int v15), .val (.int v17), .val (.ref b18), .val (.int (0 : Int32)), .val (.ref b22), .unset] [(.int (Int32.ofNat (0 + 1)))])) t
      refine XS.istore X145.here hx rfl (hb hby at_109) rfl (l' := #[.val (.int p0), .val (.int p1), .val (.int p2), .val (.int p3), .val (.int p4), .val (.int p5), .val (.ref b1), .val (.int v12), .val (.int v14), .val (.int v15), .val (.int v17), .val (.ref b18), .val (.int (Int32.ofNat (0 + 1))), .val (.ref b22), .unset]) rfl ?_
      show Steps p.tables e below (T145.setTop (mkF m 111 #[.val (.int p0), .val (.int p1), .val (.int p2), .val (.int p3), .val (.int p4), .val (.int p5), .val (.ref b1), .val (.int v12), .val (.int v14), .val (.int v15), .val (.int v17), .val (.ref b18), .val (.int (Int32.ofNat (0 + 1))), .val (.ref b22), .unset] [])) t
      refine XS.goto X145.here hx rfl (pc0 := 111) (pc' := 140) rfl (hb hby at_111) (by decide) (by decide) ?_
      show Steps p.tables e below (T145.setTop (mkF m 140 #[.val (.int p0), .val (.int p1), .val (.int p2), .val (.int p3), .val (.int p4), .val (.int p5), .val (.ref b1), .val (.int v12), .val (.int v14), .val (.int v15), .val (.int v17), .val (.ref b18), .val (.int (Int32.ofNat (0 + 1))), .val (.ref b22), .unset] [])) t
      exact kt_
    exact J140 T145 _ T145.heap r141 N141n (0 + 1) g141 (fun ii => if ii = 0 then nar .byte (p0.toInt8.toInt32) else (fun _ => 0) ii) X145 rfl N145 Z145 f146 f147 A145 f148 f149 f150 f151 hor141 hg141 hN1_141 hN2_141 (by omega) (own_agI hag0 hka141 hkb141)
set_option maxRecDepth 65536 in
set_option maxHeartbeats 40000000 in
theorem comes_1 {Post : Tables → Env → Array Value → State → Outcome → State → Prop} (hpost : ∀ tb e args s v u, (limb_1_1.after args s (.returned v) u = true ∧ limb_1_2.after args s (.returned v) u = true ∧ True) → FrameEnd s (.returned v) u (Jvm.fieldLocs frame_1_writes args s ++ Jvm.arrayLocs frame_1_arrays args s ++ Jvm.staticLocs frame_1_statics s) 32 192 → Post tb e args s (.returned v) u) :
    ArmFor flags0 classFile x code maxLocals ret World_1 tables_1 room_1 Calls_1 rest_1 Pre_1 Post := by
  intro l hfl _ _ p e ha hc hk s m args below hf hA hF happ hP
  obtain ⟨hcalls, hrest, hpre⟩ := hP
  obtain ⟨-, -, -, hnamed, -, -, -, hat⟩ := (Spec.applies_iff hf).mp happ
  obtain ⟨hg, hn⟩ := and_e (Cond.before_iff.mp (show (Jvm.Cond.and given_1 narrow_1).before args s = true from hpre))
  obtain ⟨hcnt, hg0⟩ := and_e hg
  obtain ⟨ga0, hg1⟩ := and_e hg0
  obtain ⟨ga1, hg2⟩ := and_e hg1
  obtain ⟨ga2, hg3⟩ := and_e hg2
  obtain ⟨ga3, hg4⟩ := and_e hg3
  obtain ⟨ga4, hg5⟩ := and_e hg4
  obtain ⟨w0, w1, w2, w3, w4, w5, rfl⟩ : ∃ w0 w1 w2 w3 w4 w5 : Value, args = #[w0, w1, w2, w3, w4, w5] := by
    have hs : args.size = 6 := by simpa [Cond.value, given_1] using hcnt
    obtain ⟨L⟩ := args
    match L, hs with
    | [w0, w1, w2, w3, w4, w5], _ => exact ⟨w0, w1, w2, w3, w4, w5, rfl⟩
  have hw := fun d (hd : d ∈ tables_1) => atoms_spec (ws := Jvm.Cond.code x code maxLocals ret :: tables_1) hat d (List.mem_cons_of_mem _ hd)
  obtain ⟨i0, ei0⟩ := is_v ga0
  obtain rfl : w0 = (.int i0) := Option.some.inj ei0
  obtain ⟨i1, ei1⟩ := is_v ga1
  obtain rfl : w1 = (.int i1) := Option.some.inj ei1
  obtain ⟨i2, ei2⟩ := is_v ga2
  obtain rfl : w2 = (.int i2) := Option.some.inj ei2
  obtain ⟨i3, ei3⟩ := is_v ga3
  obtain rfl : w3 = (.int i3) := Option.some.inj ei3
  obtain ⟨i4, ei4⟩ := is_v ga4
  obtain rfl : w4 = (.int i4) := Option.some.inj ei4
  obtain ⟨i5, ei5⟩ := is_v hg5
  obtain rfl : w5 = (.int i5) := Option.some.inj ei5
  obtain ⟨n, o, h1, h2, h3, _, L, rfl, ⟨rfl, N⟩, hq⟩ := rm0 l s _ hw tables_1 i0 i1 i2 i3 i4 i5 s.heap s.heap.size (Nat.le_refl _) p e ha hc hk s m _ below hf ((Spec.applies_iff_loose hf).mp happ).1 ⟨rfl, State.Warmed39.refl s, rfl⟩ trivial
  refine ⟨n, _, h1, h2, h3, hpost _ _ _ _ _ _ ⟨Cond.after_iff.mpr rfl, Cond.after_iff.mpr (eq_i res_at (Term.int_eval (1)) rfl), trivial⟩ ⟨hq.1, hq.2.1, (hq.2.2.sift fun y hy => Or.inr (N y hy)).mono (by decide) (by decide)⟩⟩
theorem main_1_1 : Claimed_1_1 := comes_1 fun _ _ _ _ _ _ h hF => ⟨h.1, hF⟩
theorem main_1_2 : Claimed_1_2 := comes_1 fun _ _ _ _ _ _ h hF => ⟨h.2.1, hF⟩
end Jvm.Pilot.@@N@@
namespace Jvm.Pilot.@@N@@
open Jvm Jvm.ClassFile Sem Op Lib Jvm.Free Jvm.Stand Jvm.Pilot.@@N@@.Jvm.D
/-! MADE BY PROGRAM (witnessworld.py) out of the Statement's table words and the real class files: 17 classes; the members and pool entries that the words name. The judged class is class 1, her method 1. -/
namespace start1
open Jvm.ClassFile
def u (s : String) : CpInfo := .utf8 (stringToUtf16 s)
/-- a pool by its gaps: so many unusable entries, then the entry; so many at the end -/
def gap : Nat → List CpInfo → List CpInfo
  | 0, r => r
  | n + 1, r => .unusable :: gap n r
def poolList (es : List (Nat × CpInfo)) (last : Nat) : List CpInfo := es.foldr (fun e r => gap e.1 (e.2 :: r)) (gap last [])
def pool (es : List (Nat × CpInfo)) (last : Nat) : Array CpInfo := ⟨poolList es last⟩
def fileOf (pool : Array CpInfo) (this : Nat) (attrs : Array Attribute := #[]) (ms : Array MethodInfo := #[]) (fl : Nat := 33) (sup : Nat := 0) (ifs : Array Nat := #[]) (fds : Array FieldInfo := #[]) : ClassFile where
  minorVersion := 0
  majorVersion := 65
  constantPool := pool
  accessFlags := fl
  thisClass := this
  superClass := sup
  interfaces := ifs
  fields := fds
  methods := ms
  attributes := attrs
def plain (name : String) (sup : Option ClassId) : Class where
  name := name
  kind := .ordinary
  loader := none
  accessFlags := 33
  super := sup
  interfaces := #[]
  cf := none
  fields := #[]
  methods := #[]
  instanceTypes := #[]
  staticTypes := #[]
  resolved := #[]
  callSites := []
  init := .initialized
  statics := none
  mirror := none

def pool0 : Array CpInfo := pool [(5, u "<init>"), (0, u "()V"), (1, .class_ 10), (1, u "java/lang/Object"), (85, u "clone"), (0, u "()Ljava/lang/Object;")] 26

def k0c0 : Code := { maxStack := 0, maxLocals := 1, code := object_method_1_code, exceptionTable := #[], attributes := #[] }
def k0m0 : Method := { name := "<init>", desc := "()V", sig := { parameters := [], returnType := none }, accessFlags := 1, code := some k0c0 }
def k0m1 : Method := { name := "clone", desc := "()Ljava/lang/Object;", sig := { parameters := [], returnType := some (.object "java/lang/Object") }, accessFlags := 260, code := none }
/-- java/lang/Object -/
def k0 : Class := { plain "java/lang/Object" none with
  accessFlags := 33
  interfaces := #[]
  cf := some (fileOf pool0 8 #[] #[{ accessFlags := 1, nameIndex := 5, descriptorIndex := 6, attributes := #[] }, { accessFlags := 260, nameIndex := 96, descriptorIndex := 97, attributes := #[] }] 33 0 #[] #[])
  fields := #[]
  methods := #[k0m0, k0m1]
  instanceTypes := #[]
  staticTypes := #[]
  resolved := Array.replicate 124 none
  statics := none }

def pool1 : Array CpInfo := pool [(2, .class_ 4), (0, .nameAndType 5 6), (0, u "java/lang/Object"), (0, u "<init>"), (0, u "()V"), (0, .class_ 8), (0, u "com/example/edom/edom/mapping/Utf8Output"), (0, .methodref 7 3), (0, .methodref 7 11), (0, .nameAndType 12 13), (0, u "write"), (0, u "(I)V"), (0, .methodref 15 16), (0, .class_ 17), (0, .nameAndType 18 19), (0, u "com/example/edom/edom/mapping/Utf8OutputToByteArrayPinLaw"), (0, u "put"), (0, u "([BIB)I"), (0, .methodref 7 21), (0, .nameAndType 12 22), (0, u "([BII)V"), (0, .methodref 15 24), (0, .nameAndType 25 26), (0, u "putRange"), (0, u "([BI[BII)I"), (0, .methodref 7 28), (0, .nameAndType 29 30), (0, u "toByteArray"), (0, u "()[B"), (0, .methodref 15 32), (0, .nameAndType 33 34), (0, u "at"), (0, u "([B[BII)Z"), (2, u "law"), (0, u "(IIIIII)Z")] 5

def k1m0 : Method := { name := "<init>", desc := "()V", sig := { parameters := [], returnType := none }, accessFlags := 2, code := none }
def k1c1 : Code := { maxStack := 5, maxLocals := 15, code := code, exceptionTable := #[], attributes := #[] }
def k1m1 : Method := { name := "law", desc := "(IIIIII)Z", sig := { parameters := [.int, .int, .int, .int, .int, .int], returnType := some .boolean }, accessFlags := 9, code := some k1c1 }
def k1c2 : Code := { maxStack := 3, maxLocals := 3, code := method_3_code, exceptionTable := #[], attributes := #[] }
def k1m2 : Method := { name := "put", desc := "([BIB)I", sig := { parameters := [(.array .byte), .int, .byte], returnType := some .int }, accessFlags := 10, code := some k1c2 }
def k1c3 : Code := { maxStack := 5, maxLocals := 6, code := method_4_code, exceptionTable := #[], attributes := #[] }
def k1m3 : Method := { name := "putRange", desc := "([BI[BII)I", sig := { parameters := [(.array .byte), .int, (.array .byte), .int, .int], returnType := some .int }, accessFlags := 10, code := some k1c3 }
def k1c4 : Code := { maxStack := 3, maxLocals := 4, code := method_5_code, exceptionTable := #[], attributes := #[] }
def k1m4 : Method := { name := "at", desc := "([B[BII)Z", sig := { parameters := [(.array .byte), (.array .byte), .int, .int], returnType := some .boolean }, accessFlags := 10, code := some k1c4 }
/-- com/example/edom/edom/mapping/Utf8OutputToByteArrayPinLaw -/
def k1 : Class := { plain "com/example/edom/edom/mapping/Utf8OutputToByteArrayPinLaw" (some 0) with
  accessFlags := 49
  interfaces := #[]
  cf := some (fileOf pool1 15 #[] #[{ accessFlags := 2, nameIndex := 5, descriptorIndex := 6, attributes := #[] }, { accessFlags := 9, nameIndex := 37, descriptorIndex := 38, attributes := #[] }, { accessFlags := 10, nameIndex := 18, descriptorIndex := 19, attributes := #[] }, { accessFlags := 10, nameIndex := 25, descriptorIndex := 26, attributes := #[] }, { accessFlags := 10, nameIndex := 33, descriptorIndex := 34, attributes := #[] }] 49 2 #[] #[])
  fields := #[]
  methods := #[k1m0, k1m1, k1m2, k1m3, k1m4]
  instanceTypes := #[]
  staticTypes := #[]
  resolved := Array.replicate 44 none
  statics := none }

def pool2 : Array CpInfo := pool [(1, .class_ 2), (0, u "java/lang/AutoCloseable"), (0, .class_ 4), (0, u "java/lang/Object")] 7

/-- java/lang/AutoCloseable -/
def k2 : Class := { plain "java/lang/AutoCloseable" (some 0) with
  accessFlags := 1537
  interfaces := #[]
  cf := some (fileOf pool2 1 #[] #[] 1537 3 #[] #[])
  fields := #[]
  methods := #[]
  instanceTypes := #[]
  staticTypes := #[]
  resolved := Array.replicate 12 none
  statics := none }

def pool3 : Array CpInfo := pool [(1, .class_ 2), (0, u "java/io/Closeable"), (0, .class_ 4), (0, u "java/lang/Object"), (0, .class_ 6), (0, u "java/lang/AutoCloseable")] 7

/-- java/io/Closeable -/
def k3 : Class := { plain "java/io/Closeable" (some 0) with
  accessFlags := 1537
  interfaces := #[2]
  cf := some (fileOf pool3 1 #[] #[] 1537 3 #[5] #[])
  fields := #[]
  methods := #[]
  instanceTypes := #[]
  staticTypes := #[]
  resolved := Array.replicate 14 none
  statics := none }

def pool4 : Array CpInfo := pool [(1, .class_ 2), (0, u "java/io/Flushable"), (0, .class_ 4), (0, u "java/lang/Object")] 7

/-- java/io/Flushable -/
def k4 : Class := { plain "java/io/Flushable" (some 0) with
  accessFlags := 1537
  interfaces := #[]
  cf := some (fileOf pool4 1 #[] #[] 1537 3 #[] #[])
  fields := #[]
  methods := #[]
  instanceTypes := #[]
  staticTypes := #[]
  resolved := Array.replicate 12 none
  statics := none }

def pool5 : Array CpInfo := pool [(1, .methodref 2 3), (0, .class_ 4), (0, .nameAndType 5 6), (0, u "java/lang/Object"), (0, u "<init>"), (0, u "()V"), (0, .class_ 8), (0, u "java/io/OutputStream$1"), (2, .class_ 13), (1, u "java/io/OutputStream"), (11, .class_ 26), (0, u "java/io/Closeable"), (0, .class_ 28), (0, u "java/io/Flushable")] 24

def k5c0 : Code := { maxStack := 1, maxLocals := 1, code := jdk_2038_method_1_code, exceptionTable := #[], attributes := #[] }
def k5m0 : Method := { name := "<init>", desc := "()V", sig := { parameters := [], returnType := none }, accessFlags := 1, code := some k5c0 }
/-- java/io/OutputStream -/
def k5 : Class := { plain "java/io/OutputStream" (some 0) with
  accessFlags := 1057
  interfaces := #[3, 4]
  cf := some (fileOf pool5 11 #[.nestMembers #[7]] #[{ accessFlags := 1, nameIndex := 5, descriptorIndex := 6, attributes := #[] }] 1057 2 #[25, 27] #[])
  fields := #[]
  methods := #[k5m0]
  instanceTypes := #[]
  staticTypes := #[]
  resolved := Array.replicate 53 none
  statics := none }

def pool6 : Array CpInfo := pool [(1, .methodref 2 3), (0, .class_ 4), (0, .nameAndType 5 6), (0, u "java/io/OutputStream"), (0, u "<init>"), (0, u "()V"), (0, .fieldref 8 9), (0, .class_ 10), (0, .nameAndType 11 12), (0, u "com/example/edom/edom/mapping/Utf8Output"), (0, u "bytes"), (0, u "[B"), (0, .methodref 8 14), (0, .nameAndType 15 16), (0, u "ensureRoom"), (0, u "(I)V"), (0, .fieldref 8 18), (0, .nameAndType 19 20), (0, u "length"), (0, u "I"), (0, .methodref 22 23), (0, .class_ 24), (0, .nameAndType 25 26), (0, u "java/util/Arrays"), (0, u "copyOfRange"), (0, u "([BII)[B"), (0, .methodref 28 29), (0, .class_ 30), (0, .nameAndType 31 32), (0, u "java/lang/System"), (0, u "arraycopy"), (0, u "(Ljava/lang/Object;ILjava/lang/Object;II)V"), (0, .methodref 22 34), (0, .nameAndType 35 36), (0, u "copyOf"), (0, u "([BI)[B"), (0, .methodref 38 39), (0, .class_ 40), (0, .nameAndType 41 42), (0, u "java/lang/Math"), (0, u "addExact"), (0, u "(II)I"), (0, .methodref 44 45), (0, .class_ 46), (0, .nameAndType 47 42), (0, u "com/example/edom/edom/mapping/ArrayGrowth"), (0, u "grownLength"), (2, u "write"), (0, u "([BII)V"), (1, u "toByteArray"), (0, u "()[B")] 3

def k6c0 : Code := { maxStack := 2, maxLocals := 1, code := prog_41_method_1_code, exceptionTable := #[], attributes := #[] }
def k6m0 : Method := { name := "<init>", desc := "()V", sig := { parameters := [], returnType := none }, accessFlags := 0, code := some k6c0 }
def k6c1 : Code := { maxStack := 5, maxLocals := 2, code := prog_41_method_2_code, exceptionTable := #[], attributes := #[] }
def k6m1 : Method := { name := "write", desc := "(I)V", sig := { parameters := [.int], returnType := none }, accessFlags := 1, code := some k6c1 }
def k6c2 : Code := { maxStack := 5, maxLocals := 4, code := prog_41_method_3_code, exceptionTable := #[], attributes := #[] }
def k6m2 : Method := { name := "write", desc := "([BII)V", sig := { parameters := [(.array .byte), .int, .int], returnType := none }, accessFlags := 1, code := some k6c2 }
def k6c3 : Code := { maxStack := 2, maxLocals := 1, code := prog_41_method_4_code, exceptionTable := #[], attributes := #[] }
def k6m3 : Method := { name := "toByteArray", desc := "()[B", sig := { parameters := [], returnType := some (.array .byte) }, accessFlags := 0, code := some k6c3 }
def k6c4 : Code := { maxStack := 4, maxLocals := 3, code := prog_41_method_5_code, exceptionTable := #[], attributes := #[] }
def k6m4 : Method := { name := "ensureRoom", desc := "(I)V", sig := { parameters := [.int], returnType := none }, accessFlags := 2, code := some k6c4 }
/-- com/example/edom/edom/mapping/Utf8Output -/
def k6 : Class := { plain "com/example/edom/edom/mapping/Utf8Output" (some 5) with
  accessFlags := 32
  interfaces := #[]
  cf := some (fileOf pool6 8 #[] #[{ accessFlags := 0, nameIndex := 5, descriptorIndex := 6, attributes := #[] }, { accessFlags := 1, nameIndex := 50, descriptorIndex := 16, attributes := #[] }, { accessFlags := 1, nameIndex := 50, descriptorIndex := 51, attributes := #[] }, { accessFlags := 0, nameIndex := 53, descriptorIndex := 54, attributes := #[] }, { accessFlags := 2, nameIndex := 15, descriptorIndex := 16, attributes := #[] }] 32 2 #[] #[{ accessFlags := 2, nameIndex := 11, descriptorIndex := 12, attributes := #[] }, { accessFlags := 2, nameIndex := 19, descriptorIndex := 20, attributes := #[] }])
  fields := #[{ name := "bytes", type := (.array .byte), accessFlags := 2, slot := 0, constantValue := 0 }, { name := "length", type := .int, accessFlags := 2, slot := 1, constantValue := 0 }]
  methods := #[k6m0, k6m1, k6m2, k6m3, k6m4]
  instanceTypes := #[(.array .byte), .int]
  staticTypes := #[]
  resolved := Array.replicate 58 none
  statics := none }

def pool7 : Array CpInfo := pool [(1, .class_ 2), (0, u "java/lang/Math"), (1, .class_ 6), (1, u "java/lang/Object"), (0, u "<init>"), (0, u "()V"), (89, .class_ 100), (1, u "java/lang/Math$RandomNumberGeneratorHolder"), (20, u "(JJ)J"), (50, u "negativeZeroFloatBits"), (0, u "J"), (2, u "negativeZeroDoubleBits"), (21, u "max"), (2, u "min"), (43, u "$assertionsDisabled"), (0, u "Z"), (88, u "(II)I"), (2, u "twoToTheDoubleScaleDown"), (0, u "D"), (4, u "twoToTheDoubleScaleUp"), (9, u "E"), (3, u "PI"), (2, u "TAU"), (2, u "DEGREES_TO_RADIANS"), (0, u "RADIANS_TO_DEGREES"), (27, u "addExact")] 66

def k7m0 : Method := { name := "<init>", desc := "()V", sig := { parameters := [], returnType := none }, accessFlags := 2, code := none }
def k7c1 : Code := { maxStack := 3, maxLocals := 3, code := jdk_29_method_24_code, exceptionTable := #[], attributes := #[] }
def k7m1 : Method := { name := "addExact", desc := "(II)I", sig := { parameters := [.int, .int], returnType := some .int }, accessFlags := 9, code := some k7c1 }
def k7c2 : Code := { maxStack := 2, maxLocals := 2, code := jdk_29_method_65_code, exceptionTable := #[], attributes := #[] }
def k7m2 : Method := { name := "max", desc := "(II)I", sig := { parameters := [.int, .int], returnType := some .int }, accessFlags := 9, code := some k7c2 }
def k7c3 : Code := { maxStack := 2, maxLocals := 2, code := jdk_29_method_69_code, exceptionTable := #[], attributes := #[] }
def k7m3 : Method := { name := "min", desc := "(II)I", sig := { parameters := [.int, .int], returnType := some .int }, accessFlags := 9, code := some k7c3 }
def k7c4 : Code := { maxStack := 4, maxLocals := 4, code := jdk_29_method_70_code, exceptionTable := #[], attributes := #[] }
def k7m4 : Method := { name := "min", desc := "(JJ)J", sig := { parameters := [.long, .long], returnType := some .long }, accessFlags := 9, code := some k7c4 }
/-- java/lang/Math -/
def k7 : Class := { plain "java/lang/Math" (some 0) with
  accessFlags := 49
  interfaces := #[]
  cf := some (fileOf pool7 1 #[.nestMembers #[98]] #[{ accessFlags := 2, nameIndex := 7, descriptorIndex := 8, attributes := #[] }, { accessFlags := 9, nameIndex := 393, descriptorIndex := 335, attributes := #[] }, { accessFlags := 9, nameIndex := 198, descriptorIndex := 335, attributes := #[] }, { accessFlags := 9, nameIndex := 201, descriptorIndex := 335, attributes := #[] }, { accessFlags := 9, nameIndex := 201, descriptorIndex := 121, attributes := #[] }] 49 4 #[] #[{ accessFlags := 25, nameIndex := 354, descriptorIndex := 339, attributes := #[] }, { accessFlags := 25, nameIndex := 358, descriptorIndex := 339, attributes := #[] }, { accessFlags := 25, nameIndex := 361, descriptorIndex := 339, attributes := #[] }, { accessFlags := 26, nameIndex := 364, descriptorIndex := 339, attributes := #[] }, { accessFlags := 26, nameIndex := 365, descriptorIndex := 339, attributes := #[] }, { accessFlags := 26, nameIndex := 172, descriptorIndex := 173, attributes := #[] }, { accessFlags := 26, nameIndex := 176, descriptorIndex := 173, attributes := #[] }, { accessFlags := 8, nameIndex := 344, descriptorIndex := 339, attributes := #[] }, { accessFlags := 8, nameIndex := 338, descriptorIndex := 339, attributes := #[] }, { accessFlags := 4120, nameIndex := 245, descriptorIndex := 246, attributes := #[] }])
  fields := #[{ name := "E", type := .double, accessFlags := 25, slot := 0, constantValue := 0 }, { name := "PI", type := .double, accessFlags := 25, slot := 1, constantValue := 0 }, { name := "TAU", type := .double, accessFlags := 25, slot := 2, constantValue := 0 }, { name := "DEGREES_TO_RADIANS", type := .double, accessFlags := 26, slot := 3, constantValue := 0 }, { name := "RADIANS_TO_DEGREES", type := .double, accessFlags := 26, slot := 4, constantValue := 0 }, { name := "negativeZeroFloatBits", type := .long, accessFlags := 26, slot := 5, constantValue := 0 }, { name := "negativeZeroDoubleBits", type := .long, accessFlags := 26, slot := 6, constantValue := 0 }, { name := "twoToTheDoubleScaleUp", type := .double, accessFlags := 8, slot := 7, constantValue := 0 }, { name := "twoToTheDoubleScaleDown", type := .double, accessFlags := 8, slot := 8, constantValue := 0 }, { name := "$assertionsDisabled", type := .boolean, accessFlags := 4120, slot := 9, constantValue := 0 }]
  methods := #[k7m0, k7m1, k7m2, k7m3, k7m4]
  instanceTypes := #[]
  staticTypes := #[.double, .double, .double, .double, .double, .long, .long, .double, .double, .boolean]
  resolved := Array.replicate 460 none
  statics := none }

def pool8 : Array CpInfo := pool [(4, .class_ 6), (1, u "java/lang/Object"), (0, u "<init>"), (0, u "()V"), (0, .long 2), (1, .class_ 12), (0, u "com/example/edom/edom/mapping/ArrayGrowth"), (0, .long 2147483639), (1, .methodref 16 17), (0, .class_ 18), (0, .nameAndType 19 20), (0, u "java/lang/Math"), (0, u "min"), (0, u "(JJ)J"), (0, .methodref 16 22), (0, .nameAndType 23 24), (0, u "max"), (0, u "(II)I"), (0, u "LONGEST"), (0, u "I"), (4, u "grownLength")] 2

def k8m0 : Method := { name := "<init>", desc := "()V", sig := { parameters := [], returnType := none }, accessFlags := 2, code := none }
def k8c1 : Code := { maxStack := 5, maxLocals := 2, code := prog_13_method_2_code, exceptionTable := #[], attributes := #[] }
def k8m1 : Method := { name := "grownLength", desc := "(II)I", sig := { parameters := [.int, .int], returnType := some .int }, accessFlags := 8, code := some k8c1 }
/-- com/example/edom/edom/mapping/ArrayGrowth -/
def k8 : Class := { plain "com/example/edom/edom/mapping/ArrayGrowth" (some 0) with
  accessFlags := 32
  interfaces := #[]
  cf := some (fileOf pool8 11 #[] #[{ accessFlags := 2, nameIndex := 7, descriptorIndex := 8, attributes := #[] }, { accessFlags := 8, nameIndex := 31, descriptorIndex := 24, attributes := #[] }] 32 4 #[] #[{ accessFlags := 26, nameIndex := 25, descriptorIndex := 26, attributes := #[] }])
  fields := #[{ name := "LONGEST", type := .int, accessFlags := 26, slot := 0, constantValue := 0 }]
  methods := #[k8m0, k8m1]
  instanceTypes := #[]
  staticTypes := #[.int]
  resolved := Array.replicate 34 none
  statics := none }

def pool9 : Array CpInfo := pool [(2, .class_ 4), (1, u "java/lang/Object"), (0, u "<init>"), (0, u "()V"), (7, .class_ 16), (1, u "java/util/Arrays"), (57, .class_ 76), (1, u "java/util/Arrays$NaturalOrder"), (32, u "()Ljava/lang/Object;"), (3, .class_ 115), (1, u "java/util/Arrays$LegacyMergeSort"), (1, u "Z"), (10, .nameAndType 129 109), (0, u "clone"), (9, u "copyOfRange"), (10, .methodref 151 152), (0, .class_ 153), (0, .nameAndType 154 155), (0, u "java/lang/System"), (0, u "arraycopy"), (0, u "(Ljava/lang/Object;ILjava/lang/Object;II)V"), (146, u "copyOf"), (1, .methodref 305 306), (0, .class_ 307), (0, .nameAndType 308 309), (0, u "java/lang/Math"), (0, u "min"), (0, u "(II)I"), (0, .methodref 311 128), (0, .class_ 312), (0, u "[B"), (26, .methodref 14 340), (0, .nameAndType 341 342), (0, u "copyOfRangeByte"), (0, u "([BII)[B"), (0, .methodref 14 344), (0, .nameAndType 345 346), (0, u "checkLength"), (0, u "(II)V"), (28, .class_ 376), (0, u "java/util/Arrays$ArrayList"), (68, u "$assertionsDisabled"), (269, u "MIN_ARRAY_SORT_GRAN"), (0, u "I"), (2, u "INSERTIONSORT_THRESHOLD"), (149, u "([BI)[B"), (105, .class_ 976), (0, u "java/util/Arrays$ArrayItr")] 52

def k9m0 : Method := { name := "<init>", desc := "()V", sig := { parameters := [], returnType := none }, accessFlags := 2, code := none }
def k9c1 : Code := { maxStack := 6, maxLocals := 3, code := jdk_65_method_121_code, exceptionTable := #[], attributes := #[] }
def k9m1 : Method := { name := "copyOf", desc := "([BI)[B", sig := { parameters := [(.array .byte), .int], returnType := some (.array .byte) }, accessFlags := 9, code := some k9c1 }
def k9c2 : Code := { maxStack := 4, maxLocals := 2, code := jdk_65_method_131_code, exceptionTable := #[], attributes := #[] }
def k9m2 : Method := { name := "checkLength", desc := "(II)V", sig := { parameters := [.int, .int], returnType := none }, accessFlags := 10, code := some k9c2 }
def k9c3 : Code := { maxStack := 3, maxLocals := 3, code := jdk_65_method_132_code, exceptionTable := #[], attributes := #[] }
def k9m3 : Method := { name := "copyOfRange", desc := "([BII)[B", sig := { parameters := [(.array .byte), .int, .int], returnType := some (.array .byte) }, accessFlags := 9, code := some k9c3 }
def k9c4 : Code := { maxStack := 6, maxLocals := 5, code := jdk_65_method_133_code, exceptionTable := #[], attributes := #[] }
def k9m4 : Method := { name := "copyOfRangeByte", desc := "([BII)[B", sig := { parameters := [(.array .byte), .int, .int], returnType := some (.array .byte) }, accessFlags := 10, code := some k9c4 }
/-- java/util/Arrays -/
def k9 : Class := { plain "java/util/Arrays" (some 0) with
  accessFlags := 49
  interfaces := #[]
  cf := some (fileOf pool9 14 #[.nestMembers #[975, 375, 113, 74]] #[{ accessFlags := 2, nameIndex := 5, descriptorIndex := 6, attributes := #[] }, { accessFlags := 9, nameIndex := 302, descriptorIndex := 869, attributes := #[] }, { accessFlags := 10, nameIndex := 345, descriptorIndex := 346, attributes := #[] }, { accessFlags := 9, nameIndex := 139, descriptorIndex := 342, attributes := #[] }, { accessFlags := 10, nameIndex := 341, descriptorIndex := 342, attributes := #[] }] 49 2 #[] #[{ accessFlags := 26, nameIndex := 715, descriptorIndex := 716, attributes := #[] }, { accessFlags := 26, nameIndex := 719, descriptorIndex := 716, attributes := #[] }, { accessFlags := 4120, nameIndex := 445, descriptorIndex := 117, attributes := #[] }])
  fields := #[{ name := "MIN_ARRAY_SORT_GRAN", type := .int, accessFlags := 26, slot := 0, constantValue := 0 }, { name := "INSERTIONSORT_THRESHOLD", type := .int, accessFlags := 26, slot := 1, constantValue := 0 }, { name := "$assertionsDisabled", type := .boolean, accessFlags := 4120, slot := 2, constantValue := 0 }]
  methods := #[k9m0, k9m1, k9m2, k9m3, k9m4]
  instanceTypes := #[]
  staticTypes := #[.int, .int, .boolean]
  resolved := Array.replicate 1029 none
  statics := none }

def pool10 : Array CpInfo := pool [(2, .class_ 4), (1, u "java/lang/Object"), (0, u "<init>"), (0, u "()V"), (1, .class_ 10), (1, u "java/lang/System"), (0, u "allowSecurityManager"), (0, u "I"), (16, u "cons"), (0, u "Ljava/io/Console;"), (77, .class_ 110), (1, u "java/lang/System$CallersHolder"), (43, u "initialErrStream"), (0, u "Ljava/io/PrintStream;"), (19, u "security"), (0, u "Ljava/lang/SecurityManager;"), (31, .class_ 209), (0, u "java/lang/System$1"), (7, u "props"), (0, u "Ljava/util/Properties;"), (2, u "lineSeparator"), (0, u "Ljava/lang/String;"), (96, .class_ 321), (1, u "java/lang/System$LoggerFinder"), (5, .class_ 328), (0, u "java/lang/System$Logger"), (67, u "err"), (2, u "out"), (91, u "notSupportedJnuEncoding"), (15, u "in"), (17, u "initialIn"), (0, u "Ljava/io/InputStream;"), (35, u "bootLayer"), (0, u "Ljava/lang/ModuleLayer;"), (99, .class_ 664), (0, u "java/lang/System$2"), (9, u "NEVER"), (2, u "MAYBE"), (49, u "arraycopy"), (0, u "(Ljava/lang/Object;ILjava/lang/Object;II)V"), (72, .class_ 802), (0, u "java/lang/System$Logger$Level")] 31

def k10m0 : Method := { name := "<init>", desc := "()V", sig := { parameters := [], returnType := none }, accessFlags := 2, code := none }
def k10m1 : Method := { name := "arraycopy", desc := "(Ljava/lang/Object;ILjava/lang/Object;II)V", sig := { parameters := [(.object "java/lang/Object"), .int, (.object "java/lang/Object"), .int, .int], returnType := none }, accessFlags := 265, code := none }
/-- java/lang/System -/
def k10 : Class := { plain "java/lang/System" (some 0) with
  accessFlags := 49
  interfaces := #[]
  cf := some (fileOf pool10 8 #[.nestMembers #[319, 327, 801, 108, 663, 208]] #[{ accessFlags := 2, nameIndex := 5, descriptorIndex := 6, attributes := #[] }, { accessFlags := 265, nameIndex := 727, descriptorIndex := 728, attributes := #[] }] 49 2 #[] #[{ accessFlags := 25, nameIndex := 507, descriptorIndex := 526, attributes := #[] }, { accessFlags := 25, nameIndex := 399, descriptorIndex := 155, attributes := #[] }, { accessFlags := 25, nameIndex := 396, descriptorIndex := 155, attributes := #[] }, { accessFlags := 10, nameIndex := 525, descriptorIndex := 526, attributes := #[] }, { accessFlags := 26, nameIndex := 674, descriptorIndex := 12, attributes := #[] }, { accessFlags := 26, nameIndex := 677, descriptorIndex := 12, attributes := #[] }, { accessFlags := 10, nameIndex := 11, descriptorIndex := 12, attributes := #[] }, { accessFlags := 74, nameIndex := 175, descriptorIndex := 176, attributes := #[] }, { accessFlags := 10, nameIndex := 491, descriptorIndex := 222, attributes := #[] }, { accessFlags := 74, nameIndex := 29, descriptorIndex := 30, attributes := #[] }, { accessFlags := 74, nameIndex := 154, descriptorIndex := 155, attributes := #[] }, { accessFlags := 10, nameIndex := 217, descriptorIndex := 218, attributes := #[] }, { accessFlags := 10, nameIndex := 221, descriptorIndex := 222, attributes := #[] }, { accessFlags := 8, nameIndex := 562, descriptorIndex := 563, attributes := #[] }])
  fields := #[{ name := "in", type := (.object "java/io/InputStream"), accessFlags := 25, slot := 0, constantValue := 0 }, { name := "out", type := (.object "java/io/PrintStream"), accessFlags := 25, slot := 1, constantValue := 0 }, { name := "err", type := (.object "java/io/PrintStream"), accessFlags := 25, slot := 2, constantValue := 0 }, { name := "initialIn", type := (.object "java/io/InputStream"), accessFlags := 10, slot := 3, constantValue := 0 }, { name := "NEVER", type := .int, accessFlags := 26, slot := 4, constantValue := 0 }, { name := "MAYBE", type := .int, accessFlags := 26, slot := 5, constantValue := 0 }, { name := "allowSecurityManager", type := .int, accessFlags := 10, slot := 6, constantValue := 0 }, { name := "security", type := (.object "java/lang/SecurityManager"), accessFlags := 74, slot := 7, constantValue := 0 }, { name := "notSupportedJnuEncoding", type := (.object "java/lang/String"), accessFlags := 10, slot := 8, constantValue := 0 }, { name := "cons", type := (.object "java/io/Console"), accessFlags := 74, slot := 9, constantValue := 0 }, { name := "initialErrStream", type := (.object "java/io/PrintStream"), accessFlags := 74, slot := 10, constantValue := 0 }, { name := "props", type := (.object "java/util/Properties"), accessFlags := 10, slot := 11, constantValue := 0 }, { name := "lineSeparator", type := (.object "java/lang/String"), accessFlags := 10, slot := 12, constantValue := 0 }, { name := "bootLayer", type := (.object "java/lang/ModuleLayer"), accessFlags := 8, slot := 13, constantValue := 0 }]
  methods := #[k10m0, k10m1]
  instanceTypes := #[]
  staticTypes := #[(.object "java/io/InputStream"), (.object "java/io/PrintStream"), (.object "java/io/PrintStream"), (.object "java/io/InputStream"), .int, .int, .int, (.object "java/lang/SecurityManager"), (.object "java/lang/String"), (.object "java/io/Console"), (.object "java/io/PrintStream"), (.object "java/util/Properties"), (.object "java/lang/String"), (.object "java/lang/ModuleLayer")]
  resolved := Array.replicate 834 none
  statics := none }

def pool11 : Array CpInfo := pool [(1, .class_ 2), (0, u "java/lang/Cloneable"), (0, .class_ 4), (0, u "java/lang/Object")] 2

/-- java/lang/Cloneable -/
def k11 : Class := { plain "java/lang/Cloneable" (some 0) with
  accessFlags := 1537
  interfaces := #[]
  cf := some (fileOf pool11 1 #[] #[] 1537 3 #[] #[])
  fields := #[]
  methods := #[]
  instanceTypes := #[]
  staticTypes := #[]
  resolved := Array.replicate 7 none
  statics := none }

def pool12 : Array CpInfo := pool [(1, u "java/io/Serializable"), (0, .class_ 1), (0, u "java/lang/Object"), (0, .class_ 3)] 3

/-- java/io/Serializable -/
def k12 : Class := { plain "java/io/Serializable" (some 0) with
  accessFlags := 1537
  interfaces := #[]
  cf := some (fileOf pool12 2 #[] #[] 1537 4 #[] #[])
  fields := #[]
  methods := #[]
  instanceTypes := #[]
  staticTypes := #[]
  resolved := Array.replicate 8 none
  statics := none }

/-- the primitive byte -/
def k13 : Class := { plain "byte" none with kind := .primitive 'B', accessFlags := 0x411 }
/-- [B -/
def k14 : Class := { plain "[B" (some 0) with kind := .array 13 .byte, interfaces := #[11, 12], accessFlags := 1041 }

/-- the primitive int -/
def k15 : Class := { plain "int" none with kind := .primitive 'I', accessFlags := 0x411 }
/-- [I -/
def k16 : Class := { plain "[I" (some 0) with kind := .array 15 .int, interfaces := #[11, 12], accessFlags := 1041 }

def heap : Heap := #[]
def classes : Array Class := #[k0, k1, k2, k3, k4, k5, k6, k7, k8, k9, k10, k11, k12, k13, k14, k15, k16]
def interned : List (Array UInt16 × Addr) := []
def slotsUsed : Nat := 0
def theMethod : MethodId := ⟨1, 1⟩
def args0 : Array Value := #[.int 7, .int 7, .int 7, .int 7, .int 7, .int 7]
def aboutOver (below : List Frame) : State where
  vm := { classes := classes, interned := interned.toArray }
  heap := heap
  slotsUsed := slotsUsed
  threads := #[{ frames := .invoking theMethod args0 :: below }]
def below0 : List Frame := [.native { method := ⟨0, 0⟩, args := #[] }]
def about1 : State := aboutOver below0
def p0 : Program := .bare "" "" ""
def e0 : Env := launch0.env 0 0 0
theorem w_frames : about1.frames = Frame.invoking theMethod args0 :: below0 := rfl
set_option maxRecDepth 65536 in
theorem w_args : argsFit about1.vm theMethod args0 = true := by decide +kernel
set_option maxRecDepth 65536 in
theorem w_heap : heapFits about1 = true := by decide +kernel
set_option maxRecDepth 65536 in
theorem w_runnable : about1.curStatus? = some .runnable := by decide +kernel
set_option maxRecDepth 65536 in
theorem w_alone : about1.alone = true := by decide +kernel
set_option maxRecDepth 65536 in
theorem w_named : about1.methodNamed? x = some theMethod := by decide +kernel
set_option maxRecDepth 65536 in
theorem w_hears : about1.hears theMethod below0 = true := by decide +kernel
set_option maxRecDepth 65536 in
theorem w_ripe : about1.ripe theMethod args0 below0 = true := by decide +kernel
theorem w_running : about1.status = .running := rfl
set_option maxRecDepth 65536 in
theorem w_room : about1.hasRoom e0.platform room_1 = true :=
  launch0.hasRoom_least _ room_1 (by decide +kernel) (by decide +kernel) (by decide +kernel) (by decide +kernel) (by decide +kernel) (by decide +kernel)
theorem allAtoms_all (ts : List Jvm.Cond) (a : Array Jvm.Value) (st : Jvm.State) : (allAtoms ts).before a st = ts.all (fun c => c.before a st) := by
  induction ts with
  | nil => rfl
  | cons c t ih =>
    show (Jvm.Cond.and c (allAtoms t)).before a st = _
    rw [Jvm.Cond.before_and, ih, List.all_cons]
def words1 : List Jvm.Cond := Jvm.Cond.code x code maxLocals ret :: tables_1
/-- a 'code' word, met by the world's own term for the bytes: nothing is compared byte by byte -/
theorem code_word {y : MethodName} {bytes : ByteArray} {mx : Nat} {rt : Option FieldType} {a : Array Value} {s : State} {m : MethodId} {meth : Method} {c : Code} (h1 : s.methodNamed? y = some m) (h2 : s.vm.method? m = some meth) (h3 : meth.code = some c) (h4 : c.code = bytes)
    (h5 : (c.maxLocals == mx && c.exceptionTable.isEmpty && decide (c.maxStack ≤ mostOperands) && decide (meth.sig.returnType = rt) && !meth.locks && decide (parseMethodDescriptor y.desc = some meth.sig)) = true) : (Jvm.Cond.code y bytes mx rt).before a s = true := by
  simp only [Bool.and_eq_true, beq_iff_eq, Bool.not_eq_true', decide_eq_true_eq] at h5
  obtain ⟨⟨⟨⟨⟨g1, g2⟩, g3⟩, g4⟩, g5⟩, g6⟩ := h5
  simp [Cond.before, Cond.holds, Cond.value, h1, h2, h3, h4, g1, g2, g3, g4, g5, g6]
def isCode : Jvm.Cond → Bool
  | .code _ _ _ _ => true
  | _ => false
theorem all_split {L : List Jvm.Cond} {P : Jvm.Cond → Bool} (h1 : L.all (fun c => isCode c || P c) = true) (h2 : ∀ c ∈ L.filter isCode, P c = true) : L.all P = true := by
  refine List.all_eq_true.mpr fun c hc => ?_
  have h := List.all_eq_true.mp h1 c hc
  rcases Bool.eq_false_or_eq_true (isCode c) with hi | hi
  · exact h2 c (List.mem_filter.mpr ⟨hc, hi⟩)
  · simpa [hi] using h
set_option maxRecDepth 65536 in
theorem w_c0 : (Jvm.Cond.code x code maxLocals ret).before args0 about1 = true := code_word (m := ⟨1, 1⟩) (meth := k1m1) (c := k1c1) (by decide +kernel) rfl rfl rfl (by decide +kernel)
set_option maxRecDepth 65536 in
theorem w_c1 : (Jvm.Cond.code ({ cls := "com/example/edom/edom/mapping/Utf8Output", name := "<init>", desc := "()V" } : Jvm.MethodName) prog_41_method_1_code (1 : Nat) (Option.none : Option Jvm.ClassFile.FieldType)).before args0 about1 = true := code_word (m := ⟨6, 0⟩) (meth := k6m0) (c := k6c0) (by decide +kernel) rfl rfl rfl (by decide +kernel)
set_option maxRecDepth 65536 in
theorem w_c2 : (Jvm.Cond.code ({ cls := "java/io/OutputStream", name := "<init>", desc := "()V" } : Jvm.MethodName) jdk_2038_method_1_code (1 : Nat) (Option.none : Option Jvm.ClassFile.FieldType)).before args0 about1 = true := code_word (m := ⟨5, 0⟩) (meth := k5m0) (c := k5c0) (by decide +kernel) rfl rfl rfl (by decide +kernel)
set_option maxRecDepth 65536 in
theorem w_c3 : (Jvm.Cond.code ({ cls := "java/lang/Object", name := "<init>", desc := "()V" } : Jvm.MethodName) object_method_1_code (1 : Nat) (Option.none : Option Jvm.ClassFile.FieldType)).before args0 about1 = true := code_word (m := ⟨0, 0⟩) (meth := k0m0) (c := k0c0) (by decide +kernel) rfl rfl rfl (by decide +kernel)
set_option maxRecDepth 65536 in
theorem w_c4 : (Jvm.Cond.code ({ cls := "com/example/edom/edom/mapping/Utf8Output", name := "write", desc := "(I)V" } : Jvm.MethodName) prog_41_method_2_code (2 : Nat) (Option.none : Option Jvm.ClassFile.FieldType)).before args0 about1 = true := code_word (m := ⟨6, 1⟩) (meth := k6m1) (c := k6c1) (by decide +kernel) rfl rfl rfl (by decide +kernel)
set_option maxRecDepth 65536 in
theorem w_c5 : (Jvm.Cond.code ({ cls := "com/example/edom/edom/mapping/Utf8Output", name := "ensureRoom", desc := "(I)V" } : Jvm.MethodName) prog_41_method_5_code (3 : Nat) (Option.none : Option Jvm.ClassFile.FieldType)).before args0 about1 = true := code_word (m := ⟨6, 4⟩) (meth := k6m4) (c := k6c4) (by decide +kernel) rfl rfl rfl (by decide +kernel)
set_option maxRecDepth 65536 in
theorem w_c6 : (Jvm.Cond.code ({ cls := "java/lang/Math", name := "addExact", desc := "(II)I" } : Jvm.MethodName) jdk_29_method_24_code (3 : Nat) (Option.some Jvm.ClassFile.FieldType.int)).before args0 about1 = true := code_word (m := ⟨7, 1⟩) (meth := k7m1) (c := k7c1) (by decide +kernel) rfl rfl rfl (by decide +kernel)
set_option maxRecDepth 65536 in
theorem w_c7 : (Jvm.Cond.code ({ cls := "com/example/edom/edom/mapping/ArrayGrowth", name := "grownLength", desc := "(II)I" } : Jvm.MethodName) prog_13_method_2_code (2 : Nat) (Option.some Jvm.ClassFile.FieldType.int)).before args0 about1 = true := code_word (m := ⟨8, 1⟩) (meth := k8m1) (c := k8c1) (by decide +kernel) rfl rfl rfl (by decide +kernel)
set_option maxRecDepth 65536 in
theorem w_c8 : (Jvm.Cond.code ({ cls := "java/lang/Math", name := "min", desc := "(JJ)J" } : Jvm.MethodName) jdk_29_method_70_code (4 : Nat) (Option.some Jvm.ClassFile.FieldType.long)).before args0 about1 = true := code_word (m := ⟨7, 4⟩) (meth := k7m4) (c := k7c4) (by decide +kernel) rfl rfl rfl (by decide +kernel)
set_option maxRecDepth 65536 in
theorem w_c9 : (Jvm.Cond.code ({ cls := "java/lang/Math", name := "max", desc := "(II)I" } : Jvm.MethodName) jdk_29_method_65_code (2 : Nat) (Option.some Jvm.ClassFile.FieldType.int)).before args0 about1 = true := code_word (m := ⟨7, 2⟩) (meth := k7m2) (c := k7c2) (by decide +kernel) rfl rfl rfl (by decide +kernel)
set_option maxRecDepth 65536 in
theorem w_c10 : (Jvm.Cond.code ({ cls := "java/util/Arrays", name := "copyOf", desc := "([BI)[B" } : Jvm.MethodName) jdk_65_method_121_code (3 : Nat) (Option.some (Jvm.ClassFile.FieldType.array Jvm.ClassFile.FieldType.byte))).before args0 about1 = true := code_word (m := ⟨9, 1⟩) (meth := k9m1) (c := k9c1) (by decide +kernel) rfl rfl rfl (by decide +kernel)
set_option maxRecDepth 65536 in
theorem w_c11 : (Jvm.Cond.code ({ cls := "java/lang/Math", name := "min", desc := "(II)I" } : Jvm.MethodName) jdk_29_method_69_code (2 : Nat) (Option.some Jvm.ClassFile.FieldType.int)).before args0 about1 = true := code_word (m := ⟨7, 3⟩) (meth := k7m3) (c := k7c3) (by decide +kernel) rfl rfl rfl (by decide +kernel)
set_option maxRecDepth 65536 in
theorem w_c12 : (Jvm.Cond.code ({ cls := "com/example/edom/edom/mapping/Utf8OutputToByteArrayPinLaw", name := "put", desc := "([BIB)I" } : Jvm.MethodName) method_3_code (3 : Nat) (Option.some Jvm.ClassFile.FieldType.int)).before args0 about1 = true := code_word (m := ⟨1, 2⟩) (meth := k1m2) (c := k1c2) (by decide +kernel) rfl rfl rfl (by decide +kernel)
set_option maxRecDepth 65536 in
theorem w_c13 : (Jvm.Cond.code ({ cls := "com/example/edom/edom/mapping/Utf8Output", name := "write", desc := "([BII)V" } : Jvm.MethodName) prog_41_method_3_code (4 : Nat) (Option.none : Option Jvm.ClassFile.FieldType)).before args0 about1 = true := code_word (m := ⟨6, 2⟩) (meth := k6m2) (c := k6c2) (by decide +kernel) rfl rfl rfl (by decide +kernel)
set_option maxRecDepth 65536 in
theorem w_c14 : (Jvm.Cond.code ({ cls := "com/example/edom/edom/mapping/Utf8OutputToByteArrayPinLaw", name := "putRange", desc := "([BI[BII)I" } : Jvm.MethodName) method_4_code (6 : Nat) (Option.some Jvm.ClassFile.FieldType.int)).before args0 about1 = true := code_word (m := ⟨1, 3⟩) (meth := k1m3) (c := k1c3) (by decide +kernel) rfl rfl rfl (by decide +kernel)
set_option maxRecDepth 65536 in
theorem w_c15 : (Jvm.Cond.code ({ cls := "com/example/edom/edom/mapping/Utf8Output", name := "toByteArray", desc := "()[B" } : Jvm.MethodName) prog_41_method_4_code (1 : Nat) (Option.some (Jvm.ClassFile.FieldType.array Jvm.ClassFile.FieldType.byte))).before args0 about1 = true := code_word (m := ⟨6, 3⟩) (meth := k6m3) (c := k6c3) (by decide +kernel) rfl rfl rfl (by decide +kernel)
set_option maxRecDepth 65536 in
theorem w_c16 : (Jvm.Cond.code ({ cls := "com/example/edom/edom/mapping/Utf8OutputToByteArrayPinLaw", name := "at", desc := "([B[BII)Z" } : Jvm.MethodName) method_5_code (4 : Nat) (Option.some Jvm.ClassFile.FieldType.boolean)).before args0 about1 = true := code_word (m := ⟨1, 4⟩) (meth := k1m4) (c := k1c4) (by decide +kernel) rfl rfl rfl (by decide +kernel)
set_option maxRecDepth 65536 in
theorem w_c17 : (Jvm.Cond.code ({ cls := "java/util/Arrays", name := "copyOfRange", desc := "([BII)[B" } : Jvm.MethodName) jdk_65_method_132_code (3 : Nat) (Option.some (Jvm.ClassFile.FieldType.array Jvm.ClassFile.FieldType.byte))).before args0 about1 = true := code_word (m := ⟨9, 3⟩) (meth := k9m3) (c := k9c3) (by decide +kernel) rfl rfl rfl (by decide +kernel)
set_option maxRecDepth 65536 in
theorem w_c18 : (Jvm.Cond.code ({ cls := "java/util/Arrays", name := "copyOfRangeByte", desc := "([BII)[B" } : Jvm.MethodName) jdk_65_method_133_code (5 : Nat) (Option.some (Jvm.ClassFile.FieldType.array Jvm.ClassFile.FieldType.byte))).before args0 about1 = true := code_word (m := ⟨9, 4⟩) (meth := k9m4) (c := k9c4) (by decide +kernel) rfl rfl rfl (by decide +kernel)
set_option maxRecDepth 65536 in
theorem w_c19 : (Jvm.Cond.code ({ cls := "java/util/Arrays", name := "checkLength", desc := "(II)V" } : Jvm.MethodName) jdk_65_method_131_code (2 : Nat) (Option.none : Option Jvm.ClassFile.FieldType)).before args0 about1 = true := code_word (m := ⟨9, 2⟩) (meth := k9m2) (c := k9c2) (by decide +kernel) rfl rfl rfl (by decide +kernel)
def codes1 : List Jvm.Cond := [Jvm.Cond.code x code maxLocals ret, Jvm.Cond.code ({ cls := "com/example/edom/edom/mapping/Utf8Output", name := "<init>", desc := "()V" } : Jvm.MethodName) prog_41_method_1_code (1 : Nat) (Option.none : Option Jvm.ClassFile.FieldType), Jvm.Cond.code ({ cls := "java/io/OutputStream", name := "<init>", desc := "()V" } : Jvm.MethodName) jdk_2038_method_1_code (1 : Nat) (Option.none : Option Jvm.ClassFile.FieldType), Jvm.Cond.code ({ cls := "java/lang/Object", name := "<init>", desc := "()V" } : Jvm.MethodName) object_method_1_code (1 : Nat) (Option.none : Option Jvm.ClassFile.FieldType), Jvm.Cond.code ({ cls := "com/example/edom/edom/mapping/Utf8Output", name := "write", desc := "(I)V" } : Jvm.MethodName) prog_41_method_2_code (2 : Nat) (Option.none : Option Jvm.ClassFile.FieldType), Jvm.Cond.code ({ cls := "com/example/edom/edom/mapping/Utf8Output", name := "ensureRoom", desc := "(I)V" } : Jvm.MethodName) prog_41_method_5_code (3 : Nat) (Option.none : Option Jvm.ClassFile.FieldType), Jvm.Cond.code ({ cls := "java/lang/Math", name := "addExact", desc := "(II)I" } : Jvm.MethodName) jdk_29_method_24_code (3 : Nat) (Option.some Jvm.ClassFile.FieldType.int), Jvm.Cond.code ({ cls := "com/example/edom/edom/mapping/ArrayGrowth", name := "grownLength", desc := "(II)I" } : Jvm.MethodName) prog_13_method_2_code (2 : Nat) (Option.some Jvm.ClassFile.FieldType.int), Jvm.Cond.code ({ cls := "java/lang/Math", name := "min", desc := "(JJ)J" } : Jvm.MethodName) jdk_29_method_70_code (4 : Nat) (Option.some Jvm.ClassFile.FieldType.long), Jvm.Cond.code ({ cls := "java/lang/Math", name := "max", desc := "(II)I" } : Jvm.MethodName) jdk_29_method_65_code (2 : Nat) (Option.some Jvm.ClassFile.FieldType.int), Jvm.Cond.code ({ cls := "java/util/Arrays", name := "copyOf", desc := "([BI)[B" } : Jvm.MethodName) jdk_65_method_121_code (3 : Nat) (Option.some (Jvm.ClassFile.FieldType.array Jvm.ClassFile.FieldType.byte)), Jvm.Cond.code ({ cls := "java/lang/Math", name := "min", desc := "(II)I" } : Jvm.MethodName) jdk_29_method_69_code (2 : Nat) (Option.some Jvm.ClassFile.FieldType.int), Jvm.Cond.code ({ cls := "com/example/edom/edom/mapping/Utf8OutputToByteArrayPinLaw", name := "put", desc := "([BIB)I" } : Jvm.MethodName) method_3_code (3 : Nat) (Option.some Jvm.ClassFile.FieldType.int), Jvm.Cond.code ({ cls := "com/example/edom/edom/mapping/Utf8Output", name := "write", desc := "([BII)V" } : Jvm.MethodName) prog_41_method_3_code (4 : Nat) (Option.none : Option Jvm.ClassFile.FieldType), Jvm.Cond.code ({ cls := "com/example/edom/edom/mapping/Utf8OutputToByteArrayPinLaw", name := "putRange", desc := "([BI[BII)I" } : Jvm.MethodName) method_4_code (6 : Nat) (Option.some Jvm.ClassFile.FieldType.int), Jvm.Cond.code ({ cls := "com/example/edom/edom/mapping/Utf8Output", name := "toByteArray", desc := "()[B" } : Jvm.MethodName) prog_41_method_4_code (1 : Nat) (Option.some (Jvm.ClassFile.FieldType.array Jvm.ClassFile.FieldType.byte)), Jvm.Cond.code ({ cls := "com/example/edom/edom/mapping/Utf8OutputToByteArrayPinLaw", name := "at", desc := "([B[BII)Z" } : Jvm.MethodName) method_5_code (4 : Nat) (Option.some Jvm.ClassFile.FieldType.boolean), Jvm.Cond.code ({ cls := "java/util/Arrays", name := "copyOfRange", desc := "([BII)[B" } : Jvm.MethodName) jdk_65_method_132_code (3 : Nat) (Option.some (Jvm.ClassFile.FieldType.array Jvm.ClassFile.FieldType.byte)), Jvm.Cond.code ({ cls := "java/util/Arrays", name := "copyOfRangeByte", desc := "([BII)[B" } : Jvm.MethodName) jdk_65_method_133_code (5 : Nat) (Option.some (Jvm.ClassFile.FieldType.array Jvm.ClassFile.FieldType.byte)), Jvm.Cond.code ({ cls := "java/util/Arrays", name := "checkLength", desc := "(II)V" } : Jvm.MethodName) jdk_65_method_131_code (2 : Nat) (Option.none : Option Jvm.ClassFile.FieldType)]
set_option maxRecDepth 65536 in
theorem codes_eq : words1.filter isCode = codes1 := rfl
theorem w_codes : ∀ c ∈ words1.filter isCode, c.before args0 about1 = true := by
  rw [codes_eq]
  intro c hc
  simp only [codes1, List.mem_cons, List.not_mem_nil, or_false] at hc
  rcases hc with rfl | rfl | rfl | rfl | rfl | rfl | rfl | rfl | rfl | rfl | rfl | rfl | rfl | rfl | rfl | rfl | rfl | rfl | rfl | rfl
  · exact w_c0
  · exact w_c1
  · exact w_c2
  · exact w_c3
  · exact w_c4
  · exact w_c5
  · exact w_c6
  · exact w_c7
  · exact w_c8
  · exact w_c9
  · exact w_c10
  · exact w_c11
  · exact w_c12
  · exact w_c13
  · exact w_c14
  · exact w_c15
  · exact w_c16
  · exact w_c17
  · exact w_c18
  · exact w_c19
set_option maxRecDepth 65536 in
theorem w_t1 : (words1.take 24).all (fun c => isCode c || c.before args0 about1) = true := by decide +kernel
set_option maxRecDepth 65536 in
theorem w_t2 : ((words1.drop 24).take 24).all (fun c => isCode c || c.before args0 about1) = true := by decide +kernel
set_option maxRecDepth 65536 in
theorem w_t3 : (((words1.drop 24).drop 24).take 24).all (fun c => isCode c || c.before args0 about1) = true := by decide +kernel
set_option maxRecDepth 65536 in
theorem w_t4 : (((words1.drop 24).drop 24).drop 24).all (fun c => isCode c || c.before args0 about1) = true := by decide +kernel
theorem w_tables : (allAtoms (Jvm.Cond.code x code maxLocals ret :: tables_1)).before args0 about1 = true := by
  rw [allAtoms_all]
  show words1.all (fun c => c.before args0 about1) = true
  refine all_split ?_ w_codes
  rw [← List.take_append_drop 24 words1, List.all_append, w_t1, ← List.take_append_drop 24 (words1.drop 24), List.all_append, w_t2, ← List.take_append_drop 24 ((words1.drop 24).drop 24), List.all_append, w_t3, w_t4]
  rfl
set_option maxRecDepth 65536 in
theorem w_case : (Jvm.Cond.and given_1 narrow_1).before args0 about1 = true := by decide +kernel
theorem w_applies : (headSpec (Jvm.Cond.code x code maxLocals ret :: tables_1) room_1).applies x e0.platform about1 = true :=
  (Spec.applies_iff w_frames).mpr ⟨w_running, w_runnable, w_alone, w_named, w_hears, w_ripe, w_room, w_tables⟩
theorem atStart : AtStart classFile x code maxLocals ret World_1 tables_1 room_1 Calls_1 rest_1 Pre_1 launch0 p0 e0 about1 theMethod args0 below0 :=
  ⟨lists_1, trivial, launch0.admits_env _ _ _, launch0.least_env, fairChoices_fair.cas, fairChoices_fair.clock, w_frames, w_args, w_heap, w_applies, trivial, trivial, w_case⟩
end start1
theorem witness_1 : WitnessClaimed_1 := ⟨start1.p0, start1.e0, start1.about1, start1.theMethod, start1.args0, start1.below0, start1.atStart⟩
end Jvm.Pilot.@@N@@
