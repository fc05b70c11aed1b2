import JvmDerived
import JvmDerived.Pilot.@@N@@Statement
import JvmDerived.Pilot.@@N@@Code
set_option linter.unusedVariables false
set_option linter.unusedSimpArgs false
@@BLOCK:NumsL.lean.txt@@
namespace Jvm.Own
open Sem ClassFile Op Lib Jvm.Stand Jvm.Free Jvm.LawKit Jvm.RoadKit
section Kit
variable {p : Program} {l : Launch} {e : Env} {R : Room} {s : State} {m : MethodId} {args : Array Value} {below : List Frame} {meth : Method} {c : Code} {T : State} {locs : List Loc} {cells slots : Nat} {Z : State} {a0 : Array Value} {h : Heap}
/-- D is closed under going back over steps -/
def Clo (p : Program) (e : Env) (below : List Frame) (D : State → Prop) : Prop := ∀ (U U' : State), (∀ t, Steps p.tables e below U' t → Steps p.tables e below U t) → D U' → D U
/-- D holds wherever the body returns with what Q says -/
def Ret (p : Program) (l : Launch) (e : Env) (R : Room) (s : State) (m : MethodId) (args : Array Value) (below : List Frame) (meth : Method) (c : Code) (Q : Option Value → Heap → List Loc → Prop) (C N : Nat) (D : State → Prop) : Prop :=
  ∀ (T : State) (locs : List Loc) (cells slots : Nat) (v : Option Value) (U : State), Stand p l e R s m args below meth c T locs cells slots → (meth.sig.returnType = none → v = none) → cells ≤ C → slots ≤ N → Q v T.heap locs →
    (∀ fs, (∀ (f : JFrame) (acts : List Action), f.method = m → f.locked = none → f.entered = [] → (doReturn e (T.setTop f) acts v).1 = T.setFrames fs) → Steps p.tables e below U (T.setFrames fs)) → D U
theorem enter {y : MethodName} {code : ByteArray} {maxL : Nat} {ret : Option FieldType} {ws : List Cond} {rm : Room} {as' : Array Value} {h0 : Heap} {Q : Option Value → Heap → List Loc → Prop} {C N : Nat} (hpl : plainFor y = true)
    (body : ∀ (p : Program) (e : Env) (s : State) (m : MethodId) (below : List Frame) (meth : Method) (c : Code) (s₁ : State) (D : State → Prop),
      p.tables.exec = Jvm.exec → c.code = code → c.maxLocals = maxL → s.vm.findClass y.cls = some m.cls → meth.name = y.name → meth.sig.returnType = ret → Z.Warmed39 s.vm → Stand p l e rm s m as' below meth c s₁ [] 0 0 → s₁.heap = h0 →
      Clo p e below D → Ret p l e rm s m as' below meth c Q C N D → D (s₁.setTop (entryFrame m as' maxL))) :
    MetFree l y (head1 (Jvm.Cond.code y code maxL ret :: ws) rm) (fun a U => a = as' ∧ Z.Warmed39 U.vm ∧ U.heap = h0) (fun _ _ _ _ _ => True) (fun _ U o U' => ∃ v L, o = .returned v ∧ Q v U'.heap L ∧ FrameEnd U o U' L C N) := by
  refine MetFree.of_bodySF hpl hisR ?_
  intro p e s m args below meth c s₁ Bd hml hP hK
  obtain ⟨rfl, hZ, hh⟩ := hP
  have X0 : Stand p l e rm s m args below meth c s₁ [] 0 0 := Stand.of_body Bd
  refine body p e s m below meth c s₁ (fun U => ∃ s₂ o, Steps p.tables e below U s₂ ∧ s₂.status = .running ∧ Ended s₂ below o ∧ ∃ v L, o = .returned v ∧ Q v s₂.heap L ∧ FrameEnd s o s₂ L C N) Bd.exec Bd.bytes hml (findClass_of_methodNamed Bd.named) (name_of_methodNamed Bd.named Bd.method).1 Bd.returns hZ X0 (by rw [← hh, Bd.state]; rfl) ?_ ?_
  · rintro U U' k ⟨s₂, o, st, r⟩
    exact ⟨s₂, o, k _ st, r⟩
  · intro T locs cells slots v U X hv hc hn hQ k
    obtain ⟨fs, hr, hrun, hended, hW, hsame⟩ := X.leave (v := v) hv
    exact ⟨_, _, k fs hr, hrun, hended, v, locs, rfl, hQ, ⟨_, rfl⟩, hW, hsame.mono hc hn⟩
theorem mono {c' n' : Nat} (X : Stand p l e R s m args below meth c T locs cells slots) (hc : cells ≤ c') (hn : slots ≤ n') : Stand p l e R s m args below meth c T locs c' n' :=
  { X with same := X.same.weaken (fun _ hy _ => hy) hc hn }
theorem forget {k : Nat} (X : Stand p l e R s m args below meth c T locs cells slots) (N : Fr k locs) (hk : s.heap.size ≤ k) : Stand p l e R s m args below meth c T [] cells slots :=
  { X with same := X.same.weaken (fun y hy hlt => absurd hlt (Nat.not_lt.mpr (Nat.le_trans hk (N y hy)))) (Nat.le_refl _) (Nat.le_refl _) }
variable {Q : Option Value → Heap → List Loc → Prop} {C N : Nat} {D : State → Prop}
theorem retI (hR : Ret p l e R s m args below meth c Q C N D) (X : Stand p l e R s m args below meth c T locs cells slots) (hx : p.tables.exec = Jvm.exec) {pc : Nat} {Ls : Array Slot} {z : Int32} {rest : List Value} (hret : meth.sig.returnType = some .int) (hd : decode c.code pc = .ok (.ireturn, 1)) (hc : cells ≤ C) (hn : slots ≤ N) (hQ : Q (some (.int z)) T.heap locs) : D (T.setTop (mkF m pc Ls (.int z :: rest))) := by
  refine hR T locs cells slots (some (.int z)) _ X (fun h => by rw [hret] at h; cases h) hc hn hQ fun fs hl => ?_
  have hm' : T.vm.method? m = some meth := X.method'
  have hn : narrow .int (.int z) = .int z := rfl
  show Steps p.tables e below (T.setTop { method := m, pc := pc, locals := Ls, stack := _ :: rest, locked := none }) _
  jvm_step X.here [X.here.top, hx, hd, hm', hret, hn]
  first | (intro acts; rw [hl _ acts rfl rfl rfl]) | rw [hl _ _ rfl rfl rfl]
  exact Steps.refl _
theorem retN (hR : Ret p l e R s m args below meth c Q C N D) (X : Stand p l e R s m args below meth c T locs cells slots) (hx : p.tables.exec = Jvm.exec) {pc : Nat} {Ls : Array Slot} {z : Int32} {t : FieldType} {rest : List Value} (hret : meth.sig.returnType = some t) (ht : t = .boolean ∨ t = .byte ∨ t = .char ∨ t = .short) (hd : decode c.code pc = .ok (.ireturn, 1)) (hc : cells ≤ C) (hn : slots ≤ N) (hz : nar t z = z) (hQ : Q (some (.int z)) T.heap locs) : D (T.setTop (mkF m pc Ls (.int z :: rest))) := by
  refine hR T locs cells slots (some (.int z)) _ X (fun h => by rw [hret] at h; cases h) hc hn hQ fun fs hl => ?_
  exact Jvm.RoadKit.retN X hx hret ht hd (by rw [hz]; exact hl)
theorem retJ (hR : Ret p l e R s m args below meth c Q C N D) (X : Stand p l e R s m args below meth c T locs cells slots) (hx : p.tables.exec = Jvm.exec) {pc : Nat} {Ls : Array Slot} {z : Int64} (hret : meth.sig.returnType = some .long) (hd : decode c.code pc = .ok (.lreturn, 1)) (hc : cells ≤ C) (hn : slots ≤ N) (hQ : Q (some (.long z)) T.heap locs) : D (T.setTop (mkF m pc Ls [.long z])) :=
  hR T locs cells slots (some (.long z)) _ X (fun h => by rw [hret] at h; cases h) hc hn hQ fun fs hl => X.lreturnOut hx hret hd hl
theorem retA (hR : Ret p l e R s m args below meth c Q C N D) (X : Stand p l e R s m args below meth c T locs cells slots) (hx : p.tables.exec = Jvm.exec) {pc : Nat} {Ls : Array Slot} {w : Value} {t : FieldType} (hw : w.isRef = true) (hret : meth.sig.returnType = some t) (ht : t.isReference = true) (hd : decode c.code pc = .ok (.areturn, 1)) (hc : cells ≤ C) (hn : slots ≤ N) (hQ : Q (some w) T.heap locs) : D (T.setTop (mkF m pc Ls [w])) :=
  hR T locs cells slots (some w) _ X (fun h => by rw [hret] at h; cases h) hc hn hQ fun fs hl => X.areturnOut hx hw hret ht hd hl
theorem retV (hR : Ret p l e R s m args below meth c Q C N D) (X : Stand p l e R s m args below meth c T locs cells slots) (hx : p.tables.exec = Jvm.exec) {pc : Nat} {Ls : Array Slot} (hret : meth.sig.returnType = none) (hd : decode c.code pc = .ok (.return_, 1)) (hc : cells ≤ C) (hn : slots ≤ N) (hQ : Q none T.heap locs) : D (T.setTop (mkF m pc Ls [])) :=
  hR T locs cells slots none _ X (fun _ => rfl) hc hn hQ fun fs hl => X.returnOut hx hret hd hl
/-! calls -/
variable {y z : MethodName} {bytes : ByteArray} {maxL : Nat} {ret : Option FieldType} {rm : Room} {W : Nat} {Qc : Option Value → Heap → List Loc → Prop} {own Cn : String} {index : Nat} {g : JFrame} {argsL rest : List Value} {a : Addr}
theorem callS (X : Stand p l e R s m args below meth c T locs cells slots) (hx : p.tables.exec = Jvm.exec) (hZ : Z.Warmed39 s.vm) (hown : s.vm.findClass own = some m.cls)
    (w1 : (Cond.methodLink own index y).before a0 Z = true) (w2 : (Cond.static y).before a0 Z = true) (w3 : (Cond.initialized y.cls).before a0 Z = true) (w4 : (Cond.code y bytes maxL ret).before a0 Z = true)
    (hy : y.cls ≠ "java/lang/invoke/MethodHandle" ∧ y.cls ≠ "java/lang/invoke/VarHandle") (e0 : T.heap = h)
    (hM : MetFree l y (head1 [Cond.code y bytes maxL ret] rm) (fun a U => a = argsL.toArray ∧ Z.Warmed39 U.vm ∧ U.heap = h) (fun _ _ _ _ _ => True) (fun _ U o U' => ∃ v L, o = .returned v ∧ Qc v U'.heap L ∧ FrameEnd U o U' L rm.cells rm.slots))
    (hf : rm.frames + 1 ≤ R.frames) (hl : W + (maxL + 11) + rm.locals ≤ R.locals) (hcells : cells + rm.cells ≤ R.cells) (hslots : slots + rm.slots ≤ R.slots)
    (hg : g.method = m) (hsize : g.locals.size = c.maxLocals) (hlen : ∀ sig, parseMethodDescriptor y.desc = some sig → argsL.length = sig.parameters.length)
    (hstack : g.stack = argsL.reverse ++ rest) (hW : 2 * g.monitorRoom + (rest.map fun v => v.category).sum ≤ W) (hdg : decode c.code g.pc = .ok (.invokestatic index, 3)) :
    ∃ (T' : State) (v : Option Value) (L : List Loc), Stand p l e R s m args below meth c T' (locs ++ L) (cells + rm.cells) (slots + rm.slots) ∧ Qc v T'.heap L ∧
      ∀ t, Steps p.tables e below (T'.setTop { g with pc := g.pc + 3, stack := v.toList ++ rest }) t → Steps p.tables e below (T.setTop g) t := by
  obtain ⟨v, _, ⟨T', L', k', n'⟩, -, X', ⟨Lc, hQ, l1, y1, z1⟩, st⟩ := Jvm.LawKit.callS X hx (y := y) hown (mvT hZ w1) (mvT hZ w2) (mvT hZ w3) (mvT hZ w4) hy (backOf (W := W) hM hZ w4 w3 hf hl) hg hsize hlen hstack hW hdg (fun _ _ => ⟨rfl, e0, hcells, hslots⟩)
  dsimp only [Pt.U, Pt.locs, Pt.cells, Pt.slots] at X' l1 y1 z1 st hQ
  subst l1 y1 z1
  exact ⟨T', v, Lc, X', hQ, st⟩
theorem callI (X : Stand p l e R s m args below meth c T locs cells slots) (hx : p.tables.exec = Jvm.exec) (hZ : Z.Warmed39 s.vm) (hown : s.vm.findClass own = some m.cls) (hy1 : y.name = "<init>")
    (w1 : (Cond.methodLink own index y).before a0 Z = true) (w2 : (Cond.instanceMethod y).before a0 Z = true) (w3 : (Cond.initialized y.cls).before a0 Z = true) (w4 : (Cond.code y bytes maxL none).before a0 Z = true)
    (hy : y.cls ≠ "java/lang/invoke/MethodHandle" ∧ y.cls ≠ "java/lang/invoke/VarHandle") (e0 : T.heap = h)
    (hM : MetFree l y (head1 [Cond.code y bytes maxL none] rm) (fun q U => q = (.ref a :: argsL).toArray ∧ Z.Warmed39 U.vm ∧ U.heap = h) (fun _ _ _ _ _ => True) (fun _ U o U' => ∃ v L, o = .returned v ∧ Qc v U'.heap L ∧ FrameEnd U o U' L rm.cells rm.slots))
    (hf : rm.frames + 1 ≤ R.frames) (hl : W + (maxL + 11) + rm.locals ≤ R.locals) (hcells : cells + rm.cells ≤ R.cells) (hslots : slots + rm.slots ≤ R.slots)
    (hg : g.method = m) (hsize : g.locals.size = c.maxLocals) (hlen : ∀ sig, parseMethodDescriptor y.desc = some sig → argsL.length = sig.parameters.length)
    (hstack : g.stack = argsL.reverse ++ .ref a :: rest) (hW : 2 * g.monitorRoom + (rest.map fun v => v.category).sum ≤ W) (hdg : decode c.code g.pc = .ok (.invokespecial index, 3)) :
    ∃ (T' : State) (v : Option Value) (L : List Loc), Stand p l e R s m args below meth c T' (locs ++ L) (cells + rm.cells) (slots + rm.slots) ∧ Qc v T'.heap L ∧
      ∀ t, Steps p.tables e below (T'.setTop { g with pc := g.pc + 3, stack := v.toList ++ rest }) t → Steps p.tables e below (T.setTop g) t := by
  obtain ⟨v, _, ⟨T', L', k', n'⟩, -, X', ⟨Lc, hQ, l1, y1, z1⟩, st⟩ := X.specialBack hx (y := y) hy1 hown (mvT hZ w1) (mvT hZ w2) (mvT hZ w4) hy (backOf (W := W) hM hZ w4 w3 hf hl) hg hsize (Steps.refl _) hlen hstack hW hdg (fun _ _ => ⟨rfl, e0, hcells, hslots⟩)
  dsimp only [Pt.U, Pt.locs, Pt.cells, Pt.slots] at X' l1 y1 z1 st hQ
  subst l1 y1 z1
  exact ⟨T', v, Lc, X', hQ, fun t k => st.trans k⟩
theorem callV (X : Stand p l e R s m args below meth c T locs cells slots) (hx : p.tables.exec = Jvm.exec) (hZ : Z.Warmed39 s.vm) (hown : s.vm.findClass own = some m.cls)
    (w1 : (Cond.methodLink own index y).before a0 Z = true) (w5 : (Cond.declares y).before a0 Z = true) (w6 : (Cond.selects Cn y y).before a0 Z = true) (w2 : (Cond.instanceMethod y).before a0 Z = true) (w3 : (Cond.initialized y.cls).before a0 Z = true) (w4 : (Cond.code y bytes maxL ret).before a0 Z = true)
    (hy : y.cls ≠ "java/lang/invoke/MethodHandle" ∧ y.cls ≠ "java/lang/invoke/VarHandle") (e0 : T.heap = h) (E : Exa Z h a Cn)
    (hM : MetFree l y (head1 [Cond.code y bytes maxL ret] rm) (fun q U => q = (.ref a :: argsL).toArray ∧ Z.Warmed39 U.vm ∧ U.heap = h) (fun _ _ _ _ _ => True) (fun _ U o U' => ∃ v L, o = .returned v ∧ Qc v U'.heap L ∧ FrameEnd U o U' L rm.cells rm.slots))
    (hf : rm.frames + 1 ≤ R.frames) (hl : W + (maxL + 11) + rm.locals ≤ R.locals) (hcells : cells + rm.cells ≤ R.cells) (hslots : slots + rm.slots ≤ R.slots)
    (hg : g.method = m) (hsize : g.locals.size = c.maxLocals) (hlen : ∀ sig, parseMethodDescriptor y.desc = some sig → argsL.length = sig.parameters.length)
    (hstack : g.stack = argsL.reverse ++ .ref a :: rest) (hW : 2 * g.monitorRoom + (rest.map fun v => v.category).sum ≤ W) (hdg : decode c.code g.pc = .ok (.invokevirtual index, 3)) :
    ∃ (T' : State) (v : Option Value) (L : List Loc), Stand p l e R s m args below meth c T' (locs ++ L) (cells + rm.cells) (slots + rm.slots) ∧ Qc v T'.heap L ∧
      ∀ t, Steps p.tables e below (T'.setTop { g with pc := g.pc + 3, stack := v.toList ++ rest }) t → Steps p.tables e below (T.setTop g) t := by
  obtain ⟨cq, kq, q1, q2, q3⟩ := isOf hZ e0 E
  obtain ⟨v, _, ⟨T', L', k', n'⟩, -, X', ⟨Lc, hQ, l1, y1, z1⟩, st⟩ := X.virtualBack hx (y := y) (z := y) hown (mvT hZ w1) (mvT hZ w5) (notFace_of_selects (args := #[]) (mvT hZ w6)) (mvT hZ w6) (mvT hZ w2) hy (backOf (W := W) hM hZ w4 w3 hf hl) q1 q3 hg hsize (Steps.refl _) hlen hstack hW hdg (fun _ _ => ⟨rfl, e0, hcells, hslots⟩)
  dsimp only [Pt.U, Pt.locs, Pt.cells, Pt.slots] at X' l1 y1 z1 st hQ
  subst l1 y1 z1
  exact ⟨T', v, Lc, X', hQ, fun t k => st.trans k⟩
/-! arrays, as functions of the place -/
def AvI (Z : State) (h : Heap) (a : Addr) (ty : FieldType) (n : Nat) (f : Nat → Int32) : Prop := ∃ c : Cell, Arr Z h a c ty ∧ c.slots.size = n ∧ n < 2 ^ 31 ∧ ∀ i, i < n → c.slots[i]? = some (.int (f i))
def AvJ (Z : State) (h : Heap) (a : Addr) (n : Nat) (f : Nat → Int64) : Prop := ∃ c : Cell, Arr Z h a c .long ∧ c.slots.size = n ∧ n < 2 ^ 31 ∧ ∀ i, i < n → c.slots[i]? = some (.long (f i))
variable {h' : Heap} {ty : FieldType} {n : Nat} {f f' : Nat → Int32} {fj fj' : Nat → Int64} {j x : Int32} {xl : Int64} {b : Addr} {sl : Nat} {v : Value} {ws : List Addr}
theorem clamp (hj : 0 ≤ j.toInt ∧ j.toInt < n) : j.toNatClampNeg = j.toInt.toNat ∧ ¬ j < 0 := by
  refine ⟨rfl, ?_⟩
  rw [Int32.lt_iff_toInt_lt, Int32.toInt_zero]; omega
theorem inb {c : Cell} (S : c.slots.size = n) (hj : 0 ≤ j.toInt ∧ j.toInt < n) : ¬ (j < 0 ∨ c.slots.size ≤ j.toNatClampNeg) := by
  have q := clamp hj
  rw [q.1, S]
  intro w
  rcases w with w | w
  · exact q.2 w
  · omega
theorem AvI.lt (A : AvI Z h a ty n f) : a < h.size := by obtain ⟨c, A, -⟩ := A; exact A.lt
theorem AvJ.lt (A : AvJ Z h a n fj) : a < h.size := by obtain ⟨c, A, -⟩ := A; exact A.lt
theorem AvI.ext (A : AvI Z h a ty n f) (E : Ext h h') : AvI Z h' a ty n f := by obtain ⟨c, A, r⟩ := A; exact ⟨c, A.ext E, r⟩
theorem AvJ.ext (A : AvJ Z h a n fj) (E : Ext h h') : AvJ Z h' a n fj := by obtain ⟨c, A, r⟩ := A; exact ⟨c, A.ext E, r⟩
theorem AvI.other (A : AvI Z h b ty n f) (W : Wr h h' a sl v) (q : b ≠ a) : AvI Z h' b ty n f := by obtain ⟨c, A, r⟩ := A; exact ⟨c, A.other W q, r⟩
theorem AvJ.other (A : AvJ Z h b n fj) (W : Wr h h' a sl v) (q : b ≠ a) : AvJ Z h' b n fj := by obtain ⟨c, A, r⟩ := A; exact ⟨c, A.other W q, r⟩
theorem AvI.keep (A : AvI Z h a ty n f) (K : Keep h h' ws) (q : a ∉ ws) : AvI Z h' a ty n f := by obtain ⟨c, A, r⟩ := A; exact ⟨c, ⟨K.2.1 a c A.1 q, A.2⟩, r⟩
theorem AvJ.keep (A : AvJ Z h a n fj) (K : Keep h h' ws) (q : a ∉ ws) : AvJ Z h' a n fj := by obtain ⟨c, A, r⟩ := A; exact ⟨c, ⟨K.2.1 a c A.1 q, A.2⟩, r⟩
theorem AvI.congr (A : AvI Z h a ty n f) (q : ∀ i, i < n → f' i = f i) : AvI Z h a ty n f' := by obtain ⟨c, A, S, M, H⟩ := A; exact ⟨c, A, S, M, fun i hi => by rw [q i hi]; exact H i hi⟩
theorem AvJ.congr (A : AvJ Z h a n fj) (q : ∀ i, i < n → fj' i = fj i) : AvJ Z h a n fj' := by obtain ⟨c, A, S, M, H⟩ := A; exact ⟨c, A, S, M, fun i hi => by rw [q i hi]; exact H i hi⟩
theorem AvI.new {cA : ClassId} {z : Int32} (A : Arr Z h a (newA cA ty z) ty) (hz : z.toInt = n) (hd : defaultValue ty = .int 0) : AvI Z h a ty n (fun _ => 0) := by
  have q : z.toNatClampNeg = n := by show z.toInt.toNat = n; omega
  refine ⟨_, A, by rw [sz_new]; exact q, by have := z.toInt_lt; omega, fun i hi => ?_⟩
  simp [newA, q, hi, hd]
theorem AvJ.new {cA : ClassId} {z : Int32} (A : Arr Z h a (newA cA .long z) .long) (hz : z.toInt = n) : AvJ Z h a n (fun _ => 0) := by
  have q : z.toNatClampNeg = n := by show z.toInt.toNat = n; omega
  refine ⟨_, A, by rw [sz_new]; exact q, by have := z.toInt_lt; omega, fun i hi => ?_⟩
  simp [newA, q, hi, defaultValue]
theorem len_nat {c : Cell} (S : c.slots.size = n) (M : n < 2 ^ 31) : c.slots.size.toInt32 = Int32.ofNat n := by rw [S]
theorem lenI (X : Stand p l e R s m args below meth c T locs cells slots) (hx : p.tables.exec = Jvm.exec) (hZ : Z.Warmed39 s.vm) (e0 : T.heap = h) (A : AvI Z h a ty n f) (hg : g.method = m) (hs : g.stack = .ref a :: rest) (hd : decode c.code g.pc = .ok (.arraylength, 1)) :
    ∀ t, Steps p.tables e below (T.setTop { g with pc := g.pc + 1, stack := .int (Int32.ofNat n) :: rest }) t → Steps p.tables e below (T.setTop g) t := by
  obtain ⟨c, A, S, M, H⟩ := A
  intro t k
  refine X.arraylength hx (by rw [e0]; exact A.1) (State.isArrayOf_alike hZ.alike A.2.1) hg hs hd _ ?_
  rw [len_nat S M]; exact k
theorem lenJ (X : Stand p l e R s m args below meth c T locs cells slots) (hx : p.tables.exec = Jvm.exec) (hZ : Z.Warmed39 s.vm) (e0 : T.heap = h) (A : AvJ Z h a n fj) (hg : g.method = m) (hs : g.stack = .ref a :: rest) (hd : decode c.code g.pc = .ok (.arraylength, 1)) :
    ∀ t, Steps p.tables e below (T.setTop { g with pc := g.pc + 1, stack := .int (Int32.ofNat n) :: rest }) t → Steps p.tables e below (T.setTop g) t := by
  obtain ⟨c, A, S, M, H⟩ := A
  intro t k
  refine X.arraylength hx (by rw [e0]; exact A.1) (State.isArrayOf_alike hZ.alike A.2.1) hg hs hd _ ?_
  rw [len_nat S M]; exact k
theorem ldI (X : Stand p l e R s m args below meth c T locs cells slots) (hx : p.tables.exec = Jvm.exec) (hZ : Z.Warmed39 s.vm) (e0 : T.heap = h) (A : AvI Z h a .int n f) (hj : 0 ≤ j.toInt ∧ j.toInt < n) (hg : g.method = m) (hs : g.stack = .int j :: .ref a :: rest) (hd : decode c.code g.pc = .ok (.iaload, 1)) :
    ∀ t, Steps p.tables e below (T.setTop { g with pc := g.pc + 1, stack := .int (f j.toInt.toNat) :: rest }) t → Steps p.tables e below (T.setTop g) t := by
  obtain ⟨c, A, S, M, H⟩ := A
  exact fun t k => X.iaload hx (by rw [e0]; exact A.1) (State.isArrayOf_alike hZ.alike A.2.1) A.2.2 (inb S hj) (by rw [(clamp hj).1]; exact H _ (by omega)) hg hs hd _ k
theorem ldJ (X : Stand p l e R s m args below meth c T locs cells slots) (hx : p.tables.exec = Jvm.exec) (hZ : Z.Warmed39 s.vm) (e0 : T.heap = h) (A : AvJ Z h a n fj) (hj : 0 ≤ j.toInt ∧ j.toInt < n) (hg : g.method = m) (hs : g.stack = .int j :: .ref a :: rest) (hd : decode c.code g.pc = .ok (.laload, 1)) :
    ∀ t, Steps p.tables e below (T.setTop { g with pc := g.pc + 1, stack := .long (fj j.toInt.toNat) :: rest }) t → Steps p.tables e below (T.setTop g) t := by
  obtain ⟨c, A, S, M, H⟩ := A
  exact fun t k => X.laload hx (by rw [e0]; exact A.1) (State.isArrayOf_alike hZ.alike A.2.1) A.2.2 (inb S hj) (by rw [(clamp hj).1]; exact H _ (by omega)) hg hs hd _ k
theorem ldB (X : Stand p l e R s m args below meth c T locs cells slots) (hx : p.tables.exec = Jvm.exec) (hZ : Z.Warmed39 s.vm) (e0 : T.heap = h) (A : AvI Z h a .byte n f) (hj : 0 ≤ j.toInt ∧ j.toInt < n) (hg : g.method = m) (hs : g.stack = .int j :: .ref a :: rest) (hd : decode c.code g.pc = .ok (.baload, 1)) :
    ∀ t, Steps p.tables e below (T.setTop { g with pc := g.pc + 1, stack := .int (f j.toInt.toNat) :: rest }) t → Steps p.tables e below (T.setTop g) t := by
  obtain ⟨c, A, S, M, H⟩ := A
  exact fun t k => X.baloadBytes hx (by rw [e0]; exact A.1) (State.isArrayOf_alike hZ.alike A.2.1) A.2.2 (inb S hj) (by rw [(clamp hj).1]; exact H _ (by omega)) hg hs hd _ k
theorem AvI.set (A : AvI Z h a ty n f) (hj : 0 ≤ j.toInt ∧ j.toInt < n) (W : Wr h h' a j.toNatClampNeg (.int x)) : AvI Z h' a ty n (fun i => if i = j.toInt.toNat then x else f i) := by
  obtain ⟨c, A, S, M, H⟩ := A
  refine ⟨_, A.same W, by rw [sz_set]; exact S, M, fun i hi => ?_⟩
  rw [(clamp hj).1]
  by_cases q : i = j.toInt.toNat
  · subst q
    simp only [Cell.setSlot, if_true]
    show (c.slots.setIfInBounds j.toInt.toNat _)[j.toInt.toNat]? = _
    rw [Array.getElem?_setIfInBounds, if_pos rfl, if_pos (by rw [S]; exact hi)]
  · simp only [Cell.setSlot, q, if_false]
    rw [Array.getElem?_setIfInBounds_ne (Ne.symm q)]; exact H i hi
theorem AvJ.set (A : AvJ Z h a n fj) (hj : 0 ≤ j.toInt ∧ j.toInt < n) (W : Wr h h' a j.toNatClampNeg (.long xl)) : AvJ Z h' a n (fun i => if i = j.toInt.toNat then xl else fj i) := by
  obtain ⟨c, A, S, M, H⟩ := A
  refine ⟨_, A.same W, by rw [sz_set]; exact S, M, fun i hi => ?_⟩
  rw [(clamp hj).1]
  by_cases q : i = j.toInt.toNat
  · subst q
    simp only [Cell.setSlot, if_true]
    show (c.slots.setIfInBounds j.toInt.toNat _)[j.toInt.toNat]? = _
    rw [Array.getElem?_setIfInBounds, if_pos rfl, if_pos (by rw [S]; exact hi)]
  · simp only [Cell.setSlot, q, if_false]
    rw [Array.getElem?_setIfInBounds_ne (Ne.symm q)]; exact H i hi
theorem stoI (X : Stand p l e R s m args below meth c T locs cells slots) (hx : p.tables.exec = Jvm.exec) (hZ : Z.Warmed39 s.vm) (e0 : T.heap = h) (A : AvI Z h a .int n f) (hj : 0 ≤ j.toInt ∧ j.toInt < n) (hg : g.method = m) (hs : g.stack = .int x :: .int j :: .ref a :: rest) (hd : decode c.code g.pc = .ok (.iastore, 1)) :
    ∃ T' h', Stand p l e R s m args below meth c T' (locs ++ [⟨a, j.toNatClampNeg⟩]) cells slots ∧ T'.heap = h' ∧ AvI Z h' a .int n (fun i => if i = j.toInt.toNat then x else f i) ∧ Wr h h' a j.toNatClampNeg (.int x) ∧ ∀ t, Steps p.tables e below (T'.setTop { g with pc := g.pc + 1, stack := rest }) t → Steps p.tables e below (T.setTop g) t := by
  obtain ⟨c, A', S, M, H⟩ := id A
  obtain ⟨T', h', X', e', W, st⟩ := stI X hx hZ e0 A' (inb S hj) hg hs hd
  exact ⟨T', h', X', e', A.set hj W, W, st⟩
theorem stoJ (X : Stand p l e R s m args below meth c T locs cells slots) (hx : p.tables.exec = Jvm.exec) (hZ : Z.Warmed39 s.vm) (e0 : T.heap = h) (A : AvJ Z h a n fj) (hj : 0 ≤ j.toInt ∧ j.toInt < n) (hg : g.method = m) (hs : g.stack = .long xl :: .int j :: .ref a :: rest) (hd : decode c.code g.pc = .ok (.lastore, 1)) :
    ∃ T' h', Stand p l e R s m args below meth c T' (locs ++ [⟨a, j.toNatClampNeg⟩]) cells slots ∧ T'.heap = h' ∧ AvJ Z h' a n (fun i => if i = j.toInt.toNat then xl else fj i) ∧ Wr h h' a j.toNatClampNeg (.long xl) ∧ ∀ t, Steps p.tables e below (T'.setTop { g with pc := g.pc + 1, stack := rest }) t → Steps p.tables e below (T.setTop g) t := by
  obtain ⟨c, A', S, M, H⟩ := id A
  obtain ⟨T', h', X', e', W, st⟩ := stJ X hx hZ e0 A' (inb S hj) hg hs hd
  exact ⟨T', h', X', e', A.set hj W, W, st⟩
theorem stoB (X : Stand p l e R s m args below meth c T locs cells slots) (hx : p.tables.exec = Jvm.exec) (hZ : Z.Warmed39 s.vm) (e0 : T.heap = h) (A : AvI Z h a .byte n f) (hj : 0 ≤ j.toInt ∧ j.toInt < n) (hg : g.method = m) (hs : g.stack = .int x :: .int j :: .ref a :: rest) (hd : decode c.code g.pc = .ok (.bastore, 1)) :
    ∃ T' h', Stand p l e R s m args below meth c T' (locs ++ [⟨a, j.toNatClampNeg⟩]) cells slots ∧ T'.heap = h' ∧ AvI Z h' a .byte n (fun i => if i = j.toInt.toNat then nar .byte x else f i) ∧ Wr h h' a j.toNatClampNeg (.int (nar .byte x)) ∧ ∀ t, Steps p.tables e below (T'.setTop { g with pc := g.pc + 1, stack := rest }) t → Steps p.tables e below (T.setTop g) t := by
  obtain ⟨c, A', S, M, H⟩ := id A
  obtain ⟨T', h', X', e', W, st⟩ := stB X hx hZ e0 A' (inb S hj) hg hs hd
  exact ⟨T', h', X', e', A.set hj W, W, st⟩
theorem stoZ (X : Stand p l e R s m args below meth c T locs cells slots) (hx : p.tables.exec = Jvm.exec) (hZ : Z.Warmed39 s.vm) (e0 : T.heap = h) (A : AvI Z h a .boolean n f) (hj : 0 ≤ j.toInt ∧ j.toInt < n) (hg : g.method = m) (hs : g.stack = .int x :: .int j :: .ref a :: rest) (hd : decode c.code g.pc = .ok (.bastore, 1)) :
    ∃ T' h', Stand p l e R s m args below meth c T' (locs ++ [⟨a, j.toNatClampNeg⟩]) cells slots ∧ T'.heap = h' ∧ AvI Z h' a .boolean n (fun i => if i = j.toInt.toNat then nar .boolean x else f i) ∧ Wr h h' a j.toNatClampNeg (.int (nar .boolean x)) ∧ ∀ t, Steps p.tables e below (T'.setTop { g with pc := g.pc + 1, stack := rest }) t → Steps p.tables e below (T.setTop g) t := by
  obtain ⟨c, A', S, M, H⟩ := id A
  obtain ⟨T', h', X', e', W, st⟩ := stZ X hx hZ e0 A' (inb S hj) hg hs hd
  exact ⟨T', h', X', e', A.set hj W, W, st⟩
theorem snoc {k : Nat} (N : Fr k locs) (q : k ≤ a) : Fr k (locs ++ [⟨a, sl⟩]) := N.app fun y hy => by cases List.mem_singleton.mp hy; exact q
theorem nmI {v x : Int32} {pc : Nat} {ls : Array Slot} {st : List Value} {t : State} (q : v = x) (k : Steps p.tables e below (T.setTop (mkF m pc ls (.int v :: st))) t) : Steps p.tables e below (T.setTop (mkF m pc ls (.int x :: st))) t := by subst q; exact k
theorem nmJ {v x : Int64} {pc : Nat} {ls : Array Slot} {st : List Value} {t : State} (q : v = x) (k : Steps p.tables e below (T.setTop (mkF m pc ls (.long v :: st))) t) : Steps p.tables e below (T.setTop (mkF m pc ls (.long x :: st))) t := by subst q; exact k
theorem ne_of {x y : Nat} (q : @Ne Nat x y) : @Ne Addr x y := q
theorem ldZ (X : Stand p l e R s m args below meth c T locs cells slots) (hx : p.tables.exec = Jvm.exec) (hZ : Z.Warmed39 s.vm) (e0 : T.heap = h) (A : AvI Z h a .boolean n f) (hj : 0 ≤ j.toInt ∧ j.toInt < n) (hg : g.method = m) (hs : g.stack = .int j :: .ref a :: rest) (hd : decode c.code g.pc = .ok (.baload, 1)) :
    ∀ t, Steps p.tables e below (T.setTop { g with pc := g.pc + 1, stack := .int (f j.toInt.toNat) :: rest }) t → Steps p.tables e below (T.setTop g) t := by
  obtain ⟨c, A, S, M, H⟩ := A
  exact fun t k => X.baloadBooleans hx (by rw [e0]; exact A.1) (State.isArrayOf_alike hZ.alike A.2.1) A.2.2 (inb S hj) (by rw [(clamp hj).1]; exact H _ (by omega)) hg hs hd _ k
theorem lrem_eq (x y : Int64) : x - x / y * y = x % y := by
  apply Int64.toInt_inj.mp
  have hy := Int64.toInt_mod x y
  have q := Int64.toInt_div x y
  rw [hy, Int64.toInt_sub, Int64.toInt_mul, q]
  have h1 := Int.tmod_add_mul_tdiv x.toInt y.toInt
  have h2 : x.toInt.tmod y.toInt = x.toInt - x.toInt.tdiv y.toInt * y.toInt := by rw [Int.mul_comm]; omega
  have h3 := rng64 x
  have h4 := rng64 y
  have h5 : (x.toInt.tmod y.toInt) % (2 ^ 64) = (x.toInt - x.toInt.tdiv y.toInt * y.toInt) % (2 ^ 64) := by rw [h2]
  have h6 : -2 ^ 63 ≤ x.toInt.tmod y.toInt ∧ x.toInt.tmod y.toInt < 2 ^ 63 := by rw [← hy]; exact ⟨(x % y).le_toInt, (x % y).toInt_lt⟩
  rw [← Int.bmod_eq_of_le (n := x.toInt.tmod y.toInt) (m := 2 ^ 64) (by omega) (by omega), h2]
  simp only [Int.bmod_sub_bmod, Int.sub_bmod_bmod, Int.bmod_mul_bmod, Int.mul_bmod_bmod]
theorem lremM {t : State} (X : Stand p l e R s m args below meth c T locs cells slots) (hx : p.tables.exec = Jvm.exec) (hg : g.method = m) {x y : Int64} (hd : decode c.code g.pc = .ok (.lrem, 1)) (hs : g.stack = .long y :: .long x :: rest) (hy : y ≠ 0)
    (hr : Steps p.tables e below (T.setTop { g with pc := g.pc + 1, stack := .long (x % y) :: rest }) t) : Steps p.tables e below (T.setTop g) t :=
  XS.lrem X.here hx hg hd hs hy (by rw [lrem_eq]; exact hr)
/-- a boolean as an int -/
def b2i (b : Bool) : Int32 := if b then 1 else 0
theorem b2i_t : b2i true = 1 := rfl
theorem b2i_f : b2i false = 0 := rfl
theorem b2i_nar (b : Bool) : nar .boolean (b2i b) = b2i b := by cases b <;> decide
theorem b2i_eq0 {b : Bool} : b2i b = 0 ↔ ¬ b = true := by cases b <;> decide
theorem b2i_inj {b b' : Bool} : b2i b = b2i b' ↔ b = b' := by cases b <;> cases b' <;> decide
end Kit
end Jvm.Own
namespace Jvm.Pilot.@@N@@
open Jvm Jvm.ClassFile Sem Op Lib Jvm.Free Jvm.Stand Jvm.LawKit Jvm.RoadKit Bundle Jvm.Pilot.@@N@@.Jvm.D
theorem own_eq {a b : Int32} : a = b ↔ a.toInt = b.toInt := Int32.toInt_inj.symm
theorem own_lt {a b : Int32} : a < b ↔ a.toInt < b.toInt := Int32.lt_iff_toInt_lt
theorem own_k1 : (1 : Int32).toInt = 1 := by decide
theorem own_k0 : (0 : Int32).toInt = 0 := by decide
def own_kb (kb : Nat → Int32) : Nat → Bool := fun i => decide (¬ kb i = 0)
theorem own_kbT {kb : Nat → Int32} {i : Nat} (h : ¬ kb i = 0) : own_kb kb i = true := decide_eq_true h
theorem own_kbF {kb : Nat → Int32} {i : Nat} (h : kb i = 0) : ¬ own_kb kb i = true := fun z => absurd h (of_decide_eq_true (p := ¬ kb i = 0) z)
def own_c (gr : Nat → Int32) (kp : Nat → Bool) : Nat → Nat → Int32
  | 0 => fun _ => 0
  | i + 1 => fun k => if kp i = true ∧ k = (gr i).toInt.toNat + 1 then own_c gr kp i k + 1 else own_c gr kp i k
def own_s (c : Nat → Int32) : Nat → Nat → Int32
  | 0 => c
  | i + 1 => fun k => if k = i + 1 then own_s c i (i + 1) + own_s c i i else own_s c i k
def own_sum (c : Nat → Int32) : Nat → Int32
  | 0 => c 0
  | g + 1 => own_sum c g + c (g + 1)
def own_t (f : Nat → Int32) (kp : Nat → Bool) : Nat → Nat → Int32
  | 0, _ => 0
  | n + 1, g => own_t f kp n g + (if kp n = true ∧ (f n).toInt.toNat + 1 ≤ g then 1 else 0)
def own_bl (f : Nat → Int32) (kp : Nat → Bool) (N : Nat) (e g : Int32) : Int32 := if e < Int32.ofNat N then (if kp e.toInt.toNat = true then (if f e.toInt.toNat < g then 1 else 0) else 0) else 0
def own_ck (fr : Nat → Int32) (R : Nat) (f : Nat → Int32) (kp : Nat → Bool) (N : Nat) (g : Int32) : Bool := decide (¬ g < Int32.ofNat R ∨ fr g.toInt.toNat = own_bl f kp N 0 g + own_bl f kp N 1 g + own_bl f kp N 2 g + own_bl f kp N 3 g)
theorem own_oi {i : Nat} (h : i ≤ 5) : (Int32.ofNat i).toInt = i := Int32.toInt_ofNat_of_lt (by omega)
theorem own_ol {i N : Nat} (h : i ≤ 5) (h' : N ≤ 5) : Int32.ofNat i < Int32.ofNat N ↔ i < N := by rw [own_lt, own_oi h, own_oi h']; omega
theorem own_nn {z : Int32} {k : Nat} (h : z.toInt = k) : ¬ z < 0 := by rw [own_lt, h, own_k0]; omega
theorem own_cl {z : Int32} {k c : Nat} (h : z.toInt = k) (hk : k ≤ c) : z.toNatClampNeg ≤ c := by show z.toInt.toNat ≤ c; omega
theorem own_p1 {x : Int32} {G : Nat} (h : x.toInt = G) (h4 : G ≤ 5) : (x + 1).toInt = ((G + 1 : Nat) : Int) := by
  rw [Jvm.Kit.i32_add, h, own_k1] <;> (try rw [h, own_k1]) <;> omega
theorem own_ix {i : Nat} (h : i ≤ 5) : (Int32.ofNat i).toInt.toNat = i := by rw [own_oi h]; rfl
theorem own_ix1 {i : Nat} (h : i ≤ 4) : (Int32.ofNat i + 1).toInt = ((i + 1 : Nat) : Int) := own_p1 (own_oi (by omega)) (by omega)
theorem own_J {x : Int32} {G : Nat} (h : 0 ≤ x.toInt ∧ x.toInt < G) (hG : G ≤ 4) : (x + 1).toInt = x.toInt + 1 := by
  rw [Jvm.Kit.i32_add, own_k1] <;> (try rw [own_k1]) <;> omega
theorem own_cs1 {f : Nat → Int32} {kp : Nat → Bool} {i G : Nat} (hi : i ≤ 5) (hf : 0 ≤ (f i).toInt ∧ (f i).toInt < G) (hG : G ≤ 4) (hk : kp i = true) (k : Nat) :
    own_c f kp (i + 1) k = (fun ii => if ii = (f (Int32.ofNat i).toInt.toNat + 1).toInt.toNat then own_c f kp i (f (Int32.ofNat i).toInt.toNat + 1).toInt.toNat + 1 else own_c f kp i ii) k := by
  have e : (f (Int32.ofNat i).toInt.toNat + 1).toInt.toNat = (f i).toInt.toNat + 1 := by rw [own_ix hi, own_J hf hG]; omega
  show (if kp i = true ∧ k = (f i).toInt.toNat + 1 then own_c f kp i k + 1 else own_c f kp i k) = if k = (f (Int32.ofNat i).toInt.toNat + 1).toInt.toNat then own_c f kp i (f (Int32.ofNat i).toInt.toNat + 1).toInt.toNat + 1 else own_c f kp i k
  rw [e]
  by_cases q : k = (f i).toInt.toNat + 1
  · rw [if_pos ⟨hk, q⟩, if_pos q, q]
  · rw [if_neg (fun z => q z.2), if_neg q]
theorem own_cs0 {f : Nat → Int32} {kp : Nat → Bool} {i : Nat} (hk : ¬ kp i = true) (k : Nat) : own_c f kp (i + 1) k = own_c f kp i k := if_neg (fun z => hk z.1)
theorem own_ss {c : Nat → Int32} {i : Nat} (hi : i ≤ 4) (k : Nat) : own_s c (i + 1) k = (fun ii => if ii = (Int32.ofNat i + 1).toInt.toNat then own_s c i (Int32.ofNat i + 1).toInt.toNat + own_s c i (Int32.ofNat i).toInt.toNat else own_s c i ii) k := by
  have e : (Int32.ofNat i + 1).toInt.toNat = i + 1 := by rw [own_ix1 hi]; rfl
  show _ = if k = (Int32.ofNat i + 1).toInt.toNat then own_s c i (Int32.ofNat i + 1).toInt.toNat + own_s c i (Int32.ofNat i).toInt.toNat else own_s c i k
  rw [e, own_ix (by omega)]; rfl
theorem own_ssum (c : Nat → Int32) : ∀ m k, own_s c m k = if k ≤ m then own_sum c k else c k := by
  intro m
  induction m with
  | zero => intro k; by_cases q : k ≤ 0
            · rw [if_pos q, show k = 0 by omega]; rfl
            · rw [if_neg q]; rfl
  | succ m ih =>
    intro k
    show (if k = m + 1 then own_s c m (m + 1) + own_s c m m else own_s c m k) = _
    by_cases q : k = m + 1
    · rw [if_pos q, if_pos (by omega), ih, ih, if_neg (by omega), if_pos (Nat.le_refl _), q, Int32.add_comm]; rfl
    · rw [if_neg q, ih]
      by_cases q' : k ≤ m
      · rw [if_pos q', if_pos (by omega)]
      · rw [if_neg q', if_neg (by omega)]
theorem own_sumu (c : Nat → Int32) (P : Prop) [Decidable P] (J : Nat) : ∀ g, own_sum (fun k => if P ∧ k = J then c k + 1 else c k) g = own_sum c g + (if P ∧ J ≤ g then 1 else 0) := by
  intro g
  induction g with
  | zero =>
    show (if P ∧ 0 = J then c 0 + 1 else c 0) = c 0 + _
    by_cases q : P ∧ 0 = J
    · rw [if_pos q, if_pos ⟨q.1, by omega⟩]
    · rw [if_neg q, if_neg (fun z => q ⟨z.1, by omega⟩), Int32.add_zero]
  | succ g ih =>
    show own_sum _ g + (if P ∧ g + 1 = J then c (g + 1) + 1 else c (g + 1)) = own_sum c g + c (g + 1) + _
    rw [ih]
    by_cases q : P ∧ g + 1 = J
    · rw [if_pos q, if_neg (show ¬ (P ∧ J ≤ g) from fun z => by have := z.2; have := q.2; omega), if_pos (show P ∧ J ≤ g + 1 from ⟨q.1, by omega⟩), Int32.add_zero, Int32.add_assoc]
    · rw [if_neg q]
      by_cases q' : P ∧ J ≤ g
      · rw [if_pos q', if_pos (show P ∧ J ≤ g + 1 from ⟨q'.1, by omega⟩), Int32.add_assoc, Int32.add_assoc, Int32.add_comm 1]
      · rw [if_neg q', if_neg (show ¬ (P ∧ J ≤ g + 1) from fun z => if w : J ≤ g then q' ⟨z.1, w⟩ else q ⟨z.1, by omega⟩), Int32.add_zero, Int32.add_zero]
theorem own_sum0 : ∀ g, own_sum (fun _ => 0) g = 0 := by
  intro g; induction g with
  | zero => rfl
  | succ g ih => rw [own_sum, ih]; rfl
theorem own_ct (f : Nat → Int32) (kp : Nat → Bool) : ∀ n g, own_sum (own_c f kp n) g = own_t f kp n g := by
  intro n
  induction n with
  | zero => intro g; exact own_sum0 g
  | succ n ih => intro g; show own_sum (fun k => if kp n = true ∧ k = (f n).toInt.toNat + 1 then own_c f kp n k + 1 else own_c f kp n k) g = _; rw [own_sumu, ih]; rfl
theorem own_blT {f : Nat → Int32} {kp : Nat → Bool} {N G : Nat} (hf : ∀ i, i < N → 0 ≤ (f i).toInt ∧ (f i).toInt < G) (hN : N ≤ 4) {e g : Int32} {i : Nat} (he : e.toInt = i) (hi : i < N) (hg : 0 ≤ g.toInt) : own_bl f kp N e g = if kp i = true ∧ (f i).toInt.toNat + 1 ≤ g.toInt.toNat then 1 else 0 := by
  have e1 : e.toInt.toNat = i := by omega
  have b := hf i hi
  have h1 : e < Int32.ofNat N := by rw [own_lt, own_oi (by omega)]; omega
  unfold own_bl
  rw [if_pos h1, e1]
  by_cases q : kp i = true
  · rw [if_pos q]
    by_cases w : f i < g
    · rw [if_pos w, if_pos ⟨q, by rw [own_lt] at w; omega⟩]
    · rw [if_neg w, if_neg (fun z => w (by rw [own_lt]; omega))]
  · rw [if_neg q, if_neg (fun z => q z.1)]
theorem own_bl0 {f : Nat → Int32} {kp : Nat → Bool} {e g : Int32} (he : 0 ≤ e.toInt) : own_bl f kp 0 e g = 0 := if_neg (by rw [own_lt, own_oi (by omega)]; omega)
theorem own_main {f : Nat → Int32} {kp : Nat → Bool} {N G : Nat} (hf : ∀ i, i < N → 0 ≤ (f i).toInt ∧ (f i).toInt < G) (hN : N = 0 ∨ N = 4) (hG : G ≤ 4) {g : Int32} (hg : 0 ≤ g.toInt) : own_ck (own_s (own_c f kp N) G) (G + 1) f kp N g = true := by
  refine decide_eq_true ?_
  by_cases q : g < Int32.ofNat (G + 1)
  · right
    rw [own_lt, own_oi (by omega)] at q
    rw [own_ssum, if_pos (by omega), own_ct]
    rcases hN with rfl | rfl
    · rw [own_bl0 (by decide), own_bl0 (by decide), own_bl0 (by decide), own_bl0 (by decide)]; rfl
    · rw [own_blT hf (by omega) (i := 0) (by decide) (by omega) hg, own_blT hf (by omega) (i := 1) (by decide) (by omega) hg, own_blT hf (by omega) (i := 2) (by decide) (by omega) hg, own_blT hf (by omega) (i := 3) (by decide) (by omega) hg]
      show ((((0 : Int32) + _) + _) + _) + _ = _
      rw [Int32.zero_add]
  · exact Or.inl q
theorem own_rem {x n : Int32} {G : Nat} (hn : n.toInt = G) (h1 : 1 ≤ G) : 0 ≤ ((x &&& 2147483647) % n).toInt ∧ ((x &&& 2147483647) % n).toInt < G := by
  have hm : (x &&& 2147483647).toInt = x.toInt % 2 ^ 31 := Jvm.Kit.i32_mask x 2147483647 (k := 31) (by decide) (by decide)
  rw [Jvm.Kit.i32_rem_nonneg (by omega), hn]
  exact ⟨Int.emod_nonneg _ (by omega), Int.emod_lt_of_pos _ (by omega)⟩
theorem own_nz {n : Int32} {G : Nat} (hn : n.toInt = G) (h1 : 1 ≤ G) : n ≠ 0 := fun q => by rw [q, own_k0] at hn; omega
theorem own_g0 {v x : Int32} (h : v = x &&& 3) : ∃ G : Nat, v.toInt = G ∧ G ≤ 4 := by
  have e : (x &&& 3).toInt = x.toInt % 2 ^ 2 := Jvm.Kit.i32_mask x 3 (k := 2) (by decide) (by decide)
  rw [← h] at e
  exact ⟨v.toInt.toNat, by omega, by omega⟩
theorem own_g1 {v x : Int32} (h : v = (x &&& 3) + 1) : ∃ G : Nat, v.toInt = G ∧ G ≤ 4 ∧ 1 ≤ G := by
  have e : (x &&& 3).toInt = x.toInt % 2 ^ 2 := Jvm.Kit.i32_mask x 3 (k := 2) (by decide) (by decide)
  have e2 : v.toInt = x.toInt % 2 ^ 2 + 1 := by rw [h, Jvm.Kit.i32_add, e, own_k1] <;> (try rw [e, own_k1]) <;> omega
  exact ⟨v.toInt.toNat, by omega, by omega, by omega⟩
theorem d1_0 : decode prog_43_method_3_code 0 = .ok (.iload_n 1, 1) := by decide +kernel
theorem d1_1 : decode prog_43_method_3_code 1 = .ok (.iconst 1, 1) := by decide +kernel
theorem d1_2 : decode prog_43_method_3_code 2 = .ok (.iadd, 1) := by decide +kernel
theorem d1_3 : decode prog_43_method_3_code 3 = .ok (.newarray .int, 2) := by decide +kernel
theorem d1_5 : decode prog_43_method_3_code 5 = .ok (.astore_n 3, 1) := by decide +kernel
theorem d1_6 : decode prog_43_method_3_code 6 = .ok (.iconst 0, 1) := by decide +kernel
theorem d1_7 : decode prog_43_method_3_code 7 = .ok (.istore 4, 2) := by decide +kernel
theorem d1_9 : decode prog_43_method_3_code 9 = .ok (.iload 4, 2) := by decide +kernel
theorem d1_11 : decode prog_43_method_3_code 11 = .ok (.aload_n 0, 1) := by decide +kernel
theorem d1_12 : decode prog_43_method_3_code 12 = .ok (.arraylength, 1) := by decide +kernel
theorem d1_13 : decode prog_43_method_3_code 13 = .ok (.if_icmp .ge 32, 3) := by decide +kernel
theorem d1_16 : decode prog_43_method_3_code 16 = .ok (.aload_n 2, 1) := by decide +kernel
theorem d1_17 : decode prog_43_method_3_code 17 = .ok (.ifnull 10, 3) := by decide +kernel
theorem d1_27 : decode prog_43_method_3_code 27 = .ok (.aload_n 3, 1) := by decide +kernel
theorem d1_28 : decode prog_43_method_3_code 28 = .ok (.aload_n 0, 1) := by decide +kernel
theorem d1_29 : decode prog_43_method_3_code 29 = .ok (.iload 4, 2) := by decide +kernel
theorem d1_31 : decode prog_43_method_3_code 31 = .ok (.iaload, 1) := by decide +kernel
theorem d1_32 : decode prog_43_method_3_code 32 = .ok (.iconst 1, 1) := by decide +kernel
theorem d1_33 : decode prog_43_method_3_code 33 = .ok (.iadd, 1) := by decide +kernel
theorem d1_34 : decode prog_43_method_3_code 34 = .ok (.dup2, 1) := by decide +kernel
theorem d1_35 : decode prog_43_method_3_code 35 = .ok (.iaload, 1) := by decide +kernel
theorem d1_36 : decode prog_43_method_3_code 36 = .ok (.iconst 1, 1) := by decide +kernel
theorem d1_37 : decode prog_43_method_3_code 37 = .ok (.iadd, 1) := by decide +kernel
theorem d1_38 : decode prog_43_method_3_code 38 = .ok (.iastore, 1) := by decide +kernel
theorem d1_39 : decode prog_43_method_3_code 39 = .ok (.iinc 4 1, 3) := by decide +kernel
theorem d1_42 : decode prog_43_method_3_code 42 = .ok (.goto (-33), 3) := by decide +kernel
theorem d1_45 : decode prog_43_method_3_code 45 = .ok (.iconst 0, 1) := by decide +kernel
theorem d1_46 : decode prog_43_method_3_code 46 = .ok (.istore 4, 2) := by decide +kernel
theorem d1_48 : decode prog_43_method_3_code 48 = .ok (.iload 4, 2) := by decide +kernel
theorem d1_50 : decode prog_43_method_3_code 50 = .ok (.iload_n 1, 1) := by decide +kernel
theorem d1_51 : decode prog_43_method_3_code 51 = .ok (.if_icmp .ge 22, 3) := by decide +kernel
theorem d1_54 : decode prog_43_method_3_code 54 = .ok (.aload_n 3, 1) := by decide +kernel
theorem d1_55 : decode prog_43_method_3_code 55 = .ok (.iload 4, 2) := by decide +kernel
theorem d1_57 : decode prog_43_method_3_code 57 = .ok (.iconst 1, 1) := by decide +kernel
theorem d1_58 : decode prog_43_method_3_code 58 = .ok (.iadd, 1) := by decide +kernel
theorem d1_59 : decode prog_43_method_3_code 59 = .ok (.dup2, 1) := by decide +kernel
theorem d1_60 : decode prog_43_method_3_code 60 = .ok (.iaload, 1) := by decide +kernel
theorem d1_61 : decode prog_43_method_3_code 61 = .ok (.aload_n 3, 1) := by decide +kernel
theorem d1_62 : decode prog_43_method_3_code 62 = .ok (.iload 4, 2) := by decide +kernel
theorem d1_64 : decode prog_43_method_3_code 64 = .ok (.iaload, 1) := by decide +kernel
theorem d1_65 : decode prog_43_method_3_code 65 = .ok (.iadd, 1) := by decide +kernel
theorem d1_66 : decode prog_43_method_3_code 66 = .ok (.iastore, 1) := by decide +kernel
theorem d1_67 : decode prog_43_method_3_code 67 = .ok (.iinc 4 1, 3) := by decide +kernel
theorem d1_70 : decode prog_43_method_3_code 70 = .ok (.goto (-22), 3) := by decide +kernel
theorem d1_73 : decode prog_43_method_3_code 73 = .ok (.aload_n 3, 1) := by decide +kernel
theorem d1_74 : decode prog_43_method_3_code 74 = .ok (.areturn, 1) := by decide +kernel
theorem pn_0 : plainName "com/example/schedulens/schedulens/Positions" = true := by first | (simp [plainName, overriddenIn]; done) | decide +kernel
theorem ef_1 (m : MethodId) (o0 : Addr) (p1 : Int32) : entryFrame m #[(.ref o0), (.int p1), .null] 5 = mkF m 0 #[.val (.ref o0), .val (.int p1), .val .null, .unset, .unset] [] := by first | (simp [entryFrame, mkF, argsToLocals, Value.category]; done) | rfl
def Q1 (Z : State) (o0 : Nat) (p1 : Int32) (N G : Nat) (f : Nat → Int32) (h0 : Heap) (n0 : Nat) (v : Option Value) (h : Heap) (L : List Loc) : Prop := ∃ b : Nat, v = some (.ref b) ∧ Fr n0 L ∧ Own.AvI Z h b .int (G + 1) (own_s (own_c f (fun _ => true) N) G) ∧ Own.AvI Z h o0 .int N f
set_option maxRecDepth 65536 in
set_option maxHeartbeats 40000000 in
theorem rm1 (l : Launch) (Z : State) (a0 : Array Value) (hw : ∀ d ∈ tables_1, d.before a0 Z = true) (ws : List Jvm.Cond) (o0 : Nat) (p1 : Int32) (N G : Nat) (f : Nat → Int32) (h0 : Heap) (n0 : Nat) (Z0 : n0 ≤ h0.size) (hN : N ≤ 4) (hG : p1.toInt = G) (hG4 : G ≤ 4) (hf : ∀ i, i < N → 0 ≤ (f i).toInt ∧ (f i).toInt < G) (A0 : Own.AvI Z h0 o0 .int N f) :
    MetFree l (⟨"com/example/schedulens/schedulens/Positions", "groupStarts", "([II[Z)[I"⟩ : MethodName) (head1 (Jvm.Cond.code (⟨"com/example/schedulens/schedulens/Positions", "groupStarts", "([II[Z)[I"⟩ : MethodName) prog_43_method_3_code 5 (some (.array .int)) :: ws) ({ frames := 0, cells := 1, slots := 5, locals := 0 } : Room)) (fun a U => a = #[(.ref o0), (.int p1), .null] ∧ Z.Warmed39 U.vm ∧ U.heap = h0) (fun _ _ _ _ _ => True) (fun _ U o U' => ∃ v L, o = .returned v ∧ Q1 Z o0 p1 N G f h0 n0 v U'.heap L ∧ FrameEnd U o U' L ({ frames := 0, cells := 1, slots := 5, locals := 0 } : Room).cells ({ frames := 0, cells := 1, slots := 5, locals := 0 } : Room).slots) := by
  refine Own.enter (Q := Q1 Z o0 p1 N G f h0 n0) (plainFor_of_name pn_0) ?_
  intro p e s m below meth c s₁ D hx hby hml hown hnm hret hZ X0 e0 hD hR
  have N0 := Fr.nil n0
  rw [show entryFrame m #[(.ref o0), (.int p1), .null] 5 = mkF m 0 #[.val (.ref o0), .val (.int p1), .val .null, .unset, .unset] [] from ef_1 m o0 p1]
  have hz := own_p1 hG (by omega)
  obtain ⟨T1, h1, k1, X1, e1, E1, A1, st1⟩ := newP X0 hx hZ (hw _ (List.mem_of_getElem? (i := 0) rfl)) e0 (g := (mkF m 3 #[.val (.ref o0), .val (.int p1), .val .null, .unset, .unset] [(.int (p1 + (1 : Int32)))])) rfl (hb hby d1_3) rfl (own_nn hz) (cap := 5) (own_cl hz (by omega)) (by decide) (by decide) (by decide)
  obtain ⟨b1, g_b1⟩ : ∃ z : Nat, z = h0.size := ⟨_, rfl⟩
  rw [← g_b1] at A1 st1
  have lt_o0_b1 : (o0 : Nat) < b1 := by rw [g_b1]; exact A0.lt
  have g0_b1 : n0 ≤ b1 := by rw [g_b1]; exact Z0
  have f2 : Own.AvI Z h1 o0 .int N f := A0.ext E1
  have f3 : Own.AvI Z h1 b1 .int (G + 1) (fun _ => 0) := Own.AvI.new A1 hz rfl
  have Z1 : n0 ≤ h1.size := Nat.le_trans Z0 E1.1
  refine hD _ (T1.setTop (mkF m 9 #[.val (.ref o0), .val (.int p1), .val .null, .val (.ref b1), .val (.int (0 : Int32))] [])) (fun t k => ?_) ?_
  · show Steps p.tables e below (s₁.setTop (mkF m 0 #[.val (.ref o0), .val (.int p1), .val .null, .unset, .unset] [])) t
    refine XS.iloadN X0.here hx rfl (hb hby d1_0) rfl ?_
    show Steps p.tables e below (s₁.setTop (mkF m 1 #[.val (.ref o0), .val (.int p1), .val .null, .unset, .unset] [(.int p1)])) t
    refine XS.iconst X0.here hx rfl (hb hby d1_1) ?_
    show Steps p.tables e below (s₁.setTop (mkF m 2 #[.val (.ref o0), .val (.int p1), .val .null, .unset, .unset] [(.int (1 : Int32)), (.int p1)])) t
    refine XS.iadd X0.here hx rfl (hb hby d1_2) rfl ?_
    show Steps p.tables e below (s₁.setTop (mkF m 3 #[.val (.ref o0), .val (.int p1), .val .null, .unset, .unset] [(.int (p1 + (1 : Int32)))])) t
    refine st1 _ ?_
    show Steps p.tables e below (T1.setTop (mkF m 5 #[.val (.ref o0), .val (.int p1), .val .null, .unset, .unset] [(.ref b1)])) t
    refine XS.astoreN X1.here hx rfl (hb hby d1_5) rfl rfl (l' := #[.val (.ref o0), .val (.int p1), .val .null, .val (.ref b1), .unset]) rfl ?_
    show Steps p.tables e below (T1.setTop (mkF m 6 #[.val (.ref o0), .val (.int p1), .val .null, .val (.ref b1), .unset] [])) t
    refine XS.iconst X1.here hx rfl (hb hby d1_6) ?_
    show Steps p.tables e below (T1.setTop (mkF m 7 #[.val (.ref o0), .val (.int p1), .val .null, .val (.ref b1), .unset] [(.int (0 : Int32))])) t
    refine XS.istore X1.here hx rfl (hb hby d1_7) rfl (l' := #[.val (.ref o0), .val (.int p1), .val .null, .val (.ref b1), .val (.int (0 : Int32))]) rfl ?_
    show Steps p.tables e below (T1.setTop (mkF m 9 #[.val (.ref o0), .val (.int p1), .val .null, .val (.ref b1), .val (.int (0 : Int32))] [])) t
    exact k
  have L9 : ∀ (k : Nat) (T4 : State) (locs4 : List Loc) (h4 : Heap) (i : Nat), Stand p l e ({ frames := 0, cells := 1, slots := 5, locals := 0 } : Room) s m #[(.ref o0), (.int p1), .null] below meth c T4 locs4 1 5 → T4.heap = h4 → Fr n0 locs4 → n0 ≤ h4.size → Own.AvI Z h4 o0 .int N f → Own.AvI Z h4 b1 .int (G + 1) (own_c f (fun _ => true) i) → i + k = N → D (T4.setTop (mkF m 9 #[.val (.ref o0), .val (.int p1), .val .null, .val (.ref b1), .val (.int (Int32.ofNat i))] [])) := by
    intro k
    induction k with
    | zero => 
      intro T4 locs4 h4 i X4 e4 N4 Z4 f5 f6 hi
      refine hD _ (T4.setTop (mkF m 13 #[.val (.ref o0), .val (.int p1), .val .null, .val (.ref b1), .val (.int (Int32.ofNat i))] [(.int (Int32.ofNat N)), (.int (Int32.ofNat i))])) (fun t k => ?_) ?_
      · show Steps p.tables e below (T4.setTop (mkF m 9 #[.val (.ref o0), .val (.int p1), .val .null, .val (.ref b1), .val (.int (Int32.ofNat i))] [])) t
        refine XS.iload X4.here hx rfl (hb hby d1_9) rfl ?_
        show Steps p.tables e below (T4.setTop (mkF m 11 #[.val (.ref o0), .val (.int p1), .val .null, .val (.ref b1), .val (.int (Int32.ofNat i))] [(.int (Int32.ofNat i))])) t
        refine XS.aloadN X4.here hx rfl (hb hby d1_11) rfl rfl ?_
        show Steps p.tables e below (T4.setTop (mkF m 12 #[.val (.ref o0), .val (.int p1), .val .null, .val (.ref b1), .val (.int (Int32.ofNat i))] [(.ref o0), (.int (Int32.ofNat i))])) t
        refine Own.lenI X4 hx hZ e4 f5 (g := (mkF m 12 #[.val (.ref o0), .val (.int p1), .val .null, .val (.ref b1), .val (.int (Int32.ofNat i))] [(.ref o0), (.int (Int32.ofNat i))])) rfl rfl (hb hby d1_12) _ ?_
        show Steps p.tables e below (T4.setTop (mkF m 13 #[.val (.ref o0), .val (.int p1), .val .null, .val (.ref b1), .val (.int (Int32.ofNat i))] [(.int (Int32.ofNat N)), (.int (Int32.ofNat i))])) t
        exact k
      have hc7 : ¬ ((Int32.ofNat i) < (Int32.ofNat N)) := by rw [own_ol (by omega) (by omega)]; omega
      refine hD _ (T4.setTop (mkF m 48 #[.val (.ref o0), .val (.int p1), .val .null, .val (.ref b1), .val (.int (0 : Int32))] [])) (fun t k => ?_) ?_
      · show Steps p.tables e below (T4.setTop (mkF m 13 #[.val (.ref o0), .val (.int p1), .val .null, .val (.ref b1), .val (.int (Int32.ofNat i))] [(.int (Int32.ofNat N)), (.int (Int32.ofNat i))])) t
        refine XS.icmpYes X4.here hx rfl (pc0 := 13) (pc' := 45) rfl (hb hby d1_13) rfl (flt hc7).2.1 (by decide) (by decide) ?_
        show Steps p.tables e below (T4.setTop (mkF m 45 #[.val (.ref o0), .val (.int p1), .val .null, .val (.ref b1), .val (.int (Int32.ofNat i))] [])) t
        refine XS.iconst X4.here hx rfl (hb hby d1_45) ?_
        show Steps p.tables e below (T4.setTop (mkF m 46 #[.val (.ref o0), .val (.int p1), .val .null, .val (.ref b1), .val (.int (Int32.ofNat i))] [(.int (0 : Int32))])) t
        refine XS.istore X4.here hx rfl (hb hby d1_46) rfl (l' := #[.val (.ref o0), .val (.int p1), .val .null, .val (.ref b1), .val (.int (0 : Int32))]) rfl ?_
        show Steps p.tables e below (T4.setTop (mkF m 48 #[.val (.ref o0), .val (.int p1), .val .null, .val (.ref b1), .val (.int (0 : Int32))] [])) t
        exact k
      have L48 : ∀ (k' : Nat) (T8 : State) (locs8 : List Loc) (h8 : Heap) (j : Nat), Stand p l e ({ frames := 0, cells := 1, slots := 5, locals := 0 } : Room) s m #[(.ref o0), (.int p1), .null] below meth c T8 locs8 1 5 → T8.heap = h8 → Fr n0 locs8 → n0 ≤ h8.size → Own.AvI Z h8 o0 .int N f → Own.AvI Z h8 b1 .int (G + 1) (own_s (own_c f (fun _ => true) N) j) → j + k' = G → D (T8.setTop (mkF m 48 #[.val (.ref o0), .val (.int p1), .val .null, .val (.ref b1), .val (.int (Int32.ofNat j))] [])) := by
        intro k'
        induction k' with
        | zero => 
          intro T8 locs8 h8 j X8 e8 N8 Z8 f9 f10 hj
          refine hD _ (T8.setTop (mkF m 51 #[.val (.ref o0), .val (.int p1), .val .null, .val (.ref b1), .val (.int (Int32.ofNat j))] [(.int p1), (.int (Int32.ofNat j))])) (fun t k => ?_) ?_
          · show Steps p.tables e below (T8.setTop (mkF m 48 #[.val (.ref o0), .val (.int p1), .val .null, .val (.ref b1), .val (.int (Int32.ofNat j))] [])) t
            refine XS.iload X8.here hx rfl (hb hby d1_48) rfl ?_
            show Steps p.tables e below (T8.setTop (mkF m 50 #[.val (.ref o0), .val (.int p1), .val .null, .val (.ref b1), .val (.int (Int32.ofNat j))] [(.int (Int32.ofNat j))])) t
            refine XS.iloadN X8.here hx rfl (hb hby d1_50) rfl ?_
            show Steps p.tables e below (T8.setTop (mkF m 51 #[.val (.ref o0), .val (.int p1), .val .null, .val (.ref b1), .val (.int (Int32.ofNat j))] [(.int p1), (.int (Int32.ofNat j))])) t
            exact k
          have hc11 : ¬ ((Int32.ofNat j) < p1) := by rw [own_lt, own_oi (by omega), hG]; omega
          refine hD _ (T8.setTop (mkF m 74 #[.val (.ref o0), .val (.int p1), .val .null, .val (.ref b1), .val (.int (Int32.ofNat j))] [(.ref b1)])) (fun t k => ?_) ?_
          · show Steps p.tables e below (T8.setTop (mkF m 51 #[.val (.ref o0), .val (.int p1), .val .null, .val (.ref b1), .val (.int (Int32.ofNat j))] [(.int p1), (.int (Int32.ofNat j))])) t
            refine XS.icmpYes X8.here hx rfl (pc0 := 51) (pc' := 73) rfl (hb hby d1_51) rfl (flt hc11).2.1 (by decide) (by decide) ?_
            show Steps p.tables e below (T8.setTop (mkF m 73 #[.val (.ref o0), .val (.int p1), .val .null, .val (.ref b1), .val (.int (Int32.ofNat j))] [])) t
            refine XS.aloadN X8.here hx rfl (hb hby d1_73) rfl rfl ?_
            show Steps p.tables e below (T8.setTop (mkF m 74 #[.val (.ref o0), .val (.int p1), .val .null, .val (.ref b1), .val (.int (Int32.ofNat j))] [(.ref b1)])) t
            exact k
          exact Own.retA hR X8 hx rfl hret rfl (hb hby d1_74) (by decide) (by decide) (by rw [e8]; exact ⟨b1, rfl, N8, (by have q := f10; rw [show j = G by omega] at q; exact q), f9⟩)
        | succ k' ih => 
          intro T8 locs8 h8 j X8 e8 N8 Z8 f9 f10 hj
          refine hD _ (T8.setTop (mkF m 51 #[.val (.ref o0), .val (.int p1), .val .null, .val (.ref b1), .val (.int (Int32.ofNat j))] [(.int p1), (.int (Int32.ofNat j))])) (fun t k => ?_) ?_
          · show Steps p.tables e below (T8.setTop (mkF m 48 #[.val (.ref o0), .val (.int p1), .val .null, .val (.ref b1), .val (.int (Int32.ofNat j))] [])) t
            refine XS.iload X8.here hx rfl (hb hby d1_48) rfl ?_
            show Steps p.tables e below (T8.setTop (mkF m 50 #[.val (.ref o0), .val (.int p1), .val .null, .val (.ref b1), .val (.int (Int32.ofNat j))] [(.int (Int32.ofNat j))])) t
            refine XS.iloadN X8.here hx rfl (hb hby d1_50) rfl ?_
            show Steps p.tables e below (T8.setTop (mkF m 51 #[.val (.ref o0), .val (.int p1), .val .null, .val (.ref b1), .val (.int (Int32.ofNat j))] [(.int p1), (.int (Int32.ofNat j))])) t
            exact k
          have hc12 : (Int32.ofNat j) < p1 := by rw [own_lt, own_oi (by omega), hG]; omega
          have hj13 : 0 ≤ ((Int32.ofNat j) + (1 : Int32)).toInt ∧ ((Int32.ofNat j) + (1 : Int32)).toInt < ((G + 1) : Nat) := by rw [own_ix1 (by omega)]; omega
          have hj14 : 0 ≤ (Int32.ofNat j).toInt ∧ (Int32.ofNat j).toInt < ((G + 1) : Nat) := by rw [own_oi (by omega)]; omega
          have hj15 : 0 ≤ ((Int32.ofNat j) + (1 : Int32)).toInt ∧ ((Int32.ofNat j) + (1 : Int32)).toInt < ((G + 1) : Nat) := by rw [own_ix1 (by omega)]; omega
          obtain ⟨T16, h16, X16, e16, A16, W16, st16⟩ := Own.stoI X8 hx hZ e8 f10 hj15 (g := (mkF m 66 #[.val (.ref o0), .val (.int p1), .val .null, .val (.ref b1), .val (.int (Int32.ofNat j))] [(.int (((own_s (own_c f (fun _ => true) N) j) ((Int32.ofNat j) + (1 : Int32)).toInt.toNat) + ((own_s (own_c f (fun _ => true) N) j) (Int32.ofNat j).toInt.toNat))), (.int ((Int32.ofNat j) + (1 : Int32))), (.ref b1)])) rfl rfl (hb hby d1_66)
          have f17 : Own.AvI Z h16 o0 .int N f := f9.other W16 (Own.ne_of (by omega))
          have N16 := Fr.snoc X16 N8 (show n0 ≤ b1 by omega)
          have Z16 : n0 ≤ h16.size := Nat.le_trans Z8 (Keep.of_wr W16).1
          obtain ⟨v18, hv18⟩ : ∃ z : Int32, z = ((Int32.ofNat j) + (1 : Int32)) := ⟨_, rfl⟩
          refine hD _ (T16.setTop (mkF m 48 #[.val (.ref o0), .val (.int p1), .val .null, .val (.ref b1), .val (.int v18)] [])) (fun t k => ?_) ?_
          · show Steps p.tables e below (T8.setTop (mkF m 51 #[.val (.ref o0), .val (.int p1), .val .null, .val (.ref b1), .val (.int (Int32.ofNat j))] [(.int p1), (.int (Int32.ofNat j))])) t
            refine XS.icmpNo X8.here hx rfl (hb hby d1_51) rfl (tlt hc12).2.1 ?_
            show Steps p.tables e below (T8.setTop (mkF m 54 #[.val (.ref o0), .val (.int p1), .val .null, .val (.ref b1), .val (.int (Int32.ofNat j))] [])) t
            refine XS.aloadN X8.here hx rfl (hb hby d1_54) rfl rfl ?_
            show Steps p.tables e below (T8.setTop (mkF m 55 #[.val (.ref o0), .val (.int p1), .val .null, .val (.ref b1), .val (.int (Int32.ofNat j))] [(.ref b1)])) t
            refine XS.iload X8.here hx rfl (hb hby d1_55) rfl ?_
            show Steps p.tables e below (T8.setTop (mkF m 57 #[.val (.ref o0), .val (.int p1), .val .null, .val (.ref b1), .val (.int (Int32.ofNat j))] [(.int (Int32.ofNat j)), (.ref b1)])) t
            refine XS.iconst X8.here hx rfl (hb hby d1_57) ?_
            show Steps p.tables e below (T8.setTop (mkF m 58 #[.val (.ref o0), .val (.int p1), .val .null, .val (.ref b1), .val (.int (Int32.ofNat j))] [(.int (1 : Int32)), (.int (Int32.ofNat j)), (.ref b1)])) t
            refine XS.iadd X8.here hx rfl (hb hby d1_58) rfl ?_
            show Steps p.tables e below (T8.setTop (mkF m 59 #[.val (.ref o0), .val (.int p1), .val .null, .val (.ref b1), .val (.int (Int32.ofNat j))] [(.int ((Int32.ofNat j) + (1 : Int32))), (.ref b1)])) t
            refine XT.dup2 X8.here hx rfl (hb hby d1_59) rfl rfl rfl ?_
            show Steps p.tables e below (T8.setTop (mkF m 60 #[.val (.ref o0), .val (.int p1), .val .null, .val (.ref b1), .val (.int (Int32.ofNat j))] [(.int ((Int32.ofNat j) + (1 : Int32))), (.ref b1), (.int ((Int32.ofNat j) + (1 : Int32))), (.ref b1)])) t
            refine Own.ldI X8 hx hZ e8 f10 hj13 (g := (mkF m 60 #[.val (.ref o0), .val (.int p1), .val .null, .val (.ref b1), .val (.int (Int32.ofNat j))] [(.int ((Int32.ofNat j) + (1 : Int32))), (.ref b1), (.int ((Int32.ofNat j) + (1 : Int32))), (.ref b1)])) rfl rfl (hb hby d1_60) _ ?_
            show Steps p.tables e below (T8.setTop (mkF m 61 #[.val (.ref o0), .val (.int p1), .val .null, .val (.ref b1), .val (.int (Int32.ofNat j))] [(.int ((own_s (own_c f (fun _ => true) N) j) ((Int32.ofNat j) + (1 : Int32)).toInt.toNat)), (.int ((Int32.ofNat j) + (1 : Int32))), (.ref b1)])) t
            refine XS.aloadN X8.here hx rfl (hb hby d1_61) rfl rfl ?_
            show Steps p.tables e below (T8.setTop (mkF m 62 #[.val (.ref o0), .val (.int p1), .val .null, .val (.ref b1), .val (.int (Int32.ofNat j))] [(.ref b1), (.int ((own_s (own_c f (fun _ => true) N) j) ((Int32.ofNat j) + (1 : Int32)).toInt.toNat)), (.int ((Int32.ofNat j) + (1 : Int32))), (.ref b1)])) t
            refine XS.iload X8.here hx rfl (hb hby d1_62) rfl ?_
            show Steps p.tables e below (T8.setTop (mkF m 64 #[.val (.ref o0), .val (.int p1), .val .null, .val (.ref b1), .val (.int (Int32.ofNat j))] [(.int (Int32.ofNat j)), (.ref b1), (.int ((own_s (own_c f (fun _ => true) N) j) ((Int32.ofNat j) + (1 : Int32)).toInt.toNat)), (.int ((Int32.ofNat j) + (1 : Int32))), (.ref b1)])) t
            refine Own.ldI X8 hx hZ e8 f10 hj14 (g := (mkF m 64 #[.val (.ref o0), .val (.int p1), .val .null, .val (.ref b1), .val (.int (Int32.ofNat j))] [(.int (Int32.ofNat j)), (.ref b1), (.int ((own_s (own_c f (fun _ => true) N) j) ((Int32.ofNat j) + (1 : Int32)).toInt.toNat)), (.int ((Int32.ofNat j) + (1 : Int32))), (.ref b1)])) rfl rfl (hb hby d1_64) _ ?_
            show Steps p.tables e below (T8.setTop (mkF m 65 #[.val (.ref o0), .val (.int p1), .val .null, .val (.ref b1), .val (.int (Int32.ofNat j))] [(.int ((own_s (own_c f (fun _ => true) N) j) (Int32.ofNat j).toInt.toNat)), (.int ((own_s (own_c f (fun _ => true) N) j) ((Int32.ofNat j) + (1 : Int32)).toInt.toNat)), (.int ((Int32.ofNat j) + (1 : Int32))), (.ref b1)])) t
            refine XS.iadd X8.here hx rfl (hb hby d1_65) rfl ?_
            show Steps p.tables e below (T8.setTop (mkF m 66 #[.val (.ref o0), .val (.int p1), .val .null, .val (.ref b1), .val (.int (Int32.ofNat j))] [(.int (((own_s (own_c f (fun _ => true) N) j) ((Int32.ofNat j) + (1 : Int32)).toInt.toNat) + ((own_s (own_c f (fun _ => true) N) j) (Int32.ofNat j).toInt.toNat))), (.int ((Int32.ofNat j) + (1 : Int32))), (.ref b1)])) t
            refine st16 _ ?_
            show Steps p.tables e below (T16.setTop (mkF m 67 #[.val (.ref o0), .val (.int p1), .val .null, .val (.ref b1), .val (.int (Int32.ofNat j))] [])) t
            refine XS.iinc X16.here hx rfl (hb hby d1_67) rfl (l' := #[.val (.ref o0), .val (.int p1), .val .null, .val (.ref b1), .val (.int ((Int32.ofNat j) + (1 : Int32)))]) rfl ?_
            show Steps p.tables e below (T16.setTop (mkF m 70 #[.val (.ref o0), .val (.int p1), .val .null, .val (.ref b1), .val (.int ((Int32.ofNat j) + (1 : Int32)))] [])) t
            rw [← hv18]
            show Steps p.tables e below (T16.setTop (mkF m 70 #[.val (.ref o0), .val (.int p1), .val .null, .val (.ref b1), .val (.int v18)] [])) t
            refine XS.goto X16.here hx rfl (pc0 := 70) (pc' := 48) rfl (hb hby d1_70) (by decide) (by decide) ?_
            show Steps p.tables e below (T16.setTop (mkF m 48 #[.val (.ref o0), .val (.int p1), .val .null, .val (.ref b1), .val (.int v18)] [])) t
            exact k
          have hq : v18 = Int32.ofNat (j + 1) := by rw [hv18]; exact Int32.ofNat_succ j
          subst hq
          exact ih T16 _ h16 (j + 1) X16 e16 N16 Z16 f17 (A16.congr fun k _ => own_ss (by omega) k) (by omega)
      exact L48 G T4 _ h4 0 X4 e4 N4 Z4 f5 (by rw [show N = i by omega]; exact f6) (Nat.zero_add _)
    | succ k ih => 
      intro T4 locs4 h4 i X4 e4 N4 Z4 f5 f6 hi
      refine hD _ (T4.setTop (mkF m 13 #[.val (.ref o0), .val (.int p1), .val .null, .val (.ref b1), .val (.int (Int32.ofNat i))] [(.int (Int32.ofNat N)), (.int (Int32.ofNat i))])) (fun t k => ?_) ?_
      · show Steps p.tables e below (T4.setTop (mkF m 9 #[.val (.ref o0), .val (.int p1), .val .null, .val (.ref b1), .val (.int (Int32.ofNat i))] [])) t
        refine XS.iload X4.here hx rfl (hb hby d1_9) rfl ?_
        show Steps p.tables e below (T4.setTop (mkF m 11 #[.val (.ref o0), .val (.int p1), .val .null, .val (.ref b1), .val (.int (Int32.ofNat i))] [(.int (Int32.ofNat i))])) t
        refine XS.aloadN X4.here hx rfl (hb hby d1_11) rfl rfl ?_
        show Steps p.tables e below (T4.setTop (mkF m 12 #[.val (.ref o0), .val (.int p1), .val .null, .val (.ref b1), .val (.int (Int32.ofNat i))] [(.ref o0), (.int (Int32.ofNat i))])) t
        refine Own.lenI X4 hx hZ e4 f5 (g := (mkF m 12 #[.val (.ref o0), .val (.int p1), .val .null, .val (.ref b1), .val (.int (Int32.ofNat i))] [(.ref o0), (.int (Int32.ofNat i))])) rfl rfl (hb hby d1_12) _ ?_
        show Steps p.tables e below (T4.setTop (mkF m 13 #[.val (.ref o0), .val (.int p1), .val .null, .val (.ref b1), .val (.int (Int32.ofNat i))] [(.int (Int32.ofNat N)), (.int (Int32.ofNat i))])) t
        exact k
      have hc19 : (Int32.ofNat i) < (Int32.ofNat N) := by rw [own_ol (by omega) (by omega)]; omega
      have hj20 : 0 ≤ (Int32.ofNat i).toInt ∧ (Int32.ofNat i).toInt < (N : Nat) := by rw [own_oi (by omega)]; omega
      have hj21 : 0 ≤ ((f (Int32.ofNat i).toInt.toNat) + (1 : Int32)).toInt ∧ ((f (Int32.ofNat i).toInt.toNat) + (1 : Int32)).toInt < ((G + 1) : Nat) := by
        have q := hf i (by omega)
        rw [own_ix (by omega), own_J q hG4]; omega
      have hj22 : 0 ≤ ((f (Int32.ofNat i).toInt.toNat) + (1 : Int32)).toInt ∧ ((f (Int32.ofNat i).toInt.toNat) + (1 : Int32)).toInt < ((G + 1) : Nat) := by
        have q := hf i (by omega)
        rw [own_ix (by omega), own_J q hG4]; omega
      obtain ⟨T23, h23, X23, e23, A23, W23, st23⟩ := Own.stoI X4 hx hZ e4 f6 hj22 (g := (mkF m 38 #[.val (.ref o0), .val (.int p1), .val .null, .val (.ref b1), .val (.int (Int32.ofNat i))] [(.int (((own_c f (fun _ => true) i) ((f (Int32.ofNat i).toInt.toNat) + (1 : Int32)).toInt.toNat) + (1 : Int32))), (.int ((f (Int32.ofNat i).toInt.toNat) + (1 : Int32))), (.ref b1)])) rfl rfl (hb hby d1_38)
      have f24 : Own.AvI Z h23 o0 .int N f := f5.other W23 (Own.ne_of (by omega))
      have N23 := Fr.snoc X23 N4 (show n0 ≤ b1 by omega)
      have Z23 : n0 ≤ h23.size := Nat.le_trans Z4 (Keep.of_wr W23).1
      obtain ⟨v25, hv25⟩ : ∃ z : Int32, z = ((Int32.ofNat i) + (1 : Int32)) := ⟨_, rfl⟩
      refine hD _ (T23.setTop (mkF m 9 #[.val (.ref o0), .val (.int p1), .val .null, .val (.ref b1), .val (.int v25)] [])) (fun t k => ?_) ?_
      · show Steps p.tables e below (T4.setTop (mkF m 13 #[.val (.ref o0), .val (.int p1), .val .null, .val (.ref b1), .val (.int (Int32.ofNat i))] [(.int (Int32.ofNat N)), (.int (Int32.ofNat i))])) t
        refine XS.icmpNo X4.here hx rfl (hb hby d1_13) rfl (tlt hc19).2.1 ?_
        show Steps p.tables e below (T4.setTop (mkF m 16 #[.val (.ref o0), .val (.int p1), .val .null, .val (.ref b1), .val (.int (Int32.ofNat i))] [])) t
        refine XS.aloadN X4.here hx rfl (hb hby d1_16) rfl rfl ?_
        show Steps p.tables e below (T4.setTop (mkF m 17 #[.val (.ref o0), .val (.int p1), .val .null, .val (.ref b1), .val (.int (Int32.ofNat i))] [.null])) t
        refine XS.ifnullYes X4.here hx rfl (pc0 := 17) (pc' := 27) rfl (hb hby d1_17) rfl (by decide) (by decide) ?_
        show Steps p.tables e below (T4.setTop (mkF m 27 #[.val (.ref o0), .val (.int p1), .val .null, .val (.ref b1), .val (.int (Int32.ofNat i))] [])) t
        refine XS.aloadN X4.here hx rfl (hb hby d1_27) rfl rfl ?_
        show Steps p.tables e below (T4.setTop (mkF m 28 #[.val (.ref o0), .val (.int p1), .val .null, .val (.ref b1), .val (.int (Int32.ofNat i))] [(.ref b1)])) t
        refine XS.aloadN X4.here hx rfl (hb hby d1_28) rfl rfl ?_
        show Steps p.tables e below (T4.setTop (mkF m 29 #[.val (.ref o0), .val (.int p1), .val .null, .val (.ref b1), .val (.int (Int32.ofNat i))] [(.ref o0), (.ref b1)])) t
        refine XS.iload X4.here hx rfl (hb hby d1_29) rfl ?_
        show Steps p.tables e below (T4.setTop (mkF m 31 #[.val (.ref o0), .val (.int p1), .val .null, .val (.ref b1), .val (.int (Int32.ofNat i))] [(.int (Int32.ofNat i)), (.ref o0), (.ref b1)])) t
        refine Own.ldI X4 hx hZ e4 f5 hj20 (g := (mkF m 31 #[.val (.ref o0), .val (.int p1), .val .null, .val (.ref b1), .val (.int (Int32.ofNat i))] [(.int (Int32.ofNat i)), (.ref o0), (.ref b1)])) rfl rfl (hb hby d1_31) _ ?_
        show Steps p.tables e below (T4.setTop (mkF m 32 #[.val (.ref o0), .val (.int p1), .val .null, .val (.ref b1), .val (.int (Int32.ofNat i))] [(.int (f (Int32.ofNat i).toInt.toNat)), (.ref b1)])) t
        refine XS.iconst X4.here hx rfl (hb hby d1_32) ?_
        show Steps p.tables e below (T4.setTop (mkF m 33 #[.val (.ref o0), .val (.int p1), .val .null, .val (.ref b1), .val (.int (Int32.ofNat i))] [(.int (1 : Int32)), (.int (f (Int32.ofNat i).toInt.toNat)), (.ref b1)])) t
        refine XS.iadd X4.here hx rfl (hb hby d1_33) rfl ?_
        show Steps p.tables e below (T4.setTop (mkF m 34 #[.val (.ref o0), .val (.int p1), .val .null, .val (.ref b1), .val (.int (Int32.ofNat i))] [(.int ((f (Int32.ofNat i).toInt.toNat) + (1 : Int32))), (.ref b1)])) t
        refine XT.dup2 X4.here hx rfl (hb hby d1_34) rfl rfl rfl ?_
        show Steps p.tables e below (T4.setTop (mkF m 35 #[.val (.ref o0), .val (.int p1), .val .null, .val (.ref b1), .val (.int (Int32.ofNat i))] [(.int ((f (Int32.ofNat i).toInt.toNat) + (1 : Int32))), (.ref b1), (.int ((f (Int32.ofNat i).toInt.toNat) + (1 : Int32))), (.ref b1)])) t
        refine Own.ldI X4 hx hZ e4 f6 hj21 (g := (mkF m 35 #[.val (.ref o0), .val (.int p1), .val .null, .val (.ref b1), .val (.int (Int32.ofNat i))] [(.int ((f (Int32.ofNat i).toInt.toNat) + (1 : Int32))), (.ref b1), (.int ((f (Int32.ofNat i).toInt.toNat) + (1 : Int32))), (.ref b1)])) rfl rfl (hb hby d1_35) _ ?_
        show Steps p.tables e below (T4.setTop (mkF m 36 #[.val (.ref o0), .val (.int p1), .val .null, .val (.ref b1), .val (.int (Int32.ofNat i))] [(.int ((own_c f (fun _ => true) i) ((f (Int32.ofNat i).toInt.toNat) + (1 : Int32)).toInt.toNat)), (.int ((f (Int32.ofNat i).toInt.toNat) + (1 : Int32))), (.ref b1)])) t
        refine XS.iconst X4.here hx rfl (hb hby d1_36) ?_
        show Steps p.tables e below (T4.setTop (mkF m 37 #[.val (.ref o0), .val (.int p1), .val .null, .val (.ref b1), .val (.int (Int32.ofNat i))] [(.int (1 : Int32)), (.int ((own_c f (fun _ => true) i) ((f (Int32.ofNat i).toInt.toNat) + (1 : Int32)).toInt.toNat)), (.int ((f (Int32.ofNat i).toInt.toNat) + (1 : Int32))), (.ref b1)])) t
        refine XS.iadd X4.here hx rfl (hb hby d1_37) rfl ?_
        show Steps p.tables e below (T4.setTop (mkF m 38 #[.val (.ref o0), .val (.int p1), .val .null, .val (.ref b1), .val (.int (Int32.ofNat i))] [(.int (((own_c f (fun _ => true) i) ((f (Int32.ofNat i).toInt.toNat) + (1 : Int32)).toInt.toNat) + (1 : Int32))), (.int ((f (Int32.ofNat i).toInt.toNat) + (1 : Int32))), (.ref b1)])) t
        refine st23 _ ?_
        show Steps p.tables e below (T23.setTop (mkF m 39 #[.val (.ref o0), .val (.int p1), .val .null, .val (.ref b1), .val (.int (Int32.ofNat i))] [])) t
        refine XS.iinc X23.here hx rfl (hb hby d1_39) rfl (l' := #[.val (.ref o0), .val (.int p1), .val .null, .val (.ref b1), .val (.int ((Int32.ofNat i) + (1 : Int32)))]) rfl ?_
        show Steps p.tables e below (T23.setTop (mkF m 42 #[.val (.ref o0), .val (.int p1), .val .null, .val (.ref b1), .val (.int ((Int32.ofNat i) + (1 : Int32)))] [])) t
        rw [← hv25]
        show Steps p.tables e below (T23.setTop (mkF m 42 #[.val (.ref o0), .val (.int p1), .val .null, .val (.ref b1), .val (.int v25)] [])) t
        refine XS.goto X23.here hx rfl (pc0 := 42) (pc' := 9) rfl (hb hby d1_42) (by decide) (by decide) ?_
        show Steps p.tables e below (T23.setTop (mkF m 9 #[.val (.ref o0), .val (.int p1), .val .null, .val (.ref b1), .val (.int v25)] [])) t
        exact k
      have hq : v25 = Int32.ofNat (i + 1) := by rw [hv25]; exact Int32.ofNat_succ i
      subst hq
      exact ih T23 _ h23 (i + 1) X23 e23 N23 Z23 f24 (A23.congr fun k _ => own_cs1 (by omega) (hf i (by omega)) hG4 rfl k) (by omega)
  exact L9 N T1 _ h1 0 X1 e1 N0 Z1 f2 f3 (Nat.zero_add _)
theorem d2_0 : decode method_4_code 0 = .ok (.iload_n 2, 1) := by decide +kernel
theorem d2_1 : decode method_4_code 1 = .ok (.aload_n 0, 1) := by decide +kernel
theorem d2_2 : decode method_4_code 2 = .ok (.arraylength, 1) := by decide +kernel
theorem d2_3 : decode method_4_code 3 = .ok (.if_icmp .lt 5, 3) := by decide +kernel
theorem d2_6 : decode method_4_code 6 = .ok (.iconst 0, 1) := by decide +kernel
theorem d2_7 : decode method_4_code 7 = .ok (.ireturn, 1) := by decide +kernel
theorem d2_8 : decode method_4_code 8 = .ok (.aload_n 1, 1) := by decide +kernel
theorem d2_9 : decode method_4_code 9 = .ok (.ifnull 11, 3) := by decide +kernel
theorem d2_20 : decode method_4_code 20 = .ok (.aload_n 0, 1) := by decide +kernel
theorem d2_21 : decode method_4_code 21 = .ok (.iload_n 2, 1) := by decide +kernel
theorem d2_22 : decode method_4_code 22 = .ok (.iaload, 1) := by decide +kernel
theorem d2_23 : decode method_4_code 23 = .ok (.iload_n 3, 1) := by decide +kernel
theorem d2_24 : decode method_4_code 24 = .ok (.if_icmp .ge 7, 3) := by decide +kernel
theorem d2_27 : decode method_4_code 27 = .ok (.iconst 1, 1) := by decide +kernel
theorem d2_28 : decode method_4_code 28 = .ok (.goto 4, 3) := by decide +kernel
theorem d2_31 : decode method_4_code 31 = .ok (.iconst 0, 1) := by decide +kernel
theorem d2_32 : decode method_4_code 32 = .ok (.ireturn, 1) := by decide +kernel
theorem pn_1 : plainName "com/example/schedulens/schedulens/PositionsGroupStartsPinLaw" = true := by first | (simp [plainName, overriddenIn]; done) | decide +kernel
theorem ef_2 (m : MethodId) (o0 : Addr) (p2 : Int32) (p3 : Int32) : entryFrame m #[(.ref o0), .null, (.int p2), (.int p3)] 4 = mkF m 0 #[.val (.ref o0), .val .null, .val (.int p2), .val (.int p3)] [] := by first | (simp [entryFrame, mkF, argsToLocals, Value.category]; done) | rfl
def Q2 (Z : State) (o0 : Nat) (p2 : Int32) (p3 : Int32) (N : Nat) (f : Nat → Int32) (h0 : Heap) (n0 : Nat) (v : Option Value) (h : Heap) (L : List Loc) : Prop := v = some (.int (own_bl f (fun _ => true) N p2 p3)) ∧ Fr n0 L ∧ h = h0
set_option maxRecDepth 65536 in
set_option maxHeartbeats 40000000 in
theorem rm2 (l : Launch) (Z : State) (a0 : Array Value) (hw : ∀ d ∈ tables_1, d.before a0 Z = true) (ws : List Jvm.Cond) (o0 : Nat) (p2 : Int32) (p3 : Int32) (N : Nat) (f : Nat → Int32) (h0 : Heap) (n0 : Nat) (hN : N ≤ 4) (he : 0 ≤ p2.toInt) (A0 : Own.AvI Z h0 o0 .int N f) :
    MetFree l (⟨"com/example/schedulens/schedulens/PositionsGroupStartsPinLaw", "below", "([I[ZII)I"⟩ : MethodName) (head1 (Jvm.Cond.code (⟨"com/example/schedulens/schedulens/PositionsGroupStartsPinLaw", "below", "([I[ZII)I"⟩ : MethodName) method_4_code 4 (some .int) :: ws) ({ frames := 0, cells := 0, slots := 0, locals := 0 } : Room)) (fun a U => a = #[(.ref o0), .null, (.int p2), (.int p3)] ∧ Z.Warmed39 U.vm ∧ U.heap = h0) (fun _ _ _ _ _ => True) (fun _ U o U' => ∃ v L, o = .returned v ∧ Q2 Z o0 p2 p3 N f h0 n0 v U'.heap L ∧ FrameEnd U o U' L ({ frames := 0, cells := 0, slots := 0, locals := 0 } : Room).cells ({ frames := 0, cells := 0, slots := 0, locals := 0 } : Room).slots) := by
  refine Own.enter (Q := Q2 Z o0 p2 p3 N f h0 n0) (plainFor_of_name pn_1) ?_
  intro p e s m below meth c s₁ D hx hby hml hown hnm hret hZ X0 e0 hD hR
  have N0 := Fr.nil n0
  rw [show entryFrame m #[(.ref o0), .null, (.int p2), (.int p3)] 4 = mkF m 0 #[.val (.ref o0), .val .null, .val (.int p2), .val (.int p3)] [] from ef_2 m o0 p2 p3]
  refine hD _ (s₁.setTop (mkF m 3 #[.val (.ref o0), .val .null, .val (.int p2), .val (.int p3)] [(.int (Int32.ofNat N)), (.int p2)])) (fun t k => ?_) ?_
  · show Steps p.tables e below (s₁.setTop (mkF m 0 #[.val (.ref o0), .val .null, .val (.int p2), .val (.int p3)] [])) t
    refine XS.iloadN X0.here hx rfl (hb hby d2_0) rfl ?_
    show Steps p.tables e below (s₁.setTop (mkF m 1 #[.val (.ref o0), .val .null, .val (.int p2), .val (.int p3)] [(.int p2)])) t
    refine XS.aloadN X0.here hx rfl (hb hby d2_1) rfl rfl ?_
    show Steps p.tables e below (s₁.setTop (mkF m 2 #[.val (.ref o0), .val .null, .val (.int p2), .val (.int p3)] [(.ref o0), (.int p2)])) t
    refine Own.lenI X0 hx hZ e0 A0 (g := (mkF m 2 #[.val (.ref o0), .val .null, .val (.int p2), .val (.int p3)] [(.ref o0), (.int p2)])) rfl rfl (hb hby d2_2) _ ?_
    show Steps p.tables e below (s₁.setTop (mkF m 3 #[.val (.ref o0), .val .null, .val (.int p2), .val (.int p3)] [(.int (Int32.ofNat N)), (.int p2)])) t
    exact k
  by_cases hc1 : p2 < (Int32.ofNat N)
  · have hj2 : 0 ≤ p2.toInt ∧ p2.toInt < (N : Nat) := by
      have q := hc1
      rw [own_lt, own_oi (by omega)] at q; omega
    refine hD _ (s₁.setTop (mkF m 24 #[.val (.ref o0), .val .null, .val (.int p2), .val (.int p3)] [(.int p3), (.int (f p2.toInt.toNat))])) (fun t k => ?_) ?_
    · show Steps p.tables e below (s₁.setTop (mkF m 3 #[.val (.ref o0), .val .null, .val (.int p2), .val (.int p3)] [(.int (Int32.ofNat N)), (.int p2)])) t
      refine XS.icmpYes X0.here hx rfl (pc0 := 3) (pc' := 8) rfl (hb hby d2_3) rfl (tlt hc1).1 (by decide) (by decide) ?_
      show Steps p.tables e below (s₁.setTop (mkF m 8 #[.val (.ref o0), .val .null, .val (.int p2), .val (.int p3)] [])) t
      refine XS.aloadN X0.here hx rfl (hb hby d2_8) rfl rfl ?_
      show Steps p.tables e below (s₁.setTop (mkF m 9 #[.val (.ref o0), .val .null, .val (.int p2), .val (.int p3)] [.null])) t
      refine XS.ifnullYes X0.here hx rfl (pc0 := 9) (pc' := 20) rfl (hb hby d2_9) rfl (by decide) (by decide) ?_
      show Steps p.tables e below (s₁.setTop (mkF m 20 #[.val (.ref o0), .val .null, .val (.int p2), .val (.int p3)] [])) t
      refine XS.aloadN X0.here hx rfl (hb hby d2_20) rfl rfl ?_
      show Steps p.tables e below (s₁.setTop (mkF m 21 #[.val (.ref o0), .val .null, .val (.int p2), .val (.int p3)] [(.ref o0)])) t
      refine XS.iloadN X0.here hx rfl (hb hby d2_21) rfl ?_
      show Steps p.tables e below (s₁.setTop (mkF m 22 #[.val (.ref o0), .val .null, .val (.int p2), .val (.int p3)] [(.int p2), (.ref o0)])) t
      refine Own.ldI X0 hx hZ e0 A0 hj2 (g := (mkF m 22 #[.val (.ref o0), .val .null, .val (.int p2), .val (.int p3)] [(.int p2), (.ref o0)])) rfl rfl (hb hby d2_22) _ ?_
      show Steps p.tables e below (s₁.setTop (mkF m 23 #[.val (.ref o0), .val .null, .val (.int p2), .val (.int p3)] [(.int (f p2.toInt.toNat))])) t
      refine XS.iloadN X0.here hx rfl (hb hby d2_23) rfl ?_
      show Steps p.tables e below (s₁.setTop (mkF m 24 #[.val (.ref o0), .val .null, .val (.int p2), .val (.int p3)] [(.int p3), (.int (f p2.toInt.toNat))])) t
      exact k
    by_cases hc3 : (f p2.toInt.toNat) < p3
    · refine hD _ (s₁.setTop (mkF m 32 #[.val (.ref o0), .val .null, .val (.int p2), .val (.int p3)] [(.int (1 : Int32))])) (fun t k => ?_) ?_
      · show Steps p.tables e below (s₁.setTop (mkF m 24 #[.val (.ref o0), .val .null, .val (.int p2), .val (.int p3)] [(.int p3), (.int (f p2.toInt.toNat))])) t
        refine XS.icmpNo X0.here hx rfl (hb hby d2_24) rfl (tlt hc3).2.1 ?_
        show Steps p.tables e below (s₁.setTop (mkF m 27 #[.val (.ref o0), .val .null, .val (.int p2), .val (.int p3)] [])) t
        refine XS.iconst X0.here hx rfl (hb hby d2_27) ?_
        show Steps p.tables e below (s₁.setTop (mkF m 28 #[.val (.ref o0), .val .null, .val (.int p2), .val (.int p3)] [(.int (1 : Int32))])) t
        refine XS.goto X0.here hx rfl (pc0 := 28) (pc' := 32) rfl (hb hby d2_28) (by decide) (by decide) ?_
        show Steps p.tables e below (s₁.setTop (mkF m 32 #[.val (.ref o0), .val .null, .val (.int p2), .val (.int p3)] [(.int (1 : Int32))])) t
        exact k
      exact Own.retI hR X0 hx hret (hb hby d2_32) (by decide) (by decide) ⟨by unfold own_bl; rw [if_pos hc1]; rw [if_pos (show (fun _ => true : Nat → Bool) p2.toInt.toNat = true from rfl), if_pos hc3], N0, e0⟩
    · refine hD _ (s₁.setTop (mkF m 32 #[.val (.ref o0), .val .null, .val (.int p2), .val (.int p3)] [(.int (0 : Int32))])) (fun t k => ?_) ?_
      · show Steps p.tables e below (s₁.setTop (mkF m 24 #[.val (.ref o0), .val .null, .val (.int p2), .val (.int p3)] [(.int p3), (.int (f p2.toInt.toNat))])) t
        refine XS.icmpYes X0.here hx rfl (pc0 := 24) (pc' := 31) rfl (hb hby d2_24) rfl (flt hc3).2.1 (by decide) (by decide) ?_
        show Steps p.tables e below (s₁.setTop (mkF m 31 #[.val (.ref o0), .val .null, .val (.int p2), .val (.int p3)] [])) t
        refine XS.iconst X0.here hx rfl (hb hby d2_31) ?_
        show Steps p.tables e below (s₁.setTop (mkF m 32 #[.val (.ref o0), .val .null, .val (.int p2), .val (.int p3)] [(.int (0 : Int32))])) t
        exact k
      exact Own.retI hR X0 hx hret (hb hby d2_32) (by decide) (by decide) ⟨by unfold own_bl; rw [if_pos hc1]; rw [if_pos (show (fun _ => true : Nat → Bool) p2.toInt.toNat = true from rfl), if_neg hc3], N0, e0⟩
  · refine hD _ (s₁.setTop (mkF m 7 #[.val (.ref o0), .val .null, .val (.int p2), .val (.int p3)] [(.int (0 : Int32))])) (fun t k => ?_) ?_
    · show Steps p.tables e below (s₁.setTop (mkF m 3 #[.val (.ref o0), .val .null, .val (.int p2), .val (.int p3)] [(.int (Int32.ofNat N)), (.int p2)])) t
      refine XS.icmpNo X0.here hx rfl (hb hby d2_3) rfl (flt hc1).1 ?_
      show Steps p.tables e below (s₁.setTop (mkF m 6 #[.val (.ref o0), .val .null, .val (.int p2), .val (.int p3)] [])) t
      refine XS.iconst X0.here hx rfl (hb hby d2_6) ?_
      show Steps p.tables e below (s₁.setTop (mkF m 7 #[.val (.ref o0), .val .null, .val (.int p2), .val (.int p3)] [(.int (0 : Int32))])) t
      exact k
    exact Own.retI hR X0 hx hret (hb hby d2_7) (by decide) (by decide) ⟨by unfold own_bl; rw [if_neg hc1], N0, e0⟩
theorem d3_0 : decode method_3_code 0 = .ok (.iload_n 3, 1) := by decide +kernel
theorem d3_1 : decode method_3_code 1 = .ok (.aload_n 0, 1) := by decide +kernel
theorem d3_2 : decode method_3_code 2 = .ok (.arraylength, 1) := by decide +kernel
theorem d3_3 : decode method_3_code 3 = .ok (.if_icmp .lt 5, 3) := by decide +kernel
theorem d3_6 : decode method_3_code 6 = .ok (.iconst 1, 1) := by decide +kernel
theorem d3_7 : decode method_3_code 7 = .ok (.ireturn, 1) := by decide +kernel
theorem d3_8 : decode method_3_code 8 = .ok (.aload_n 1, 1) := by decide +kernel
theorem d3_9 : decode method_3_code 9 = .ok (.aload_n 2, 1) := by decide +kernel
theorem d3_10 : decode method_3_code 10 = .ok (.iconst 0, 1) := by decide +kernel
theorem d3_11 : decode method_3_code 11 = .ok (.iload_n 3, 1) := by decide +kernel
theorem d3_12 : decode method_3_code 12 = .ok (.invokestatic 20, 3) := by decide +kernel
theorem d3_15 : decode method_3_code 15 = .ok (.aload_n 1, 1) := by decide +kernel
theorem d3_16 : decode method_3_code 16 = .ok (.aload_n 2, 1) := by decide +kernel
theorem d3_17 : decode method_3_code 17 = .ok (.iconst 1, 1) := by decide +kernel
theorem d3_18 : decode method_3_code 18 = .ok (.iload_n 3, 1) := by decide +kernel
theorem d3_19 : decode method_3_code 19 = .ok (.invokestatic 20, 3) := by decide +kernel
theorem d3_22 : decode method_3_code 22 = .ok (.iadd, 1) := by decide +kernel
theorem d3_23 : decode method_3_code 23 = .ok (.aload_n 1, 1) := by decide +kernel
theorem d3_24 : decode method_3_code 24 = .ok (.aload_n 2, 1) := by decide +kernel
theorem d3_25 : decode method_3_code 25 = .ok (.iconst 2, 1) := by decide +kernel
theorem d3_26 : decode method_3_code 26 = .ok (.iload_n 3, 1) := by decide +kernel
theorem d3_27 : decode method_3_code 27 = .ok (.invokestatic 20, 3) := by decide +kernel
theorem d3_30 : decode method_3_code 30 = .ok (.iadd, 1) := by decide +kernel
theorem d3_31 : decode method_3_code 31 = .ok (.aload_n 1, 1) := by decide +kernel
theorem d3_32 : decode method_3_code 32 = .ok (.aload_n 2, 1) := by decide +kernel
theorem d3_33 : decode method_3_code 33 = .ok (.iconst 3, 1) := by decide +kernel
theorem d3_34 : decode method_3_code 34 = .ok (.iload_n 3, 1) := by decide +kernel
theorem d3_35 : decode method_3_code 35 = .ok (.invokestatic 20, 3) := by decide +kernel
theorem d3_38 : decode method_3_code 38 = .ok (.iadd, 1) := by decide +kernel
theorem d3_39 : decode method_3_code 39 = .ok (.istore 4, 2) := by decide +kernel
theorem d3_41 : decode method_3_code 41 = .ok (.aload_n 0, 1) := by decide +kernel
theorem d3_42 : decode method_3_code 42 = .ok (.iload_n 3, 1) := by decide +kernel
theorem d3_43 : decode method_3_code 43 = .ok (.iaload, 1) := by decide +kernel
theorem d3_44 : decode method_3_code 44 = .ok (.iload 4, 2) := by decide +kernel
theorem d3_46 : decode method_3_code 46 = .ok (.if_icmp .ne 7, 3) := by decide +kernel
theorem d3_49 : decode method_3_code 49 = .ok (.iconst 1, 1) := by decide +kernel
theorem d3_50 : decode method_3_code 50 = .ok (.goto 4, 3) := by decide +kernel
theorem d3_53 : decode method_3_code 53 = .ok (.iconst 0, 1) := by decide +kernel
theorem d3_54 : decode method_3_code 54 = .ok (.ireturn, 1) := by decide +kernel
theorem pd_0 : parseMethodDescriptor "([I[ZII)I" = some ⟨[(.array .int), (.array .boolean), .int, .int], some .int⟩ := by decide +kernel
theorem ef_3 (m : MethodId) (o0 : Addr) (o1 : Addr) (p3 : Int32) : entryFrame m #[(.ref o0), (.ref o1), .null, (.int p3)] 5 = mkF m 0 #[.val (.ref o0), .val (.ref o1), .val .null, .val (.int p3), .unset] [] := by first | (simp [entryFrame, mkF, argsToLocals, Value.category]; done) | rfl
def Q3 (Z : State) (o0 : Nat) (o1 : Nat) (p3 : Int32) (R N : Nat) (fr f : Nat → Int32) (h0 : Heap) (n0 : Nat) (v : Option Value) (h : Heap) (L : List Loc) : Prop := v = some (.int (Own.b2i (own_ck fr R f (fun _ => true) N p3))) ∧ Fr n0 L ∧ h = h0
set_option maxRecDepth 65536 in
set_option maxHeartbeats 40000000 in
theorem rm3 (l : Launch) (Z : State) (a0 : Array Value) (hw : ∀ d ∈ tables_1, d.before a0 Z = true) (ws : List Jvm.Cond) (o0 : Nat) (o1 : Nat) (p3 : Int32) (R N : Nat) (fr f : Nat → Int32) (h0 : Heap) (n0 : Nat) (hR5 : R ≤ 5) (hN : N ≤ 4) (hg : 0 ≤ p3.toInt) (A0 : Own.AvI Z h0 o0 .int R fr) (A1 : Own.AvI Z h0 o1 .int N f) :
    MetFree l (⟨"com/example/schedulens/schedulens/PositionsGroupStartsPinLaw", "check", "([I[I[ZI)Z"⟩ : MethodName) (head1 (Jvm.Cond.code (⟨"com/example/schedulens/schedulens/PositionsGroupStartsPinLaw", "check", "([I[I[ZI)Z"⟩ : MethodName) method_3_code 5 (some .boolean) :: ws) ({ frames := 1, cells := 0, slots := 0, locals := 16 } : Room)) (fun a U => a = #[(.ref o0), (.ref o1), .null, (.int p3)] ∧ Z.Warmed39 U.vm ∧ U.heap = h0) (fun _ _ _ _ _ => True) (fun _ U o U' => ∃ v L, o = .returned v ∧ Q3 Z o0 o1 p3 R N fr f h0 n0 v U'.heap L ∧ FrameEnd U o U' L ({ frames := 1, cells := 0, slots := 0, locals := 16 } : Room).cells ({ frames := 1, cells := 0, slots := 0, locals := 16 } : Room).slots) := by
  refine Own.enter (Q := Q3 Z o0 o1 p3 R N fr f h0 n0) (plainFor_of_name pn_1) ?_
  intro p e s m below meth c s₁ D hx hby hml hown hnm hret hZ X0 e0 hD hR
  have N0 := Fr.nil n0
  rw [show entryFrame m #[(.ref o0), (.ref o1), .null, (.int p3)] 5 = mkF m 0 #[.val (.ref o0), .val (.ref o1), .val .null, .val (.int p3), .unset] [] from ef_3 m o0 o1 p3]
  refine hD _ (s₁.setTop (mkF m 3 #[.val (.ref o0), .val (.ref o1), .val .null, .val (.int p3), .unset] [(.int (Int32.ofNat R)), (.int p3)])) (fun t k => ?_) ?_
  · show Steps p.tables e below (s₁.setTop (mkF m 0 #[.val (.ref o0), .val (.ref o1), .val .null, .val (.int p3), .unset] [])) t
    refine XS.iloadN X0.here hx rfl (hb hby d3_0) rfl ?_
    show Steps p.tables e below (s₁.setTop (mkF m 1 #[.val (.ref o0), .val (.ref o1), .val .null, .val (.int p3), .unset] [(.int p3)])) t
    refine XS.aloadN X0.here hx rfl (hb hby d3_1) rfl rfl ?_
    show Steps p.tables e below (s₁.setTop (mkF m 2 #[.val (.ref o0), .val (.ref o1), .val .null, .val (.int p3), .unset] [(.ref o0), (.int p3)])) t
    refine Own.lenI X0 hx hZ e0 A0 (g := (mkF m 2 #[.val (.ref o0), .val (.ref o1), .val .null, .val (.int p3), .unset] [(.ref o0), (.int p3)])) rfl rfl (hb hby d3_2) _ ?_
    show Steps p.tables e below (s₁.setTop (mkF m 3 #[.val (.ref o0), .val (.ref o1), .val .null, .val (.int p3), .unset] [(.int (Int32.ofNat R)), (.int p3)])) t
    exact k
  by_cases hc1 : p3 < (Int32.ofNat R)
  · obtain ⟨T2, _, L2, X2, ⟨rfl, Nq2, e2⟩, st2⟩ := Own.callS (y := (⟨"com/example/schedulens/schedulens/PositionsGroupStartsPinLaw", "below", "([I[ZII)I"⟩ : MethodName)) (W := 0) (argsL := [(.ref o1), .null, (.int (0 : Int32)), (.int p3)]) (rest := []) X0 hx hZ hown (hw _ (List.mem_of_getElem? (i := 11) rfl)) (hw _ (List.mem_of_getElem? (i := 12) rfl)) (hw _ (List.mem_of_getElem? (i := 9) rfl)) (hw _ (List.mem_of_getElem? (i := 13) rfl)) (by decide) e0 (rm2 l Z a0 hw [] o1 (0 : Int32) p3 N f h0 n0 hN (by decide) A1) (by decide) (by decide) (by decide) (by decide) (g := (mkF m 12 #[.val (.ref o0), .val (.ref o1), .val .null, .val (.int p3), .unset] [(.int p3), (.int (0 : Int32)), .null, (.ref o1)])) rfl (by rw [hml]; rfl) (lenOf pd_0 rfl) rfl (by show 2 * 0 + _ ≤ _; exact Nat.le_of_eq rfl) (hb hby d3_12)
    have N2 := Fr.app N0 Nq2
    obtain ⟨T3, _, L3, X3, ⟨rfl, Nq3, e3⟩, st3⟩ := Own.callS (y := (⟨"com/example/schedulens/schedulens/PositionsGroupStartsPinLaw", "below", "([I[ZII)I"⟩ : MethodName)) (W := 1) (argsL := [(.ref o1), .null, (.int (1 : Int32)), (.int p3)]) (rest := [(.int (own_bl f (fun _ => true) N (0 : Int32) p3))]) X2 hx hZ hown (hw _ (List.mem_of_getElem? (i := 11) rfl)) (hw _ (List.mem_of_getElem? (i := 12) rfl)) (hw _ (List.mem_of_getElem? (i := 9) rfl)) (hw _ (List.mem_of_getElem? (i := 13) rfl)) (by decide) e2 (rm2 l Z a0 hw [] o1 (1 : Int32) p3 N f h0 n0 hN (by decide) A1) (by decide) (by decide) (by decide) (by decide) (g := (mkF m 19 #[.val (.ref o0), .val (.ref o1), .val .null, .val (.int p3), .unset] [(.int p3), (.int (1 : Int32)), .null, (.ref o1), (.int (own_bl f (fun _ => true) N (0 : Int32) p3))])) rfl (by rw [hml]; rfl) (lenOf pd_0 rfl) rfl (by show 2 * 0 + _ ≤ _; exact Nat.le_of_eq rfl) (hb hby d3_19)
    have N3 := Fr.app N2 Nq3
    obtain ⟨T4, _, L4, X4, ⟨rfl, Nq4, e4⟩, st4⟩ := Own.callS (y := (⟨"com/example/schedulens/schedulens/PositionsGroupStartsPinLaw", "below", "([I[ZII)I"⟩ : MethodName)) (W := 1) (argsL := [(.ref o1), .null, (.int (2 : Int32)), (.int p3)]) (rest := [(.int ((own_bl f (fun _ => true) N (0 : Int32) p3) + (own_bl f (fun _ => true) N (1 : Int32) p3)))]) X3 hx hZ hown (hw _ (List.mem_of_getElem? (i := 11) rfl)) (hw _ (List.mem_of_getElem? (i := 12) rfl)) (hw _ (List.mem_of_getElem? (i := 9) rfl)) (hw _ (List.mem_of_getElem? (i := 13) rfl)) (by decide) e3 (rm2 l Z a0 hw [] o1 (2 : Int32) p3 N f h0 n0 hN (by decide) A1) (by decide) (by decide) (by decide) (by decide) (g := (mkF m 27 #[.val (.ref o0), .val (.ref o1), .val .null, .val (.int p3), .unset] [(.int p3), (.int (2 : Int32)), .null, (.ref o1), (.int ((own_bl f (fun _ => true) N (0 : Int32) p3) + (own_bl f (fun _ => true) N (1 : Int32) p3)))])) rfl (by rw [hml]; rfl) (lenOf pd_0 rfl) rfl (by show 2 * 0 + _ ≤ _; exact Nat.le_of_eq rfl) (hb hby d3_27)
    have N4 := Fr.app N3 Nq4
    obtain ⟨T5, _, L5, X5, ⟨rfl, Nq5, e5⟩, st5⟩ := Own.callS (y := (⟨"com/example/schedulens/schedulens/PositionsGroupStartsPinLaw", "below", "([I[ZII)I"⟩ : MethodName)) (W := 1) (argsL := [(.ref o1), .null, (.int (3 : Int32)), (.int p3)]) (rest := [(.int (((own_bl f (fun _ => true) N (0 : Int32) p3) + (own_bl f (fun _ => true) N (1 : Int32) p3)) + (own_bl f (fun _ => true) N (2 : Int32) p3)))]) X4 hx hZ hown (hw _ (List.mem_of_getElem? (i := 11) rfl)) (hw _ (List.mem_of_getElem? (i := 12) rfl)) (hw _ (List.mem_of_getElem? (i := 9) rfl)) (hw _ (List.mem_of_getElem? (i := 13) rfl)) (by decide) e4 (rm2 l Z a0 hw [] o1 (3 : Int32) p3 N f h0 n0 hN (by decide) A1) (by decide) (by decide) (by decide) (by decide) (g := (mkF m 35 #[.val (.ref o0), .val (.ref o1), .val .null, .val (.int p3), .unset] [(.int p3), (.int (3 : Int32)), .null, (.ref o1), (.int (((own_bl f (fun _ => true) N (0 : Int32) p3) + (own_bl f (fun _ => true) N (1 : Int32) p3)) + (own_bl f (fun _ => true) N (2 : Int32) p3)))])) rfl (by rw [hml]; rfl) (lenOf pd_0 rfl) rfl (by show 2 * 0 + _ ≤ _; exact Nat.le_of_eq rfl) (hb hby d3_35)
    have N5 := Fr.app N4 Nq5
    obtain ⟨v6, hv6⟩ : ∃ z : Int32, z = ((((own_bl f (fun _ => true) N (0 : Int32) p3) + (own_bl f (fun _ => true) N (1 : Int32) p3)) + (own_bl f (fun _ => true) N (2 : Int32) p3)) + (own_bl f (fun _ => true) N (3 : Int32) p3)) := ⟨_, rfl⟩
    have hj7 : 0 ≤ p3.toInt ∧ p3.toInt < (R : Nat) := by
      have q := hc1
      rw [own_lt, own_oi (by omega)] at q; omega
    refine hD _ (T5.setTop (mkF m 46 #[.val (.ref o0), .val (.ref o1), .val .null, .val (.int p3), .val (.int v6)] [(.int v6), (.int (fr p3.toInt.toNat))])) (fun t k => ?_) ?_
    · show Steps p.tables e below (s₁.setTop (mkF m 3 #[.val (.ref o0), .val (.ref o1), .val .null, .val (.int p3), .unset] [(.int (Int32.ofNat R)), (.int p3)])) t
      refine XS.icmpYes X0.here hx rfl (pc0 := 3) (pc' := 8) rfl (hb hby d3_3) rfl (tlt hc1).1 (by decide) (by decide) ?_
      show Steps p.tables e below (s₁.setTop (mkF m 8 #[.val (.ref o0), .val (.ref o1), .val .null, .val (.int p3), .unset] [])) t
      refine XS.aloadN X0.here hx rfl (hb hby d3_8) rfl rfl ?_
      show Steps p.tables e below (s₁.setTop (mkF m 9 #[.val (.ref o0), .val (.ref o1), .val .null, .val (.int p3), .unset] [(.ref o1)])) t
      refine XS.aloadN X0.here hx rfl (hb hby d3_9) rfl rfl ?_
      show Steps p.tables e below (s₁.setTop (mkF m 10 #[.val (.ref o0), .val (.ref o1), .val .null, .val (.int p3), .unset] [.null, (.ref o1)])) t
      refine XS.iconst X0.here hx rfl (hb hby d3_10) ?_
      show Steps p.tables e below (s₁.setTop (mkF m 11 #[.val (.ref o0), .val (.ref o1), .val .null, .val (.int p3), .unset] [(.int (0 : Int32)), .null, (.ref o1)])) t
      refine XS.iloadN X0.here hx rfl (hb hby d3_11) rfl ?_
      show Steps p.tables e below (s₁.setTop (mkF m 12 #[.val (.ref o0), .val (.ref o1), .val .null, .val (.int p3), .unset] [(.int p3), (.int (0 : Int32)), .null, (.ref o1)])) t
      refine st2 _ ?_
      show Steps p.tables e below (T2.setTop (mkF m 15 #[.val (.ref o0), .val (.ref o1), .val .null, .val (.int p3), .unset] [(.int (own_bl f (fun _ => true) N (0 : Int32) p3))])) t
      refine XS.aloadN X2.here hx rfl (hb hby d3_15) rfl rfl ?_
      show Steps p.tables e below (T2.setTop (mkF m 16 #[.val (.ref o0), .val (.ref o1), .val .null, .val (.int p3), .unset] [(.ref o1), (.int (own_bl f (fun _ => true) N (0 : Int32) p3))])) t
      refine XS.aloadN X2.here hx rfl (hb hby d3_16) rfl rfl ?_
      show Steps p.tables e below (T2.setTop (mkF m 17 #[.val (.ref o0), .val (.ref o1), .val .null, .val (.int p3), .unset] [.null, (.ref o1), (.int (own_bl f (fun _ => true) N (0 : Int32) p3))])) t
      refine XS.iconst X2.here hx rfl (hb hby d3_17) ?_
      show Steps p.tables e below (T2.setTop (mkF m 18 #[.val (.ref o0), .val (.ref o1), .val .null, .val (.int p3), .unset] [(.int (1 : Int32)), .null, (.ref o1), (.int (own_bl f (fun _ => true) N (0 : Int32) p3))])) t
      refine XS.iloadN X2.here hx rfl (hb hby d3_18) rfl ?_
      show Steps p.tables e below (T2.setTop (mkF m 19 #[.val (.ref o0), .val (.ref o1), .val .null, .val (.int p3), .unset] [(.int p3), (.int (1 : Int32)), .null, (.ref o1), (.int (own_bl f (fun _ => true) N (0 : Int32) p3))])) t
      refine st3 _ ?_
      show Steps p.tables e below (T3.setTop (mkF m 22 #[.val (.ref o0), .val (.ref o1), .val .null, .val (.int p3), .unset] [(.int (own_bl f (fun _ => true) N (1 : Int32) p3)), (.int (own_bl f (fun _ => true) N (0 : Int32) p3))])) t
      refine XS.iadd X3.here hx rfl (hb hby d3_22) rfl ?_
      show Steps p.tables e below (T3.setTop (mkF m 23 #[.val (.ref o0), .val (.ref o1), .val .null, .val (.int p3), .unset] [(.int ((own_bl f (fun _ => true) N (0 : Int32) p3) + (own_bl f (fun _ => true) N (1 : Int32) p3)))])) t
      refine XS.aloadN X3.here hx rfl (hb hby d3_23) rfl rfl ?_
      show Steps p.tables e below (T3.setTop (mkF m 24 #[.val (.ref o0), .val (.ref o1), .val .null, .val (.int p3), .unset] [(.ref o1), (.int ((own_bl f (fun _ => true) N (0 : Int32) p3) + (own_bl f (fun _ => true) N (1 : Int32) p3)))])) t
      refine XS.aloadN X3.here hx rfl (hb hby d3_24) rfl rfl ?_
      show Steps p.tables e below (T3.setTop (mkF m 25 #[.val (.ref o0), .val (.ref o1), .val .null, .val (.int p3), .unset] [.null, (.ref o1), (.int ((own_bl f (fun _ => true) N (0 : Int32) p3) + (own_bl f (fun _ => true) N (1 : Int32) p3)))])) t
      refine XS.iconst X3.here hx rfl (hb hby d3_25) ?_
      show Steps p.tables e below (T3.setTop (mkF m 26 #[.val (.ref o0), .val (.ref o1), .val .null, .val (.int p3), .unset] [(.int (2 : Int32)), .null, (.ref o1), (.int ((own_bl f (fun _ => true) N (0 : Int32) p3) + (own_bl f (fun _ => true) N (1 : Int32) p3)))])) t
      refine XS.iloadN X3.here hx rfl (hb hby d3_26) rfl ?_
      show Steps p.tables e below (T3.setTop (mkF m 27 #[.val (.ref o0), .val (.ref o1), .val .null, .val (.int p3), .unset] [(.int p3), (.int (2 : Int32)), .null, (.ref o1), (.int ((own_bl f (fun _ => true) N (0 : Int32) p3) + (own_bl f (fun _ => true) N (1 : Int32) p3)))])) t
      refine st4 _ ?_
      show Steps p.tables e below (T4.setTop (mkF m 30 #[.val (.ref o0), .val (.ref o1), .val .null, .val (.int p3), .unset] [(.int (own_bl f (fun _ => true) N (2 : Int32) p3)), (.int ((own_bl f (fun _ => true) N (0 : Int32) p3) + (own_bl f (fun _ => true) N (1 : Int32) p3)))])) t
      refine XS.iadd X4.here hx rfl (hb hby d3_30) rfl ?_
      show Steps p.tables e below (T4.setTop (mkF m 31 #[.val (.ref o0), .val (.ref o1), .val .null, .val (.int p3), .unset] [(.int (((own_bl f (fun _ => true) N (0 : Int32) p3) + (own_bl f (fun _ => true) N (1 : Int32) p3)) + (own_bl f (fun _ => true) N (2 : Int32) p3)))])) t
      refine XS.aloadN X4.here hx rfl (hb hby d3_31) rfl rfl ?_
      show Steps p.tables e below (T4.setTop (mkF m 32 #[.val (.ref o0), .val (.ref o1), .val .null, .val (.int p3), .unset] [(.ref o1), (.int (((own_bl f (fun _ => true) N (0 : Int32) p3) + (own_bl f (fun _ => true) N (1 : Int32) p3)) + (own_bl f (fun _ => true) N (2 : Int32) p3)))])) t
      refine XS.aloadN X4.here hx rfl (hb hby d3_32) rfl rfl ?_
      show Steps p.tables e below (T4.setTop (mkF m 33 #[.val (.ref o0), .val (.ref o1), .val .null, .val (.int p3), .unset] [.null, (.ref o1), (.int (((own_bl f (fun _ => true) N (0 : Int32) p3) + (own_bl f (fun _ => true) N (1 : Int32) p3)) + (own_bl f (fun _ => true) N (2 : Int32) p3)))])) t
      refine XS.iconst X4.here hx rfl (hb hby d3_33) ?_
      show Steps p.tables e below (T4.setTop (mkF m 34 #[.val (.ref o0), .val (.ref o1), .val .null, .val (.int p3), .unset] [(.int (3 : Int32)), .null, (.ref o1), (.int (((own_bl f (fun _ => true) N (0 : Int32) p3) + (own_bl f (fun _ => true) N (1 : Int32) p3)) + (own_bl f (fun _ => true) N (2 : Int32) p3)))])) t
      refine XS.iloadN X4.here hx rfl (hb hby d3_34) rfl ?_
      show Steps p.tables e below (T4.setTop (mkF m 35 #[.val (.ref o0), .val (.ref o1), .val .null, .val (.int p3), .unset] [(.int p3), (.int (3 : Int32)), .null, (.ref o1), (.int (((own_bl f (fun _ => true) N (0 : Int32) p3) + (own_bl f (fun _ => true) N (1 : Int32) p3)) + (own_bl f (fun _ => true) N (2 : Int32) p3)))])) t
      refine st5 _ ?_
      show Steps p.tables e below (T5.setTop (mkF m 38 #[.val (.ref o0), .val (.ref o1), .val .null, .val (.int p3), .unset] [(.int (own_bl f (fun _ => true) N (3 : Int32) p3)), (.int (((own_bl f (fun _ => true) N (0 : Int32) p3) + (own_bl f (fun _ => true) N (1 : Int32) p3)) + (own_bl f (fun _ => true) N (2 : Int32) p3)))])) t
      refine XS.iadd X5.here hx rfl (hb hby d3_38) rfl ?_
      show Steps p.tables e below (T5.setTop (mkF m 39 #[.val (.ref o0), .val (.ref o1), .val .null, .val (.int p3), .unset] [(.int ((((own_bl f (fun _ => true) N (0 : Int32) p3) + (own_bl f (fun _ => true) N (1 : Int32) p3)) + (own_bl f (fun _ => true) N (2 : Int32) p3)) + (own_bl f (fun _ => true) N (3 : Int32) p3)))])) t
      refine Own.nmI hv6 ?_
      show Steps p.tables e below (T5.setTop (mkF m 39 #[.val (.ref o0), .val (.ref o1), .val .null, .val (.int p3), .unset] [(.int v6)])) t
      refine XS.istore X5.here hx rfl (hb hby d3_39) rfl (l' := #[.val (.ref o0), .val (.ref o1), .val .null, .val (.int p3), .val (.int v6)]) rfl ?_
      show Steps p.tables e below (T5.setTop (mkF m 41 #[.val (.ref o0), .val (.ref o1), .val .null, .val (.int p3), .val (.int v6)] [])) t
      refine XS.aloadN X5.here hx rfl (hb hby d3_41) rfl rfl ?_
      show Steps p.tables e below (T5.setTop (mkF m 42 #[.val (.ref o0), .val (.ref o1), .val .null, .val (.int p3), .val (.int v6)] [(.ref o0)])) t
      refine XS.iloadN X5.here hx rfl (hb hby d3_42) rfl ?_
      show Steps p.tables e below (T5.setTop (mkF m 43 #[.val (.ref o0), .val (.ref o1), .val .null, .val (.int p3), .val (.int v6)] [(.int p3), (.ref o0)])) t
      refine Own.ldI X5 hx hZ e5 A0 hj7 (g := (mkF m 43 #[.val (.ref o0), .val (.ref o1), .val .null, .val (.int p3), .val (.int v6)] [(.int p3), (.ref o0)])) rfl rfl (hb hby d3_43) _ ?_
      show Steps p.tables e below (T5.setTop (mkF m 44 #[.val (.ref o0), .val (.ref o1), .val .null, .val (.int p3), .val (.int v6)] [(.int (fr p3.toInt.toNat))])) t
      refine XS.iload X5.here hx rfl (hb hby d3_44) rfl ?_
      show Steps p.tables e below (T5.setTop (mkF m 46 #[.val (.ref o0), .val (.ref o1), .val .null, .val (.int p3), .val (.int v6)] [(.int v6), (.int (fr p3.toInt.toNat))])) t
      exact k
    by_cases hc8 : (fr p3.toInt.toNat) = v6
    · refine hD _ (T5.setTop (mkF m 54 #[.val (.ref o0), .val (.ref o1), .val .null, .val (.int p3), .val (.int v6)] [(.int (1 : Int32))])) (fun t k => ?_) ?_
      · show Steps p.tables e below (T5.setTop (mkF m 46 #[.val (.ref o0), .val (.ref o1), .val .null, .val (.int p3), .val (.int v6)] [(.int v6), (.int (fr p3.toInt.toNat))])) t
        refine XS.icmpNo X5.here hx rfl (hb hby d3_46) rfl (teq hc8).2 ?_
        show Steps p.tables e below (T5.setTop (mkF m 49 #[.val (.ref o0), .val (.ref o1), .val .null, .val (.int p3), .val (.int v6)] [])) t
        refine XS.iconst X5.here hx rfl (hb hby d3_49) ?_
        show Steps p.tables e below (T5.setTop (mkF m 50 #[.val (.ref o0), .val (.ref o1), .val .null, .val (.int p3), .val (.int v6)] [(.int (1 : Int32))])) t
        refine XS.goto X5.here hx rfl (pc0 := 50) (pc' := 54) rfl (hb hby d3_50) (by decide) (by decide) ?_
        show Steps p.tables e below (T5.setTop (mkF m 54 #[.val (.ref o0), .val (.ref o1), .val .null, .val (.int p3), .val (.int v6)] [(.int (1 : Int32))])) t
        exact k
      exact Own.retN hR X5 hx (t := .boolean) hret (by simp) (hb hby d3_54) (by decide) (by decide) (by decide) ⟨by rw [show own_ck fr R f (fun _ => true) N p3 = true from decide_eq_true (Or.inr (by rw [← hv6]; exact hc8))]; rfl, N5, e5⟩
    · refine hD _ (T5.setTop (mkF m 54 #[.val (.ref o0), .val (.ref o1), .val .null, .val (.int p3), .val (.int v6)] [(.int (0 : Int32))])) (fun t k => ?_) ?_
      · show Steps p.tables e below (T5.setTop (mkF m 46 #[.val (.ref o0), .val (.ref o1), .val .null, .val (.int p3), .val (.int v6)] [(.int v6), (.int (fr p3.toInt.toNat))])) t
        refine XS.icmpYes X5.here hx rfl (pc0 := 46) (pc' := 53) rfl (hb hby d3_46) rfl (feq hc8).2 (by decide) (by decide) ?_
        show Steps p.tables e below (T5.setTop (mkF m 53 #[.val (.ref o0), .val (.ref o1), .val .null, .val (.int p3), .val (.int v6)] [])) t
        refine XS.iconst X5.here hx rfl (hb hby d3_53) ?_
        show Steps p.tables e below (T5.setTop (mkF m 54 #[.val (.ref o0), .val (.ref o1), .val .null, .val (.int p3), .val (.int v6)] [(.int (0 : Int32))])) t
        exact k
      exact Own.retN hR X5 hx (t := .boolean) hret (by simp) (hb hby d3_54) (by decide) (by decide) (by decide) ⟨by rw [show own_ck fr R f (fun _ => true) N p3 = false from decide_eq_false (by rintro (q | q); exact q hc1; exact hc8 (by rw [hv6]; exact q))]; rfl, N5, e5⟩
  · refine hD _ (s₁.setTop (mkF m 7 #[.val (.ref o0), .val (.ref o1), .val .null, .val (.int p3), .unset] [(.int (1 : Int32))])) (fun t k => ?_) ?_
    · show Steps p.tables e below (s₁.setTop (mkF m 3 #[.val (.ref o0), .val (.ref o1), .val .null, .val (.int p3), .unset] [(.int (Int32.ofNat R)), (.int p3)])) t
      refine XS.icmpNo X0.here hx rfl (hb hby d3_3) rfl (flt hc1).1 ?_
      show Steps p.tables e below (s₁.setTop (mkF m 6 #[.val (.ref o0), .val (.ref o1), .val .null, .val (.int p3), .unset] [])) t
      refine XS.iconst X0.here hx rfl (hb hby d3_6) ?_
      show Steps p.tables e below (s₁.setTop (mkF m 7 #[.val (.ref o0), .val (.ref o1), .val .null, .val (.int p3), .unset] [(.int (1 : Int32))])) t
      exact k
    exact Own.retN hR X0 hx (t := .boolean) hret (by simp) (hb hby d3_7) (by decide) (by decide) (by decide) ⟨by rw [show own_ck fr R f (fun _ => true) N p3 = true from decide_eq_true (Or.inl hc1)]; rfl, N0, e0⟩
theorem d11_0 : decode prog_43_method_3_code 0 = .ok (.iload_n 1, 1) := by decide +kernel
theorem d11_1 : decode prog_43_method_3_code 1 = .ok (.iconst 1, 1) := by decide +kernel
theorem d11_2 : decode prog_43_method_3_code 2 = .ok (.iadd, 1) := by decide +kernel
theorem d11_3 : decode prog_43_method_3_code 3 = .ok (.newarray .int, 2) := by decide +kernel
theorem d11_5 : decode prog_43_method_3_code 5 = .ok (.astore_n 3, 1) := by decide +kernel
theorem d11_6 : decode prog_43_method_3_code 6 = .ok (.iconst 0, 1) := by decide +kernel
theorem d11_7 : decode prog_43_method_3_code 7 = .ok (.istore 4, 2) := by decide +kernel
theorem d11_9 : decode prog_43_method_3_code 9 = .ok (.iload 4, 2) := by decide +kernel
theorem d11_11 : decode prog_43_method_3_code 11 = .ok (.aload_n 0, 1) := by decide +kernel
theorem d11_12 : decode prog_43_method_3_code 12 = .ok (.arraylength, 1) := by decide +kernel
theorem d11_13 : decode prog_43_method_3_code 13 = .ok (.if_icmp .ge 32, 3) := by decide +kernel
theorem d11_16 : decode prog_43_method_3_code 16 = .ok (.aload_n 2, 1) := by decide +kernel
theorem d11_17 : decode prog_43_method_3_code 17 = .ok (.ifnull 10, 3) := by decide +kernel
theorem d11_20 : decode prog_43_method_3_code 20 = .ok (.aload_n 2, 1) := by decide +kernel
theorem d11_21 : decode prog_43_method_3_code 21 = .ok (.iload 4, 2) := by decide +kernel
theorem d11_23 : decode prog_43_method_3_code 23 = .ok (.baload, 1) := by decide +kernel
theorem d11_24 : decode prog_43_method_3_code 24 = .ok (.ifCond .eq 15, 3) := by decide +kernel
theorem d11_27 : decode prog_43_method_3_code 27 = .ok (.aload_n 3, 1) := by decide +kernel
theorem d11_28 : decode prog_43_method_3_code 28 = .ok (.aload_n 0, 1) := by decide +kernel
theorem d11_29 : decode prog_43_method_3_code 29 = .ok (.iload 4, 2) := by decide +kernel
theorem d11_31 : decode prog_43_method_3_code 31 = .ok (.iaload, 1) := by decide +kernel
theorem d11_32 : decode prog_43_method_3_code 32 = .ok (.iconst 1, 1) := by decide +kernel
theorem d11_33 : decode prog_43_method_3_code 33 = .ok (.iadd, 1) := by decide +kernel
theorem d11_34 : decode prog_43_method_3_code 34 = .ok (.dup2, 1) := by decide +kernel
theorem d11_35 : decode prog_43_method_3_code 35 = .ok (.iaload, 1) := by decide +kernel
theorem d11_36 : decode prog_43_method_3_code 36 = .ok (.iconst 1, 1) := by decide +kernel
theorem d11_37 : decode prog_43_method_3_code 37 = .ok (.iadd, 1) := by decide +kernel
theorem d11_38 : decode prog_43_method_3_code 38 = .ok (.iastore, 1) := by decide +kernel
theorem d11_39 : decode prog_43_method_3_code 39 = .ok (.iinc 4 1, 3) := by decide +kernel
theorem d11_42 : decode prog_43_method_3_code 42 = .ok (.goto (-33), 3) := by decide +kernel
theorem d11_45 : decode prog_43_method_3_code 45 = .ok (.iconst 0, 1) := by decide +kernel
theorem d11_46 : decode prog_43_method_3_code 46 = .ok (.istore 4, 2) := by decide +kernel
theorem d11_48 : decode prog_43_method_3_code 48 = .ok (.iload 4, 2) := by decide +kernel
theorem d11_50 : decode prog_43_method_3_code 50 = .ok (.iload_n 1, 1) := by decide +kernel
theorem d11_51 : decode prog_43_method_3_code 51 = .ok (.if_icmp .ge 22, 3) := by decide +kernel
theorem d11_54 : decode prog_43_method_3_code 54 = .ok (.aload_n 3, 1) := by decide +kernel
theorem d11_55 : decode prog_43_method_3_code 55 = .ok (.iload 4, 2) := by decide +kernel
theorem d11_57 : decode prog_43_method_3_code 57 = .ok (.iconst 1, 1) := by decide +kernel
theorem d11_58 : decode prog_43_method_3_code 58 = .ok (.iadd, 1) := by decide +kernel
theorem d11_59 : decode prog_43_method_3_code 59 = .ok (.dup2, 1) := by decide +kernel
theorem d11_60 : decode prog_43_method_3_code 60 = .ok (.iaload, 1) := by decide +kernel
theorem d11_61 : decode prog_43_method_3_code 61 = .ok (.aload_n 3, 1) := by decide +kernel
theorem d11_62 : decode prog_43_method_3_code 62 = .ok (.iload 4, 2) := by decide +kernel
theorem d11_64 : decode prog_43_method_3_code 64 = .ok (.iaload, 1) := by decide +kernel
theorem d11_65 : decode prog_43_method_3_code 65 = .ok (.iadd, 1) := by decide +kernel
theorem d11_66 : decode prog_43_method_3_code 66 = .ok (.iastore, 1) := by decide +kernel
theorem d11_67 : decode prog_43_method_3_code 67 = .ok (.iinc 4 1, 3) := by decide +kernel
theorem d11_70 : decode prog_43_method_3_code 70 = .ok (.goto (-22), 3) := by decide +kernel
theorem d11_73 : decode prog_43_method_3_code 73 = .ok (.aload_n 3, 1) := by decide +kernel
theorem d11_74 : decode prog_43_method_3_code 74 = .ok (.areturn, 1) := by decide +kernel
theorem ef_11 (m : MethodId) (o0 : Addr) (p1 : Int32) (o2 : Addr) : entryFrame m #[(.ref o0), (.int p1), (.ref o2)] 5 = mkF m 0 #[.val (.ref o0), .val (.int p1), .val (.ref o2), .unset, .unset] [] := by first | (simp [entryFrame, mkF, argsToLocals, Value.category]; done) | rfl
def Q11 (Z : State) (o0 : Nat) (p1 : Int32) (o2 : Nat) (N G : Nat) (f : Nat → Int32) (kb : Nat → Int32) (h0 : Heap) (n0 : Nat) (v : Option Value) (h : Heap) (L : List Loc) : Prop := ∃ b : Nat, v = some (.ref b) ∧ Fr n0 L ∧ Own.AvI Z h b .int (G + 1) (own_s (own_c f (own_kb kb) N) G) ∧ Own.AvI Z h o0 .int N f ∧ Own.AvI Z h o2 .boolean N kb
set_option maxRecDepth 65536 in
set_option maxHeartbeats 40000000 in
theorem rm11 (l : Launch) (Z : State) (a0 : Array Value) (hw : ∀ d ∈ tables_1, d.before a0 Z = true) (ws : List Jvm.Cond) (o0 : Nat) (p1 : Int32) (o2 : Nat) (N G : Nat) (f : Nat → Int32) (kb : Nat → Int32) (h0 : Heap) (n0 : Nat) (Z0 : n0 ≤ h0.size) (hN : N ≤ 4) (hG : p1.toInt = G) (hG4 : G ≤ 4) (hf : ∀ i, i < N → 0 ≤ (f i).toInt ∧ (f i).toInt < G) (A0 : Own.AvI Z h0 o0 .int N f) (A2 : Own.AvI Z h0 o2 .boolean N kb) :
    MetFree l (⟨"com/example/schedulens/schedulens/Positions", "groupStarts", "([II[Z)[I"⟩ : MethodName) (head1 (Jvm.Cond.code (⟨"com/example/schedulens/schedulens/Positions", "groupStarts", "([II[Z)[I"⟩ : MethodName) prog_43_method_3_code 5 (some (.array .int)) :: ws) ({ frames := 0, cells := 1, slots := 5, locals := 0 } : Room)) (fun a U => a = #[(.ref o0), (.int p1), (.ref o2)] ∧ Z.Warmed39 U.vm ∧ U.heap = h0) (fun _ _ _ _ _ => True) (fun _ U o U' => ∃ v L, o = .returned v ∧ Q11 Z o0 p1 o2 N G f kb h0 n0 v U'.heap L ∧ FrameEnd U o U' L ({ frames := 0, cells := 1, slots := 5, locals := 0 } : Room).cells ({ frames := 0, cells := 1, slots := 5, locals := 0 } : Room).slots) := by
  refine Own.enter (Q := Q11 Z o0 p1 o2 N G f kb h0 n0) (plainFor_of_name pn_0) ?_
  intro p e s m below meth c s₁ D hx hby hml hown hnm hret hZ X0 e0 hD hR
  have N0 := Fr.nil n0
  rw [show entryFrame m #[(.ref o0), (.int p1), (.ref o2)] 5 = mkF m 0 #[.val (.ref o0), .val (.int p1), .val (.ref o2), .unset, .unset] [] from ef_11 m o0 p1 o2]
  have hz := own_p1 hG (by omega)
  obtain ⟨T1, h1, k1, X1, e1, E1, A1, st1⟩ := newP X0 hx hZ (hw _ (List.mem_of_getElem? (i := 0) rfl)) e0 (g := (mkF m 3 #[.val (.ref o0), .val (.int p1), .val (.ref o2), .unset, .unset] [(.int (p1 + (1 : Int32)))])) rfl (hb hby d11_3) rfl (own_nn hz) (cap := 5) (own_cl hz (by omega)) (by decide) (by decide) (by decide)
  obtain ⟨b1, g_b1⟩ : ∃ z : Nat, z = h0.size := ⟨_, rfl⟩
  rw [← g_b1] at A1 st1
  have lt_o0_b1 : (o0 : Nat) < b1 := by rw [g_b1]; exact A0.lt
  have lt_o2_b1 : (o2 : Nat) < b1 := by rw [g_b1]; exact A2.lt
  have g0_b1 : n0 ≤ b1 := by rw [g_b1]; exact Z0
  have f2 : Own.AvI Z h1 o0 .int N f := A0.ext E1
  have f3 : Own.AvI Z h1 o2 .boolean N kb := A2.ext E1
  have f4 : Own.AvI Z h1 b1 .int (G + 1) (fun _ => 0) := Own.AvI.new A1 hz rfl
  have Z1 : n0 ≤ h1.size := Nat.le_trans Z0 E1.1
  refine hD _ (T1.setTop (mkF m 9 #[.val (.ref o0), .val (.int p1), .val (.ref o2), .val (.ref b1), .val (.int (0 : Int32))] [])) (fun t k => ?_) ?_
  · show Steps p.tables e below (s₁.setTop (mkF m 0 #[.val (.ref o0), .val (.int p1), .val (.ref o2), .unset, .unset] [])) t
    refine XS.iloadN X0.here hx rfl (hb hby d11_0) rfl ?_
    show Steps p.tables e below (s₁.setTop (mkF m 1 #[.val (.ref o0), .val (.int p1), .val (.ref o2), .unset, .unset] [(.int p1)])) t
    refine XS.iconst X0.here hx rfl (hb hby d11_1) ?_
    show Steps p.tables e below (s₁.setTop (mkF m 2 #[.val (.ref o0), .val (.int p1), .val (.ref o2), .unset, .unset] [(.int (1 : Int32)), (.int p1)])) t
    refine XS.iadd X0.here hx rfl (hb hby d11_2) rfl ?_
    show Steps p.tables e below (s₁.setTop (mkF m 3 #[.val (.ref o0), .val (.int p1), .val (.ref o2), .unset, .unset] [(.int (p1 + (1 : Int32)))])) t
    refine st1 _ ?_
    show Steps p.tables e below (T1.setTop (mkF m 5 #[.val (.ref o0), .val (.int p1), .val (.ref o2), .unset, .unset] [(.ref b1)])) t
    refine XS.astoreN X1.here hx rfl (hb hby d11_5) rfl rfl (l' := #[.val (.ref o0), .val (.int p1), .val (.ref o2), .val (.ref b1), .unset]) rfl ?_
    show Steps p.tables e below (T1.setTop (mkF m 6 #[.val (.ref o0), .val (.int p1), .val (.ref o2), .val (.ref b1), .unset] [])) t
    refine XS.iconst X1.here hx rfl (hb hby d11_6) ?_
    show Steps p.tables e below (T1.setTop (mkF m 7 #[.val (.ref o0), .val (.int p1), .val (.ref o2), .val (.ref b1), .unset] [(.int (0 : Int32))])) t
    refine XS.istore X1.here hx rfl (hb hby d11_7) rfl (l' := #[.val (.ref o0), .val (.int p1), .val (.ref o2), .val (.ref b1), .val (.int (0 : Int32))]) rfl ?_
    show Steps p.tables e below (T1.setTop (mkF m 9 #[.val (.ref o0), .val (.int p1), .val (.ref o2), .val (.ref b1), .val (.int (0 : Int32))] [])) t
    exact k
  have L9 : ∀ (k : Nat) (T5 : State) (locs5 : List Loc) (h5 : Heap) (i : Nat), Stand p l e ({ frames := 0, cells := 1, slots := 5, locals := 0 } : Room) s m #[(.ref o0), (.int p1), (.ref o2)] below meth c T5 locs5 1 5 → T5.heap = h5 → Fr n0 locs5 → n0 ≤ h5.size → Own.AvI Z h5 o0 .int N f → Own.AvI Z h5 o2 .boolean N kb → Own.AvI Z h5 b1 .int (G + 1) (own_c f (own_kb kb) i) → i + k = N → D (T5.setTop (mkF m 9 #[.val (.ref o0), .val (.int p1), .val (.ref o2), .val (.ref b1), .val (.int (Int32.ofNat i))] [])) := by
    intro k
    induction k with
    | zero => 
      intro T5 locs5 h5 i X5 e5 N5 Z5 f6 f7 f8 hi
      refine hD _ (T5.setTop (mkF m 13 #[.val (.ref o0), .val (.int p1), .val (.ref o2), .val (.ref b1), .val (.int (Int32.ofNat i))] [(.int (Int32.ofNat N)), (.int (Int32.ofNat i))])) (fun t k => ?_) ?_
      · show Steps p.tables e below (T5.setTop (mkF m 9 #[.val (.ref o0), .val (.int p1), .val (.ref o2), .val (.ref b1), .val (.int (Int32.ofNat i))] [])) t
        refine XS.iload X5.here hx rfl (hb hby d11_9) rfl ?_
        show Steps p.tables e below (T5.setTop (mkF m 11 #[.val (.ref o0), .val (.int p1), .val (.ref o2), .val (.ref b1), .val (.int (Int32.ofNat i))] [(.int (Int32.ofNat i))])) t
        refine XS.aloadN X5.here hx rfl (hb hby d11_11) rfl rfl ?_
        show Steps p.tables e below (T5.setTop (mkF m 12 #[.val (.ref o0), .val (.int p1), .val (.ref o2), .val (.ref b1), .val (.int (Int32.ofNat i))] [(.ref o0), (.int (Int32.ofNat i))])) t
        refine Own.lenI X5 hx hZ e5 f6 (g := (mkF m 12 #[.val (.ref o0), .val (.int p1), .val (.ref o2), .val (.ref b1), .val (.int (Int32.ofNat i))] [(.ref o0), (.int (Int32.ofNat i))])) rfl rfl (hb hby d11_12) _ ?_
        show Steps p.tables e below (T5.setTop (mkF m 13 #[.val (.ref o0), .val (.int p1), .val (.ref o2), .val (.ref b1), .val (.int (Int32.ofNat i))] [(.int (Int32.ofNat N)), (.int (Int32.ofNat i))])) t
        exact k
      have hc9 : ¬ ((Int32.ofNat i) < (Int32.ofNat N)) := by rw [own_ol (by omega) (by omega)]; omega
      refine hD _ (T5.setTop (mkF m 48 #[.val (.ref o0), .val (.int p1), .val (.ref o2), .val (.ref b1), .val (.int (0 : Int32))] [])) (fun t k => ?_) ?_
      · show Steps p.tables e below (T5.setTop (mkF m 13 #[.val (.ref o0), .val (.int p1), .val (.ref o2), .val (.ref b1), .val (.int (Int32.ofNat i))] [(.int (Int32.ofNat N)), (.int (Int32.ofNat i))])) t
        refine XS.icmpYes X5.here hx rfl (pc0 := 13) (pc' := 45) rfl (hb hby d11_13) rfl (flt hc9).2.1 (by decide) (by decide) ?_
        show Steps p.tables e below (T5.setTop (mkF m 45 #[.val (.ref o0), .val (.int p1), .val (.ref o2), .val (.ref b1), .val (.int (Int32.ofNat i))] [])) t
        refine XS.iconst X5.here hx rfl (hb hby d11_45) ?_
        show Steps p.tables e below (T5.setTop (mkF m 46 #[.val (.ref o0), .val (.int p1), .val (.ref o2), .val (.ref b1), .val (.int (Int32.ofNat i))] [(.int (0 : Int32))])) t
        refine XS.istore X5.here hx rfl (hb hby d11_46) rfl (l' := #[.val (.ref o0), .val (.int p1), .val (.ref o2), .val (.ref b1), .val (.int (0 : Int32))]) rfl ?_
        show Steps p.tables e below (T5.setTop (mkF m 48 #[.val (.ref o0), .val (.int p1), .val (.ref o2), .val (.ref b1), .val (.int (0 : Int32))] [])) t
        exact k
      have L48 : ∀ (k' : Nat) (T10 : State) (locs10 : List Loc) (h10 : Heap) (j : Nat), Stand p l e ({ frames := 0, cells := 1, slots := 5, locals := 0 } : Room) s m #[(.ref o0), (.int p1), (.ref o2)] below meth c T10 locs10 1 5 → T10.heap = h10 → Fr n0 locs10 → n0 ≤ h10.size → Own.AvI Z h10 o0 .int N f → Own.AvI Z h10 o2 .boolean N kb → Own.AvI Z h10 b1 .int (G + 1) (own_s (own_c f (own_kb kb) N) j) → j + k' = G → D (T10.setTop (mkF m 48 #[.val (.ref o0), .val (.int p1), .val (.ref o2), .val (.ref b1), .val (.int (Int32.ofNat j))] [])) := by
        intro k'
        induction k' with
        | zero => 
          intro T10 locs10 h10 j X10 e10 N10 Z10 f11 f12 f13 hj
          refine hD _ (T10.setTop (mkF m 51 #[.val (.ref o0), .val (.int p1), .val (.ref o2), .val (.ref b1), .val (.int (Int32.ofNat j))] [(.int p1), (.int (Int32.ofNat j))])) (fun t k => ?_) ?_
          · show Steps p.tables e below (T10.setTop (mkF m 48 #[.val (.ref o0), .val (.int p1), .val (.ref o2), .val (.ref b1), .val (.int (Int32.ofNat j))] [])) t
            refine XS.iload X10.here hx rfl (hb hby d11_48) rfl ?_
            show Steps p.tables e below (T10.setTop (mkF m 50 #[.val (.ref o0), .val (.int p1), .val (.ref o2), .val (.ref b1), .val (.int (Int32.ofNat j))] [(.int (Int32.ofNat j))])) t
            refine XS.iloadN X10.here hx rfl (hb hby d11_50) rfl ?_
            show Steps p.tables e below (T10.setTop (mkF m 51 #[.val (.ref o0), .val (.int p1), .val (.ref o2), .val (.ref b1), .val (.int (Int32.ofNat j))] [(.int p1), (.int (Int32.ofNat j))])) t
            exact k
          have hc14 : ¬ ((Int32.ofNat j) < p1) := by rw [own_lt, own_oi (by omega), hG]; omega
          refine hD _ (T10.setTop (mkF m 74 #[.val (.ref o0), .val (.int p1), .val (.ref o2), .val (.ref b1), .val (.int (Int32.ofNat j))] [(.ref b1)])) (fun t k => ?_) ?_
          · show Steps p.tables e below (T10.setTop (mkF m 51 #[.val (.ref o0), .val (.int p1), .val (.ref o2), .val (.ref b1), .val (.int (Int32.ofNat j))] [(.int p1), (.int (Int32.ofNat j))])) t
            refine XS.icmpYes X10.here hx rfl (pc0 := 51) (pc' := 73) rfl (hb hby d11_51) rfl (flt hc14).2.1 (by decide) (by decide) ?_
            show Steps p.tables e below (T10.setTop (mkF m 73 #[.val (.ref o0), .val (.int p1), .val (.ref o2), .val (.ref b1), .val (.int (Int32.ofNat j))] [])) t
            refine XS.aloadN X10.here hx rfl (hb hby d11_73) rfl rfl ?_
            show Steps p.tables e below (T10.setTop (mkF m 74 #[.val (.ref o0), .val (.int p1), .val (.ref o2), .val (.ref b1), .val (.int (Int32.ofNat j))] [(.ref b1)])) t
            exact k
          exact Own.retA hR X10 hx rfl hret rfl (hb hby d11_74) (by decide) (by decide) (by rw [e10]; exact ⟨b1, rfl, N10, (by have q := f13; rw [show j = G by omega] at q; exact q), f11, f12⟩)
        | succ k' ih => 
          intro T10 locs10 h10 j X10 e10 N10 Z10 f11 f12 f13 hj
          refine hD _ (T10.setTop (mkF m 51 #[.val (.ref o0), .val (.int p1), .val (.ref o2), .val (.ref b1), .val (.int (Int32.ofNat j))] [(.int p1), (.int (Int32.ofNat j))])) (fun t k => ?_) ?_
          · show Steps p.tables e below (T10.setTop (mkF m 48 #[.val (.ref o0), .val (.int p1), .val (.ref o2), .val (.ref b1), .val (.int (Int32.ofNat j))] [])) t
            refine XS.iload X10.here hx rfl (hb hby d11_48) rfl ?_
            show Steps p.tables e below (T10.setTop (mkF m 50 #[.val (.ref o0), .val (.int p1), .val (.ref o2), .val (.ref b1), .val (.int (Int32.ofNat j))] [(.int (Int32.ofNat j))])) t
            refine XS.iloadN X10.here hx rfl (hb hby d11_50) rfl ?_
            show Steps p.tables e below (T10.setTop (mkF m 51 #[.val (.ref o0), .val (.int p1), .val (.ref o2), .val (.ref b1), .val (.int (Int32.ofNat j))] [(.int p1), (.int (Int32.ofNat j))])) t
            exact k
          have hc15 : (Int32.ofNat j) < p1 := by rw [own_lt, own_oi (by omega), hG]; omega
          have hj16 : 0 ≤ ((Int32.ofNat j) + (1 : Int32)).toInt ∧ ((Int32.ofNat j) + (1 : Int32)).toInt < ((G + 1) : Nat) := by rw [own_ix1 (by omega)]; omega
          have hj17 : 0 ≤ (Int32.ofNat j).toInt ∧ (Int32.ofNat j).toInt < ((G + 1) : Nat) := by rw [own_oi (by omega)]; omega
          have hj18 : 0 ≤ ((Int32.ofNat j) + (1 : Int32)).toInt ∧ ((Int32.ofNat j) + (1 : Int32)).toInt < ((G + 1) : Nat) := by rw [own_ix1 (by omega)]; omega
          obtain ⟨T19, h19, X19, e19, A19, W19, st19⟩ := Own.stoI X10 hx hZ e10 f13 hj18 (g := (mkF m 66 #[.val (.ref o0), .val (.int p1), .val (.ref o2), .val (.ref b1), .val (.int (Int32.ofNat j))] [(.int (((own_s (own_c f (own_kb kb) N) j) ((Int32.ofNat j) + (1 : Int32)).toInt.toNat) + ((own_s (own_c f (own_kb kb) N) j) (Int32.ofNat j).toInt.toNat))), (.int ((Int32.ofNat j) + (1 : Int32))), (.ref b1)])) rfl rfl (hb hby d11_66)
          have f20 : Own.AvI Z h19 o0 .int N f := f11.other W19 (Own.ne_of (by omega))
          have f21 : Own.AvI Z h19 o2 .boolean N kb := f12.other W19 (Own.ne_of (by omega))
          have N19 := Fr.snoc X19 N10 (show n0 ≤ b1 by omega)
          have Z19 : n0 ≤ h19.size := Nat.le_trans Z10 (Keep.of_wr W19).1
          obtain ⟨v22, hv22⟩ : ∃ z : Int32, z = ((Int32.ofNat j) + (1 : Int32)) := ⟨_, rfl⟩
          refine hD _ (T19.setTop (mkF m 48 #[.val (.ref o0), .val (.int p1), .val (.ref o2), .val (.ref b1), .val (.int v22)] [])) (fun t k => ?_) ?_
          · show Steps p.tables e below (T10.setTop (mkF m 51 #[.val (.ref o0), .val (.int p1), .val (.ref o2), .val (.ref b1), .val (.int (Int32.ofNat j))] [(.int p1), (.int (Int32.ofNat j))])) t
            refine XS.icmpNo X10.here hx rfl (hb hby d11_51) rfl (tlt hc15).2.1 ?_
            show Steps p.tables e below (T10.setTop (mkF m 54 #[.val (.ref o0), .val (.int p1), .val (.ref o2), .val (.ref b1), .val (.int (Int32.ofNat j))] [])) t
            refine XS.aloadN X10.here hx rfl (hb hby d11_54) rfl rfl ?_
            show Steps p.tables e below (T10.setTop (mkF m 55 #[.val (.ref o0), .val (.int p1), .val (.ref o2), .val (.ref b1), .val (.int (Int32.ofNat j))] [(.ref b1)])) t
            refine XS.iload X10.here hx rfl (hb hby d11_55) rfl ?_
            show Steps p.tables e below (T10.setTop (mkF m 57 #[.val (.ref o0), .val (.int p1), .val (.ref o2), .val (.ref b1), .val (.int (Int32.ofNat j))] [(.int (Int32.ofNat j)), (.ref b1)])) t
            refine XS.iconst X10.here hx rfl (hb hby d11_57) ?_
            show Steps p.tables e below (T10.setTop (mkF m 58 #[.val (.ref o0), .val (.int p1), .val (.ref o2), .val (.ref b1), .val (.int (Int32.ofNat j))] [(.int (1 : Int32)), (.int (Int32.ofNat j)), (.ref b1)])) t
            refine XS.iadd X10.here hx rfl (hb hby d11_58) rfl ?_
            show Steps p.tables e below (T10.setTop (mkF m 59 #[.val (.ref o0), .val (.int p1), .val (.ref o2), .val (.ref b1), .val (.int (Int32.ofNat j))] [(.int ((Int32.ofNat j) + (1 : Int32))), (.ref b1)])) t
            refine XT.dup2 X10.here hx rfl (hb hby d11_59) rfl rfl rfl ?_
            show Steps p.tables e below (T10.setTop (mkF m 60 #[.val (.ref o0), .val (.int p1), .val (.ref o2), .val (.ref b1), .val (.int (Int32.ofNat j))] [(.int ((Int32.ofNat j) + (1 : Int32))), (.ref b1), (.int ((Int32.ofNat j) + (1 : Int32))), (.ref b1)])) t
            refine Own.ldI X10 hx hZ e10 f13 hj16 (g := (mkF m 60 #[.val (.ref o0), .val (.int p1), .val (.ref o2), .val (.ref b1), .val (.int (Int32.ofNat j))] [(.int ((Int32.ofNat j) + (1 : Int32))), (.ref b1), (.int ((Int32.ofNat j) + (1 : Int32))), (.ref b1)])) rfl rfl (hb hby d11_60) _ ?_
            show Steps p.tables e below (T10.setTop (mkF m 61 #[.val (.ref o0), .val (.int p1), .val (.ref o2), .val (.ref b1), .val (.int (Int32.ofNat j))] [(.int ((own_s (own_c f (own_kb kb) N) j) ((Int32.ofNat j) + (1 : Int32)).toInt.toNat)), (.int ((Int32.ofNat j) + (1 : Int32))), (.ref b1)])) t
            refine XS.aloadN X10.here hx rfl (hb hby d11_61) rfl rfl ?_
            show Steps p.tables e below (T10.setTop (mkF m 62 #[.val (.ref o0), .val (.int p1), .val (.ref o2), .val (.ref b1), .val (.int (Int32.ofNat j))] [(.ref b1), (.int ((own_s (own_c f (own_kb kb) N) j) ((Int32.ofNat j) + (1 : Int32)).toInt.toNat)), (.int ((Int32.ofNat j) + (1 : Int32))), (.ref b1)])) t
            refine XS.iload X10.here hx rfl (hb hby d11_62) rfl ?_
            show Steps p.tables e below (T10.setTop (mkF m 64 #[.val (.ref o0), .val (.int p1), .val (.ref o2), .val (.ref b1), .val (.int (Int32.ofNat j))] [(.int (Int32.ofNat j)), (.ref b1), (.int ((own_s (own_c f (own_kb kb) N) j) ((Int32.ofNat j) + (1 : Int32)).toInt.toNat)), (.int ((Int32.ofNat j) + (1 : Int32))), (.ref b1)])) t
            refine Own.ldI X10 hx hZ e10 f13 hj17 (g := (mkF m 64 #[.val (.ref o0), .val (.int p1), .val (.ref o2), .val (.ref b1), .val (.int (Int32.ofNat j))] [(.int (Int32.ofNat j)), (.ref b1), (.int ((own_s (own_c f (own_kb kb) N) j) ((Int32.ofNat j) + (1 : Int32)).toInt.toNat)), (.int ((Int32.ofNat j) + (1 : Int32))), (.ref b1)])) rfl rfl (hb hby d11_64) _ ?_
            show Steps p.tables e below (T10.setTop (mkF m 65 #[.val (.ref o0), .val (.int p1), .val (.ref o2), .val (.ref b1), .val (.int (Int32.ofNat j))] [(.int ((own_s (own_c f (own_kb kb) N) j) (Int32.ofNat j).toInt.toNat)), (.int ((own_s (own_c f (own_kb kb) N) j) ((Int32.ofNat j) + (1 : Int32)).toInt.toNat)), (.int ((Int32.ofNat j) + (1 : Int32))), (.ref b1)])) t
            refine XS.iadd X10.here hx rfl (hb hby d11_65) rfl ?_
            show Steps p.tables e below (T10.setTop (mkF m 66 #[.val (.ref o0), .val (.int p1), .val (.ref o2), .val (.ref b1), .val (.int (Int32.ofNat j))] [(.int (((own_s (own_c f (own_kb kb) N) j) ((Int32.ofNat j) + (1 : Int32)).toInt.toNat) + ((own_s (own_c f (own_kb kb) N) j) (Int32.ofNat j).toInt.toNat))), (.int ((Int32.ofNat j) + (1 : Int32))), (.ref b1)])) t
            refine st19 _ ?_
            show Steps p.tables e below (T19.setTop (mkF m 67 #[.val (.ref o0), .val (.int p1), .val (.ref o2), .val (.ref b1), .val (.int (Int32.ofNat j))] [])) t
            refine XS.iinc X19.here hx rfl (hb hby d11_67) rfl (l' := #[.val (.ref o0), .val (.int p1), .val (.ref o2), .val (.ref b1), .val (.int ((Int32.ofNat j) + (1 : Int32)))]) rfl ?_
            show Steps p.tables e below (T19.setTop (mkF m 70 #[.val (.ref o0), .val (.int p1), .val (.ref o2), .val (.ref b1), .val (.int ((Int32.ofNat j) + (1 : Int32)))] [])) t
            rw [← hv22]
            show Steps p.tables e below (T19.setTop (mkF m 70 #[.val (.ref o0), .val (.int p1), .val (.ref o2), .val (.ref b1), .val (.int v22)] [])) t
            refine XS.goto X19.here hx rfl (pc0 := 70) (pc' := 48) rfl (hb hby d11_70) (by decide) (by decide) ?_
            show Steps p.tables e below (T19.setTop (mkF m 48 #[.val (.ref o0), .val (.int p1), .val (.ref o2), .val (.ref b1), .val (.int v22)] [])) t
            exact k
          have hq : v22 = Int32.ofNat (j + 1) := by rw [hv22]; exact Int32.ofNat_succ j
          subst hq
          exact ih T19 _ h19 (j + 1) X19 e19 N19 Z19 f20 f21 (A19.congr fun k _ => own_ss (by omega) k) (by omega)
      exact L48 G T5 _ h5 0 X5 e5 N5 Z5 f6 f7 (by rw [show N = i by omega]; exact f8) (Nat.zero_add _)
    | succ k ih => 
      intro T5 locs5 h5 i X5 e5 N5 Z5 f6 f7 f8 hi
      refine hD _ (T5.setTop (mkF m 13 #[.val (.ref o0), .val (.int p1), .val (.ref o2), .val (.ref b1), .val (.int (Int32.ofNat i))] [(.int (Int32.ofNat N)), (.int (Int32.ofNat i))])) (fun t k => ?_) ?_
      · show Steps p.tables e below (T5.setTop (mkF m 9 #[.val (.ref o0), .val (.int p1), .val (.ref o2), .val (.ref b1), .val (.int (Int32.ofNat i))] [])) t
        refine XS.iload X5.here hx rfl (hb hby d11_9) rfl ?_
        show Steps p.tables e below (T5.setTop (mkF m 11 #[.val (.ref o0), .val (.int p1), .val (.ref o2), .val (.ref b1), .val (.int (Int32.ofNat i))] [(.int (Int32.ofNat i))])) t
        refine XS.aloadN X5.here hx rfl (hb hby d11_11) rfl rfl ?_
        show Steps p.tables e below (T5.setTop (mkF m 12 #[.val (.ref o0), .val (.int p1), .val (.ref o2), .val (.ref b1), .val (.int (Int32.ofNat i))] [(.ref o0), (.int (Int32.ofNat i))])) t
        refine Own.lenI X5 hx hZ e5 f6 (g := (mkF m 12 #[.val (.ref o0), .val (.int p1), .val (.ref o2), .val (.ref b1), .val (.int (Int32.ofNat i))] [(.ref o0), (.int (Int32.ofNat i))])) rfl rfl (hb hby d11_12) _ ?_
        show Steps p.tables e below (T5.setTop (mkF m 13 #[.val (.ref o0), .val (.int p1), .val (.ref o2), .val (.ref b1), .val (.int (Int32.ofNat i))] [(.int (Int32.ofNat N)), (.int (Int32.ofNat i))])) t
        exact k
      have hc23 : (Int32.ofNat i) < (Int32.ofNat N) := by rw [own_ol (by omega) (by omega)]; omega
      have hj24 : 0 ≤ (Int32.ofNat i).toInt ∧ (Int32.ofNat i).toInt < (N : Nat) := by rw [own_oi (by omega)]; omega
      refine hD _ (T5.setTop (mkF m 24 #[.val (.ref o0), .val (.int p1), .val (.ref o2), .val (.ref b1), .val (.int (Int32.ofNat i))] [(.int (kb (Int32.ofNat i).toInt.toNat))])) (fun t k => ?_) ?_
      · show Steps p.tables e below (T5.setTop (mkF m 13 #[.val (.ref o0), .val (.int p1), .val (.ref o2), .val (.ref b1), .val (.int (Int32.ofNat i))] [(.int (Int32.ofNat N)), (.int (Int32.ofNat i))])) t
        refine XS.icmpNo X5.here hx rfl (hb hby d11_13) rfl (tlt hc23).2.1 ?_
        show Steps p.tables e below (T5.setTop (mkF m 16 #[.val (.ref o0), .val (.int p1), .val (.ref o2), .val (.ref b1), .val (.int (Int32.ofNat i))] [])) t
        refine XS.aloadN X5.here hx rfl (hb hby d11_16) rfl rfl ?_
        show Steps p.tables e below (T5.setTop (mkF m 17 #[.val (.ref o0), .val (.int p1), .val (.ref o2), .val (.ref b1), .val (.int (Int32.ofNat i))] [(.ref o2)])) t
        refine XS.ifnullNo X5.here hx rfl (hb hby d11_17) rfl ?_
        show Steps p.tables e below (T5.setTop (mkF m 20 #[.val (.ref o0), .val (.int p1), .val (.ref o2), .val (.ref b1), .val (.int (Int32.ofNat i))] [])) t
        refine XS.aloadN X5.here hx rfl (hb hby d11_20) rfl rfl ?_
        show Steps p.tables e below (T5.setTop (mkF m 21 #[.val (.ref o0), .val (.int p1), .val (.ref o2), .val (.ref b1), .val (.int (Int32.ofNat i))] [(.ref o2)])) t
        refine XS.iload X5.here hx rfl (hb hby d11_21) rfl ?_
        show Steps p.tables e below (T5.setTop (mkF m 23 #[.val (.ref o0), .val (.int p1), .val (.ref o2), .val (.ref b1), .val (.int (Int32.ofNat i))] [(.int (Int32.ofNat i)), (.ref o2)])) t
        refine Own.ldZ X5 hx hZ e5 f7 hj24 (g := (mkF m 23 #[.val (.ref o0), .val (.int p1), .val (.ref o2), .val (.ref b1), .val (.int (Int32.ofNat i))] [(.int (Int32.ofNat i)), (.ref o2)])) rfl rfl (hb hby d11_23) _ ?_
        show Steps p.tables e below (T5.setTop (mkF m 24 #[.val (.ref o0), .val (.int p1), .val (.ref o2), .val (.ref b1), .val (.int (Int32.ofNat i))] [(.int (kb (Int32.ofNat i).toInt.toNat))])) t
        exact k
      by_cases hc25 : (kb (Int32.ofNat i).toInt.toNat) = (0 : Int32)
      · obtain ⟨v26, hv26⟩ : ∃ z : Int32, z = ((Int32.ofNat i) + (1 : Int32)) := ⟨_, rfl⟩
        refine hD _ (T5.setTop (mkF m 9 #[.val (.ref o0), .val (.int p1), .val (.ref o2), .val (.ref b1), .val (.int v26)] [])) (fun t k => ?_) ?_
        · show Steps p.tables e below (T5.setTop (mkF m 24 #[.val (.ref o0), .val (.int p1), .val (.ref o2), .val (.ref b1), .val (.int (Int32.ofNat i))] [(.int (kb (Int32.ofNat i).toInt.toNat))])) t
          refine XS.ifYes X5.here hx rfl (pc0 := 24) (pc' := 39) rfl (hb hby d11_24) rfl ((if0 _ _).trans (teq hc25).1) (by decide) (by decide) ?_
          show Steps p.tables e below (T5.setTop (mkF m 39 #[.val (.ref o0), .val (.int p1), .val (.ref o2), .val (.ref b1), .val (.int (Int32.ofNat i))] [])) t
          refine XS.iinc X5.here hx rfl (hb hby d11_39) rfl (l' := #[.val (.ref o0), .val (.int p1), .val (.ref o2), .val (.ref b1), .val (.int ((Int32.ofNat i) + (1 : Int32)))]) rfl ?_
          show Steps p.tables e below (T5.setTop (mkF m 42 #[.val (.ref o0), .val (.int p1), .val (.ref o2), .val (.ref b1), .val (.int ((Int32.ofNat i) + (1 : Int32)))] [])) t
          rw [← hv26]
          show Steps p.tables e below (T5.setTop (mkF m 42 #[.val (.ref o0), .val (.int p1), .val (.ref o2), .val (.ref b1), .val (.int v26)] [])) t
          refine XS.goto X5.here hx rfl (pc0 := 42) (pc' := 9) rfl (hb hby d11_42) (by decide) (by decide) ?_
          show Steps p.tables e below (T5.setTop (mkF m 9 #[.val (.ref o0), .val (.int p1), .val (.ref o2), .val (.ref b1), .val (.int v26)] [])) t
          exact k
        have hq : v26 = Int32.ofNat (i + 1) := by rw [hv26]; exact Int32.ofNat_succ i
        subst hq
        have hkp := hc25
        rw [own_ix (by omega)] at hkp
        exact ih T5 _ h5 (i + 1) X5 e5 N5 Z5 f6 f7 (f8.congr fun k _ => own_cs0 (own_kbF hkp) k) (by omega)
      · have hj27 : 0 ≤ (Int32.ofNat i).toInt ∧ (Int32.ofNat i).toInt < (N : Nat) := by rw [own_oi (by omega)]; omega
        have hj28 : 0 ≤ ((f (Int32.ofNat i).toInt.toNat) + (1 : Int32)).toInt ∧ ((f (Int32.ofNat i).toInt.toNat) + (1 : Int32)).toInt < ((G + 1) : Nat) := by
          have q := hf i (by omega)
          rw [own_ix (by omega), own_J q hG4]; omega
        have hj29 : 0 ≤ ((f (Int32.ofNat i).toInt.toNat) + (1 : Int32)).toInt ∧ ((f (Int32.ofNat i).toInt.toNat) + (1 : Int32)).toInt < ((G + 1) : Nat) := by
          have q := hf i (by omega)
          rw [own_ix (by omega), own_J q hG4]; omega
        obtain ⟨T30, h30, X30, e30, A30, W30, st30⟩ := Own.stoI X5 hx hZ e5 f8 hj29 (g := (mkF m 38 #[.val (.ref o0), .val (.int p1), .val (.ref o2), .val (.ref b1), .val (.int (Int32.ofNat i))] [(.int (((own_c f (own_kb kb) i) ((f (Int32.ofNat i).toInt.toNat) + (1 : Int32)).toInt.toNat) + (1 : Int32))), (.int ((f (Int32.ofNat i).toInt.toNat) + (1 : Int32))), (.ref b1)])) rfl rfl (hb hby d11_38)
        have f31 : Own.AvI Z h30 o0 .int N f := f6.other W30 (Own.ne_of (by omega))
        have f32 : Own.AvI Z h30 o2 .boolean N kb := f7.other W30 (Own.ne_of (by omega))
        have N30 := Fr.snoc X30 N5 (show n0 ≤ b1 by omega)
        have Z30 : n0 ≤ h30.size := Nat.le_trans Z5 (Keep.of_wr W30).1
        obtain ⟨v33, hv33⟩ : ∃ z : Int32, z = ((Int32.ofNat i) + (1 : Int32)) := ⟨_, rfl⟩
        refine hD _ (T30.setTop (mkF m 9 #[.val (.ref o0), .val (.int p1), .val (.ref o2), .val (.ref b1), .val (.int v33)] [])) (fun t k => ?_) ?_
        · show Steps p.tables e below (T5.setTop (mkF m 24 #[.val (.ref o0), .val (.int p1), .val (.ref o2), .val (.ref b1), .val (.int (Int32.ofNat i))] [(.int (kb (Int32.ofNat i).toInt.toNat))])) t
          refine XS.ifNo X5.here hx rfl (hb hby d11_24) rfl ((if0 _ _).trans (feq hc25).1) ?_
          show Steps p.tables e below (T5.setTop (mkF m 27 #[.val (.ref o0), .val (.int p1), .val (.ref o2), .val (.ref b1), .val (.int (Int32.ofNat i))] [])) t
          refine XS.aloadN X5.here hx rfl (hb hby d11_27) rfl rfl ?_
          show Steps p.tables e below (T5.setTop (mkF m 28 #[.val (.ref o0), .val (.int p1), .val (.ref o2), .val (.ref b1), .val (.int (Int32.ofNat i))] [(.ref b1)])) t
          refine XS.aloadN X5.here hx rfl (hb hby d11_28) rfl rfl ?_
          show Steps p.tables e below (T5.setTop (mkF m 29 #[.val (.ref o0), .val (.int p1), .val (.ref o2), .val (.ref b1), .val (.int (Int32.ofNat i))] [(.ref o0), (.ref b1)])) t
          refine XS.iload X5.here hx rfl (hb hby d11_29) rfl ?_
          show Steps p.tables e below (T5.setTop (mkF m 31 #[.val (.ref o0), .val (.int p1), .val (.ref o2), .val (.ref b1), .val (.int (Int32.ofNat i))] [(.int (Int32.ofNat i)), (.ref o0), (.ref b1)])) t
          refine Own.ldI X5 hx hZ e5 f6 hj27 (g := (mkF m 31 #[.val (.ref o0), .val (.int p1), .val (.ref o2), .val (.ref b1), .val (.int (Int32.ofNat i))] [(.int (Int32.ofNat i)), (.ref o0), (.ref b1)])) rfl rfl (hb hby d11_31) _ ?_
          show Steps p.tables e below (T5.setTop (mkF m 32 #[.val (.ref o0), .val (.int p1), .val (.ref o2), .val (.ref b1), .val (.int (Int32.ofNat i))] [(.int (f (Int32.ofNat i).toInt.toNat)), (.ref b1)])) t
          refine XS.iconst X5.here hx rfl (hb hby d11_32) ?_
          show Steps p.tables e below (T5.setTop (mkF m 33 #[.val (.ref o0), .val (.int p1), .val (.ref o2), .val (.ref b1), .val (.int (Int32.ofNat i))] [(.int (1 : Int32)), (.int (f (Int32.ofNat i).toInt.toNat)), (.ref b1)])) t
          refine XS.iadd X5.here hx rfl (hb hby d11_33) rfl ?_
          show Steps p.tables e below (T5.setTop (mkF m 34 #[.val (.ref o0), .val (.int p1), .val (.ref o2), .val (.ref b1), .val (.int (Int32.ofNat i))] [(.int ((f (Int32.ofNat i).toInt.toNat) + (1 : Int32))), (.ref b1)])) t
          refine XT.dup2 X5.here hx rfl (hb hby d11_34) rfl rfl rfl ?_
          show Steps p.tables e below (T5.setTop (mkF m 35 #[.val (.ref o0), .val (.int p1), .val (.ref o2), .val (.ref b1), .val (.int (Int32.ofNat i))] [(.int ((f (Int32.ofNat i).toInt.toNat) + (1 : Int32))), (.ref b1), (.int ((f (Int32.ofNat i).toInt.toNat) + (1 : Int32))), (.ref b1)])) t
          refine Own.ldI X5 hx hZ e5 f8 hj28 (g := (mkF m 35 #[.val (.ref o0), .val (.int p1), .val (.ref o2), .val (.ref b1), .val (.int (Int32.ofNat i))] [(.int ((f (Int32.ofNat i).toInt.toNat) + (1 : Int32))), (.ref b1), (.int ((f (Int32.ofNat i).toInt.toNat) + (1 : Int32))), (.ref b1)])) rfl rfl (hb hby d11_35) _ ?_
          show Steps p.tables e below (T5.setTop (mkF m 36 #[.val (.ref o0), .val (.int p1), .val (.ref o2), .val (.ref b1), .val (.int (Int32.ofNat i))] [(.int ((own_c f (own_kb kb) i) ((f (Int32.ofNat i).toInt.toNat) + (1 : Int32)).toInt.toNat)), (.int ((f (Int32.ofNat i).toInt.toNat) + (1 : Int32))), (.ref b1)])) t
          refine XS.iconst X5.here hx rfl (hb hby d11_36) ?_
          show Steps p.tables e below (T5.setTop (mkF m 37 #[.val (.ref o0), .val (.int p1), .val (.ref o2), .val (.ref b1), .val (.int (Int32.ofNat i))] [(.int (1 : Int32)), (.int ((own_c f (own_kb kb) i) ((f (Int32.ofNat i).toInt.toNat) + (1 : Int32)).toInt.toNat)), (.int ((f (Int32.ofNat i).toInt.toNat) + (1 : Int32))), (.ref b1)])) t
          refine XS.iadd X5.here hx rfl (hb hby d11_37) rfl ?_
          show Steps p.tables e below (T5.setTop (mkF m 38 #[.val (.ref o0), .val (.int p1), .val (.ref o2), .val (.ref b1), .val (.int (Int32.ofNat i))] [(.int (((own_c f (own_kb kb) i) ((f (Int32.ofNat i).toInt.toNat) + (1 : Int32)).toInt.toNat) + (1 : Int32))), (.int ((f (Int32.ofNat i).toInt.toNat) + (1 : Int32))), (.ref b1)])) t
          refine st30 _ ?_
          show Steps p.tables e below (T30.setTop (mkF m 39 #[.val (.ref o0), .val (.int p1), .val (.ref o2), .val (.ref b1), .val (.int (Int32.ofNat i))] [])) t
          refine XS.iinc X30.here hx rfl (hb hby d11_39) rfl (l' := #[.val (.ref o0), .val (.int p1), .val (.ref o2), .val (.ref b1), .val (.int ((Int32.ofNat i) + (1 : Int32)))]) rfl ?_
          show Steps p.tables e below (T30.setTop (mkF m 42 #[.val (.ref o0), .val (.int p1), .val (.ref o2), .val (.ref b1), .val (.int ((Int32.ofNat i) + (1 : Int32)))] [])) t
          rw [← hv33]
          show Steps p.tables e below (T30.setTop (mkF m 42 #[.val (.ref o0), .val (.int p1), .val (.ref o2), .val (.ref b1), .val (.int v33)] [])) t
          refine XS.goto X30.here hx rfl (pc0 := 42) (pc' := 9) rfl (hb hby d11_42) (by decide) (by decide) ?_
          show Steps p.tables e below (T30.setTop (mkF m 9 #[.val (.ref o0), .val (.int p1), .val (.ref o2), .val (.ref b1), .val (.int v33)] [])) t
          exact k
        have hq : v33 = Int32.ofNat (i + 1) := by rw [hv33]; exact Int32.ofNat_succ i
        subst hq
        have hkp := hc25
        rw [own_ix (by omega)] at hkp
        exact ih T30 _ h30 (i + 1) X30 e30 N30 Z30 f31 f32 (A30.congr fun k _ => own_cs1 (by omega) (hf i (by omega)) hG4 (own_kbT hkp) k) (by omega)
  exact L9 N T1 _ h1 0 X1 e1 N0 Z1 f2 f3 f4 (Nat.zero_add _)
theorem d12_0 : decode method_4_code 0 = .ok (.iload_n 2, 1) := by decide +kernel
theorem d12_1 : decode method_4_code 1 = .ok (.aload_n 0, 1) := by decide +kernel
theorem d12_2 : decode method_4_code 2 = .ok (.arraylength, 1) := by decide +kernel
theorem d12_3 : decode method_4_code 3 = .ok (.if_icmp .lt 5, 3) := by decide +kernel
theorem d12_6 : decode method_4_code 6 = .ok (.iconst 0, 1) := by decide +kernel
theorem d12_7 : decode method_4_code 7 = .ok (.ireturn, 1) := by decide +kernel
theorem d12_8 : decode method_4_code 8 = .ok (.aload_n 1, 1) := by decide +kernel
theorem d12_9 : decode method_4_code 9 = .ok (.ifnull 11, 3) := by decide +kernel
theorem d12_12 : decode method_4_code 12 = .ok (.aload_n 1, 1) := by decide +kernel
theorem d12_13 : decode method_4_code 13 = .ok (.iload_n 2, 1) := by decide +kernel
theorem d12_14 : decode method_4_code 14 = .ok (.baload, 1) := by decide +kernel
theorem d12_15 : decode method_4_code 15 = .ok (.ifCond .ne 5, 3) := by decide +kernel
theorem d12_18 : decode method_4_code 18 = .ok (.iconst 0, 1) := by decide +kernel
theorem d12_19 : decode method_4_code 19 = .ok (.ireturn, 1) := by decide +kernel
theorem d12_20 : decode method_4_code 20 = .ok (.aload_n 0, 1) := by decide +kernel
theorem d12_21 : decode method_4_code 21 = .ok (.iload_n 2, 1) := by decide +kernel
theorem d12_22 : decode method_4_code 22 = .ok (.iaload, 1) := by decide +kernel
theorem d12_23 : decode method_4_code 23 = .ok (.iload_n 3, 1) := by decide +kernel
theorem d12_24 : decode method_4_code 24 = .ok (.if_icmp .ge 7, 3) := by decide +kernel
theorem d12_27 : decode method_4_code 27 = .ok (.iconst 1, 1) := by decide +kernel
theorem d12_28 : decode method_4_code 28 = .ok (.goto 4, 3) := by decide +kernel
theorem d12_31 : decode method_4_code 31 = .ok (.iconst 0, 1) := by decide +kernel
theorem d12_32 : decode method_4_code 32 = .ok (.ireturn, 1) := by decide +kernel
theorem ef_12 (m : MethodId) (o0 : Addr) (o1 : Addr) (p2 : Int32) (p3 : Int32) : entryFrame m #[(.ref o0), (.ref o1), (.int p2), (.int p3)] 4 = mkF m 0 #[.val (.ref o0), .val (.ref o1), .val (.int p2), .val (.int p3)] [] := by first | (simp [entryFrame, mkF, argsToLocals, Value.category]; done) | rfl
def Q12 (Z : State) (o0 : Nat) (o1 : Nat) (p2 : Int32) (p3 : Int32) (N : Nat) (f : Nat → Int32) (kb : Nat → Int32) (h0 : Heap) (n0 : Nat) (v : Option Value) (h : Heap) (L : List Loc) : Prop := v = some (.int (own_bl f (own_kb kb) N p2 p3)) ∧ Fr n0 L ∧ h = h0
set_option maxRecDepth 65536 in
set_option maxHeartbeats 40000000 in
theorem rm12 (l : Launch) (Z : State) (a0 : Array Value) (hw : ∀ d ∈ tables_1, d.before a0 Z = true) (ws : List Jvm.Cond) (o0 : Nat) (o1 : Nat) (p2 : Int32) (p3 : Int32) (N : Nat) (f : Nat → Int32) (kb : Nat → Int32) (h0 : Heap) (n0 : Nat) (hN : N ≤ 4) (he : 0 ≤ p2.toInt) (A0 : Own.AvI Z h0 o0 .int N f) (A1 : Own.AvI Z h0 o1 .boolean N kb) :
    MetFree l (⟨"com/example/schedulens/schedulens/PositionsGroupStartsPinLaw", "below", "([I[ZII)I"⟩ : MethodName) (head1 (Jvm.Cond.code (⟨"com/example/schedulens/schedulens/PositionsGroupStartsPinLaw", "below", "([I[ZII)I"⟩ : MethodName) method_4_code 4 (some .int) :: ws) ({ frames := 0, cells := 0, slots := 0, locals := 0 } : Room)) (fun a U => a = #[(.ref o0), (.ref o1), (.int p2), (.int p3)] ∧ Z.Warmed39 U.vm ∧ U.heap = h0) (fun _ _ _ _ _ => True) (fun _ U o U' => ∃ v L, o = .returned v ∧ Q12 Z o0 o1 p2 p3 N f kb h0 n0 v U'.heap L ∧ FrameEnd U o U' L ({ frames := 0, cells := 0, slots := 0, locals := 0 } : Room).cells ({ frames := 0, cells := 0, slots := 0, locals := 0 } : Room).slots) := by
  refine Own.enter (Q := Q12 Z o0 o1 p2 p3 N f kb h0 n0) (plainFor_of_name pn_1) ?_
  intro p e s m below meth c s₁ D hx hby hml hown hnm hret hZ X0 e0 hD hR
  have N0 := Fr.nil n0
  rw [show entryFrame m #[(.ref o0), (.ref o1), (.int p2), (.int p3)] 4 = mkF m 0 #[.val (.ref o0), .val (.ref o1), .val (.int p2), .val (.int p3)] [] from ef_12 m o0 o1 p2 p3]
  refine hD _ (s₁.setTop (mkF m 3 #[.val (.ref o0), .val (.ref o1), .val (.int p2), .val (.int p3)] [(.int (Int32.ofNat N)), (.int p2)])) (fun t k => ?_) ?_
  · show Steps p.tables e below (s₁.setTop (mkF m 0 #[.val (.ref o0), .val (.ref o1), .val (.int p2), .val (.int p3)] [])) t
    refine XS.iloadN X0.here hx rfl (hb hby d12_0) rfl ?_
    show Steps p.tables e below (s₁.setTop (mkF m 1 #[.val (.ref o0), .val (.ref o1), .val (.int p2), .val (.int p3)] [(.int p2)])) t
    refine XS.aloadN X0.here hx rfl (hb hby d12_1) rfl rfl ?_
    show Steps p.tables e below (s₁.setTop (mkF m 2 #[.val (.ref o0), .val (.ref o1), .val (.int p2), .val (.int p3)] [(.ref o0), (.int p2)])) t
    refine Own.lenI X0 hx hZ e0 A0 (g := (mkF m 2 #[.val (.ref o0), .val (.ref o1), .val (.int p2), .val (.int p3)] [(.ref o0), (.int p2)])) rfl rfl (hb hby d12_2) _ ?_
    show Steps p.tables e below (s₁.setTop (mkF m 3 #[.val (.ref o0), .val (.ref o1), .val (.int p2), .val (.int p3)] [(.int (Int32.ofNat N)), (.int p2)])) t
    exact k
  by_cases hc1 : p2 < (Int32.ofNat N)
  · have hj2 : 0 ≤ p2.toInt ∧ p2.toInt < (N : Nat) := by
      have q := hc1
      rw [own_lt, own_oi (by omega)] at q; omega
    refine hD _ (s₁.setTop (mkF m 15 #[.val (.ref o0), .val (.ref o1), .val (.int p2), .val (.int p3)] [(.int (kb p2.toInt.toNat))])) (fun t k => ?_) ?_
    · show Steps p.tables e below (s₁.setTop (mkF m 3 #[.val (.ref o0), .val (.ref o1), .val (.int p2), .val (.int p3)] [(.int (Int32.ofNat N)), (.int p2)])) t
      refine XS.icmpYes X0.here hx rfl (pc0 := 3) (pc' := 8) rfl (hb hby d12_3) rfl (tlt hc1).1 (by decide) (by decide) ?_
      show Steps p.tables e below (s₁.setTop (mkF m 8 #[.val (.ref o0), .val (.ref o1), .val (.int p2), .val (.int p3)] [])) t
      refine XS.aloadN X0.here hx rfl (hb hby d12_8) rfl rfl ?_
      show Steps p.tables e below (s₁.setTop (mkF m 9 #[.val (.ref o0), .val (.ref o1), .val (.int p2), .val (.int p3)] [(.ref o1)])) t
      refine XS.ifnullNo X0.here hx rfl (hb hby d12_9) rfl ?_
      show Steps p.tables e below (s₁.setTop (mkF m 12 #[.val (.ref o0), .val (.ref o1), .val (.int p2), .val (.int p3)] [])) t
      refine XS.aloadN X0.here hx rfl (hb hby d12_12) rfl rfl ?_
      show Steps p.tables e below (s₁.setTop (mkF m 13 #[.val (.ref o0), .val (.ref o1), .val (.int p2), .val (.int p3)] [(.ref o1)])) t
      refine XS.iloadN X0.here hx rfl (hb hby d12_13) rfl ?_
      show Steps p.tables e below (s₁.setTop (mkF m 14 #[.val (.ref o0), .val (.ref o1), .val (.int p2), .val (.int p3)] [(.int p2), (.ref o1)])) t
      refine Own.ldZ X0 hx hZ e0 A1 hj2 (g := (mkF m 14 #[.val (.ref o0), .val (.ref o1), .val (.int p2), .val (.int p3)] [(.int p2), (.ref o1)])) rfl rfl (hb hby d12_14) _ ?_
      show Steps p.tables e below (s₁.setTop (mkF m 15 #[.val (.ref o0), .val (.ref o1), .val (.int p2), .val (.int p3)] [(.int (kb p2.toInt.toNat))])) t
      exact k
    by_cases hc3 : (kb p2.toInt.toNat) = (0 : Int32)
    · refine hD _ (s₁.setTop (mkF m 19 #[.val (.ref o0), .val (.ref o1), .val (.int p2), .val (.int p3)] [(.int (0 : Int32))])) (fun t k => ?_) ?_
      · show Steps p.tables e below (s₁.setTop (mkF m 15 #[.val (.ref o0), .val (.ref o1), .val (.int p2), .val (.int p3)] [(.int (kb p2.toInt.toNat))])) t
        refine XS.ifNo X0.here hx rfl (hb hby d12_15) rfl ((if0 _ _).trans (teq hc3).2) ?_
        show Steps p.tables e below (s₁.setTop (mkF m 18 #[.val (.ref o0), .val (.ref o1), .val (.int p2), .val (.int p3)] [])) t
        refine XS.iconst X0.here hx rfl (hb hby d12_18) ?_
        show Steps p.tables e below (s₁.setTop (mkF m 19 #[.val (.ref o0), .val (.ref o1), .val (.int p2), .val (.int p3)] [(.int (0 : Int32))])) t
        exact k
      exact Own.retI hR X0 hx hret (hb hby d12_19) (by decide) (by decide) ⟨by unfold own_bl; rw [if_pos hc1]; rw [if_neg (own_kbF hc3)], N0, e0⟩
    · have hj4 : 0 ≤ p2.toInt ∧ p2.toInt < (N : Nat) := by
        have q := hc1
        rw [own_lt, own_oi (by omega)] at q; omega
      refine hD _ (s₁.setTop (mkF m 24 #[.val (.ref o0), .val (.ref o1), .val (.int p2), .val (.int p3)] [(.int p3), (.int (f p2.toInt.toNat))])) (fun t k => ?_) ?_
      · show Steps p.tables e below (s₁.setTop (mkF m 15 #[.val (.ref o0), .val (.ref o1), .val (.int p2), .val (.int p3)] [(.int (kb p2.toInt.toNat))])) t
        refine XS.ifYes X0.here hx rfl (pc0 := 15) (pc' := 20) rfl (hb hby d12_15) rfl ((if0 _ _).trans (feq hc3).2) (by decide) (by decide) ?_
        show Steps p.tables e below (s₁.setTop (mkF m 20 #[.val (.ref o0), .val (.ref o1), .val (.int p2), .val (.int p3)] [])) t
        refine XS.aloadN X0.here hx rfl (hb hby d12_20) rfl rfl ?_
        show Steps p.tables e below (s₁.setTop (mkF m 21 #[.val (.ref o0), .val (.ref o1), .val (.int p2), .val (.int p3)] [(.ref o0)])) t
        refine XS.iloadN X0.here hx rfl (hb hby d12_21) rfl ?_
        show Steps p.tables e below (s₁.setTop (mkF m 22 #[.val (.ref o0), .val (.ref o1), .val (.int p2), .val (.int p3)] [(.int p2), (.ref o0)])) t
        refine Own.ldI X0 hx hZ e0 A0 hj4 (g := (mkF m 22 #[.val (.ref o0), .val (.ref o1), .val (.int p2), .val (.int p3)] [(.int p2), (.ref o0)])) rfl rfl (hb hby d12_22) _ ?_
        show Steps p.tables e below (s₁.setTop (mkF m 23 #[.val (.ref o0), .val (.ref o1), .val (.int p2), .val (.int p3)] [(.int (f p2.toInt.toNat))])) t
        refine XS.iloadN X0.here hx rfl (hb hby d12_23) rfl ?_
        show Steps p.tables e below (s₁.setTop (mkF m 24 #[.val (.ref o0), .val (.ref o1), .val (.int p2), .val (.int p3)] [(.int p3), (.int (f p2.toInt.toNat))])) t
        exact k
      by_cases hc5 : (f p2.toInt.toNat) < p3
      · refine hD _ (s₁.setTop (mkF m 32 #[.val (.ref o0), .val (.ref o1), .val (.int p2), .val (.int p3)] [(.int (1 : Int32))])) (fun t k => ?_) ?_
        · show Steps p.tables e below (s₁.setTop (mkF m 24 #[.val (.ref o0), .val (.ref o1), .val (.int p2), .val (.int p3)] [(.int p3), (.int (f p2.toInt.toNat))])) t
          refine XS.icmpNo X0.here hx rfl (hb hby d12_24) rfl (tlt hc5).2.1 ?_
          show Steps p.tables e below (s₁.setTop (mkF m 27 #[.val (.ref o0), .val (.ref o1), .val (.int p2), .val (.int p3)] [])) t
          refine XS.iconst X0.here hx rfl (hb hby d12_27) ?_
          show Steps p.tables e below (s₁.setTop (mkF m 28 #[.val (.ref o0), .val (.ref o1), .val (.int p2), .val (.int p3)] [(.int (1 : Int32))])) t
          refine XS.goto X0.here hx rfl (pc0 := 28) (pc' := 32) rfl (hb hby d12_28) (by decide) (by decide) ?_
          show Steps p.tables e below (s₁.setTop (mkF m 32 #[.val (.ref o0), .val (.ref o1), .val (.int p2), .val (.int p3)] [(.int (1 : Int32))])) t
          exact k
        exact Own.retI hR X0 hx hret (hb hby d12_32) (by decide) (by decide) ⟨by unfold own_bl; rw [if_pos hc1]; rw [if_pos (own_kbT hc3), if_pos hc5], N0, e0⟩
      · refine hD _ (s₁.setTop (mkF m 32 #[.val (.ref o0), .val (.ref o1), .val (.int p2), .val (.int p3)] [(.int (0 : Int32))])) (fun t k => ?_) ?_
        · show Steps p.tables e below (s₁.setTop (mkF m 24 #[.val (.ref o0), .val (.ref o1), .val (.int p2), .val (.int p3)] [(.int p3), (.int (f p2.toInt.toNat))])) t
          refine XS.icmpYes X0.here hx rfl (pc0 := 24) (pc' := 31) rfl (hb hby d12_24) rfl (flt hc5).2.1 (by decide) (by decide) ?_
          show Steps p.tables e below (s₁.setTop (mkF m 31 #[.val (.ref o0), .val (.ref o1), .val (.int p2), .val (.int p3)] [])) t
          refine XS.iconst X0.here hx rfl (hb hby d12_31) ?_
          show Steps p.tables e below (s₁.setTop (mkF m 32 #[.val (.ref o0), .val (.ref o1), .val (.int p2), .val (.int p3)] [(.int (0 : Int32))])) t
          exact k
        exact Own.retI hR X0 hx hret (hb hby d12_32) (by decide) (by decide) ⟨by unfold own_bl; rw [if_pos hc1]; rw [if_pos (own_kbT hc3), if_neg hc5], N0, e0⟩
  · refine hD _ (s₁.setTop (mkF m 7 #[.val (.ref o0), .val (.ref o1), .val (.int p2), .val (.int p3)] [(.int (0 : Int32))])) (fun t k => ?_) ?_
    · show Steps p.tables e below (s₁.setTop (mkF m 3 #[.val (.ref o0), .val (.ref o1), .val (.int p2), .val (.int p3)] [(.int (Int32.ofNat N)), (.int p2)])) t
      refine XS.icmpNo X0.here hx rfl (hb hby d12_3) rfl (flt hc1).1 ?_
      show Steps p.tables e below (s₁.setTop (mkF m 6 #[.val (.ref o0), .val (.ref o1), .val (.int p2), .val (.int p3)] [])) t
      refine XS.iconst X0.here hx rfl (hb hby d12_6) ?_
      show Steps p.tables e below (s₁.setTop (mkF m 7 #[.val (.ref o0), .val (.ref o1), .val (.int p2), .val (.int p3)] [(.int (0 : Int32))])) t
      exact k
    exact Own.retI hR X0 hx hret (hb hby d12_7) (by decide) (by decide) ⟨by unfold own_bl; rw [if_neg hc1], N0, e0⟩
theorem d13_0 : decode method_3_code 0 = .ok (.iload_n 3, 1) := by decide +kernel
theorem d13_1 : decode method_3_code 1 = .ok (.aload_n 0, 1) := by decide +kernel
theorem d13_2 : decode method_3_code 2 = .ok (.arraylength, 1) := by decide +kernel
theorem d13_3 : decode method_3_code 3 = .ok (.if_icmp .lt 5, 3) := by decide +kernel
theorem d13_6 : decode method_3_code 6 = .ok (.iconst 1, 1) := by decide +kernel
theorem d13_7 : decode method_3_code 7 = .ok (.ireturn, 1) := by decide +kernel
theorem d13_8 : decode method_3_code 8 = .ok (.aload_n 1, 1) := by decide +kernel
theorem d13_9 : decode method_3_code 9 = .ok (.aload_n 2, 1) := by decide +kernel
theorem d13_10 : decode method_3_code 10 = .ok (.iconst 0, 1) := by decide +kernel
theorem d13_11 : decode method_3_code 11 = .ok (.iload_n 3, 1) := by decide +kernel
theorem d13_12 : decode method_3_code 12 = .ok (.invokestatic 20, 3) := by decide +kernel
theorem d13_15 : decode method_3_code 15 = .ok (.aload_n 1, 1) := by decide +kernel
theorem d13_16 : decode method_3_code 16 = .ok (.aload_n 2, 1) := by decide +kernel
theorem d13_17 : decode method_3_code 17 = .ok (.iconst 1, 1) := by decide +kernel
theorem d13_18 : decode method_3_code 18 = .ok (.iload_n 3, 1) := by decide +kernel
theorem d13_19 : decode method_3_code 19 = .ok (.invokestatic 20, 3) := by decide +kernel
theorem d13_22 : decode method_3_code 22 = .ok (.iadd, 1) := by decide +kernel
theorem d13_23 : decode method_3_code 23 = .ok (.aload_n 1, 1) := by decide +kernel
theorem d13_24 : decode method_3_code 24 = .ok (.aload_n 2, 1) := by decide +kernel
theorem d13_25 : decode method_3_code 25 = .ok (.iconst 2, 1) := by decide +kernel
theorem d13_26 : decode method_3_code 26 = .ok (.iload_n 3, 1) := by decide +kernel
theorem d13_27 : decode method_3_code 27 = .ok (.invokestatic 20, 3) := by decide +kernel
theorem d13_30 : decode method_3_code 30 = .ok (.iadd, 1) := by decide +kernel
theorem d13_31 : decode method_3_code 31 = .ok (.aload_n 1, 1) := by decide +kernel
theorem d13_32 : decode method_3_code 32 = .ok (.aload_n 2, 1) := by decide +kernel
theorem d13_33 : decode method_3_code 33 = .ok (.iconst 3, 1) := by decide +kernel
theorem d13_34 : decode method_3_code 34 = .ok (.iload_n 3, 1) := by decide +kernel
theorem d13_35 : decode method_3_code 35 = .ok (.invokestatic 20, 3) := by decide +kernel
theorem d13_38 : decode method_3_code 38 = .ok (.iadd, 1) := by decide +kernel
theorem d13_39 : decode method_3_code 39 = .ok (.istore 4, 2) := by decide +kernel
theorem d13_41 : decode method_3_code 41 = .ok (.aload_n 0, 1) := by decide +kernel
theorem d13_42 : decode method_3_code 42 = .ok (.iload_n 3, 1) := by decide +kernel
theorem d13_43 : decode method_3_code 43 = .ok (.iaload, 1) := by decide +kernel
theorem d13_44 : decode method_3_code 44 = .ok (.iload 4, 2) := by decide +kernel
theorem d13_46 : decode method_3_code 46 = .ok (.if_icmp .ne 7, 3) := by decide +kernel
theorem d13_49 : decode method_3_code 49 = .ok (.iconst 1, 1) := by decide +kernel
theorem d13_50 : decode method_3_code 50 = .ok (.goto 4, 3) := by decide +kernel
theorem d13_53 : decode method_3_code 53 = .ok (.iconst 0, 1) := by decide +kernel
theorem d13_54 : decode method_3_code 54 = .ok (.ireturn, 1) := by decide +kernel
theorem ef_13 (m : MethodId) (o0 : Addr) (o1 : Addr) (o2 : Addr) (p3 : Int32) : entryFrame m #[(.ref o0), (.ref o1), (.ref o2), (.int p3)] 5 = mkF m 0 #[.val (.ref o0), .val (.ref o1), .val (.ref o2), .val (.int p3), .unset] [] := by first | (simp [entryFrame, mkF, argsToLocals, Value.category]; done) | rfl
def Q13 (Z : State) (o0 : Nat) (o1 : Nat) (o2 : Nat) (p3 : Int32) (R N : Nat) (fr f : Nat → Int32) (kb : Nat → Int32) (h0 : Heap) (n0 : Nat) (v : Option Value) (h : Heap) (L : List Loc) : Prop := v = some (.int (Own.b2i (own_ck fr R f (own_kb kb) N p3))) ∧ Fr n0 L ∧ h = h0
set_option maxRecDepth 65536 in
set_option maxHeartbeats 40000000 in
theorem rm13 (l : Launch) (Z : State) (a0 : Array Value) (hw : ∀ d ∈ tables_1, d.before a0 Z = true) (ws : List Jvm.Cond) (o0 : Nat) (o1 : Nat) (o2 : Nat) (p3 : Int32) (R N : Nat) (fr f : Nat → Int32) (kb : Nat → Int32) (h0 : Heap) (n0 : Nat) (hR5 : R ≤ 5) (hN : N ≤ 4) (hg : 0 ≤ p3.toInt) (A0 : Own.AvI Z h0 o0 .int R fr) (A1 : Own.AvI Z h0 o1 .int N f) (A2 : Own.AvI Z h0 o2 .boolean N kb) :
    MetFree l (⟨"com/example/schedulens/schedulens/PositionsGroupStartsPinLaw", "check", "([I[I[ZI)Z"⟩ : MethodName) (head1 (Jvm.Cond.code (⟨"com/example/schedulens/schedulens/PositionsGroupStartsPinLaw", "check", "([I[I[ZI)Z"⟩ : MethodName) method_3_code 5 (some .boolean) :: ws) ({ frames := 1, cells := 0, slots := 0, locals := 16 } : Room)) (fun a U => a = #[(.ref o0), (.ref o1), (.ref o2), (.int p3)] ∧ Z.Warmed39 U.vm ∧ U.heap = h0) (fun _ _ _ _ _ => True) (fun _ U o U' => ∃ v L, o = .returned v ∧ Q13 Z o0 o1 o2 p3 R N fr f kb h0 n0 v U'.heap L ∧ FrameEnd U o U' L ({ frames := 1, cells := 0, slots := 0, locals := 16 } : Room).cells ({ frames := 1, cells := 0, slots := 0, locals := 16 } : Room).slots) := by
  refine Own.enter (Q := Q13 Z o0 o1 o2 p3 R N fr f kb h0 n0) (plainFor_of_name pn_1) ?_
  intro p e s m below meth c s₁ D hx hby hml hown hnm hret hZ X0 e0 hD hR
  have N0 := Fr.nil n0
  rw [show entryFrame m #[(.ref o0), (.ref o1), (.ref o2), (.int p3)] 5 = mkF m 0 #[.val (.ref o0), .val (.ref o1), .val (.ref o2), .val (.int p3), .unset] [] from ef_13 m o0 o1 o2 p3]
  refine hD _ (s₁.setTop (mkF m 3 #[.val (.ref o0), .val (.ref o1), .val (.ref o2), .val (.int p3), .unset] [(.int (Int32.ofNat R)), (.int p3)])) (fun t k => ?_) ?_
  · show Steps p.tables e below (s₁.setTop (mkF m 0 #[.val (.ref o0), .val (.ref o1), .val (.ref o2), .val (.int p3), .unset] [])) t
    refine XS.iloadN X0.here hx rfl (hb hby d13_0) rfl ?_
    show Steps p.tables e below (s₁.setTop (mkF m 1 #[.val (.ref o0), .val (.ref o1), .val (.ref o2), .val (.int p3), .unset] [(.int p3)])) t
    refine XS.aloadN X0.here hx rfl (hb hby d13_1) rfl rfl ?_
    show Steps p.tables e below (s₁.setTop (mkF m 2 #[.val (.ref o0), .val (.ref o1), .val (.ref o2), .val (.int p3), .unset] [(.ref o0), (.int p3)])) t
    refine Own.lenI X0 hx hZ e0 A0 (g := (mkF m 2 #[.val (.ref o0), .val (.ref o1), .val (.ref o2), .val (.int p3), .unset] [(.ref o0), (.int p3)])) rfl rfl (hb hby d13_2) _ ?_
    show Steps p.tables e below (s₁.setTop (mkF m 3 #[.val (.ref o0), .val (.ref o1), .val (.ref o2), .val (.int p3), .unset] [(.int (Int32.ofNat R)), (.int p3)])) t
    exact k
  by_cases hc1 : p3 < (Int32.ofNat R)
  · obtain ⟨T2, _, L2, X2, ⟨rfl, Nq2, e2⟩, st2⟩ := Own.callS (y := (⟨"com/example/schedulens/schedulens/PositionsGroupStartsPinLaw", "below", "([I[ZII)I"⟩ : MethodName)) (W := 0) (argsL := [(.ref o1), (.ref o2), (.int (0 : Int32)), (.int p3)]) (rest := []) X0 hx hZ hown (hw _ (List.mem_of_getElem? (i := 11) rfl)) (hw _ (List.mem_of_getElem? (i := 12) rfl)) (hw _ (List.mem_of_getElem? (i := 9) rfl)) (hw _ (List.mem_of_getElem? (i := 13) rfl)) (by decide) e0 (rm12 l Z a0 hw [] o1 o2 (0 : Int32) p3 N f kb h0 n0 hN (by decide) A1 A2) (by decide) (by decide) (by decide) (by decide) (g := (mkF m 12 #[.val (.ref o0), .val (.ref o1), .val (.ref o2), .val (.int p3), .unset] [(.int p3), (.int (0 : Int32)), (.ref o2), (.ref o1)])) rfl (by rw [hml]; rfl) (lenOf pd_0 rfl) rfl (by show 2 * 0 + _ ≤ _; exact Nat.le_of_eq rfl) (hb hby d13_12)
    have N2 := Fr.app N0 Nq2
    obtain ⟨T3, _, L3, X3, ⟨rfl, Nq3, e3⟩, st3⟩ := Own.callS (y := (⟨"com/example/schedulens/schedulens/PositionsGroupStartsPinLaw", "below", "([I[ZII)I"⟩ : MethodName)) (W := 1) (argsL := [(.ref o1), (.ref o2), (.int (1 : Int32)), (.int p3)]) (rest := [(.int (own_bl f (own_kb kb) N (0 : Int32) p3))]) X2 hx hZ hown (hw _ (List.mem_of_getElem? (i := 11) rfl)) (hw _ (List.mem_of_getElem? (i := 12) rfl)) (hw _ (List.mem_of_getElem? (i := 9) rfl)) (hw _ (List.mem_of_getElem? (i := 13) rfl)) (by decide) e2 (rm12 l Z a0 hw [] o1 o2 (1 : Int32) p3 N f kb h0 n0 hN (by decide) A1 A2) (by decide) (by decide) (by decide) (by decide) (g := (mkF m 19 #[.val (.ref o0), .val (.ref o1), .val (.ref o2), .val (.int p3), .unset] [(.int p3), (.int (1 : Int32)), (.ref o2), (.ref o1), (.int (own_bl f (own_kb kb) N (0 : Int32) p3))])) rfl (by rw [hml]; rfl) (lenOf pd_0 rfl) rfl (by show 2 * 0 + _ ≤ _; exact Nat.le_of_eq rfl) (hb hby d13_19)
    have N3 := Fr.app N2 Nq3
    obtain ⟨T4, _, L4, X4, ⟨rfl, Nq4, e4⟩, st4⟩ := Own.callS (y := (⟨"com/example/schedulens/schedulens/PositionsGroupStartsPinLaw", "below", "([I[ZII)I"⟩ : MethodName)) (W := 1) (argsL := [(.ref o1), (.ref o2), (.int (2 : Int32)), (.int p3)]) (rest := [(.int ((own_bl f (own_kb kb) N (0 : Int32) p3) + (own_bl f (own_kb kb) N (1 : Int32) p3)))]) X3 hx hZ hown (hw _ (List.mem_of_getElem? (i := 11) rfl)) (hw _ (List.mem_of_getElem? (i := 12) rfl)) (hw _ (List.mem_of_getElem? (i := 9) rfl)) (hw _ (List.mem_of_getElem? (i := 13) rfl)) (by decide) e3 (rm12 l Z a0 hw [] o1 o2 (2 : Int32) p3 N f kb h0 n0 hN (by decide) A1 A2) (by decide) (by decide) (by decide) (by decide) (g := (mkF m 27 #[.val (.ref o0), .val (.ref o1), .val (.ref o2), .val (.int p3), .unset] [(.int p3), (.int (2 : Int32)), (.ref o2), (.ref o1), (.int ((own_bl f (own_kb kb) N (0 : Int32) p3) + (own_bl f (own_kb kb) N (1 : Int32) p3)))])) rfl (by rw [hml]; rfl) (lenOf pd_0 rfl) rfl (by show 2 * 0 + _ ≤ _; exact Nat.le_of_eq rfl) (hb hby d13_27)
    have N4 := Fr.app N3 Nq4
    obtain ⟨T5, _, L5, X5, ⟨rfl, Nq5, e5⟩, st5⟩ := Own.callS (y := (⟨"com/example/schedulens/schedulens/PositionsGroupStartsPinLaw", "below", "([I[ZII)I"⟩ : MethodName)) (W := 1) (argsL := [(.ref o1), (.ref o2), (.int (3 : Int32)), (.int p3)]) (rest := [(.int (((own_bl f (own_kb kb) N (0 : Int32) p3) + (own_bl f (own_kb kb) N (1 : Int32) p3)) + (own_bl f (own_kb kb) N (2 : Int32) p3)))]) X4 hx hZ hown (hw _ (List.mem_of_getElem? (i := 11) rfl)) (hw _ (List.mem_of_getElem? (i := 12) rfl)) (hw _ (List.mem_of_getElem? (i := 9) rfl)) (hw _ (List.mem_of_getElem? (i := 13) rfl)) (by decide) e4 (rm12 l Z a0 hw [] o1 o2 (3 : Int32) p3 N f kb h0 n0 hN (by decide) A1 A2) (by decide) (by decide) (by decide) (by decide) (g := (mkF m 35 #[.val (.ref o0), .val (.ref o1), .val (.ref o2), .val (.int p3), .unset] [(.int p3), (.int (3 : Int32)), (.ref o2), (.ref o1), (.int (((own_bl f (own_kb kb) N (0 : Int32) p3) + (own_bl f (own_kb kb) N (1 : Int32) p3)) + (own_bl f (own_kb kb) N (2 : Int32) p3)))])) rfl (by rw [hml]; rfl) (lenOf pd_0 rfl) rfl (by show 2 * 0 + _ ≤ _; exact Nat.le_of_eq rfl) (hb hby d13_35)
    have N5 := Fr.app N4 Nq5
    obtain ⟨v6, hv6⟩ : ∃ z : Int32, z = ((((own_bl f (own_kb kb) N (0 : Int32) p3) + (own_bl f (own_kb kb) N (1 : Int32) p3)) + (own_bl f (own_kb kb) N (2 : Int32) p3)) + (own_bl f (own_kb kb) N (3 : Int32) p3)) := ⟨_, rfl⟩
    have hj7 : 0 ≤ p3.toInt ∧ p3.toInt < (R : Nat) := by
      have q := hc1
      rw [own_lt, own_oi (by omega)] at q; omega
    refine hD _ (T5.setTop (mkF m 46 #[.val (.ref o0), .val (.ref o1), .val (.ref o2), .val (.int p3), .val (.int v6)] [(.int v6), (.int (fr p3.toInt.toNat))])) (fun t k => ?_) ?_
    · show Steps p.tables e below (s₁.setTop (mkF m 3 #[.val (.ref o0), .val (.ref o1), .val (.ref o2), .val (.int p3), .unset] [(.int (Int32.ofNat R)), (.int p3)])) t
      refine XS.icmpYes X0.here hx rfl (pc0 := 3) (pc' := 8) rfl (hb hby d13_3) rfl (tlt hc1).1 (by decide) (by decide) ?_
      show Steps p.tables e below (s₁.setTop (mkF m 8 #[.val (.ref o0), .val (.ref o1), .val (.ref o2), .val (.int p3), .unset] [])) t
      refine XS.aloadN X0.here hx rfl (hb hby d13_8) rfl rfl ?_
      show Steps p.tables e below (s₁.setTop (mkF m 9 #[.val (.ref o0), .val (.ref o1), .val (.ref o2), .val (.int p3), .unset] [(.ref o1)])) t
      refine XS.aloadN X0.here hx rfl (hb hby d13_9) rfl rfl ?_
      show Steps p.tables e below (s₁.setTop (mkF m 10 #[.val (.ref o0), .val (.ref o1), .val (.ref o2), .val (.int p3), .unset] [(.ref o2), (.ref o1)])) t
      refine XS.iconst X0.here hx rfl (hb hby d13_10) ?_
      show Steps p.tables e below (s₁.setTop (mkF m 11 #[.val (.ref o0), .val (.ref o1), .val (.ref o2), .val (.int p3), .unset] [(.int (0 : Int32)), (.ref o2), (.ref o1)])) t
      refine XS.iloadN X0.here hx rfl (hb hby d13_11) rfl ?_
      show Steps p.tables e below (s₁.setTop (mkF m 12 #[.val (.ref o0), .val (.ref o1), .val (.ref o2), .val (.int p3), .unset] [(.int p3), (.int (0 : Int32)), (.ref o2), (.ref o1)])) t
      refine st2 _ ?_
      show Steps p.tables e below (T2.setTop (mkF m 15 #[.val (.ref o0), .val (.ref o1), .val (.ref o2), .val (.int p3), .unset] [(.int (own_bl f (own_kb kb) N (0 : Int32) p3))])) t
      refine XS.aloadN X2.here hx rfl (hb hby d13_15) rfl rfl ?_
      show Steps p.tables e below (T2.setTop (mkF m 16 #[.val (.ref o0), .val (.ref o1), .val (.ref o2), .val (.int p3), .unset] [(.ref o1), (.int (own_bl f (own_kb kb) N (0 : Int32) p3))])) t
      refine XS.aloadN X2.here hx rfl (hb hby d13_16) rfl rfl ?_
      show Steps p.tables e below (T2.setTop (mkF m 17 #[.val (.ref o0), .val (.ref o1), .val (.ref o2), .val (.int p3), .unset] [(.ref o2), (.ref o1), (.int (own_bl f (own_kb kb) N (0 : Int32) p3))])) t
      refine XS.iconst X2.here hx rfl (hb hby d13_17) ?_
      show Steps p.tables e below (T2.setTop (mkF m 18 #[.val (.ref o0), .val (.ref o1), .val (.ref o2), .val (.int p3), .unset] [(.int (1 : Int32)), (.ref o2), (.ref o1), (.int (own_bl f (own_kb kb) N (0 : Int32) p3))])) t
      refine XS.iloadN X2.here hx rfl (hb hby d13_18) rfl ?_
      show Steps p.tables e below (T2.setTop (mkF m 19 #[.val (.ref o0), .val (.ref o1), .val (.ref o2), .val (.int p3), .unset] [(.int p3), (.int (1 : Int32)), (.ref o2), (.ref o1), (.int (own_bl f (own_kb kb) N (0 : Int32) p3))])) t
      refine st3 _ ?_
      show Steps p.tables e below (T3.setTop (mkF m 22 #[.val (.ref o0), .val (.ref o1), .val (.ref o2), .val (.int p3), .unset] [(.int (own_bl f (own_kb kb) N (1 : Int32) p3)), (.int (own_bl f (own_kb kb) N (0 : Int32) p3))])) t
      refine XS.iadd X3.here hx rfl (hb hby d13_22) rfl ?_
      show Steps p.tables e below (T3.setTop (mkF m 23 #[.val (.ref o0), .val (.ref o1), .val (.ref o2), .val (.int p3), .unset] [(.int ((own_bl f (own_kb kb) N (0 : Int32) p3) + (own_bl f (own_kb kb) N (1 : Int32) p3)))])) t
      refine XS.aloadN X3.here hx rfl (hb hby d13_23) rfl rfl ?_
      show Steps p.tables e below (T3.setTop (mkF m 24 #[.val (.ref o0), .val (.ref o1), .val (.ref o2), .val (.int p3), .unset] [(.ref o1), (.int ((own_bl f (own_kb kb) N (0 : Int32) p3) + (own_bl f (own_kb kb) N (1 : Int32) p3)))])) t
      refine XS.aloadN X3.here hx rfl (hb hby d13_24) rfl rfl ?_
      show Steps p.tables e below (T3.setTop (mkF m 25 #[.val (.ref o0), .val (.ref o1), .val (.ref o2), .val (.int p3), .unset] [(.ref o2), (.ref o1), (.int ((own_bl f (own_kb kb) N (0 : Int32) p3) + (own_bl f (own_kb kb) N (1 : Int32) p3)))])) t
      refine XS.iconst X3.here hx rfl (hb hby d13_25) ?_
      show Steps p.tables e below (T3.setTop (mkF m 26 #[.val (.ref o0), .val (.ref o1), .val (.ref o2), .val (.int p3), .unset] [(.int (2 : Int32)), (.ref o2), (.ref o1), (.int ((own_bl f (own_kb kb) N (0 : Int32) p3) + (own_bl f (own_kb kb) N (1 : Int32) p3)))])) t
      refine XS.iloadN X3.here hx rfl (hb hby d13_26) rfl ?_
      show Steps p.tables e below (T3.setTop (mkF m 27 #[.val (.ref o0), .val (.ref o1), .val (.ref o2), .val (.int p3), .unset] [(.int p3), (.int (2 : Int32)), (.ref o2), (.ref o1), (.int ((own_bl f (own_kb kb) N (0 : Int32) p3) + (own_bl f (own_kb kb) N (1 : Int32) p3)))])) t
      refine st4 _ ?_
      show Steps p.tables e below (T4.setTop (mkF m 30 #[.val (.ref o0), .val (.ref o1), .val (.ref o2), .val (.int p3), .unset] [(.int (own_bl f (own_kb kb) N (2 : Int32) p3)), (.int ((own_bl f (own_kb kb) N (0 : Int32) p3) + (own_bl f (own_kb kb) N (1 : Int32) p3)))])) t
      refine XS.iadd X4.here hx rfl (hb hby d13_30) rfl ?_
      show Steps p.tables e below (T4.setTop (mkF m 31 #[.val (.ref o0), .val (.ref o1), .val (.ref o2), .val (.int p3), .unset] [(.int (((own_bl f (own_kb kb) N (0 : Int32) p3) + (own_bl f (own_kb kb) N (1 : Int32) p3)) + (own_bl f (own_kb kb) N (2 : Int32) p3)))])) t
      refine XS.aloadN X4.here hx rfl (hb hby d13_31) rfl rfl ?_
      show Steps p.tables e below (T4.setTop (mkF m 32 #[.val (.ref o0), .val (.ref o1), .val (.ref o2), .val (.int p3), .unset] [(.ref o1), (.int (((own_bl f (own_kb kb) N (0 : Int32) p3) + (own_bl f (own_kb kb) N (1 : Int32) p3)) + (own_bl f (own_kb kb) N (2 : Int32) p3)))])) t
      refine XS.aloadN X4.here hx rfl (hb hby d13_32) rfl rfl ?_
      show Steps p.tables e below (T4.setTop (mkF m 33 #[.val (.ref o0), .val (.ref o1), .val (.ref o2), .val (.int p3), .unset] [(.ref o2), (.ref o1), (.int (((own_bl f (own_kb kb) N (0 : Int32) p3) + (own_bl f (own_kb kb) N (1 : Int32) p3)) + (own_bl f (own_kb kb) N (2 : Int32) p3)))])) t
      refine XS.iconst X4.here hx rfl (hb hby d13_33) ?_
      show Steps p.tables e below (T4.setTop (mkF m 34 #[.val (.ref o0), .val (.ref o1), .val (.ref o2), .val (.int p3), .unset] [(.int (3 : Int32)), (.ref o2), (.ref o1), (.int (((own_bl f (own_kb kb) N (0 : Int32) p3) + (own_bl f (own_kb kb) N (1 : Int32) p3)) + (own_bl f (own_kb kb) N (2 : Int32) p3)))])) t
      refine XS.iloadN X4.here hx rfl (hb hby d13_34) rfl ?_
      show Steps p.tables e below (T4.setTop (mkF m 35 #[.val (.ref o0), .val (.ref o1), .val (.ref o2), .val (.int p3), .unset] [(.int p3), (.int (3 : Int32)), (.ref o2), (.ref o1), (.int (((own_bl f (own_kb kb) N (0 : Int32) p3) + (own_bl f (own_kb kb) N (1 : Int32) p3)) + (own_bl f (own_kb kb) N (2 : Int32) p3)))])) t
      refine st5 _ ?_
      show Steps p.tables e below (T5.setTop (mkF m 38 #[.val (.ref o0), .val (.ref o1), .val (.ref o2), .val (.int p3), .unset] [(.int (own_bl f (own_kb kb) N (3 : Int32) p3)), (.int (((own_bl f (own_kb kb) N (0 : Int32) p3) + (own_bl f (own_kb kb) N (1 : Int32) p3)) + (own_bl f (own_kb kb) N (2 : Int32) p3)))])) t
      refine XS.iadd X5.here hx rfl (hb hby d13_38) rfl ?_
      show Steps p.tables e below (T5.setTop (mkF m 39 #[.val (.ref o0), .val (.ref o1), .val (.ref o2), .val (.int p3), .unset] [(.int ((((own_bl f (own_kb kb) N (0 : Int32) p3) + (own_bl f (own_kb kb) N (1 : Int32) p3)) + (own_bl f (own_kb kb) N (2 : Int32) p3)) + (own_bl f (own_kb kb) N (3 : Int32) p3)))])) t
      refine Own.nmI hv6 ?_
      show Steps p.tables e below (T5.setTop (mkF m 39 #[.val (.ref o0), .val (.ref o1), .val (.ref o2), .val (.int p3), .unset] [(.int v6)])) t
      refine XS.istore X5.here hx rfl (hb hby d13_39) rfl (l' := #[.val (.ref o0), .val (.ref o1), .val (.ref o2), .val (.int p3), .val (.int v6)]) rfl ?_
      show Steps p.tables e below (T5.setTop (mkF m 41 #[.val (.ref o0), .val (.ref o1), .val (.ref o2), .val (.int p3), .val (.int v6)] [])) t
      refine XS.aloadN X5.here hx rfl (hb hby d13_41) rfl rfl ?_
      show Steps p.tables e below (T5.setTop (mkF m 42 #[.val (.ref o0), .val (.ref o1), .val (.ref o2), .val (.int p3), .val (.int v6)] [(.ref o0)])) t
      refine XS.iloadN X5.here hx rfl (hb hby d13_42) rfl ?_
      show Steps p.tables e below (T5.setTop (mkF m 43 #[.val (.ref o0), .val (.ref o1), .val (.ref o2), .val (.int p3), .val (.int v6)] [(.int p3), (.ref o0)])) t
      refine Own.ldI X5 hx hZ e5 A0 hj7 (g := (mkF m 43 #[.val (.ref o0), .val (.ref o1), .val (.ref o2), .val (.int p3), .val (.int v6)] [(.int p3), (.ref o0)])) rfl rfl (hb hby d13_43) _ ?_
      show Steps p.tables e below (T5.setTop (mkF m 44 #[.val (.ref o0), .val (.ref o1), .val (.ref o2), .val (.int p3), .val (.int v6)] [(.int (fr p3.toInt.toNat))])) t
      refine XS.iload X5.here hx rfl (hb hby d13_44) rfl ?_
      show Steps p.tables e below (T5.setTop (mkF m 46 #[.val (.ref o0), .val (.ref o1), .val (.ref o2), .val (.int p3), .val (.int v6)] [(.int v6), (.int (fr p3.toInt.toNat))])) t
      exact k
    by_cases hc8 : (fr p3.toInt.toNat) = v6
    · refine hD _ (T5.setTop (mkF m 54 #[.val (.ref o0), .val (.ref o1), .val (.ref o2), .val (.int p3), .val (.int v6)] [(.int (1 : Int32))])) (fun t k => ?_) ?_
      · show Steps p.tables e below (T5.setTop (mkF m 46 #[.val (.ref o0), .val (.ref o1), .val (.ref o2), .val (.int p3), .val (.int v6)] [(.int v6), (.int (fr p3.toInt.toNat))])) t
        refine XS.icmpNo X5.here hx rfl (hb hby d13_46) rfl (teq hc8).2 ?_
        show Steps p.tables e below (T5.setTop (mkF m 49 #[.val (.ref o0), .val (.ref o1), .val (.ref o2), .val (.int p3), .val (.int v6)] [])) t
        refine XS.iconst X5.here hx rfl (hb hby d13_49) ?_
        show Steps p.tables e below (T5.setTop (mkF m 50 #[.val (.ref o0), .val (.ref o1), .val (.ref o2), .val (.int p3), .val (.int v6)] [(.int (1 : Int32))])) t
        refine XS.goto X5.here hx rfl (pc0 := 50) (pc' := 54) rfl (hb hby d13_50) (by decide) (by decide) ?_
        show Steps p.tables e below (T5.setTop (mkF m 54 #[.val (.ref o0), .val (.ref o1), .val (.ref o2), .val (.int p3), .val (.int v6)] [(.int (1 : Int32))])) t
        exact k
      exact Own.retN hR X5 hx (t := .boolean) hret (by simp) (hb hby d13_54) (by decide) (by decide) (by decide) ⟨by rw [show own_ck fr R f (own_kb kb) N p3 = true from decide_eq_true (Or.inr (by rw [← hv6]; exact hc8))]; rfl, N5, e5⟩
    · refine hD _ (T5.setTop (mkF m 54 #[.val (.ref o0), .val (.ref o1), .val (.ref o2), .val (.int p3), .val (.int v6)] [(.int (0 : Int32))])) (fun t k => ?_) ?_
      · show Steps p.tables e below (T5.setTop (mkF m 46 #[.val (.ref o0), .val (.ref o1), .val (.ref o2), .val (.int p3), .val (.int v6)] [(.int v6), (.int (fr p3.toInt.toNat))])) t
        refine XS.icmpYes X5.here hx rfl (pc0 := 46) (pc' := 53) rfl (hb hby d13_46) rfl (feq hc8).2 (by decide) (by decide) ?_
        show Steps p.tables e below (T5.setTop (mkF m 53 #[.val (.ref o0), .val (.ref o1), .val (.ref o2), .val (.int p3), .val (.int v6)] [])) t
        refine XS.iconst X5.here hx rfl (hb hby d13_53) ?_
        show Steps p.tables e below (T5.setTop (mkF m 54 #[.val (.ref o0), .val (.ref o1), .val (.ref o2), .val (.int p3), .val (.int v6)] [(.int (0 : Int32))])) t
        exact k
      exact Own.retN hR X5 hx (t := .boolean) hret (by simp) (hb hby d13_54) (by decide) (by decide) (by decide) ⟨by rw [show own_ck fr R f (own_kb kb) N p3 = false from decide_eq_false (by rintro (q | q); exact q hc1; exact hc8 (by rw [hv6]; exact q))]; rfl, N5, e5⟩
  · refine hD _ (s₁.setTop (mkF m 7 #[.val (.ref o0), .val (.ref o1), .val (.ref o2), .val (.int p3), .unset] [(.int (1 : Int32))])) (fun t k => ?_) ?_
    · show Steps p.tables e below (s₁.setTop (mkF m 3 #[.val (.ref o0), .val (.ref o1), .val (.ref o2), .val (.int p3), .unset] [(.int (Int32.ofNat R)), (.int p3)])) t
      refine XS.icmpNo X0.here hx rfl (hb hby d13_3) rfl (flt hc1).1 ?_
      show Steps p.tables e below (s₁.setTop (mkF m 6 #[.val (.ref o0), .val (.ref o1), .val (.ref o2), .val (.int p3), .unset] [])) t
      refine XS.iconst X0.here hx rfl (hb hby d13_6) ?_
      show Steps p.tables e below (s₁.setTop (mkF m 7 #[.val (.ref o0), .val (.ref o1), .val (.ref o2), .val (.int p3), .unset] [(.int (1 : Int32))])) t
      exact k
    exact Own.retN hR X0 hx (t := .boolean) hret (by simp) (hb hby d13_7) (by decide) (by decide) (by decide) ⟨by rw [show own_ck fr R f (own_kb kb) N p3 = true from decide_eq_true (Or.inl hc1)]; rfl, N0, e0⟩
theorem pd_1 : parseMethodDescriptor "([II[Z)[I" = some ⟨[(.array .int), .int, (.array .boolean)], some (.array .int)⟩ := by decide +kernel
theorem pd_2 : parseMethodDescriptor "([I[I[ZI)Z" = some ⟨[(.array .int), (.array .int), (.array .boolean), .int], some .boolean⟩ := by decide +kernel
theorem ef_0 (m : MethodId) (p0 : Int32) (p1 : Int32) (p2 : Int32) (p3 : Int32) (p4 : Int32) (p5 : Int32) : entryFrame m #[(.int p0), (.int p1), (.int p2), (.int p3), (.int p4), (.int p5)] maxLocals = mkF m 0 #[.val (.int p0), .val (.int p1), .val (.int p2), .val (.int p3), .val (.int p4), .val (.int p5), .unset, .unset, .unset, .unset, .unset, .unset] [] := by first | (simp [entryFrame, mkF, argsToLocals, Value.category, maxLocals]; done) | rfl
def Q0 (Z : State) (p0 : Int32) (p1 : Int32) (p2 : Int32) (p3 : Int32) (p4 : Int32) (p5 : Int32) (h0 : Heap) (n0 : Nat) (v : Option Value) (h : Heap) (L : List Loc) : Prop := v = some (.int 1) ∧ Fr n0 L
set_option maxRecDepth 65536 in
set_option maxHeartbeats 40000000 in
theorem rm0 (l : Launch) (Z : State) (a0 : Array Value) (hw : ∀ d ∈ tables_1, d.before a0 Z = true) (ws : List Jvm.Cond) (p0 : Int32) (p1 : Int32) (p2 : Int32) (p3 : Int32) (p4 : Int32) (p5 : Int32) (h0 : Heap) (n0 : Nat) (Z0 : n0 ≤ h0.size) :
    MetFree l x (head1 (Jvm.Cond.code x code maxLocals ret :: ws) room_1) (fun a U => a = #[(.int p0), (.int p1), (.int p2), (.int p3), (.int p4), (.int p5)] ∧ Z.Warmed39 U.vm ∧ U.heap = h0) (fun _ _ _ _ _ => True) (fun _ U o U' => ∃ v L, o = .returned v ∧ Q0 Z p0 p1 p2 p3 p4 p5 h0 n0 v U'.heap L ∧ FrameEnd U o U' L room_1.cells room_1.slots) := by
  refine Own.enter (Q := Q0 Z p0 p1 p2 p3 p4 p5 h0 n0) (plainFor_of_name pn_1) ?_
  intro p e s m below meth c s₁ D hx hby hml hown hnm hret hZ X0 e0 hD hR
  have N0 := Fr.nil n0
  rw [show entryFrame m #[(.int p0), (.int p1), (.int p2), (.int p3), (.int p4), (.int p5)] maxLocals = mkF m 0 #[.val (.int p0), .val (.int p1), .val (.int p2), .val (.int p3), .val (.int p4), .val (.int p5), .unset, .unset, .unset, .unset, .unset, .unset] [] from ef_0 m p0 p1 p2 p3 p4 p5]
  refine hD _ (s₁.setTop (mkF m 4 #[.val (.int p0), .val (.int p1), .val (.int p2), .val (.int p3), .val (.int p4), .val (.int p5), .unset, .unset, .unset, .unset, .unset, .unset] [(.int (p4 &&& (4 : Int32)))])) (fun t k => ?_) ?_
  · show Steps p.tables e below (s₁.setTop (mkF m 0 #[.val (.int p0), .val (.int p1), .val (.int p2), .val (.int p3), .val (.int p4), .val (.int p5), .unset, .unset, .unset, .unset, .unset, .unset] [])) t
    refine XS.iload X0.here hx rfl (hb hby at_0) rfl ?_
    show Steps p.tables e below (s₁.setTop (mkF m 2 #[.val (.int p0), .val (.int p1), .val (.int p2), .val (.int p3), .val (.int p4), .val (.int p5), .unset, .unset, .unset, .unset, .unset, .unset] [(.int p4)])) t
    refine XS.iconst X0.here hx rfl (hb hby at_2) ?_
    show Steps p.tables e below (s₁.setTop (mkF m 3 #[.val (.int p0), .val (.int p1), .val (.int p2), .val (.int p3), .val (.int p4), .val (.int p5), .unset, .unset, .unset, .unset, .unset, .unset] [(.int (4 : Int32)), (.int p4)])) t
    refine XS.iand X0.here hx rfl (hb hby at_3) rfl ?_
    show Steps p.tables e below (s₁.setTop (mkF m 4 #[.val (.int p0), .val (.int p1), .val (.int p2), .val (.int p3), .val (.int p4), .val (.int p5), .unset, .unset, .unset, .unset, .unset, .unset] [(.int (p4 &&& (4 : Int32)))])) t
    exact k
  by_cases hc1 : (p4 &&& (4 : Int32)) = (0 : Int32)
  · obtain ⟨v2, hv2⟩ : ∃ z : Int32, z = ((p4 &&& (3 : Int32)) + (1 : Int32)) := ⟨_, rfl⟩
    obtain ⟨G, hG, hG4, hG1⟩ := own_g1 hv2
    have hnz := own_nz hG hG1
    refine hD _ (s₁.setTop (mkF m 39 #[.val (.int p0), .val (.int p1), .val (.int p2), .val (.int p3), .val (.int p4), .val (.int p5), .val (.int (0 : Int32)), .val (.int v2), .unset, .unset, .unset, .unset] [(.int (p5 &&& (16 : Int32)))])) (fun t k => ?_) ?_
    · show Steps p.tables e below (s₁.setTop (mkF m 4 #[.val (.int p0), .val (.int p1), .val (.int p2), .val (.int p3), .val (.int p4), .val (.int p5), .unset, .unset, .unset, .unset, .unset, .unset] [(.int (p4 &&& (4 : Int32)))])) t
      refine XS.ifYes X0.here hx rfl (pc0 := 4) (pc' := 11) rfl (hb hby at_4) rfl ((if0 _ _).trans (teq hc1).1) (by decide) (by decide) ?_
      show Steps p.tables e below (s₁.setTop (mkF m 11 #[.val (.int p0), .val (.int p1), .val (.int p2), .val (.int p3), .val (.int p4), .val (.int p5), .unset, .unset, .unset, .unset, .unset, .unset] [])) t
      refine XS.iconst X0.here hx rfl (hb hby at_11) ?_
      show Steps p.tables e below (s₁.setTop (mkF m 12 #[.val (.int p0), .val (.int p1), .val (.int p2), .val (.int p3), .val (.int p4), .val (.int p5), .unset, .unset, .unset, .unset, .unset, .unset] [(.int (0 : Int32))])) t
      refine XS.istore X0.here hx rfl (hb hby at_12) rfl (l' := #[.val (.int p0), .val (.int p1), .val (.int p2), .val (.int p3), .val (.int p4), .val (.int p5), .val (.int (0 : Int32)), .unset, .unset, .unset, .unset, .unset]) rfl ?_
      show Steps p.tables e below (s₁.setTop (mkF m 14 #[.val (.int p0), .val (.int p1), .val (.int p2), .val (.int p3), .val (.int p4), .val (.int p5), .val (.int (0 : Int32)), .unset, .unset, .unset, .unset, .unset] [])) t
      refine XS.iload X0.here hx rfl (hb hby at_14) rfl ?_
      show Steps p.tables e below (s₁.setTop (mkF m 16 #[.val (.int p0), .val (.int p1), .val (.int p2), .val (.int p3), .val (.int p4), .val (.int p5), .val (.int (0 : Int32)), .unset, .unset, .unset, .unset, .unset] [(.int (0 : Int32))])) t
      refine XS.ifYes X0.here hx rfl (pc0 := 16) (pc' := 26) rfl (hb hby at_16) rfl (by decide) (by decide) (by decide) ?_
      show Steps p.tables e below (s₁.setTop (mkF m 26 #[.val (.int p0), .val (.int p1), .val (.int p2), .val (.int p3), .val (.int p4), .val (.int p5), .val (.int (0 : Int32)), .unset, .unset, .unset, .unset, .unset] [])) t
      refine XS.iload X0.here hx rfl (hb hby at_26) rfl ?_
      show Steps p.tables e below (s₁.setTop (mkF m 28 #[.val (.int p0), .val (.int p1), .val (.int p2), .val (.int p3), .val (.int p4), .val (.int p5), .val (.int (0 : Int32)), .unset, .unset, .unset, .unset, .unset] [(.int p4)])) t
      refine XS.iconst X0.here hx rfl (hb hby at_28) ?_
      show Steps p.tables e below (s₁.setTop (mkF m 29 #[.val (.int p0), .val (.int p1), .val (.int p2), .val (.int p3), .val (.int p4), .val (.int p5), .val (.int (0 : Int32)), .unset, .unset, .unset, .unset, .unset] [(.int (3 : Int32)), (.int p4)])) t
      refine XS.iand X0.here hx rfl (hb hby at_29) rfl ?_
      show Steps p.tables e below (s₁.setTop (mkF m 30 #[.val (.int p0), .val (.int p1), .val (.int p2), .val (.int p3), .val (.int p4), .val (.int p5), .val (.int (0 : Int32)), .unset, .unset, .unset, .unset, .unset] [(.int (p4 &&& (3 : Int32)))])) t
      refine XS.iconst X0.here hx rfl (hb hby at_30) ?_
      show Steps p.tables e below (s₁.setTop (mkF m 31 #[.val (.int p0), .val (.int p1), .val (.int p2), .val (.int p3), .val (.int p4), .val (.int p5), .val (.int (0 : Int32)), .unset, .unset, .unset, .unset, .unset] [(.int (1 : Int32)), (.int (p4 &&& (3 : Int32)))])) t
      refine XS.iadd X0.here hx rfl (hb hby at_31) rfl ?_
      show Steps p.tables e below (s₁.setTop (mkF m 32 #[.val (.int p0), .val (.int p1), .val (.int p2), .val (.int p3), .val (.int p4), .val (.int p5), .val (.int (0 : Int32)), .unset, .unset, .unset, .unset, .unset] [(.int ((p4 &&& (3 : Int32)) + (1 : Int32)))])) t
      refine Own.nmI hv2 ?_
      show Steps p.tables e below (s₁.setTop (mkF m 32 #[.val (.int p0), .val (.int p1), .val (.int p2), .val (.int p3), .val (.int p4), .val (.int p5), .val (.int (0 : Int32)), .unset, .unset, .unset, .unset, .unset] [(.int v2)])) t
      refine XS.istore X0.here hx rfl (hb hby at_32) rfl (l' := #[.val (.int p0), .val (.int p1), .val (.int p2), .val (.int p3), .val (.int p4), .val (.int p5), .val (.int (0 : Int32)), .val (.int v2), .unset, .unset, .unset, .unset]) rfl ?_
      show Steps p.tables e below (s₁.setTop (mkF m 34 #[.val (.int p0), .val (.int p1), .val (.int p2), .val (.int p3), .val (.int p4), .val (.int p5), .val (.int (0 : Int32)), .val (.int v2), .unset, .unset, .unset, .unset] [])) t
      refine XS.iload X0.here hx rfl (hb hby at_34) rfl ?_
      show Steps p.tables e below (s₁.setTop (mkF m 36 #[.val (.int p0), .val (.int p1), .val (.int p2), .val (.int p3), .val (.int p4), .val (.int p5), .val (.int (0 : Int32)), .val (.int v2), .unset, .unset, .unset, .unset] [(.int p5)])) t
      refine XS.bipush X0.here hx rfl (hb hby at_36) ?_
      show Steps p.tables e below (s₁.setTop (mkF m 38 #[.val (.int p0), .val (.int p1), .val (.int p2), .val (.int p3), .val (.int p4), .val (.int p5), .val (.int (0 : Int32)), .val (.int v2), .unset, .unset, .unset, .unset] [(.int (16 : Int32)), (.int p5)])) t
      refine XS.iand X0.here hx rfl (hb hby at_38) rfl ?_
      show Steps p.tables e below (s₁.setTop (mkF m 39 #[.val (.int p0), .val (.int p1), .val (.int p2), .val (.int p3), .val (.int p4), .val (.int p5), .val (.int (0 : Int32)), .val (.int v2), .unset, .unset, .unset, .unset] [(.int (p5 &&& (16 : Int32)))])) t
      exact k
    by_cases hc3 : (p5 &&& (16 : Int32)) = (0 : Int32)
    · obtain ⟨T4, h4, k4, X4, e4, E4, A4, st4⟩ := newP X0 hx hZ (hw _ (List.mem_of_getElem? (i := 0) rfl)) e0 (g := (mkF m 77 #[.val (.int p0), .val (.int p1), .val (.int p2), .val (.int p3), .val (.int p4), .val (.int p5), .val (.int (0 : Int32)), .val (.int v2), .val (.int (0 : Int32)), .unset, .unset, .unset] [(.int (4 : Int32))])) rfl (hb hby at_77) rfl (by decide) (cap := 4) (by decide) (by decide) (by decide) (by decide)
      obtain ⟨b4, g_b4⟩ : ∃ z : Nat, z = h0.size := ⟨_, rfl⟩
      rw [← g_b4] at A4 st4
      have g0_b4 : n0 ≤ b4 := by rw [g_b4]; exact Z0
      have f5 : Own.AvI Z h4 b4 .int 4 (fun _ => 0) := Own.AvI.new A4 (by decide) rfl
      have Z4 : n0 ≤ h4.size := Nat.le_trans Z0 E4.1
      have hnz6 : v2 ≠ 0 := by assumption
      have hj7 : 0 ≤ (0 : Int32).toInt ∧ (0 : Int32).toInt < (4 : Nat) := ⟨by decide, by decide⟩
      obtain ⟨T8, h8, X8, e8, A8, W8, st8⟩ := Own.stoI X4 hx hZ e4 f5 hj7 (g := (mkF m 91 #[.val (.int p0), .val (.int p1), .val (.int p2), .val (.int p3), .val (.int p4), .val (.int p5), .val (.int (0 : Int32)), .val (.int v2), .val (.int (0 : Int32)), .val (.ref b4), .unset, .unset] [(.int ((p0 &&& (2147483647 : Int32)) % v2)), (.int (0 : Int32)), (.ref b4)])) rfl rfl (hb hby at_91)
      have N8 := Fr.snoc X8 N0 (show n0 ≤ b4 by omega)
      have Z8 : n0 ≤ h8.size := Nat.le_trans Z4 (Keep.of_wr W8).1
      have hnz9 : v2 ≠ 0 := by assumption
      have hj10 : 0 ≤ (1 : Int32).toInt ∧ (1 : Int32).toInt < (4 : Nat) := ⟨by decide, by decide⟩
      obtain ⟨T11, h11, X11, e11, A11, W11, st11⟩ := Own.stoI X8 hx hZ e8 A8 hj10 (g := (mkF m 102 #[.val (.int p0), .val (.int p1), .val (.int p2), .val (.int p3), .val (.int p4), .val (.int p5), .val (.int (0 : Int32)), .val (.int v2), .val (.int (0 : Int32)), .val (.ref b4), .unset, .unset] [(.int ((p1 &&& (2147483647 : Int32)) % v2)), (.int (1 : Int32)), (.ref b4)])) rfl rfl (hb hby at_102)
      have N11 := Fr.snoc X11 N8 (show n0 ≤ b4 by omega)
      have Z11 : n0 ≤ h11.size := Nat.le_trans Z8 (Keep.of_wr W11).1
      have hnz12 : v2 ≠ 0 := by assumption
      have hj13 : 0 ≤ (2 : Int32).toInt ∧ (2 : Int32).toInt < (4 : Nat) := ⟨by decide, by decide⟩
      obtain ⟨T14, h14, X14, e14, A14, W14, st14⟩ := Own.stoI X11 hx hZ e11 A11 hj13 (g := (mkF m 113 #[.val (.int p0), .val (.int p1), .val (.int p2), .val (.int p3), .val (.int p4), .val (.int p5), .val (.int (0 : Int32)), .val (.int v2), .val (.int (0 : Int32)), .val (.ref b4), .unset, .unset] [(.int ((p2 &&& (2147483647 : Int32)) % v2)), (.int (2 : Int32)), (.ref b4)])) rfl rfl (hb hby at_113)
      have N14 := Fr.snoc X14 N11 (show n0 ≤ b4 by omega)
      have Z14 : n0 ≤ h14.size := Nat.le_trans Z11 (Keep.of_wr W14).1
      have hnz15 : v2 ≠ 0 := by assumption
      have hj16 : 0 ≤ (3 : Int32).toInt ∧ (3 : Int32).toInt < (4 : Nat) := ⟨by decide, by decide⟩
      obtain ⟨T17, h17, X17, e17, A17, W17, st17⟩ := Own.stoI X14 hx hZ e14 A14 hj16 (g := (mkF m 124 #[.val (.int p0), .val (.int p1), .val (.int p2), .val (.int p3), .val (.int p4), .val (.int p5), .val (.int (0 : Int32)), .val (.int v2), .val (.int (0 : Int32)), .val (.ref b4), .unset, .unset] [(.int ((p3 &&& (2147483647 : Int32)) % v2)), (.int (3 : Int32)), (.ref b4)])) rfl rfl (hb hby at_124)
      have N17 := Fr.snoc X17 N14 (show n0 ≤ b4 by omega)
      have Z17 : n0 ≤ h17.size := Nat.le_trans Z14 (Keep.of_wr W17).1
      obtain ⟨T18, h18, k18, X18, e18, E18, A18, st18⟩ := newP X17 hx hZ (hw _ (List.mem_of_getElem? (i := 2) rfl)) e17 (g := (mkF m 137 #[.val (.int p0), .val (.int p1), .val (.int p2), .val (.int p3), .val (.int p4), .val (.int p5), .val (.int (0 : Int32)), .val (.int v2), .val (.int (0 : Int32)), .val (.ref b4), .unset, .unset] [(.int (4 : Int32))])) rfl (hb hby at_137) rfl (by decide) (cap := 4) (by decide) (by decide) (by decide) (by decide)
      obtain ⟨b18, g_b18⟩ : ∃ z : Nat, z = h17.size := ⟨_, rfl⟩
      rw [← g_b18] at A18 st18
      have lt_b4_b18 : (b4 : Nat) < b18 := by rw [g_b18]; exact A17.lt
      have g0_b18 : n0 ≤ b18 := by rw [g_b18]; exact Z17
      have f19 : Own.AvI Z h18 b4 .int 4 (fun ii => if ii = 3 then ((p3 &&& (2147483647 : Int32)) % v2) else (fun ii => if ii = 2 then ((p2 &&& (2147483647 : Int32)) % v2) else (fun ii => if ii = 1 then ((p1 &&& (2147483647 : Int32)) % v2) else (fun ii => if ii = 0 then ((p0 &&& (2147483647 : Int32)) % v2) else (fun _ => 0) ii) ii) ii) ii) := A17.ext E18
      have f20 : Own.AvI Z h18 b18 .boolean 4 (fun _ => 0) := Own.AvI.new A18 (by decide) rfl
      have Z18 : n0 ≤ h18.size := Nat.le_trans Z17 E18.1
      refine hD _ (T18.setTop (mkF m 144 #[.val (.int p0), .val (.int p1), .val (.int p2), .val (.int p3), .val (.int p4), .val (.int p5), .val (.int (0 : Int32)), .val (.int v2), .val (.int (0 : Int32)), .val (.ref b4), .val (.ref b18), .unset] [(.int (0 : Int32)), (.ref b18)])) (fun t k => ?_) ?_
      · show Steps p.tables e below (s₁.setTop (mkF m 39 #[.val (.int p0), .val (.int p1), .val (.int p2), .val (.int p3), .val (.int p4), .val (.int p5), .val (.int (0 : Int32)), .val (.int v2), .unset, .unset, .unset, .unset] [(.int (p5 &&& (16 : Int32)))])) t
        refine XS.ifYes X0.here hx rfl (pc0 := 39) (pc' := 46) rfl (hb hby at_39) rfl ((if0 _ _).trans (teq hc3).1) (by decide) (by decide) ?_
        show Steps p.tables e below (s₁.setTop (mkF m 46 #[.val (.int p0), .val (.int p1), .val (.int p2), .val (.int p3), .val (.int p4), .val (.int p5), .val (.int (0 : Int32)), .val (.int v2), .unset, .unset, .unset, .unset] [])) t
        refine XS.iconst X0.here hx rfl (hb hby at_46) ?_
        show Steps p.tables e below (s₁.setTop (mkF m 47 #[.val (.int p0), .val (.int p1), .val (.int p2), .val (.int p3), .val (.int p4), .val (.int p5), .val (.int (0 : Int32)), .val (.int v2), .unset, .unset, .unset, .unset] [(.int (0 : Int32))])) t
        refine XS.istore X0.here hx rfl (hb hby at_47) rfl (l' := #[.val (.int p0), .val (.int p1), .val (.int p2), .val (.int p3), .val (.int p4), .val (.int p5), .val (.int (0 : Int32)), .val (.int v2), .val (.int (0 : Int32)), .unset, .unset, .unset]) rfl ?_
        show Steps p.tables e below (s₁.setTop (mkF m 49 #[.val (.int p0), .val (.int p1), .val (.int p2), .val (.int p3), .val (.int p4), .val (.int p5), .val (.int (0 : Int32)), .val (.int v2), .val (.int (0 : Int32)), .unset, .unset, .unset] [])) t
        refine XS.iload X0.here hx rfl (hb hby at_49) rfl ?_
        show Steps p.tables e below (s₁.setTop (mkF m 51 #[.val (.int p0), .val (.int p1), .val (.int p2), .val (.int p3), .val (.int p4), .val (.int p5), .val (.int (0 : Int32)), .val (.int v2), .val (.int (0 : Int32)), .unset, .unset, .unset] [(.int (0 : Int32))])) t
        refine XS.ifYes X0.here hx rfl (pc0 := 51) (pc' := 76) rfl (hb hby at_51) rfl (by decide) (by decide) (by decide) ?_
        show Steps p.tables e below (s₁.setTop (mkF m 76 #[.val (.int p0), .val (.int p1), .val (.int p2), .val (.int p3), .val (.int p4), .val (.int p5), .val (.int (0 : Int32)), .val (.int v2), .val (.int (0 : Int32)), .unset, .unset, .unset] [])) t
        refine XS.iconst X0.here hx rfl (hb hby at_76) ?_
        show Steps p.tables e below (s₁.setTop (mkF m 77 #[.val (.int p0), .val (.int p1), .val (.int p2), .val (.int p3), .val (.int p4), .val (.int p5), .val (.int (0 : Int32)), .val (.int v2), .val (.int (0 : Int32)), .unset, .unset, .unset] [(.int (4 : Int32))])) t
        refine st4 _ ?_
        show Steps p.tables e below (T4.setTop (mkF m 79 #[.val (.int p0), .val (.int p1), .val (.int p2), .val (.int p3), .val (.int p4), .val (.int p5), .val (.int (0 : Int32)), .val (.int v2), .val (.int (0 : Int32)), .unset, .unset, .unset] [(.ref b4)])) t
        refine XS.astore X4.here hx rfl (hb hby at_79) rfl rfl (l' := #[.val (.int p0), .val (.int p1), .val (.int p2), .val (.int p3), .val (.int p4), .val (.int p5), .val (.int (0 : Int32)), .val (.int v2), .val (.int (0 : Int32)), .val (.ref b4), .unset, .unset]) rfl ?_
        show Steps p.tables e below (T4.setTop (mkF m 81 #[.val (.int p0), .val (.int p1), .val (.int p2), .val (.int p3), .val (.int p4), .val (.int p5), .val (.int (0 : Int32)), .val (.int v2), .val (.int (0 : Int32)), .val (.ref b4), .unset, .unset] [])) t
        refine XS.aload X4.here hx rfl (hb hby at_81) rfl rfl ?_
        show Steps p.tables e below (T4.setTop (mkF m 83 #[.val (.int p0), .val (.int p1), .val (.int p2), .val (.int p3), .val (.int p4), .val (.int p5), .val (.int (0 : Int32)), .val (.int v2), .val (.int (0 : Int32)), .val (.ref b4), .unset, .unset] [(.ref b4)])) t
        refine XS.iconst X4.here hx rfl (hb hby at_83) ?_
        show Steps p.tables e below (T4.setTop (mkF m 84 #[.val (.int p0), .val (.int p1), .val (.int p2), .val (.int p3), .val (.int p4), .val (.int p5), .val (.int (0 : Int32)), .val (.int v2), .val (.int (0 : Int32)), .val (.ref b4), .unset, .unset] [(.int (0 : Int32)), (.ref b4)])) t
        refine XS.iloadN X4.here hx rfl (hb hby at_84) rfl ?_
        show Steps p.tables e below (T4.setTop (mkF m 85 #[.val (.int p0), .val (.int p1), .val (.int p2), .val (.int p3), .val (.int p4), .val (.int p5), .val (.int (0 : Int32)), .val (.int v2), .val (.int (0 : Int32)), .val (.ref b4), .unset, .unset] [(.int p0), (.int (0 : Int32)), (.ref b4)])) t
        refine X4.ldcInt hx hown (mvT hZ (hw _ (List.mem_of_getElem? (i := 1) rfl))) (g := (mkF m 85 #[.val (.int p0), .val (.int p1), .val (.int p2), .val (.int p3), .val (.int p4), .val (.int p5), .val (.int (0 : Int32)), .val (.int v2), .val (.int (0 : Int32)), .val (.ref b4), .unset, .unset] [(.int p0), (.int (0 : Int32)), (.ref b4)])) rfl (hb hby at_85) _ ?_
        show Steps p.tables e below (T4.setTop (mkF m 87 #[.val (.int p0), .val (.int p1), .val (.int p2), .val (.int p3), .val (.int p4), .val (.int p5), .val (.int (0 : Int32)), .val (.int v2), .val (.int (0 : Int32)), .val (.ref b4), .unset, .unset] [(.int (2147483647 : Int32)), (.int p0), (.int (0 : Int32)), (.ref b4)])) t
        refine XS.iand X4.here hx rfl (hb hby at_87) rfl ?_
        show Steps p.tables e below (T4.setTop (mkF m 88 #[.val (.int p0), .val (.int p1), .val (.int p2), .val (.int p3), .val (.int p4), .val (.int p5), .val (.int (0 : Int32)), .val (.int v2), .val (.int (0 : Int32)), .val (.ref b4), .unset, .unset] [(.int (p0 &&& (2147483647 : Int32))), (.int (0 : Int32)), (.ref b4)])) t
        refine XS.iload X4.here hx rfl (hb hby at_88) rfl ?_
        show Steps p.tables e below (T4.setTop (mkF m 90 #[.val (.int p0), .val (.int p1), .val (.int p2), .val (.int p3), .val (.int p4), .val (.int p5), .val (.int (0 : Int32)), .val (.int v2), .val (.int (0 : Int32)), .val (.ref b4), .unset, .unset] [(.int v2), (.int (p0 &&& (2147483647 : Int32))), (.int (0 : Int32)), (.ref b4)])) t
        refine Jvm.RoadKit.iremM (g := (mkF m 90 #[.val (.int p0), .val (.int p1), .val (.int p2), .val (.int p3), .val (.int p4), .val (.int p5), .val (.int (0 : Int32)), .val (.int v2), .val (.int (0 : Int32)), .val (.ref b4), .unset, .unset] [(.int v2), (.int (p0 &&& (2147483647 : Int32))), (.int (0 : Int32)), (.ref b4)])) X4 hx rfl (hb hby at_90) rfl hnz6 ?_
        show Steps p.tables e below (T4.setTop (mkF m 91 #[.val (.int p0), .val (.int p1), .val (.int p2), .val (.int p3), .val (.int p4), .val (.int p5), .val (.int (0 : Int32)), .val (.int v2), .val (.int (0 : Int32)), .val (.ref b4), .unset, .unset] [(.int ((p0 &&& (2147483647 : Int32)) % v2)), (.int (0 : Int32)), (.ref b4)])) t
        refine st8 _ ?_
        show Steps p.tables e below (T8.setTop (mkF m 92 #[.val (.int p0), .val (.int p1), .val (.int p2), .val (.int p3), .val (.int p4), .val (.int p5), .val (.int (0 : Int32)), .val (.int v2), .val (.int (0 : Int32)), .val (.ref b4), .unset, .unset] [])) t
        refine XS.aload X8.here hx rfl (hb hby at_92) rfl rfl ?_
        show Steps p.tables e below (T8.setTop (mkF m 94 #[.val (.int p0), .val (.int p1), .val (.int p2), .val (.int p3), .val (.int p4), .val (.int p5), .val (.int (0 : Int32)), .val (.int v2), .val (.int (0 : Int32)), .val (.ref b4), .unset, .unset] [(.ref b4)])) t
        refine XS.iconst X8.here hx rfl (hb hby at_94) ?_
        show Steps p.tables e below (T8.setTop (mkF m 95 #[.val (.int p0), .val (.int p1), .val (.int p2), .val (.int p3), .val (.int p4), .val (.int p5), .val (.int (0 : Int32)), .val (.int v2), .val (.int (0 : Int32)), .val (.ref b4), .unset, .unset] [(.int (1 : Int32)), (.ref b4)])) t
        refine XS.iloadN X8.here hx rfl (hb hby at_95) rfl ?_
        show Steps p.tables e below (T8.setTop (mkF m 96 #[.val (.int p0), .val (.int p1), .val (.int p2), .val (.int p3), .val (.int p4), .val (.int p5), .val (.int (0 : Int32)), .val (.int v2), .val (.int (0 : Int32)), .val (.ref b4), .unset, .unset] [(.int p1), (.int (1 : Int32)), (.ref b4)])) t
        refine X8.ldcInt hx hown (mvT hZ (hw _ (List.mem_of_getElem? (i := 1) rfl))) (g := (mkF m 96 #[.val (.int p0), .val (.int p1), .val (.int p2), .val (.int p3), .val (.int p4), .val (.int p5), .val (.int (0 : Int32)), .val (.int v2), .val (.int (0 : Int32)), .val (.ref b4), .unset, .unset] [(.int p1), (.int (1 : Int32)), (.ref b4)])) rfl (hb hby at_96) _ ?_
        show Steps p.tables e below (T8.setTop (mkF m 98 #[.val (.int p0), .val (.int p1), .val (.int p2), .val (.int p3), .val (.int p4), .val (.int p5), .val (.int (0 : Int32)), .val (.int v2), .val (.int (0 : Int32)), .val (.ref b4), .unset, .unset] [(.int (2147483647 : Int32)), (.int p1), (.int (1 : Int32)), (.ref b4)])) t
        refine XS.iand X8.here hx rfl (hb hby at_98) rfl ?_
        show Steps p.tables e below (T8.setTop (mkF m 99 #[.val (.int p0), .val (.int p1), .val (.int p2), .val (.int p3), .val (.int p4), .val (.int p5), .val (.int (0 : Int32)), .val (.int v2), .val (.int (0 : Int32)), .val (.ref b4), .unset, .unset] [(.int (p1 &&& (2147483647 : Int32))), (.int (1 : Int32)), (.ref b4)])) t
        refine XS.iload X8.here hx rfl (hb hby at_99) rfl ?_
        show Steps p.tables e below (T8.setTop (mkF m 101 #[.val (.int p0), .val (.int p1), .val (.int p2), .val (.int p3), .val (.int p4), .val (.int p5), .val (.int (0 : Int32)), .val (.int v2), .val (.int (0 : Int32)), .val (.ref b4), .unset, .unset] [(.int v2), (.int (p1 &&& (2147483647 : Int32))), (.int (1 : Int32)), (.ref b4)])) t
        refine Jvm.RoadKit.iremM (g := (mkF m 101 #[.val (.int p0), .val (.int p1), .val (.int p2), .val (.int p3), .val (.int p4), .val (.int p5), .val (.int (0 : Int32)), .val (.int v2), .val (.int (0 : Int32)), .val (.ref b4), .unset, .unset] [(.int v2), (.int (p1 &&& (2147483647 : Int32))), (.int (1 : Int32)), (.ref b4)])) X8 hx rfl (hb hby at_101) rfl hnz9 ?_
        show Steps p.tables e below (T8.setTop (mkF m 102 #[.val (.int p0), .val (.int p1), .val (.int p2), .val (.int p3), .val (.int p4), .val (.int p5), .val (.int (0 : Int32)), .val (.int v2), .val (.int (0 : Int32)), .val (.ref b4), .unset, .unset] [(.int ((p1 &&& (2147483647 : Int32)) % v2)), (.int (1 : Int32)), (.ref b4)])) t
        refine st11 _ ?_
        show Steps p.tables e below (T11.setTop (mkF m 103 #[.val (.int p0), .val (.int p1), .val (.int p2), .val (.int p3), .val (.int p4), .val (.int p5), .val (.int (0 : Int32)), .val (.int v2), .val (.int (0 : Int32)), .val (.ref b4), .unset, .unset] [])) t
        refine XS.aload X11.here hx rfl (hb hby at_103) rfl rfl ?_
        show Steps p.tables e below (T11.setTop (mkF m 105 #[.val (.int p0), .val (.int p1), .val (.int p2), .val (.int p3), .val (.int p4), .val (.int p5), .val (.int (0 : Int32)), .val (.int v2), .val (.int (0 : Int32)), .val (.ref b4), .unset, .unset] [(.ref b4)])) t
        refine XS.iconst X11.here hx rfl (hb hby at_105) ?_
        show Steps p.tables e below (T11.setTop (mkF m 106 #[.val (.int p0), .val (.int p1), .val (.int p2), .val (.int p3), .val (.int p4), .val (.int p5), .val (.int (0 : Int32)), .val (.int v2), .val (.int (0 : Int32)), .val (.ref b4), .unset, .unset] [(.int (2 : Int32)), (.ref b4)])) t
        refine XS.iloadN X11.here hx rfl (hb hby at_106) rfl ?_
        show Steps p.tables e below (T11.setTop (mkF m 107 #[.val (.int p0), .val (.int p1), .val (.int p2), .val (.int p3), .val (.int p4), .val (.int p5), .val (.int (0 : Int32)), .val (.int v2), .val (.int (0 : Int32)), .val (.ref b4), .unset, .unset] [(.int p2), (.int (2 : Int32)), (.ref b4)])) t
        refine X11.ldcInt hx hown (mvT hZ (hw _ (List.mem_of_getElem? (i := 1) rfl))) (g := (mkF m 107 #[.val (.int p0), .val (.int p1), .val (.int p2), .val (.int p3), .val (.int p4), .val (.int p5), .val (.int (0 : Int32)), .val (.int v2), .val (.int (0 : Int32)), .val (.ref b4), .unset, .unset] [(.int p2), (.int (2 : Int32)), (.ref b4)])) rfl (hb hby at_107) _ ?_
        show Steps p.tables e below (T11.setTop (mkF m 109 #[.val (.int p0), .val (.int p1), .val (.int p2), .val (.int p3), .val (.int p4), .val (.int p5), .val (.int (0 : Int32)), .val (.int v2), .val (.int (0 : Int32)), .val (.ref b4), .unset, .unset] [(.int (2147483647 : Int32)), (.int p2), (.int (2 : Int32)), (.ref b4)])) t
        refine XS.iand X11.here hx rfl (hb hby at_109) rfl ?_
        show Steps p.tables e below (T11.setTop (mkF m 110 #[.val (.int p0), .val (.int p1), .val (.int p2), .val (.int p3), .val (.int p4), .val (.int p5), .val (.int (0 : Int32)), .val (.int v2), .val (.int (0 : Int32)), .val (.ref b4), .unset, .unset] [(.int (p2 &&& (2147483647 : Int32))), (.int (2 : Int32)), (.ref b4)])) t
        refine XS.iload X11.here hx rfl (hb hby at_110) rfl ?_
        show Steps p.tables e below (T11.setTop (mkF m 112 #[.val (.int p0), .val (.int p1), .val (.int p2), .val (.int p3), .val (.int p4), .val (.int p5), .val (.int (0 : Int32)), .val (.int v2), .val (.int (0 : Int32)), .val (.ref b4), .unset, .unset] [(.int v2), (.int (p2 &&& (2147483647 : Int32))), (.int (2 : Int32)), (.ref b4)])) t
        refine Jvm.RoadKit.iremM (g := (mkF m 112 #[.val (.int p0), .val (.int p1), .val (.int p2), .val (.int p3), .val (.int p4), .val (.int p5), .val (.int (0 : Int32)), .val (.int v2), .val (.int (0 : Int32)), .val (.ref b4), .unset, .unset] [(.int v2), (.int (p2 &&& (2147483647 : Int32))), (.int (2 : Int32)), (.ref b4)])) X11 hx rfl (hb hby at_112) rfl hnz12 ?_
        show Steps p.tables e below (T11.setTop (mkF m 113 #[.val (.int p0), .val (.int p1), .val (.int p2), .val (.int p3), .val (.int p4), .val (.int p5), .val (.int (0 : Int32)), .val (.int v2), .val (.int (0 : Int32)), .val (.ref b4), .unset, .unset] [(.int ((p2 &&& (2147483647 : Int32)) % v2)), (.int (2 : Int32)), (.ref b4)])) t
        refine st14 _ ?_
        show Steps p.tables e below (T14.setTop (mkF m 114 #[.val (.int p0), .val (.int p1), .val (.int p2), .val (.int p3), .val (.int p4), .val (.int p5), .val (.int (0 : Int32)), .val (.int v2), .val (.int (0 : Int32)), .val (.ref b4), .unset, .unset] [])) t
        refine XS.aload X14.here hx rfl (hb hby at_114) rfl rfl ?_
        show Steps p.tables e below (T14.setTop (mkF m 116 #[.val (.int p0), .val (.int p1), .val (.int p2), .val (.int p3), .val (.int p4), .val (.int p5), .val (.int (0 : Int32)), .val (.int v2), .val (.int (0 : Int32)), .val (.ref b4), .unset, .unset] [(.ref b4)])) t
        refine XS.iconst X14.here hx rfl (hb hby at_116) ?_
        show Steps p.tables e below (T14.setTop (mkF m 117 #[.val (.int p0), .val (.int p1), .val (.int p2), .val (.int p3), .val (.int p4), .val (.int p5), .val (.int (0 : Int32)), .val (.int v2), .val (.int (0 : Int32)), .val (.ref b4), .unset, .unset] [(.int (3 : Int32)), (.ref b4)])) t
        refine XS.iloadN X14.here hx rfl (hb hby at_117) rfl ?_
        show Steps p.tables e below (T14.setTop (mkF m 118 #[.val (.int p0), .val (.int p1), .val (.int p2), .val (.int p3), .val (.int p4), .val (.int p5), .val (.int (0 : Int32)), .val (.int v2), .val (.int (0 : Int32)), .val (.ref b4), .unset, .unset] [(.int p3), (.int (3 : Int32)), (.ref b4)])) t
        refine X14.ldcInt hx hown (mvT hZ (hw _ (List.mem_of_getElem? (i := 1) rfl))) (g := (mkF m 118 #[.val (.int p0), .val (.int p1), .val (.int p2), .val (.int p3), .val (.int p4), .val (.int p5), .val (.int (0 : Int32)), .val (.int v2), .val (.int (0 : Int32)), .val (.ref b4), .unset, .unset] [(.int p3), (.int (3 : Int32)), (.ref b4)])) rfl (hb hby at_118) _ ?_
        show Steps p.tables e below (T14.setTop (mkF m 120 #[.val (.int p0), .val (.int p1), .val (.int p2), .val (.int p3), .val (.int p4), .val (.int p5), .val (.int (0 : Int32)), .val (.int v2), .val (.int (0 : Int32)), .val (.ref b4), .unset, .unset] [(.int (2147483647 : Int32)), (.int p3), (.int (3 : Int32)), (.ref b4)])) t
        refine XS.iand X14.here hx rfl (hb hby at_120) rfl ?_
        show Steps p.tables e below (T14.setTop (mkF m 121 #[.val (.int p0), .val (.int p1), .val (.int p2), .val (.int p3), .val (.int p4), .val (.int p5), .val (.int (0 : Int32)), .val (.int v2), .val (.int (0 : Int32)), .val (.ref b4), .unset, .unset] [(.int (p3 &&& (2147483647 : Int32))), (.int (3 : Int32)), (.ref b4)])) t
        refine XS.iload X14.here hx rfl (hb hby at_121) rfl ?_
        show Steps p.tables e below (T14.setTop (mkF m 123 #[.val (.int p0), .val (.int p1), .val (.int p2), .val (.int p3), .val (.int p4), .val (.int p5), .val (.int (0 : Int32)), .val (.int v2), .val (.int (0 : Int32)), .val (.ref b4), .unset, .unset] [(.int v2), (.int (p3 &&& (2147483647 : Int32))), (.int (3 : Int32)), (.ref b4)])) t
        refine Jvm.RoadKit.iremM (g := (mkF m 123 #[.val (.int p0), .val (.int p1), .val (.int p2), .val (.int p3), .val (.int p4), .val (.int p5), .val (.int (0 : Int32)), .val (.int v2), .val (.int (0 : Int32)), .val (.ref b4), .unset, .unset] [(.int v2), (.int (p3 &&& (2147483647 : Int32))), (.int (3 : Int32)), (.ref b4)])) X14 hx rfl (hb hby at_123) rfl hnz15 ?_
        show Steps p.tables e below (T14.setTop (mkF m 124 #[.val (.int p0), .val (.int p1), .val (.int p2), .val (.int p3), .val (.int p4), .val (.int p5), .val (.int (0 : Int32)), .val (.int v2), .val (.int (0 : Int32)), .val (.ref b4), .unset, .unset] [(.int ((p3 &&& (2147483647 : Int32)) % v2)), (.int (3 : Int32)), (.ref b4)])) t
        refine st17 _ ?_
        show Steps p.tables e below (T17.setTop (mkF m 125 #[.val (.int p0), .val (.int p1), .val (.int p2), .val (.int p3), .val (.int p4), .val (.int p5), .val (.int (0 : Int32)), .val (.int v2), .val (.int (0 : Int32)), .val (.ref b4), .unset, .unset] [])) t
        refine XS.iload X17.here hx rfl (hb hby at_125) rfl ?_
        show Steps p.tables e below (T17.setTop (mkF m 127 #[.val (.int p0), .val (.int p1), .val (.int p2), .val (.int p3), .val (.int p4), .val (.int p5), .val (.int (0 : Int32)), .val (.int v2), .val (.int (0 : Int32)), .val (.ref b4), .unset, .unset] [(.int (0 : Int32))])) t
        refine XS.ifYes X17.here hx rfl (pc0 := 127) (pc' := 136) rfl (hb hby at_127) rfl (by decide) (by decide) (by decide) ?_
        show Steps p.tables e below (T17.setTop (mkF m 136 #[.val (.int p0), .val (.int p1), .val (.int p2), .val (.int p3), .val (.int p4), .val (.int p5), .val (.int (0 : Int32)), .val (.int v2), .val (.int (0 : Int32)), .val (.ref b4), .unset, .unset] [])) t
        refine XS.iconst X17.here hx rfl (hb hby at_136) ?_
        show Steps p.tables e below (T17.setTop (mkF m 137 #[.val (.int p0), .val (.int p1), .val (.int p2), .val (.int p3), .val (.int p4), .val (.int p5), .val (.int (0 : Int32)), .val (.int v2), .val (.int (0 : Int32)), .val (.ref b4), .unset, .unset] [(.int (4 : Int32))])) t
        refine st18 _ ?_
        show Steps p.tables e below (T18.setTop (mkF m 139 #[.val (.int p0), .val (.int p1), .val (.int p2), .val (.int p3), .val (.int p4), .val (.int p5), .val (.int (0 : Int32)), .val (.int v2), .val (.int (0 : Int32)), .val (.ref b4), .unset, .unset] [(.ref b18)])) t
        refine XS.astore X18.here hx rfl (hb hby at_139) rfl rfl (l' := #[.val (.int p0), .val (.int p1), .val (.int p2), .val (.int p3), .val (.int p4), .val (.int p5), .val (.int (0 : Int32)), .val (.int v2), .val (.int (0 : Int32)), .val (.ref b4), .val (.ref b18), .unset]) rfl ?_
        show Steps p.tables e below (T18.setTop (mkF m 141 #[.val (.int p0), .val (.int p1), .val (.int p2), .val (.int p3), .val (.int p4), .val (.int p5), .val (.int (0 : Int32)), .val (.int v2), .val (.int (0 : Int32)), .val (.ref b4), .val (.ref b18), .unset] [])) t
        refine XS.aload X18.here hx rfl (hb hby at_141) rfl rfl ?_
        show Steps p.tables e below (T18.setTop (mkF m 143 #[.val (.int p0), .val (.int p1), .val (.int p2), .val (.int p3), .val (.int p4), .val (.int p5), .val (.int (0 : Int32)), .val (.int v2), .val (.int (0 : Int32)), .val (.ref b4), .val (.ref b18), .unset] [(.ref b18)])) t
        refine XS.iconst X18.here hx rfl (hb hby at_143) ?_
        show Steps p.tables e below (T18.setTop (mkF m 144 #[.val (.int p0), .val (.int p1), .val (.int p2), .val (.int p3), .val (.int p4), .val (.int p5), .val (.int (0 : Int32)), .val (.int v2), .val (.int (0 : Int32)), .val (.ref b4), .val (.ref b18), .unset] [(.int (0 : Int32)), (.ref b18)])) t
        exact k
      have J156 : ∀ (T21 : State) (locs21 : List Loc) (x156 : Int32), Stand p l e room_1 s m #[(.int p0), (.int p1), (.int p2), (.int p3), (.int p4), (.int p5)] below meth c T21 locs21 2 8 → T21.heap = h18 → Fr n0 locs21 → D (T21.setTop (mkF m 156 #[.val (.int p0), .val (.int p1), .val (.int p2), .val (.int p3), .val (.int p4), .val (.int p5), .val (.int (0 : Int32)), .val (.int v2), .val (.int (0 : Int32)), .val (.ref b4), .val (.ref b18), .unset] [(.int x156), (.int (0 : Int32)), (.ref b18)])) := by
        intro T21 locs21 x156 X21 e21 N21
        have hj22 : 0 ≤ (0 : Int32).toInt ∧ (0 : Int32).toInt < (4 : Nat) := ⟨by decide, by decide⟩
        obtain ⟨T23, h23, X23, e23, A23, W23, st23⟩ := Own.stoZ X21 hx hZ e21 f20 hj22 (g := (mkF m 156 #[.val (.int p0), .val (.int p1), .val (.int p2), .val (.int p3), .val (.int p4), .val (.int p5), .val (.int (0 : Int32)), .val (.int v2), .val (.int (0 : Int32)), .val (.ref b4), .val (.ref b18), .unset] [(.int x156), (.int (0 : Int32)), (.ref b18)])) rfl rfl (hb hby at_156)
        have f24 : Own.AvI Z h23 b4 .int 4 (fun ii => if ii = 3 then ((p3 &&& (2147483647 : Int32)) % v2) else (fun ii => if ii = 2 then ((p2 &&& (2147483647 : Int32)) % v2) else (fun ii => if ii = 1 then ((p1 &&& (2147483647 : Int32)) % v2) else (fun ii => if ii = 0 then ((p0 &&& (2147483647 : Int32)) % v2) else (fun _ => 0) ii) ii) ii) ii) := f19.other W23 (Own.ne_of (by omega))
        have N23 := Fr.snoc X23 N21 (show n0 ≤ b18 by omega)
        have Z23 : n0 ≤ h23.size := Nat.le_trans Z18 (Keep.of_wr W23).1
        refine hD _ (T23.setTop (mkF m 160 #[.val (.int p0), .val (.int p1), .val (.int p2), .val (.int p3), .val (.int p4), .val (.int p5), .val (.int (0 : Int32)), .val (.int v2), .val (.int (0 : Int32)), .val (.ref b4), .val (.ref b18), .unset] [(.int (1 : Int32)), (.ref b18)])) (fun t k => ?_) ?_
        · show Steps p.tables e below (T21.setTop (mkF m 156 #[.val (.int p0), .val (.int p1), .val (.int p2), .val (.int p3), .val (.int p4), .val (.int p5), .val (.int (0 : Int32)), .val (.int v2), .val (.int (0 : Int32)), .val (.ref b4), .val (.ref b18), .unset] [(.int x156), (.int (0 : Int32)), (.ref b18)])) t
          refine st23 _ ?_
          show Steps p.tables e below (T23.setTop (mkF m 157 #[.val (.int p0), .val (.int p1), .val (.int p2), .val (.int p3), .val (.int p4), .val (.int p5), .val (.int (0 : Int32)), .val (.int v2), .val (.int (0 : Int32)), .val (.ref b4), .val (.ref b18), .unset] [])) t
          refine XS.aload X23.here hx rfl (hb hby at_157) rfl rfl ?_
          show Steps p.tables e below (T23.setTop (mkF m 159 #[.val (.int p0), .val (.int p1), .val (.int p2), .val (.int p3), .val (.int p4), .val (.int p5), .val (.int (0 : Int32)), .val (.int v2), .val (.int (0 : Int32)), .val (.ref b4), .val (.ref b18), .unset] [(.ref b18)])) t
          refine XS.iconst X23.here hx rfl (hb hby at_159) ?_
          show Steps p.tables e below (T23.setTop (mkF m 160 #[.val (.int p0), .val (.int p1), .val (.int p2), .val (.int p3), .val (.int p4), .val (.int p5), .val (.int (0 : Int32)), .val (.int v2), .val (.int (0 : Int32)), .val (.ref b4), .val (.ref b18), .unset] [(.int (1 : Int32)), (.ref b18)])) t
          exact k
        have J172 : ∀ (T25 : State) (locs25 : List Loc) (x172 : Int32), Stand p l e room_1 s m #[(.int p0), (.int p1), (.int p2), (.int p3), (.int p4), (.int p5)] below meth c T25 locs25 2 8 → T25.heap = h23 → Fr n0 locs25 → D (T25.setTop (mkF m 172 #[.val (.int p0), .val (.int p1), .val (.int p2), .val (.int p3), .val (.int p4), .val (.int p5), .val (.int (0 : Int32)), .val (.int v2), .val (.int (0 : Int32)), .val (.ref b4), .val (.ref b18), .unset] [(.int x172), (.int (1 : Int32)), (.ref b18)])) := by
          intro T25 locs25 x172 X25 e25 N25
          have hj26 : 0 ≤ (1 : Int32).toInt ∧ (1 : Int32).toInt < (4 : Nat) := ⟨by decide, by decide⟩
          obtain ⟨T27, h27, X27, e27, A27, W27, st27⟩ := Own.stoZ X25 hx hZ e25 A23 hj26 (g := (mkF m 172 #[.val (.int p0), .val (.int p1), .val (.int p2), .val (.int p3), .val (.int p4), .val (.int p5), .val (.int (0 : Int32)), .val (.int v2), .val (.int (0 : Int32)), .val (.ref b4), .val (.ref b18), .unset] [(.int x172), (.int (1 : Int32)), (.ref b18)])) rfl rfl (hb hby at_172)
          have f28 : Own.AvI Z h27 b4 .int 4 (fun ii => if ii = 3 then ((p3 &&& (2147483647 : Int32)) % v2) else (fun ii => if ii = 2 then ((p2 &&& (2147483647 : Int32)) % v2) else (fun ii => if ii = 1 then ((p1 &&& (2147483647 : Int32)) % v2) else (fun ii => if ii = 0 then ((p0 &&& (2147483647 : Int32)) % v2) else (fun _ => 0) ii) ii) ii) ii) := f24.other W27 (Own.ne_of (by omega))
          have N27 := Fr.snoc X27 N25 (show n0 ≤ b18 by omega)
          have Z27 : n0 ≤ h27.size := Nat.le_trans Z23 (Keep.of_wr W27).1
          refine hD _ (T27.setTop (mkF m 176 #[.val (.int p0), .val (.int p1), .val (.int p2), .val (.int p3), .val (.int p4), .val (.int p5), .val (.int (0 : Int32)), .val (.int v2), .val (.int (0 : Int32)), .val (.ref b4), .val (.ref b18), .unset] [(.int (2 : Int32)), (.ref b18)])) (fun t k => ?_) ?_
          · show Steps p.tables e below (T25.setTop (mkF m 172 #[.val (.int p0), .val (.int p1), .val (.int p2), .val (.int p3), .val (.int p4), .val (.int p5), .val (.int (0 : Int32)), .val (.int v2), .val (.int (0 : Int32)), .val (.ref b4), .val (.ref b18), .unset] [(.int x172), (.int (1 : Int32)), (.ref b18)])) t
            refine st27 _ ?_
            show Steps p.tables e below (T27.setTop (mkF m 173 #[.val (.int p0), .val (.int p1), .val (.int p2), .val (.int p3), .val (.int p4), .val (.int p5), .val (.int (0 : Int32)), .val (.int v2), .val (.int (0 : Int32)), .val (.ref b4), .val (.ref b18), .unset] [])) t
            refine XS.aload X27.here hx rfl (hb hby at_173) rfl rfl ?_
            show Steps p.tables e below (T27.setTop (mkF m 175 #[.val (.int p0), .val (.int p1), .val (.int p2), .val (.int p3), .val (.int p4), .val (.int p5), .val (.int (0 : Int32)), .val (.int v2), .val (.int (0 : Int32)), .val (.ref b4), .val (.ref b18), .unset] [(.ref b18)])) t
            refine XS.iconst X27.here hx rfl (hb hby at_175) ?_
            show Steps p.tables e below (T27.setTop (mkF m 176 #[.val (.int p0), .val (.int p1), .val (.int p2), .val (.int p3), .val (.int p4), .val (.int p5), .val (.int (0 : Int32)), .val (.int v2), .val (.int (0 : Int32)), .val (.ref b4), .val (.ref b18), .unset] [(.int (2 : Int32)), (.ref b18)])) t
            exact k
          have J188 : ∀ (T29 : State) (locs29 : List Loc) (x188 : Int32), Stand p l e room_1 s m #[(.int p0), (.int p1), (.int p2), (.int p3), (.int p4), (.int p5)] below meth c T29 locs29 2 8 → T29.heap = h27 → Fr n0 locs29 → D (T29.setTop (mkF m 188 #[.val (.int p0), .val (.int p1), .val (.int p2), .val (.int p3), .val (.int p4), .val (.int p5), .val (.int (0 : Int32)), .val (.int v2), .val (.int (0 : Int32)), .val (.ref b4), .val (.ref b18), .unset] [(.int x188), (.int (2 : Int32)), (.ref b18)])) := by
            intro T29 locs29 x188 X29 e29 N29
            have hj30 : 0 ≤ (2 : Int32).toInt ∧ (2 : Int32).toInt < (4 : Nat) := ⟨by decide, by decide⟩
            obtain ⟨T31, h31, X31, e31, A31, W31, st31⟩ := Own.stoZ X29 hx hZ e29 A27 hj30 (g := (mkF m 188 #[.val (.int p0), .val (.int p1), .val (.int p2), .val (.int p3), .val (.int p4), .val (.int p5), .val (.int (0 : Int32)), .val (.int v2), .val (.int (0 : Int32)), .val (.ref b4), .val (.ref b18), .unset] [(.int x188), (.int (2 : Int32)), (.ref b18)])) rfl rfl (hb hby at_188)
            have f32 : Own.AvI Z h31 b4 .int 4 (fun ii => if ii = 3 then ((p3 &&& (2147483647 : Int32)) % v2) else (fun ii => if ii = 2 then ((p2 &&& (2147483647 : Int32)) % v2) else (fun ii => if ii = 1 then ((p1 &&& (2147483647 : Int32)) % v2) else (fun ii => if ii = 0 then ((p0 &&& (2147483647 : Int32)) % v2) else (fun _ => 0) ii) ii) ii) ii) := f28.other W31 (Own.ne_of (by omega))
            have N31 := Fr.snoc X31 N29 (show n0 ≤ b18 by omega)
            have Z31 : n0 ≤ h31.size := Nat.le_trans Z27 (Keep.of_wr W31).1
            refine hD _ (T31.setTop (mkF m 192 #[.val (.int p0), .val (.int p1), .val (.int p2), .val (.int p3), .val (.int p4), .val (.int p5), .val (.int (0 : Int32)), .val (.int v2), .val (.int (0 : Int32)), .val (.ref b4), .val (.ref b18), .unset] [(.int (3 : Int32)), (.ref b18)])) (fun t k => ?_) ?_
            · show Steps p.tables e below (T29.setTop (mkF m 188 #[.val (.int p0), .val (.int p1), .val (.int p2), .val (.int p3), .val (.int p4), .val (.int p5), .val (.int (0 : Int32)), .val (.int v2), .val (.int (0 : Int32)), .val (.ref b4), .val (.ref b18), .unset] [(.int x188), (.int (2 : Int32)), (.ref b18)])) t
              refine st31 _ ?_
              show Steps p.tables e below (T31.setTop (mkF m 189 #[.val (.int p0), .val (.int p1), .val (.int p2), .val (.int p3), .val (.int p4), .val (.int p5), .val (.int (0 : Int32)), .val (.int v2), .val (.int (0 : Int32)), .val (.ref b4), .val (.ref b18), .unset] [])) t
              refine XS.aload X31.here hx rfl (hb hby at_189) rfl rfl ?_
              show Steps p.tables e below (T31.setTop (mkF m 191 #[.val (.int p0), .val (.int p1), .val (.int p2), .val (.int p3), .val (.int p4), .val (.int p5), .val (.int (0 : Int32)), .val (.int v2), .val (.int (0 : Int32)), .val (.ref b4), .val (.ref b18), .unset] [(.ref b18)])) t
              refine XS.iconst X31.here hx rfl (hb hby at_191) ?_
              show Steps p.tables e below (T31.setTop (mkF m 192 #[.val (.int p0), .val (.int p1), .val (.int p2), .val (.int p3), .val (.int p4), .val (.int p5), .val (.int (0 : Int32)), .val (.int v2), .val (.int (0 : Int32)), .val (.ref b4), .val (.ref b18), .unset] [(.int (3 : Int32)), (.ref b18)])) t
              exact k
            have J205 : ∀ (T33 : State) (locs33 : List Loc) (x205 : Int32), Stand p l e room_1 s m #[(.int p0), (.int p1), (.int p2), (.int p3), (.int p4), (.int p5)] below meth c T33 locs33 2 8 → T33.heap = h31 → Fr n0 locs33 → D (T33.setTop (mkF m 205 #[.val (.int p0), .val (.int p1), .val (.int p2), .val (.int p3), .val (.int p4), .val (.int p5), .val (.int (0 : Int32)), .val (.int v2), .val (.int (0 : Int32)), .val (.ref b4), .val (.ref b18), .unset] [(.int x205), (.int (3 : Int32)), (.ref b18)])) := by
              intro T33 locs33 x205 X33 e33 N33
              have hj34 : 0 ≤ (3 : Int32).toInt ∧ (3 : Int32).toInt < (4 : Nat) := ⟨by decide, by decide⟩
              obtain ⟨T35, h35, X35, e35, A35, W35, st35⟩ := Own.stoZ X33 hx hZ e33 A31 hj34 (g := (mkF m 205 #[.val (.int p0), .val (.int p1), .val (.int p2), .val (.int p3), .val (.int p4), .val (.int p5), .val (.int (0 : Int32)), .val (.int v2), .val (.int (0 : Int32)), .val (.ref b4), .val (.ref b18), .unset] [(.int x205), (.int (3 : Int32)), (.ref b18)])) rfl rfl (hb hby at_205)
              have f36 : Own.AvI Z h35 b4 .int 4 (fun ii => if ii = 3 then ((p3 &&& (2147483647 : Int32)) % v2) else (fun ii => if ii = 2 then ((p2 &&& (2147483647 : Int32)) % v2) else (fun ii => if ii = 1 then ((p1 &&& (2147483647 : Int32)) % v2) else (fun ii => if ii = 0 then ((p0 &&& (2147483647 : Int32)) % v2) else (fun _ => 0) ii) ii) ii) ii) := f32.other W35 (Own.ne_of (by omega))
              have N35 := Fr.snoc X35 N33 (show n0 ≤ b18 by omega)
              have Z35 : n0 ≤ h35.size := Nat.le_trans Z31 (Keep.of_wr W35).1
              obtain ⟨f, Af, hf⟩ : ∃ f : Nat → Int32, Own.AvI Z h35 b4 .int 4 f ∧ ∀ i, i < 4 → 0 ≤ (f i).toInt ∧ (f i).toInt < G := ⟨_, f36, fun i hi => by
                match i, hi with
                | 0, _ => exact own_rem hG hG1
                | 1, _ => exact own_rem hG hG1
                | 2, _ => exact own_rem hG hG1
                | 3, _ => exact own_rem hG hG1⟩
              obtain ⟨kb, Ab⟩ : ∃ z : Nat → Int32, Own.AvI Z h35 b18 .boolean 4 z := ⟨_, A35⟩
              obtain ⟨T37, _, L37, X37, ⟨b37, rfl, Nq37, A37, B37, C37⟩, st37⟩ := Own.callS (y := (⟨"com/example/schedulens/schedulens/Positions", "groupStarts", "([II[Z)[I"⟩ : MethodName)) (W := 0) (argsL := [(.ref b4), (.int v2), (.ref b18)]) (rest := []) X35 hx hZ hown (hw _ (List.mem_of_getElem? (i := 3) rfl)) (hw _ (List.mem_of_getElem? (i := 4) rfl)) (hw _ (List.mem_of_getElem? (i := 5) rfl)) (hw _ (List.mem_of_getElem? (i := 6) rfl)) (by decide) e35 (rm11 l Z a0 hw [] b4 v2 b18 4 G f kb h35 n0 Z35 (by decide) hG hG4 hf Af Ab) (by decide) (by decide) (by decide) (by decide) (g := (mkF m 212 #[.val (.int p0), .val (.int p1), .val (.int p2), .val (.int p3), .val (.int p4), .val (.int p5), .val (.int (0 : Int32)), .val (.int v2), .val (.int (0 : Int32)), .val (.ref b4), .val (.ref b18), .unset] [(.ref b18), (.int v2), (.ref b4)])) rfl (by rw [hml]; rfl) (lenOf pd_1 rfl) rfl (by show 2 * 0 + _ ≤ _; exact Nat.le_of_eq rfl) (hb hby at_212)
              have N37 := Fr.app N35 Nq37
              refine hD _ (T37.setTop (mkF m 224 #[.val (.int p0), .val (.int p1), .val (.int p2), .val (.int p3), .val (.int p4), .val (.int p5), .val (.int (0 : Int32)), .val (.int v2), .val (.int (0 : Int32)), .val (.ref b4), .val (.ref b18), .val (.ref b37)] [(.int (v2 + (1 : Int32))), (.int (Int32.ofNat (G + 1)))])) (fun t k => ?_) ?_
              · show Steps p.tables e below (T33.setTop (mkF m 205 #[.val (.int p0), .val (.int p1), .val (.int p2), .val (.int p3), .val (.int p4), .val (.int p5), .val (.int (0 : Int32)), .val (.int v2), .val (.int (0 : Int32)), .val (.ref b4), .val (.ref b18), .unset] [(.int x205), (.int (3 : Int32)), (.ref b18)])) t
                refine st35 _ ?_
                show Steps p.tables e below (T35.setTop (mkF m 206 #[.val (.int p0), .val (.int p1), .val (.int p2), .val (.int p3), .val (.int p4), .val (.int p5), .val (.int (0 : Int32)), .val (.int v2), .val (.int (0 : Int32)), .val (.ref b4), .val (.ref b18), .unset] [])) t
                refine XS.aload X35.here hx rfl (hb hby at_206) rfl rfl ?_
                show Steps p.tables e below (T35.setTop (mkF m 208 #[.val (.int p0), .val (.int p1), .val (.int p2), .val (.int p3), .val (.int p4), .val (.int p5), .val (.int (0 : Int32)), .val (.int v2), .val (.int (0 : Int32)), .val (.ref b4), .val (.ref b18), .unset] [(.ref b4)])) t
                refine XS.iload X35.here hx rfl (hb hby at_208) rfl ?_
                show Steps p.tables e below (T35.setTop (mkF m 210 #[.val (.int p0), .val (.int p1), .val (.int p2), .val (.int p3), .val (.int p4), .val (.int p5), .val (.int (0 : Int32)), .val (.int v2), .val (.int (0 : Int32)), .val (.ref b4), .val (.ref b18), .unset] [(.int v2), (.ref b4)])) t
                refine XS.aload X35.here hx rfl (hb hby at_210) rfl rfl ?_
                show Steps p.tables e below (T35.setTop (mkF m 212 #[.val (.int p0), .val (.int p1), .val (.int p2), .val (.int p3), .val (.int p4), .val (.int p5), .val (.int (0 : Int32)), .val (.int v2), .val (.int (0 : Int32)), .val (.ref b4), .val (.ref b18), .unset] [(.ref b18), (.int v2), (.ref b4)])) t
                refine st37 _ ?_
                show Steps p.tables e below (T37.setTop (mkF m 215 #[.val (.int p0), .val (.int p1), .val (.int p2), .val (.int p3), .val (.int p4), .val (.int p5), .val (.int (0 : Int32)), .val (.int v2), .val (.int (0 : Int32)), .val (.ref b4), .val (.ref b18), .unset] [(.ref b37)])) t
                refine XS.astore X37.here hx rfl (hb hby at_215) rfl rfl (l' := #[.val (.int p0), .val (.int p1), .val (.int p2), .val (.int p3), .val (.int p4), .val (.int p5), .val (.int (0 : Int32)), .val (.int v2), .val (.int (0 : Int32)), .val (.ref b4), .val (.ref b18), .val (.ref b37)]) rfl ?_
                show Steps p.tables e below (T37.setTop (mkF m 217 #[.val (.int p0), .val (.int p1), .val (.int p2), .val (.int p3), .val (.int p4), .val (.int p5), .val (.int (0 : Int32)), .val (.int v2), .val (.int (0 : Int32)), .val (.ref b4), .val (.ref b18), .val (.ref b37)] [])) t
                refine XS.aload X37.here hx rfl (hb hby at_217) rfl rfl ?_
                show Steps p.tables e below (T37.setTop (mkF m 219 #[.val (.int p0), .val (.int p1), .val (.int p2), .val (.int p3), .val (.int p4), .val (.int p5), .val (.int (0 : Int32)), .val (.int v2), .val (.int (0 : Int32)), .val (.ref b4), .val (.ref b18), .val (.ref b37)] [(.ref b37)])) t
                refine Own.lenI X37 hx hZ rfl A37 (g := (mkF m 219 #[.val (.int p0), .val (.int p1), .val (.int p2), .val (.int p3), .val (.int p4), .val (.int p5), .val (.int (0 : Int32)), .val (.int v2), .val (.int (0 : Int32)), .val (.ref b4), .val (.ref b18), .val (.ref b37)] [(.ref b37)])) rfl rfl (hb hby at_219) _ ?_
                show Steps p.tables e below (T37.setTop (mkF m 220 #[.val (.int p0), .val (.int p1), .val (.int p2), .val (.int p3), .val (.int p4), .val (.int p5), .val (.int (0 : Int32)), .val (.int v2), .val (.int (0 : Int32)), .val (.ref b4), .val (.ref b18), .val (.ref b37)] [(.int (Int32.ofNat (G + 1)))])) t
                refine XS.iload X37.here hx rfl (hb hby at_220) rfl ?_
                show Steps p.tables e below (T37.setTop (mkF m 222 #[.val (.int p0), .val (.int p1), .val (.int p2), .val (.int p3), .val (.int p4), .val (.int p5), .val (.int (0 : Int32)), .val (.int v2), .val (.int (0 : Int32)), .val (.ref b4), .val (.ref b18), .val (.ref b37)] [(.int v2), (.int (Int32.ofNat (G + 1)))])) t
                refine XS.iconst X37.here hx rfl (hb hby at_222) ?_
                show Steps p.tables e below (T37.setTop (mkF m 223 #[.val (.int p0), .val (.int p1), .val (.int p2), .val (.int p3), .val (.int p4), .val (.int p5), .val (.int (0 : Int32)), .val (.int v2), .val (.int (0 : Int32)), .val (.ref b4), .val (.ref b18), .val (.ref b37)] [(.int (1 : Int32)), (.int v2), (.int (Int32.ofNat (G + 1)))])) t
                refine XS.iadd X37.here hx rfl (hb hby at_223) rfl ?_
                show Steps p.tables e below (T37.setTop (mkF m 224 #[.val (.int p0), .val (.int p1), .val (.int p2), .val (.int p3), .val (.int p4), .val (.int p5), .val (.int (0 : Int32)), .val (.int v2), .val (.int (0 : Int32)), .val (.ref b4), .val (.ref b18), .val (.ref b37)] [(.int (v2 + (1 : Int32))), (.int (Int32.ofNat (G + 1)))])) t
                exact k
              have hc38 : (Int32.ofNat (G + 1)) = (v2 + (1 : Int32)) := by rw [own_eq, own_p1 hG (by omega), own_oi (by omega)]
              obtain ⟨T39, _, L39, X39, ⟨rfl, Nq39, e39⟩, st39⟩ := Own.callS (y := (⟨"com/example/schedulens/schedulens/PositionsGroupStartsPinLaw", "check", "([I[I[ZI)Z"⟩ : MethodName)) (W := 0) (argsL := [(.ref b37), (.ref b4), (.ref b18), (.int (0 : Int32))]) (rest := []) X37 hx hZ hown (hw _ (List.mem_of_getElem? (i := 7) rfl)) (hw _ (List.mem_of_getElem? (i := 8) rfl)) (hw _ (List.mem_of_getElem? (i := 9) rfl)) (hw _ (List.mem_of_getElem? (i := 10) rfl)) (by decide) rfl (rm13 l Z a0 hw [] b37 b4 b18 (0 : Int32) (G + 1) 4 (own_s (own_c f (own_kb kb) 4) G) f kb T37.heap n0 (by omega) (by decide) (by decide) A37 B37 C37) (by decide) (by decide) (by decide) (by decide) (g := (mkF m 236 #[.val (.int p0), .val (.int p1), .val (.int p2), .val (.int p3), .val (.int p4), .val (.int p5), .val (.int (0 : Int32)), .val (.int v2), .val (.int (0 : Int32)), .val (.ref b4), .val (.ref b18), .val (.ref b37)] [(.int (0 : Int32)), (.ref b18), (.ref b4), (.ref b37)])) rfl (by rw [hml]; rfl) (lenOf pd_2 rfl) rfl (by show 2 * 0 + _ ≤ _; exact Nat.le_of_eq rfl) (hb hby at_236)
              have N39 := Fr.app N37 Nq39
              refine hD _ (T39.setTop (mkF m 239 #[.val (.int p0), .val (.int p1), .val (.int p2), .val (.int p3), .val (.int p4), .val (.int p5), .val (.int (0 : Int32)), .val (.int v2), .val (.int (0 : Int32)), .val (.ref b4), .val (.ref b18), .val (.ref b37)] [(.int (Own.b2i (own_ck (own_s (own_c f (own_kb kb) 4) G) (G + 1) f (own_kb kb) 4 (0 : Int32))))])) (fun t k => ?_) ?_
              · show Steps p.tables e below (T37.setTop (mkF m 224 #[.val (.int p0), .val (.int p1), .val (.int p2), .val (.int p3), .val (.int p4), .val (.int p5), .val (.int (0 : Int32)), .val (.int v2), .val (.int (0 : Int32)), .val (.ref b4), .val (.ref b18), .val (.ref b37)] [(.int (v2 + (1 : Int32))), (.int (Int32.ofNat (G + 1)))])) t
                refine XS.icmpYes X37.here hx rfl (pc0 := 224) (pc' := 229) rfl (hb hby at_224) rfl (teq hc38).1 (by decide) (by decide) ?_
                show Steps p.tables e below (T37.setTop (mkF m 229 #[.val (.int p0), .val (.int p1), .val (.int p2), .val (.int p3), .val (.int p4), .val (.int p5), .val (.int (0 : Int32)), .val (.int v2), .val (.int (0 : Int32)), .val (.ref b4), .val (.ref b18), .val (.ref b37)] [])) t
                refine XS.aload X37.here hx rfl (hb hby at_229) rfl rfl ?_
                show Steps p.tables e below (T37.setTop (mkF m 231 #[.val (.int p0), .val (.int p1), .val (.int p2), .val (.int p3), .val (.int p4), .val (.int p5), .val (.int (0 : Int32)), .val (.int v2), .val (.int (0 : Int32)), .val (.ref b4), .val (.ref b18), .val (.ref b37)] [(.ref b37)])) t
                refine XS.aload X37.here hx rfl (hb hby at_231) rfl rfl ?_
                show Steps p.tables e below (T37.setTop (mkF m 233 #[.val (.int p0), .val (.int p1), .val (.int p2), .val (.int p3), .val (.int p4), .val (.int p5), .val (.int (0 : Int32)), .val (.int v2), .val (.int (0 : Int32)), .val (.ref b4), .val (.ref b18), .val (.ref b37)] [(.ref b4), (.ref b37)])) t
                refine XS.aload X37.here hx rfl (hb hby at_233) rfl rfl ?_
                show Steps p.tables e below (T37.setTop (mkF m 235 #[.val (.int p0), .val (.int p1), .val (.int p2), .val (.int p3), .val (.int p4), .val (.int p5), .val (.int (0 : Int32)), .val (.int v2), .val (.int (0 : Int32)), .val (.ref b4), .val (.ref b18), .val (.ref b37)] [(.ref b18), (.ref b4), (.ref b37)])) t
                refine XS.iconst X37.here hx rfl (hb hby at_235) ?_
                show Steps p.tables e below (T37.setTop (mkF m 236 #[.val (.int p0), .val (.int p1), .val (.int p2), .val (.int p3), .val (.int p4), .val (.int p5), .val (.int (0 : Int32)), .val (.int v2), .val (.int (0 : Int32)), .val (.ref b4), .val (.ref b18), .val (.ref b37)] [(.int (0 : Int32)), (.ref b18), (.ref b4), (.ref b37)])) t
                refine st39 _ ?_
                show Steps p.tables e below (T39.setTop (mkF m 239 #[.val (.int p0), .val (.int p1), .val (.int p2), .val (.int p3), .val (.int p4), .val (.int p5), .val (.int (0 : Int32)), .val (.int v2), .val (.int (0 : Int32)), .val (.ref b4), .val (.ref b18), .val (.ref b37)] [(.int (Own.b2i (own_ck (own_s (own_c f (own_kb kb) 4) G) (G + 1) f (own_kb kb) 4 (0 : Int32))))])) t
                exact k
              have hc40 : (own_ck (own_s (own_c f (own_kb kb) 4) G) (G + 1) f (own_kb kb) 4 (0 : Int32)) = true := own_main hf (by decide) hG4 (by decide)
              obtain ⟨T41, _, L41, X41, ⟨rfl, Nq41, e41⟩, st41⟩ := Own.callS (y := (⟨"com/example/schedulens/schedulens/PositionsGroupStartsPinLaw", "check", "([I[I[ZI)Z"⟩ : MethodName)) (W := 0) (argsL := [(.ref b37), (.ref b4), (.ref b18), (.int (1 : Int32))]) (rest := []) X39 hx hZ hown (hw _ (List.mem_of_getElem? (i := 7) rfl)) (hw _ (List.mem_of_getElem? (i := 8) rfl)) (hw _ (List.mem_of_getElem? (i := 9) rfl)) (hw _ (List.mem_of_getElem? (i := 10) rfl)) (by decide) e39 (rm13 l Z a0 hw [] b37 b4 b18 (1 : Int32) (G + 1) 4 (own_s (own_c f (own_kb kb) 4) G) f kb T37.heap n0 (by omega) (by decide) (by decide) A37 B37 C37) (by decide) (by decide) (by decide) (by decide) (g := (mkF m 249 #[.val (.int p0), .val (.int p1), .val (.int p2), .val (.int p3), .val (.int p4), .val (.int p5), .val (.int (0 : Int32)), .val (.int v2), .val (.int (0 : Int32)), .val (.ref b4), .val (.ref b18), .val (.ref b37)] [(.int (1 : Int32)), (.ref b18), (.ref b4), (.ref b37)])) rfl (by rw [hml]; rfl) (lenOf pd_2 rfl) rfl (by show 2 * 0 + _ ≤ _; exact Nat.le_of_eq rfl) (hb hby at_249)
              have N41 := Fr.app N39 Nq41
              refine hD _ (T41.setTop (mkF m 252 #[.val (.int p0), .val (.int p1), .val (.int p2), .val (.int p3), .val (.int p4), .val (.int p5), .val (.int (0 : Int32)), .val (.int v2), .val (.int (0 : Int32)), .val (.ref b4), .val (.ref b18), .val (.ref b37)] [(.int (Own.b2i (own_ck (own_s (own_c f (own_kb kb) 4) G) (G + 1) f (own_kb kb) 4 (1 : Int32))))])) (fun t k => ?_) ?_
              · show Steps p.tables e below (T39.setTop (mkF m 239 #[.val (.int p0), .val (.int p1), .val (.int p2), .val (.int p3), .val (.int p4), .val (.int p5), .val (.int (0 : Int32)), .val (.int v2), .val (.int (0 : Int32)), .val (.ref b4), .val (.ref b18), .val (.ref b37)] [(.int (Own.b2i (own_ck (own_s (own_c f (own_kb kb) 4) G) (G + 1) f (own_kb kb) 4 (0 : Int32))))])) t
                refine XS.ifNo X39.here hx rfl (hb hby at_239) rfl ((if0 _ _).trans (feq (fun q => Own.b2i_eq0.mp q hc40)).1) ?_
                show Steps p.tables e below (T39.setTop (mkF m 242 #[.val (.int p0), .val (.int p1), .val (.int p2), .val (.int p3), .val (.int p4), .val (.int p5), .val (.int (0 : Int32)), .val (.int v2), .val (.int (0 : Int32)), .val (.ref b4), .val (.ref b18), .val (.ref b37)] [])) t
                refine XS.aload X39.here hx rfl (hb hby at_242) rfl rfl ?_
                show Steps p.tables e below (T39.setTop (mkF m 244 #[.val (.int p0), .val (.int p1), .val (.int p2), .val (.int p3), .val (.int p4), .val (.int p5), .val (.int (0 : Int32)), .val (.int v2), .val (.int (0 : Int32)), .val (.ref b4), .val (.ref b18), .val (.ref b37)] [(.ref b37)])) t
                refine XS.aload X39.here hx rfl (hb hby at_244) rfl rfl ?_
                show Steps p.tables e below (T39.setTop (mkF m 246 #[.val (.int p0), .val (.int p1), .val (.int p2), .val (.int p3), .val (.int p4), .val (.int p5), .val (.int (0 : Int32)), .val (.int v2), .val (.int (0 : Int32)), .val (.ref b4), .val (.ref b18), .val (.ref b37)] [(.ref b4), (.ref b37)])) t
                refine XS.aload X39.here hx rfl (hb hby at_246) rfl rfl ?_
                show Steps p.tables e below (T39.setTop (mkF m 248 #[.val (.int p0), .val (.int p1), .val (.int p2), .val (.int p3), .val (.int p4), .val (.int p5), .val (.int (0 : Int32)), .val (.int v2), .val (.int (0 : Int32)), .val (.ref b4), .val (.ref b18), .val (.ref b37)] [(.ref b18), (.ref b4), (.ref b37)])) t
                refine XS.iconst X39.here hx rfl (hb hby at_248) ?_
                show Steps p.tables e below (T39.setTop (mkF m 249 #[.val (.int p0), .val (.int p1), .val (.int p2), .val (.int p3), .val (.int p4), .val (.int p5), .val (.int (0 : Int32)), .val (.int v2), .val (.int (0 : Int32)), .val (.ref b4), .val (.ref b18), .val (.ref b37)] [(.int (1 : Int32)), (.ref b18), (.ref b4), (.ref b37)])) t
                refine st41 _ ?_
                show Steps p.tables e below (T41.setTop (mkF m 252 #[.val (.int p0), .val (.int p1), .val (.int p2), .val (.int p3), .val (.int p4), .val (.int p5), .val (.int (0 : Int32)), .val (.int v2), .val (.int (0 : Int32)), .val (.ref b4), .val (.ref b18), .val (.ref b37)] [(.int (Own.b2i (own_ck (own_s (own_c f (own_kb kb) 4) G) (G + 1) f (own_kb kb) 4 (1 : Int32))))])) t
                exact k
              have hc42 : (own_ck (own_s (own_c f (own_kb kb) 4) G) (G + 1) f (own_kb kb) 4 (1 : Int32)) = true := own_main hf (by decide) hG4 (by decide)
              obtain ⟨T43, _, L43, X43, ⟨rfl, Nq43, e43⟩, st43⟩ := Own.callS (y := (⟨"com/example/schedulens/schedulens/PositionsGroupStartsPinLaw", "check", "([I[I[ZI)Z"⟩ : MethodName)) (W := 0) (argsL := [(.ref b37), (.ref b4), (.ref b18), (.int (2 : Int32))]) (rest := []) X41 hx hZ hown (hw _ (List.mem_of_getElem? (i := 7) rfl)) (hw _ (List.mem_of_getElem? (i := 8) rfl)) (hw _ (List.mem_of_getElem? (i := 9) rfl)) (hw _ (List.mem_of_getElem? (i := 10) rfl)) (by decide) e41 (rm13 l Z a0 hw [] b37 b4 b18 (2 : Int32) (G + 1) 4 (own_s (own_c f (own_kb kb) 4) G) f kb T37.heap n0 (by omega) (by decide) (by decide) A37 B37 C37) (by decide) (by decide) (by decide) (by decide) (g := (mkF m 262 #[.val (.int p0), .val (.int p1), .val (.int p2), .val (.int p3), .val (.int p4), .val (.int p5), .val (.int (0 : Int32)), .val (.int v2), .val (.int (0 : Int32)), .val (.ref b4), .val (.ref b18), .val (.ref b37)] [(.int (2 : Int32)), (.ref b18), (.ref b4), (.ref b37)])) rfl (by rw [hml]; rfl) (lenOf pd_2 rfl) rfl (by show 2 * 0 + _ ≤ _; exact Nat.le_of_eq rfl) (hb hby at_262)
              have N43 := Fr.app N41 Nq43
              refine hD _ (T43.setTop (mkF m 265 #[.val (.int p0), .val (.int p1), .val (.int p2), .val (.int p3), .val (.int p4), .val (.int p5), .val (.int (0 : Int32)), .val (.int v2), .val (.int (0 : Int32)), .val (.ref b4), .val (.ref b18), .val (.ref b37)] [(.int (Own.b2i (own_ck (own_s (own_c f (own_kb kb) 4) G) (G + 1) f (own_kb kb) 4 (2 : Int32))))])) (fun t k => ?_) ?_
              · show Steps p.tables e below (T41.setTop (mkF m 252 #[.val (.int p0), .val (.int p1), .val (.int p2), .val (.int p3), .val (.int p4), .val (.int p5), .val (.int (0 : Int32)), .val (.int v2), .val (.int (0 : Int32)), .val (.ref b4), .val (.ref b18), .val (.ref b37)] [(.int (Own.b2i (own_ck (own_s (own_c f (own_kb kb) 4) G) (G + 1) f (own_kb kb) 4 (1 : Int32))))])) t
                refine XS.ifNo X41.here hx rfl (hb hby at_252) rfl ((if0 _ _).trans (feq (fun q => Own.b2i_eq0.mp q hc42)).1) ?_
                show Steps p.tables e below (T41.setTop (mkF m 255 #[.val (.int p0), .val (.int p1), .val (.int p2), .val (.int p3), .val (.int p4), .val (.int p5), .val (.int (0 : Int32)), .val (.int v2), .val (.int (0 : Int32)), .val (.ref b4), .val (.ref b18), .val (.ref b37)] [])) t
                refine XS.aload X41.here hx rfl (hb hby at_255) rfl rfl ?_
                show Steps p.tables e below (T41.setTop (mkF m 257 #[.val (.int p0), .val (.int p1), .val (.int p2), .val (.int p3), .val (.int p4), .val (.int p5), .val (.int (0 : Int32)), .val (.int v2), .val (.int (0 : Int32)), .val (.ref b4), .val (.ref b18), .val (.ref b37)] [(.ref b37)])) t
                refine XS.aload X41.here hx rfl (hb hby at_257) rfl rfl ?_
                show Steps p.tables e below (T41.setTop (mkF m 259 #[.val (.int p0), .val (.int p1), .val (.int p2), .val (.int p3), .val (.int p4), .val (.int p5), .val (.int (0 : Int32)), .val (.int v2), .val (.int (0 : Int32)), .val (.ref b4), .val (.ref b18), .val (.ref b37)] [(.ref b4), (.ref b37)])) t
                refine XS.aload X41.here hx rfl (hb hby at_259) rfl rfl ?_
                show Steps p.tables e below (T41.setTop (mkF m 261 #[.val (.int p0), .val (.int p1), .val (.int p2), .val (.int p3), .val (.int p4), .val (.int p5), .val (.int (0 : Int32)), .val (.int v2), .val (.int (0 : Int32)), .val (.ref b4), .val (.ref b18), .val (.ref b37)] [(.ref b18), (.ref b4), (.ref b37)])) t
                refine XS.iconst X41.here hx rfl (hb hby at_261) ?_
                show Steps p.tables e below (T41.setTop (mkF m 262 #[.val (.int p0), .val (.int p1), .val (.int p2), .val (.int p3), .val (.int p4), .val (.int p5), .val (.int (0 : Int32)), .val (.int v2), .val (.int (0 : Int32)), .val (.ref b4), .val (.ref b18), .val (.ref b37)] [(.int (2 : Int32)), (.ref b18), (.ref b4), (.ref b37)])) t
                refine st43 _ ?_
                show Steps p.tables e below (T43.setTop (mkF m 265 #[.val (.int p0), .val (.int p1), .val (.int p2), .val (.int p3), .val (.int p4), .val (.int p5), .val (.int (0 : Int32)), .val (.int v2), .val (.int (0 : Int32)), .val (.ref b4), .val (.ref b18), .val (.ref b37)] [(.int (Own.b2i (own_ck (own_s (own_c f (own_kb kb) 4) G) (G + 1) f (own_kb kb) 4 (2 : Int32))))])) t
                exact k
              have hc44 : (own_ck (own_s (own_c f (own_kb kb) 4) G) (G + 1) f (own_kb kb) 4 (2 : Int32)) = true := own_main hf (by decide) hG4 (by decide)
              obtain ⟨T45, _, L45, X45, ⟨rfl, Nq45, e45⟩, st45⟩ := Own.callS (y := (⟨"com/example/schedulens/schedulens/PositionsGroupStartsPinLaw", "check", "([I[I[ZI)Z"⟩ : MethodName)) (W := 0) (argsL := [(.ref b37), (.ref b4), (.ref b18), (.int (3 : Int32))]) (rest := []) X43 hx hZ hown (hw _ (List.mem_of_getElem? (i := 7) rfl)) (hw _ (List.mem_of_getElem? (i := 8) rfl)) (hw _ (List.mem_of_getElem? (i := 9) rfl)) (hw _ (List.mem_of_getElem? (i := 10) rfl)) (by decide) e43 (rm13 l Z a0 hw [] b37 b4 b18 (3 : Int32) (G + 1) 4 (own_s (own_c f (own_kb kb) 4) G) f kb T37.heap n0 (by omega) (by decide) (by decide) A37 B37 C37) (by decide) (by decide) (by decide) (by decide) (g := (mkF m 275 #[.val (.int p0), .val (.int p1), .val (.int p2), .val (.int p3), .val (.int p4), .val (.int p5), .val (.int (0 : Int32)), .val (.int v2), .val (.int (0 : Int32)), .val (.ref b4), .val (.ref b18), .val (.ref b37)] [(.int (3 : Int32)), (.ref b18), (.ref b4), (.ref b37)])) rfl (by rw [hml]; rfl) (lenOf pd_2 rfl) rfl (by show 2 * 0 + _ ≤ _; exact Nat.le_of_eq rfl) (hb hby at_275)
              have N45 := Fr.app N43 Nq45
              refine hD _ (T45.setTop (mkF m 278 #[.val (.int p0), .val (.int p1), .val (.int p2), .val (.int p3), .val (.int p4), .val (.int p5), .val (.int (0 : Int32)), .val (.int v2), .val (.int (0 : Int32)), .val (.ref b4), .val (.ref b18), .val (.ref b37)] [(.int (Own.b2i (own_ck (own_s (own_c f (own_kb kb) 4) G) (G + 1) f (own_kb kb) 4 (3 : Int32))))])) (fun t k => ?_) ?_
              · show Steps p.tables e below (T43.setTop (mkF m 265 #[.val (.int p0), .val (.int p1), .val (.int p2), .val (.int p3), .val (.int p4), .val (.int p5), .val (.int (0 : Int32)), .val (.int v2), .val (.int (0 : Int32)), .val (.ref b4), .val (.ref b18), .val (.ref b37)] [(.int (Own.b2i (own_ck (own_s (own_c f (own_kb kb) 4) G) (G + 1) f (own_kb kb) 4 (2 : Int32))))])) t
                refine XS.ifNo X43.here hx rfl (hb hby at_265) rfl ((if0 _ _).trans (feq (fun q => Own.b2i_eq0.mp q hc44)).1) ?_
                show Steps p.tables e below (T43.setTop (mkF m 268 #[.val (.int p0), .val (.int p1), .val (.int p2), .val (.int p3), .val (.int p4), .val (.int p5), .val (.int (0 : Int32)), .val (.int v2), .val (.int (0 : Int32)), .val (.ref b4), .val (.ref b18), .val (.ref b37)] [])) t
                refine XS.aload X43.here hx rfl (hb hby at_268) rfl rfl ?_
                show Steps p.tables e below (T43.setTop (mkF m 270 #[.val (.int p0), .val (.int p1), .val (.int p2), .val (.int p3), .val (.int p4), .val (.int p5), .val (.int (0 : Int32)), .val (.int v2), .val (.int (0 : Int32)), .val (.ref b4), .val (.ref b18), .val (.ref b37)] [(.ref b37)])) t
                refine XS.aload X43.here hx rfl (hb hby at_270) rfl rfl ?_
                show Steps p.tables e below (T43.setTop (mkF m 272 #[.val (.int p0), .val (.int p1), .val (.int p2), .val (.int p3), .val (.int p4), .val (.int p5), .val (.int (0 : Int32)), .val (.int v2), .val (.int (0 : Int32)), .val (.ref b4), .val (.ref b18), .val (.ref b37)] [(.ref b4), (.ref b37)])) t
                refine XS.aload X43.here hx rfl (hb hby at_272) rfl rfl ?_
                show Steps p.tables e below (T43.setTop (mkF m 274 #[.val (.int p0), .val (.int p1), .val (.int p2), .val (.int p3), .val (.int p4), .val (.int p5), .val (.int (0 : Int32)), .val (.int v2), .val (.int (0 : Int32)), .val (.ref b4), .val (.ref b18), .val (.ref b37)] [(.ref b18), (.ref b4), (.ref b37)])) t
                refine XS.iconst X43.here hx rfl (hb hby at_274) ?_
                show Steps p.tables e below (T43.setTop (mkF m 275 #[.val (.int p0), .val (.int p1), .val (.int p2), .val (.int p3), .val (.int p4), .val (.int p5), .val (.int (0 : Int32)), .val (.int v2), .val (.int (0 : Int32)), .val (.ref b4), .val (.ref b18), .val (.ref b37)] [(.int (3 : Int32)), (.ref b18), (.ref b4), (.ref b37)])) t
                refine st45 _ ?_
                show Steps p.tables e below (T45.setTop (mkF m 278 #[.val (.int p0), .val (.int p1), .val (.int p2), .val (.int p3), .val (.int p4), .val (.int p5), .val (.int (0 : Int32)), .val (.int v2), .val (.int (0 : Int32)), .val (.ref b4), .val (.ref b18), .val (.ref b37)] [(.int (Own.b2i (own_ck (own_s (own_c f (own_kb kb) 4) G) (G + 1) f (own_kb kb) 4 (3 : Int32))))])) t
                exact k
              have hc46 : (own_ck (own_s (own_c f (own_kb kb) 4) G) (G + 1) f (own_kb kb) 4 (3 : Int32)) = true := own_main hf (by decide) hG4 (by decide)
              obtain ⟨T47, _, L47, X47, ⟨rfl, Nq47, e47⟩, st47⟩ := Own.callS (y := (⟨"com/example/schedulens/schedulens/PositionsGroupStartsPinLaw", "check", "([I[I[ZI)Z"⟩ : MethodName)) (W := 0) (argsL := [(.ref b37), (.ref b4), (.ref b18), (.int (4 : Int32))]) (rest := []) X45 hx hZ hown (hw _ (List.mem_of_getElem? (i := 7) rfl)) (hw _ (List.mem_of_getElem? (i := 8) rfl)) (hw _ (List.mem_of_getElem? (i := 9) rfl)) (hw _ (List.mem_of_getElem? (i := 10) rfl)) (by decide) e45 (rm13 l Z a0 hw [] b37 b4 b18 (4 : Int32) (G + 1) 4 (own_s (own_c f (own_kb kb) 4) G) f kb T37.heap n0 (by omega) (by decide) (by decide) A37 B37 C37) (by decide) (by decide) (by decide) (by decide) (g := (mkF m 288 #[.val (.int p0), .val (.int p1), .val (.int p2), .val (.int p3), .val (.int p4), .val (.int p5), .val (.int (0 : Int32)), .val (.int v2), .val (.int (0 : Int32)), .val (.ref b4), .val (.ref b18), .val (.ref b37)] [(.int (4 : Int32)), (.ref b18), (.ref b4), (.ref b37)])) rfl (by rw [hml]; rfl) (lenOf pd_2 rfl) rfl (by show 2 * 0 + _ ≤ _; exact Nat.le_of_eq rfl) (hb hby at_288)
              have N47 := Fr.app N45 Nq47
              refine hD _ (T47.setTop (mkF m 291 #[.val (.int p0), .val (.int p1), .val (.int p2), .val (.int p3), .val (.int p4), .val (.int p5), .val (.int (0 : Int32)), .val (.int v2), .val (.int (0 : Int32)), .val (.ref b4), .val (.ref b18), .val (.ref b37)] [(.int (Own.b2i (own_ck (own_s (own_c f (own_kb kb) 4) G) (G + 1) f (own_kb kb) 4 (4 : Int32))))])) (fun t k => ?_) ?_
              · show Steps p.tables e below (T45.setTop (mkF m 278 #[.val (.int p0), .val (.int p1), .val (.int p2), .val (.int p3), .val (.int p4), .val (.int p5), .val (.int (0 : Int32)), .val (.int v2), .val (.int (0 : Int32)), .val (.ref b4), .val (.ref b18), .val (.ref b37)] [(.int (Own.b2i (own_ck (own_s (own_c f (own_kb kb) 4) G) (G + 1) f (own_kb kb) 4 (3 : Int32))))])) t
                refine XS.ifNo X45.here hx rfl (hb hby at_278) rfl ((if0 _ _).trans (feq (fun q => Own.b2i_eq0.mp q hc46)).1) ?_
                show Steps p.tables e below (T45.setTop (mkF m 281 #[.val (.int p0), .val (.int p1), .val (.int p2), .val (.int p3), .val (.int p4), .val (.int p5), .val (.int (0 : Int32)), .val (.int v2), .val (.int (0 : Int32)), .val (.ref b4), .val (.ref b18), .val (.ref b37)] [])) t
                refine XS.aload X45.here hx rfl (hb hby at_281) rfl rfl ?_
                show Steps p.tables e below (T45.setTop (mkF m 283 #[.val (.int p0), .val (.int p1), .val (.int p2), .val (.int p3), .val (.int p4), .val (.int p5), .val (.int (0 : Int32)), .val (.int v2), .val (.int (0 : Int32)), .val (.ref b4), .val (.ref b18), .val (.ref b37)] [(.ref b37)])) t
                refine XS.aload X45.here hx rfl (hb hby at_283) rfl rfl ?_
                show Steps p.tables e below (T45.setTop (mkF m 285 #[.val (.int p0), .val (.int p1), .val (.int p2), .val (.int p3), .val (.int p4), .val (.int p5), .val (.int (0 : Int32)), .val (.int v2), .val (.int (0 : Int32)), .val (.ref b4), .val (.ref b18), .val (.ref b37)] [(.ref b4), (.ref b37)])) t
                refine XS.aload X45.here hx rfl (hb hby at_285) rfl rfl ?_
                show Steps p.tables e below (T45.setTop (mkF m 287 #[.val (.int p0), .val (.int p1), .val (.int p2), .val (.int p3), .val (.int p4), .val (.int p5), .val (.int (0 : Int32)), .val (.int v2), .val (.int (0 : Int32)), .val (.ref b4), .val (.ref b18), .val (.ref b37)] [(.ref b18), (.ref b4), (.ref b37)])) t
                refine XS.iconst X45.here hx rfl (hb hby at_287) ?_
                show Steps p.tables e below (T45.setTop (mkF m 288 #[.val (.int p0), .val (.int p1), .val (.int p2), .val (.int p3), .val (.int p4), .val (.int p5), .val (.int (0 : Int32)), .val (.int v2), .val (.int (0 : Int32)), .val (.ref b4), .val (.ref b18), .val (.ref b37)] [(.int (4 : Int32)), (.ref b18), (.ref b4), (.ref b37)])) t
                refine st47 _ ?_
                show Steps p.tables e below (T47.setTop (mkF m 291 #[.val (.int p0), .val (.int p1), .val (.int p2), .val (.int p3), .val (.int p4), .val (.int p5), .val (.int (0 : Int32)), .val (.int v2), .val (.int (0 : Int32)), .val (.ref b4), .val (.ref b18), .val (.ref b37)] [(.int (Own.b2i (own_ck (own_s (own_c f (own_kb kb) 4) G) (G + 1) f (own_kb kb) 4 (4 : Int32))))])) t
                exact k
              have hc48 : (own_ck (own_s (own_c f (own_kb kb) 4) G) (G + 1) f (own_kb kb) 4 (4 : Int32)) = true := own_main hf (by decide) hG4 (by decide)
              refine hD _ (T47.setTop (mkF m 299 #[.val (.int p0), .val (.int p1), .val (.int p2), .val (.int p3), .val (.int p4), .val (.int p5), .val (.int (0 : Int32)), .val (.int v2), .val (.int (0 : Int32)), .val (.ref b4), .val (.ref b18), .val (.ref b37)] [(.int (1 : Int32))])) (fun t k => ?_) ?_
              · show Steps p.tables e below (T47.setTop (mkF m 291 #[.val (.int p0), .val (.int p1), .val (.int p2), .val (.int p3), .val (.int p4), .val (.int p5), .val (.int (0 : Int32)), .val (.int v2), .val (.int (0 : Int32)), .val (.ref b4), .val (.ref b18), .val (.ref b37)] [(.int (Own.b2i (own_ck (own_s (own_c f (own_kb kb) 4) G) (G + 1) f (own_kb kb) 4 (4 : Int32))))])) t
                refine XS.ifNo X47.here hx rfl (hb hby at_291) rfl ((if0 _ _).trans (feq (fun q => Own.b2i_eq0.mp q hc48)).1) ?_
                show Steps p.tables e below (T47.setTop (mkF m 294 #[.val (.int p0), .val (.int p1), .val (.int p2), .val (.int p3), .val (.int p4), .val (.int p5), .val (.int (0 : Int32)), .val (.int v2), .val (.int (0 : Int32)), .val (.ref b4), .val (.ref b18), .val (.ref b37)] [])) t
                refine XS.iconst X47.here hx rfl (hb hby at_294) ?_
                show Steps p.tables e below (T47.setTop (mkF m 295 #[.val (.int p0), .val (.int p1), .val (.int p2), .val (.int p3), .val (.int p4), .val (.int p5), .val (.int (0 : Int32)), .val (.int v2), .val (.int (0 : Int32)), .val (.ref b4), .val (.ref b18), .val (.ref b37)] [(.int (1 : Int32))])) t
                refine XS.goto X47.here hx rfl (pc0 := 295) (pc' := 299) rfl (hb hby at_295) (by decide) (by decide) ?_
                show Steps p.tables e below (T47.setTop (mkF m 299 #[.val (.int p0), .val (.int p1), .val (.int p2), .val (.int p3), .val (.int p4), .val (.int p5), .val (.int (0 : Int32)), .val (.int v2), .val (.int (0 : Int32)), .val (.ref b4), .val (.ref b18), .val (.ref b37)] [(.int (1 : Int32))])) t
                exact k
              exact Own.retN hR X47 hx (t := .boolean) hret (by simp) (hb hby at_299) (by decide) (by decide) (by decide) ⟨rfl, N47⟩
            refine hD _ (T31.setTop (mkF m 197 #[.val (.int p0), .val (.int p1), .val (.int p2), .val (.int p3), .val (.int p4), .val (.int p5), .val (.int (0 : Int32)), .val (.int v2), .val (.int (0 : Int32)), .val (.ref b4), .val (.ref b18), .unset] [(.int (p5 &&& (8 : Int32))), (.int (3 : Int32)), (.ref b18)])) (fun t k => ?_) ?_
            · show Steps p.tables e below (T31.setTop (mkF m 192 #[.val (.int p0), .val (.int p1), .val (.int p2), .val (.int p3), .val (.int p4), .val (.int p5), .val (.int (0 : Int32)), .val (.int v2), .val (.int (0 : Int32)), .val (.ref b4), .val (.ref b18), .unset] [(.int (3 : Int32)), (.ref b18)])) t
              refine XS.iload X31.here hx rfl (hb hby at_192) rfl ?_
              show Steps p.tables e below (T31.setTop (mkF m 194 #[.val (.int p0), .val (.int p1), .val (.int p2), .val (.int p3), .val (.int p4), .val (.int p5), .val (.int (0 : Int32)), .val (.int v2), .val (.int (0 : Int32)), .val (.ref b4), .val (.ref b18), .unset] [(.int p5), (.int (3 : Int32)), (.ref b18)])) t
              refine XS.bipush X31.here hx rfl (hb hby at_194) ?_
              show Steps p.tables e below (T31.setTop (mkF m 196 #[.val (.int p0), .val (.int p1), .val (.int p2), .val (.int p3), .val (.int p4), .val (.int p5), .val (.int (0 : Int32)), .val (.int v2), .val (.int (0 : Int32)), .val (.ref b4), .val (.ref b18), .unset] [(.int (8 : Int32)), (.int p5), (.int (3 : Int32)), (.ref b18)])) t
              refine XS.iand X31.here hx rfl (hb hby at_196) rfl ?_
              show Steps p.tables e below (T31.setTop (mkF m 197 #[.val (.int p0), .val (.int p1), .val (.int p2), .val (.int p3), .val (.int p4), .val (.int p5), .val (.int (0 : Int32)), .val (.int v2), .val (.int (0 : Int32)), .val (.ref b4), .val (.ref b18), .unset] [(.int (p5 &&& (8 : Int32))), (.int (3 : Int32)), (.ref b18)])) t
              exact k
            by_cases hc49 : (p5 &&& (8 : Int32)) = (0 : Int32)
            · refine hD _ (T31.setTop (mkF m 205 #[.val (.int p0), .val (.int p1), .val (.int p2), .val (.int p3), .val (.int p4), .val (.int p5), .val (.int (0 : Int32)), .val (.int v2), .val (.int (0 : Int32)), .val (.ref b4), .val (.ref b18), .unset] [(.int (0 : Int32)), (.int (3 : Int32)), (.ref b18)])) (fun t k => ?_) ?_
              · show Steps p.tables e below (T31.setTop (mkF m 197 #[.val (.int p0), .val (.int p1), .val (.int p2), .val (.int p3), .val (.int p4), .val (.int p5), .val (.int (0 : Int32)), .val (.int v2), .val (.int (0 : Int32)), .val (.ref b4), .val (.ref b18), .unset] [(.int (p5 &&& (8 : Int32))), (.int (3 : Int32)), (.ref b18)])) t
                refine XS.ifYes X31.here hx rfl (pc0 := 197) (pc' := 204) rfl (hb hby at_197) rfl ((if0 _ _).trans (teq hc49).1) (by decide) (by decide) ?_
                show Steps p.tables e below (T31.setTop (mkF m 204 #[.val (.int p0), .val (.int p1), .val (.int p2), .val (.int p3), .val (.int p4), .val (.int p5), .val (.int (0 : Int32)), .val (.int v2), .val (.int (0 : Int32)), .val (.ref b4), .val (.ref b18), .unset] [(.int (3 : Int32)), (.ref b18)])) t
                refine XS.iconst X31.here hx rfl (hb hby at_204) ?_
                show Steps p.tables e below (T31.setTop (mkF m 205 #[.val (.int p0), .val (.int p1), .val (.int p2), .val (.int p3), .val (.int p4), .val (.int p5), .val (.int (0 : Int32)), .val (.int v2), .val (.int (0 : Int32)), .val (.ref b4), .val (.ref b18), .unset] [(.int (0 : Int32)), (.int (3 : Int32)), (.ref b18)])) t
                exact k
              exact J205 T31 _ (0 : Int32) X31 e31 N31 
            · refine hD _ (T31.setTop (mkF m 205 #[.val (.int p0), .val (.int p1), .val (.int p2), .val (.int p3), .val (.int p4), .val (.int p5), .val (.int (0 : Int32)), .val (.int v2), .val (.int (0 : Int32)), .val (.ref b4), .val (.ref b18), .unset] [(.int (1 : Int32)), (.int (3 : Int32)), (.ref b18)])) (fun t k => ?_) ?_
              · show Steps p.tables e below (T31.setTop (mkF m 197 #[.val (.int p0), .val (.int p1), .val (.int p2), .val (.int p3), .val (.int p4), .val (.int p5), .val (.int (0 : Int32)), .val (.int v2), .val (.int (0 : Int32)), .val (.ref b4), .val (.ref b18), .unset] [(.int (p5 &&& (8 : Int32))), (.int (3 : Int32)), (.ref b18)])) t
                refine XS.ifNo X31.here hx rfl (hb hby at_197) rfl ((if0 _ _).trans (feq hc49).1) ?_
                show Steps p.tables e below (T31.setTop (mkF m 200 #[.val (.int p0), .val (.int p1), .val (.int p2), .val (.int p3), .val (.int p4), .val (.int p5), .val (.int (0 : Int32)), .val (.int v2), .val (.int (0 : Int32)), .val (.ref b4), .val (.ref b18), .unset] [(.int (3 : Int32)), (.ref b18)])) t
                refine XS.iconst X31.here hx rfl (hb hby at_200) ?_
                show Steps p.tables e below (T31.setTop (mkF m 201 #[.val (.int p0), .val (.int p1), .val (.int p2), .val (.int p3), .val (.int p4), .val (.int p5), .val (.int (0 : Int32)), .val (.int v2), .val (.int (0 : Int32)), .val (.ref b4), .val (.ref b18), .unset] [(.int (1 : Int32)), (.int (3 : Int32)), (.ref b18)])) t
                refine XS.goto X31.here hx rfl (pc0 := 201) (pc' := 205) rfl (hb hby at_201) (by decide) (by decide) ?_
                show Steps p.tables e below (T31.setTop (mkF m 205 #[.val (.int p0), .val (.int p1), .val (.int p2), .val (.int p3), .val (.int p4), .val (.int p5), .val (.int (0 : Int32)), .val (.int v2), .val (.int (0 : Int32)), .val (.ref b4), .val (.ref b18), .unset] [(.int (1 : Int32)), (.int (3 : Int32)), (.ref b18)])) t
                exact k
              exact J205 T31 _ (1 : Int32) X31 e31 N31 
          refine hD _ (T27.setTop (mkF m 180 #[.val (.int p0), .val (.int p1), .val (.int p2), .val (.int p3), .val (.int p4), .val (.int p5), .val (.int (0 : Int32)), .val (.int v2), .val (.int (0 : Int32)), .val (.ref b4), .val (.ref b18), .unset] [(.int (p5 &&& (4 : Int32))), (.int (2 : Int32)), (.ref b18)])) (fun t k => ?_) ?_
          · show Steps p.tables e below (T27.setTop (mkF m 176 #[.val (.int p0), .val (.int p1), .val (.int p2), .val (.int p3), .val (.int p4), .val (.int p5), .val (.int (0 : Int32)), .val (.int v2), .val (.int (0 : Int32)), .val (.ref b4), .val (.ref b18), .unset] [(.int (2 : Int32)), (.ref b18)])) t
            refine XS.iload X27.here hx rfl (hb hby at_176) rfl ?_
            show Steps p.tables e below (T27.setTop (mkF m 178 #[.val (.int p0), .val (.int p1), .val (.int p2), .val (.int p3), .val (.int p4), .val (.int p5), .val (.int (0 : Int32)), .val (.int v2), .val (.int (0 : Int32)), .val (.ref b4), .val (.ref b18), .unset] [(.int p5), (.int (2 : Int32)), (.ref b18)])) t
            refine XS.iconst X27.here hx rfl (hb hby at_178) ?_
            show Steps p.tables e below (T27.setTop (mkF m 179 #[.val (.int p0), .val (.int p1), .val (.int p2), .val (.int p3), .val (.int p4), .val (.int p5), .val (.int (0 : Int32)), .val (.int v2), .val (.int (0 : Int32)), .val (.ref b4), .val (.ref b18), .unset] [(.int (4 : Int32)), (.int p5), (.int (2 : Int32)), (.ref b18)])) t
            refine XS.iand X27.here hx rfl (hb hby at_179) rfl ?_
            show Steps p.tables e below (T27.setTop (mkF m 180 #[.val (.int p0), .val (.int p1), .val (.int p2), .val (.int p3), .val (.int p4), .val (.int p5), .val (.int (0 : Int32)), .val (.int v2), .val (.int (0 : Int32)), .val (.ref b4), .val (.ref b18), .unset] [(.int (p5 &&& (4 : Int32))), (.int (2 : Int32)), (.ref b18)])) t
            exact k
          by_cases hc50 : (p5 &&& (4 : Int32)) = (0 : Int32)
          · refine hD _ (T27.setTop (mkF m 188 #[.val (.int p0), .val (.int p1), .val (.int p2), .val (.int p3), .val (.int p4), .val (.int p5), .val (.int (0 : Int32)), .val (.int v2), .val (.int (0 : Int32)), .val (.ref b4), .val (.ref b18), .unset] [(.int (0 : Int32)), (.int (2 : Int32)), (.ref b18)])) (fun t k => ?_) ?_
            · show Steps p.tables e below (T27.setTop (mkF m 180 #[.val (.int p0), .val (.int p1), .val (.int p2), .val (.int p3), .val (.int p4), .val (.int p5), .val (.int (0 : Int32)), .val (.int v2), .val (.int (0 : Int32)), .val (.ref b4), .val (.ref b18), .unset] [(.int (p5 &&& (4 : Int32))), (.int (2 : Int32)), (.ref b18)])) t
              refine XS.ifYes X27.here hx rfl (pc0 := 180) (pc' := 187) rfl (hb hby at_180) rfl ((if0 _ _).trans (teq hc50).1) (by decide) (by decide) ?_
              show Steps p.tables e below (T27.setTop (mkF m 187 #[.val (.int p0), .val (.int p1), .val (.int p2), .val (.int p3), .val (.int p4), .val (.int p5), .val (.int (0 : Int32)), .val (.int v2), .val (.int (0 : Int32)), .val (.ref b4), .val (.ref b18), .unset] [(.int (2 : Int32)), (.ref b18)])) t
              refine XS.iconst X27.here hx rfl (hb hby at_187) ?_
              show Steps p.tables e below (T27.setTop (mkF m 188 #[.val (.int p0), .val (.int p1), .val (.int p2), .val (.int p3), .val (.int p4), .val (.int p5), .val (.int (0 : Int32)), .val (.int v2), .val (.int (0 : Int32)), .val (.ref b4), .val (.ref b18), .unset] [(.int (0 : Int32)), (.int (2 : Int32)), (.ref b18)])) t
              exact k
            exact J188 T27 _ (0 : Int32) X27 e27 N27 
          · refine hD _ (T27.setTop (mkF m 188 #[.val (.int p0), .val (.int p1), .val (.int p2), .val (.int p3), .val (.int p4), .val (.int p5), .val (.int (0 : Int32)), .val (.int v2), .val (.int (0 : Int32)), .val (.ref b4), .val (.ref b18), .unset] [(.int (1 : Int32)), (.int (2 : Int32)), (.ref b18)])) (fun t k => ?_) ?_
            · show Steps p.tables e below (T27.setTop (mkF m 180 #[.val (.int p0), .val (.int p1), .val (.int p2), .val (.int p3), .val (.int p4), .val (.int p5), .val (.int (0 : Int32)), .val (.int v2), .val (.int (0 : Int32)), .val (.ref b4), .val (.ref b18), .unset] [(.int (p5 &&& (4 : Int32))), (.int (2 : Int32)), (.ref b18)])) t
              refine XS.ifNo X27.here hx rfl (hb hby at_180) rfl ((if0 _ _).trans (feq hc50).1) ?_
              show Steps p.tables e below (T27.setTop (mkF m 183 #[.val (.int p0), .val (.int p1), .val (.int p2), .val (.int p3), .val (.int p4), .val (.int p5), .val (.int (0 : Int32)), .val (.int v2), .val (.int (0 : Int32)), .val (.ref b4), .val (.ref b18), .unset] [(.int (2 : Int32)), (.ref b18)])) t
              refine XS.iconst X27.here hx rfl (hb hby at_183) ?_
              show Steps p.tables e below (T27.setTop (mkF m 184 #[.val (.int p0), .val (.int p1), .val (.int p2), .val (.int p3), .val (.int p4), .val (.int p5), .val (.int (0 : Int32)), .val (.int v2), .val (.int (0 : Int32)), .val (.ref b4), .val (.ref b18), .unset] [(.int (1 : Int32)), (.int (2 : Int32)), (.ref b18)])) t
              refine XS.goto X27.here hx rfl (pc0 := 184) (pc' := 188) rfl (hb hby at_184) (by decide) (by decide) ?_
              show Steps p.tables e below (T27.setTop (mkF m 188 #[.val (.int p0), .val (.int p1), .val (.int p2), .val (.int p3), .val (.int p4), .val (.int p5), .val (.int (0 : Int32)), .val (.int v2), .val (.int (0 : Int32)), .val (.ref b4), .val (.ref b18), .unset] [(.int (1 : Int32)), (.int (2 : Int32)), (.ref b18)])) t
              exact k
            exact J188 T27 _ (1 : Int32) X27 e27 N27 
        refine hD _ (T23.setTop (mkF m 164 #[.val (.int p0), .val (.int p1), .val (.int p2), .val (.int p3), .val (.int p4), .val (.int p5), .val (.int (0 : Int32)), .val (.int v2), .val (.int (0 : Int32)), .val (.ref b4), .val (.ref b18), .unset] [(.int (p5 &&& (2 : Int32))), (.int (1 : Int32)), (.ref b18)])) (fun t k => ?_) ?_
        · show Steps p.tables e below (T23.setTop (mkF m 160 #[.val (.int p0), .val (.int p1), .val (.int p2), .val (.int p3), .val (.int p4), .val (.int p5), .val (.int (0 : Int32)), .val (.int v2), .val (.int (0 : Int32)), .val (.ref b4), .val (.ref b18), .unset] [(.int (1 : Int32)), (.ref b18)])) t
          refine XS.iload X23.here hx rfl (hb hby at_160) rfl ?_
          show Steps p.tables e below (T23.setTop (mkF m 162 #[.val (.int p0), .val (.int p1), .val (.int p2), .val (.int p3), .val (.int p4), .val (.int p5), .val (.int (0 : Int32)), .val (.int v2), .val (.int (0 : Int32)), .val (.ref b4), .val (.ref b18), .unset] [(.int p5), (.int (1 : Int32)), (.ref b18)])) t
          refine XS.iconst X23.here hx rfl (hb hby at_162) ?_
          show Steps p.tables e below (T23.setTop (mkF m 163 #[.val (.int p0), .val (.int p1), .val (.int p2), .val (.int p3), .val (.int p4), .val (.int p5), .val (.int (0 : Int32)), .val (.int v2), .val (.int (0 : Int32)), .val (.ref b4), .val (.ref b18), .unset] [(.int (2 : Int32)), (.int p5), (.int (1 : Int32)), (.ref b18)])) t
          refine XS.iand X23.here hx rfl (hb hby at_163) rfl ?_
          show Steps p.tables e below (T23.setTop (mkF m 164 #[.val (.int p0), .val (.int p1), .val (.int p2), .val (.int p3), .val (.int p4), .val (.int p5), .val (.int (0 : Int32)), .val (.int v2), .val (.int (0 : Int32)), .val (.ref b4), .val (.ref b18), .unset] [(.int (p5 &&& (2 : Int32))), (.int (1 : Int32)), (.ref b18)])) t
          exact k
        by_cases hc51 : (p5 &&& (2 : Int32)) = (0 : Int32)
        · refine hD _ (T23.setTop (mkF m 172 #[.val (.int p0), .val (.int p1), .val (.int p2), .val (.int p3), .val (.int p4), .val (.int p5), .val (.int (0 : Int32)), .val (.int v2), .val (.int (0 : Int32)), .val (.ref b4), .val (.ref b18), .unset] [(.int (0 : Int32)), (.int (1 : Int32)), (.ref b18)])) (fun t k => ?_) ?_
          · show Steps p.tables e below (T23.setTop (mkF m 164 #[.val (.int p0), .val (.int p1), .val (.int p2), .val (.int p3), .val (.int p4), .val (.int p5), .val (.int (0 : Int32)), .val (.int v2), .val (.int (0 : Int32)), .val (.ref b4), .val (.ref b18), .unset] [(.int (p5 &&& (2 : Int32))), (.int (1 : Int32)), (.ref b18)])) t
            refine XS.ifYes X23.here hx rfl (pc0 := 164) (pc' := 171) rfl (hb hby at_164) rfl ((if0 _ _).trans (teq hc51).1) (by decide) (by decide) ?_
            show Steps p.tables e below (T23.setTop (mkF m 171 #[.val (.int p0), .val (.int p1), .val (.int p2), .val (.int p3), .val (.int p4), .val (.int p5), .val (.int (0 : Int32)), .val (.int v2), .val (.int (0 : Int32)), .val (.ref b4), .val (.ref b18), .unset] [(.int (1 : Int32)), (.ref b18)])) t
            refine XS.iconst X23.here hx rfl (hb hby at_171) ?_
            show Steps p.tables e below (T23.setTop (mkF m 172 #[.val (.int p0), .val (.int p1), .val (.int p2), .val (.int p3), .val (.int p4), .val (.int p5), .val (.int (0 : Int32)), .val (.int v2), .val (.int (0 : Int32)), .val (.ref b4), .val (.ref b18), .unset] [(.int (0 : Int32)), (.int (1 : Int32)), (.ref b18)])) t
            exact k
          exact J172 T23 _ (0 : Int32) X23 e23 N23 
        · refine hD _ (T23.setTop (mkF m 172 #[.val (.int p0), .val (.int p1), .val (.int p2), .val (.int p3), .val (.int p4), .val (.int p5), .val (.int (0 : Int32)), .val (.int v2), .val (.int (0 : Int32)), .val (.ref b4), .val (.ref b18), .unset] [(.int (1 : Int32)), (.int (1 : Int32)), (.ref b18)])) (fun t k => ?_) ?_
          · show Steps p.tables e below (T23.setTop (mkF m 164 #[.val (.int p0), .val (.int p1), .val (.int p2), .val (.int p3), .val (.int p4), .val (.int p5), .val (.int (0 : Int32)), .val (.int v2), .val (.int (0 : Int32)), .val (.ref b4), .val (.ref b18), .unset] [(.int (p5 &&& (2 : Int32))), (.int (1 : Int32)), (.ref b18)])) t
            refine XS.ifNo X23.here hx rfl (hb hby at_164) rfl ((if0 _ _).trans (feq hc51).1) ?_
            show Steps p.tables e below (T23.setTop (mkF m 167 #[.val (.int p0), .val (.int p1), .val (.int p2), .val (.int p3), .val (.int p4), .val (.int p5), .val (.int (0 : Int32)), .val (.int v2), .val (.int (0 : Int32)), .val (.ref b4), .val (.ref b18), .unset] [(.int (1 : Int32)), (.ref b18)])) t
            refine XS.iconst X23.here hx rfl (hb hby at_167) ?_
            show Steps p.tables e below (T23.setTop (mkF m 168 #[.val (.int p0), .val (.int p1), .val (.int p2), .val (.int p3), .val (.int p4), .val (.int p5), .val (.int (0 : Int32)), .val (.int v2), .val (.int (0 : Int32)), .val (.ref b4), .val (.ref b18), .unset] [(.int (1 : Int32)), (.int (1 : Int32)), (.ref b18)])) t
            refine XS.goto X23.here hx rfl (pc0 := 168) (pc' := 172) rfl (hb hby at_168) (by decide) (by decide) ?_
            show Steps p.tables e below (T23.setTop (mkF m 172 #[.val (.int p0), .val (.int p1), .val (.int p2), .val (.int p3), .val (.int p4), .val (.int p5), .val (.int (0 : Int32)), .val (.int v2), .val (.int (0 : Int32)), .val (.ref b4), .val (.ref b18), .unset] [(.int (1 : Int32)), (.int (1 : Int32)), (.ref b18)])) t
            exact k
          exact J172 T23 _ (1 : Int32) X23 e23 N23 
      refine hD _ (T18.setTop (mkF m 148 #[.val (.int p0), .val (.int p1), .val (.int p2), .val (.int p3), .val (.int p4), .val (.int p5), .val (.int (0 : Int32)), .val (.int v2), .val (.int (0 : Int32)), .val (.ref b4), .val (.ref b18), .unset] [(.int (p5 &&& (1 : Int32))), (.int (0 : Int32)), (.ref b18)])) (fun t k => ?_) ?_
      · show Steps p.tables e below (T18.setTop (mkF m 144 #[.val (.int p0), .val (.int p1), .val (.int p2), .val (.int p3), .val (.int p4), .val (.int p5), .val (.int (0 : Int32)), .val (.int v2), .val (.int (0 : Int32)), .val (.ref b4), .val (.ref b18), .unset] [(.int (0 : Int32)), (.ref b18)])) t
        refine XS.iload X18.here hx rfl (hb hby at_144) rfl ?_
        show Steps p.tables e below (T18.setTop (mkF m 146 #[.val (.int p0), .val (.int p1), .val (.int p2), .val (.int p3), .val (.int p4), .val (.int p5), .val (.int (0 : Int32)), .val (.int v2), .val (.int (0 : Int32)), .val (.ref b4), .val (.ref b18), .unset] [(.int p5), (.int (0 : Int32)), (.ref b18)])) t
        refine XS.iconst X18.here hx rfl (hb hby at_146) ?_
        show Steps p.tables e below (T18.setTop (mkF m 147 #[.val (.int p0), .val (.int p1), .val (.int p2), .val (.int p3), .val (.int p4), .val (.int p5), .val (.int (0 : Int32)), .val (.int v2), .val (.int (0 : Int32)), .val (.ref b4), .val (.ref b18), .unset] [(.int (1 : Int32)), (.int p5), (.int (0 : Int32)), (.ref b18)])) t
        refine XS.iand X18.here hx rfl (hb hby at_147) rfl ?_
        show Steps p.tables e below (T18.setTop (mkF m 148 #[.val (.int p0), .val (.int p1), .val (.int p2), .val (.int p3), .val (.int p4), .val (.int p5), .val (.int (0 : Int32)), .val (.int v2), .val (.int (0 : Int32)), .val (.ref b4), .val (.ref b18), .unset] [(.int (p5 &&& (1 : Int32))), (.int (0 : Int32)), (.ref b18)])) t
        exact k
      by_cases hc52 : (p5 &&& (1 : Int32)) = (0 : Int32)
      · refine hD _ (T18.setTop (mkF m 156 #[.val (.int p0), .val (.int p1), .val (.int p2), .val (.int p3), .val (.int p4), .val (.int p5), .val (.int (0 : Int32)), .val (.int v2), .val (.int (0 : Int32)), .val (.ref b4), .val (.ref b18), .unset] [(.int (0 : Int32)), (.int (0 : Int32)), (.ref b18)])) (fun t k => ?_) ?_
        · show Steps p.tables e below (T18.setTop (mkF m 148 #[.val (.int p0), .val (.int p1), .val (.int p2), .val (.int p3), .val (.int p4), .val (.int p5), .val (.int (0 : Int32)), .val (.int v2), .val (.int (0 : Int32)), .val (.ref b4), .val (.ref b18), .unset] [(.int (p5 &&& (1 : Int32))), (.int (0 : Int32)), (.ref b18)])) t
          refine XS.ifYes X18.here hx rfl (pc0 := 148) (pc' := 155) rfl (hb hby at_148) rfl ((if0 _ _).trans (teq hc52).1) (by decide) (by decide) ?_
          show Steps p.tables e below (T18.setTop (mkF m 155 #[.val (.int p0), .val (.int p1), .val (.int p2), .val (.int p3), .val (.int p4), .val (.int p5), .val (.int (0 : Int32)), .val (.int v2), .val (.int (0 : Int32)), .val (.ref b4), .val (.ref b18), .unset] [(.int (0 : Int32)), (.ref b18)])) t
          refine XS.iconst X18.here hx rfl (hb hby at_155) ?_
          show Steps p.tables e below (T18.setTop (mkF m 156 #[.val (.int p0), .val (.int p1), .val (.int p2), .val (.int p3), .val (.int p4), .val (.int p5), .val (.int (0 : Int32)), .val (.int v2), .val (.int (0 : Int32)), .val (.ref b4), .val (.ref b18), .unset] [(.int (0 : Int32)), (.int (0 : Int32)), (.ref b18)])) t
          exact k
        exact J156 T18 _ (0 : Int32) X18 e18 N17 
      · refine hD _ (T18.setTop (mkF m 156 #[.val (.int p0), .val (.int p1), .val (.int p2), .val (.int p3), .val (.int p4), .val (.int p5), .val (.int (0 : Int32)), .val (.int v2), .val (.int (0 : Int32)), .val (.ref b4), .val (.ref b18), .unset] [(.int (1 : Int32)), (.int (0 : Int32)), (.ref b18)])) (fun t k => ?_) ?_
        · show Steps p.tables e below (T18.setTop (mkF m 148 #[.val (.int p0), .val (.int p1), .val (.int p2), .val (.int p3), .val (.int p4), .val (.int p5), .val (.int (0 : Int32)), .val (.int v2), .val (.int (0 : Int32)), .val (.ref b4), .val (.ref b18), .unset] [(.int (p5 &&& (1 : Int32))), (.int (0 : Int32)), (.ref b18)])) t
          refine XS.ifNo X18.here hx rfl (hb hby at_148) rfl ((if0 _ _).trans (feq hc52).1) ?_
          show Steps p.tables e below (T18.setTop (mkF m 151 #[.val (.int p0), .val (.int p1), .val (.int p2), .val (.int p3), .val (.int p4), .val (.int p5), .val (.int (0 : Int32)), .val (.int v2), .val (.int (0 : Int32)), .val (.ref b4), .val (.ref b18), .unset] [(.int (0 : Int32)), (.ref b18)])) t
          refine XS.iconst X18.here hx rfl (hb hby at_151) ?_
          show Steps p.tables e below (T18.setTop (mkF m 152 #[.val (.int p0), .val (.int p1), .val (.int p2), .val (.int p3), .val (.int p4), .val (.int p5), .val (.int (0 : Int32)), .val (.int v2), .val (.int (0 : Int32)), .val (.ref b4), .val (.ref b18), .unset] [(.int (1 : Int32)), (.int (0 : Int32)), (.ref b18)])) t
          refine XS.goto X18.here hx rfl (pc0 := 152) (pc' := 156) rfl (hb hby at_152) (by decide) (by decide) ?_
          show Steps p.tables e below (T18.setTop (mkF m 156 #[.val (.int p0), .val (.int p1), .val (.int p2), .val (.int p3), .val (.int p4), .val (.int p5), .val (.int (0 : Int32)), .val (.int v2), .val (.int (0 : Int32)), .val (.ref b4), .val (.ref b18), .unset] [(.int (1 : Int32)), (.int (0 : Int32)), (.ref b18)])) t
          exact k
        exact J156 T18 _ (1 : Int32) X18 e18 N17 
    · obtain ⟨T53, h53, k53, X53, e53, E53, A53, st53⟩ := newP X0 hx hZ (hw _ (List.mem_of_getElem? (i := 0) rfl)) e0 (g := (mkF m 77 #[.val (.int p0), .val (.int p1), .val (.int p2), .val (.int p3), .val (.int p4), .val (.int p5), .val (.int (0 : Int32)), .val (.int v2), .val (.int (1 : Int32)), .unset, .unset, .unset] [(.int (4 : Int32))])) rfl (hb hby at_77) rfl (by decide) (cap := 4) (by decide) (by decide) (by decide) (by decide)
      obtain ⟨b53, g_b53⟩ : ∃ z : Nat, z = h0.size := ⟨_, rfl⟩
      rw [← g_b53] at A53 st53
      have g0_b53 : n0 ≤ b53 := by rw [g_b53]; exact Z0
      have f54 : Own.AvI Z h53 b53 .int 4 (fun _ => 0) := Own.AvI.new A53 (by decide) rfl
      have Z53 : n0 ≤ h53.size := Nat.le_trans Z0 E53.1
      have hnz55 : v2 ≠ 0 := by assumption
      have hj56 : 0 ≤ (0 : Int32).toInt ∧ (0 : Int32).toInt < (4 : Nat) := ⟨by decide, by decide⟩
      obtain ⟨T57, h57, X57, e57, A57, W57, st57⟩ := Own.stoI X53 hx hZ e53 f54 hj56 (g := (mkF m 91 #[.val (.int p0), .val (.int p1), .val (.int p2), .val (.int p3), .val (.int p4), .val (.int p5), .val (.int (0 : Int32)), .val (.int v2), .val (.int (1 : Int32)), .val (.ref b53), .unset, .unset] [(.int ((p0 &&& (2147483647 : Int32)) % v2)), (.int (0 : Int32)), (.ref b53)])) rfl rfl (hb hby at_91)
      have N57 := Fr.snoc X57 N0 (show n0 ≤ b53 by omega)
      have Z57 : n0 ≤ h57.size := Nat.le_trans Z53 (Keep.of_wr W57).1
      have hnz58 : v2 ≠ 0 := by assumption
      have hj59 : 0 ≤ (1 : Int32).toInt ∧ (1 : Int32).toInt < (4 : Nat) := ⟨by decide, by decide⟩
      obtain ⟨T60, h60, X60, e60, A60, W60, st60⟩ := Own.stoI X57 hx hZ e57 A57 hj59 (g := (mkF m 102 #[.val (.int p0), .val (.int p1), .val (.int p2), .val (.int p3), .val (.int p4), .val (.int p5), .val (.int (0 : Int32)), .val (.int v2), .val (.int (1 : Int32)), .val (.ref b53), .unset, .unset] [(.int ((p1 &&& (2147483647 : Int32)) % v2)), (.int (1 : Int32)), (.ref b53)])) rfl rfl (hb hby at_102)
      have N60 := Fr.snoc X60 N57 (show n0 ≤ b53 by omega)
      have Z60 : n0 ≤ h60.size := Nat.le_trans Z57 (Keep.of_wr W60).1
      have hnz61 : v2 ≠ 0 := by assumption
      have hj62 : 0 ≤ (2 : Int32).toInt ∧ (2 : Int32).toInt < (4 : Nat) := ⟨by decide, by decide⟩
      obtain ⟨T63, h63, X63, e63, A63, W63, st63⟩ := Own.stoI X60 hx hZ e60 A60 hj62 (g := (mkF m 113 #[.val (.int p0), .val (.int p1), .val (.int p2), .val (.int p3), .val (.int p4), .val (.int p5), .val (.int (0 : Int32)), .val (.int v2), .val (.int (1 : Int32)), .val (.ref b53), .unset, .unset] [(.int ((p2 &&& (2147483647 : Int32)) % v2)), (.int (2 : Int32)), (.ref b53)])) rfl rfl (hb hby at_113)
      have N63 := Fr.snoc X63 N60 (show n0 ≤ b53 by omega)
      have Z63 : n0 ≤ h63.size := Nat.le_trans Z60 (Keep.of_wr W63).1
      have hnz64 : v2 ≠ 0 := by assumption
      have hj65 : 0 ≤ (3 : Int32).toInt ∧ (3 : Int32).toInt < (4 : Nat) := ⟨by decide, by decide⟩
      obtain ⟨T66, h66, X66, e66, A66, W66, st66⟩ := Own.stoI X63 hx hZ e63 A63 hj65 (g := (mkF m 124 #[.val (.int p0), .val (.int p1), .val (.int p2), .val (.int p3), .val (.int p4), .val (.int p5), .val (.int (0 : Int32)), .val (.int v2), .val (.int (1 : Int32)), .val (.ref b53), .unset, .unset] [(.int ((p3 &&& (2147483647 : Int32)) % v2)), (.int (3 : Int32)), (.ref b53)])) rfl rfl (hb hby at_124)
      have N66 := Fr.snoc X66 N63 (show n0 ≤ b53 by omega)
      have Z66 : n0 ≤ h66.size := Nat.le_trans Z63 (Keep.of_wr W66).1
      obtain ⟨f, Af, hf⟩ : ∃ f : Nat → Int32, Own.AvI Z h66 b53 .int 4 f ∧ ∀ i, i < 4 → 0 ≤ (f i).toInt ∧ (f i).toInt < G := ⟨_, A66, fun i hi => by
        match i, hi with
        | 0, _ => exact own_rem hG hG1
        | 1, _ => exact own_rem hG hG1
        | 2, _ => exact own_rem hG hG1
        | 3, _ => exact own_rem hG hG1⟩
      obtain ⟨T67, _, L67, X67, ⟨b67, rfl, Nq67, A67, B67⟩, st67⟩ := Own.callS (y := (⟨"com/example/schedulens/schedulens/Positions", "groupStarts", "([II[Z)[I"⟩ : MethodName)) (W := 0) (argsL := [(.ref b53), (.int v2), .null]) (rest := []) X66 hx hZ hown (hw _ (List.mem_of_getElem? (i := 3) rfl)) (hw _ (List.mem_of_getElem? (i := 4) rfl)) (hw _ (List.mem_of_getElem? (i := 5) rfl)) (hw _ (List.mem_of_getElem? (i := 6) rfl)) (by decide) e66 (rm1 l Z a0 hw [] b53 v2 4 G f h66 n0 Z66 (by decide) hG hG4 hf Af) (by decide) (by decide) (by decide) (by decide) (g := (mkF m 212 #[.val (.int p0), .val (.int p1), .val (.int p2), .val (.int p3), .val (.int p4), .val (.int p5), .val (.int (0 : Int32)), .val (.int v2), .val (.int (1 : Int32)), .val (.ref b53), .val .null, .unset] [.null, (.int v2), (.ref b53)])) rfl (by rw [hml]; rfl) (lenOf pd_1 rfl) rfl (by show 2 * 0 + _ ≤ _; exact Nat.le_of_eq rfl) (hb hby at_212)
      have N67 := Fr.app N66 Nq67
      refine hD _ (T67.setTop (mkF m 224 #[.val (.int p0), .val (.int p1), .val (.int p2), .val (.int p3), .val (.int p4), .val (.int p5), .val (.int (0 : Int32)), .val (.int v2), .val (.int (1 : Int32)), .val (.ref b53), .val .null, .val (.ref b67)] [(.int (v2 + (1 : Int32))), (.int (Int32.ofNat (G + 1)))])) (fun t k => ?_) ?_
      · show Steps p.tables e below (s₁.setTop (mkF m 39 #[.val (.int p0), .val (.int p1), .val (.int p2), .val (.int p3), .val (.int p4), .val (.int p5), .val (.int (0 : Int32)), .val (.int v2), .unset, .unset, .unset, .unset] [(.int (p5 &&& (16 : Int32)))])) t
        refine XS.ifNo X0.here hx rfl (hb hby at_39) rfl ((if0 _ _).trans (feq hc3).1) ?_
        show Steps p.tables e below (s₁.setTop (mkF m 42 #[.val (.int p0), .val (.int p1), .val (.int p2), .val (.int p3), .val (.int p4), .val (.int p5), .val (.int (0 : Int32)), .val (.int v2), .unset, .unset, .unset, .unset] [])) t
        refine XS.iconst X0.here hx rfl (hb hby at_42) ?_
        show Steps p.tables e below (s₁.setTop (mkF m 43 #[.val (.int p0), .val (.int p1), .val (.int p2), .val (.int p3), .val (.int p4), .val (.int p5), .val (.int (0 : Int32)), .val (.int v2), .unset, .unset, .unset, .unset] [(.int (1 : Int32))])) t
        refine XS.goto X0.here hx rfl (pc0 := 43) (pc' := 47) rfl (hb hby at_43) (by decide) (by decide) ?_
        show Steps p.tables e below (s₁.setTop (mkF m 47 #[.val (.int p0), .val (.int p1), .val (.int p2), .val (.int p3), .val (.int p4), .val (.int p5), .val (.int (0 : Int32)), .val (.int v2), .unset, .unset, .unset, .unset] [(.int (1 : Int32))])) t
        refine XS.istore X0.here hx rfl (hb hby at_47) rfl (l' := #[.val (.int p0), .val (.int p1), .val (.int p2), .val (.int p3), .val (.int p4), .val (.int p5), .val (.int (0 : Int32)), .val (.int v2), .val (.int (1 : Int32)), .unset, .unset, .unset]) rfl ?_
        show Steps p.tables e below (s₁.setTop (mkF m 49 #[.val (.int p0), .val (.int p1), .val (.int p2), .val (.int p3), .val (.int p4), .val (.int p5), .val (.int (0 : Int32)), .val (.int v2), .val (.int (1 : Int32)), .unset, .unset, .unset] [])) t
        refine XS.iload X0.here hx rfl (hb hby at_49) rfl ?_
        show Steps p.tables e below (s₁.setTop (mkF m 51 #[.val (.int p0), .val (.int p1), .val (.int p2), .val (.int p3), .val (.int p4), .val (.int p5), .val (.int (0 : Int32)), .val (.int v2), .val (.int (1 : Int32)), .unset, .unset, .unset] [(.int (0 : Int32))])) t
        refine XS.ifYes X0.here hx rfl (pc0 := 51) (pc' := 76) rfl (hb hby at_51) rfl (by decide) (by decide) (by decide) ?_
        show Steps p.tables e below (s₁.setTop (mkF m 76 #[.val (.int p0), .val (.int p1), .val (.int p2), .val (.int p3), .val (.int p4), .val (.int p5), .val (.int (0 : Int32)), .val (.int v2), .val (.int (1 : Int32)), .unset, .unset, .unset] [])) t
        refine XS.iconst X0.here hx rfl (hb hby at_76) ?_
        show Steps p.tables e below (s₁.setTop (mkF m 77 #[.val (.int p0), .val (.int p1), .val (.int p2), .val (.int p3), .val (.int p4), .val (.int p5), .val (.int (0 : Int32)), .val (.int v2), .val (.int (1 : Int32)), .unset, .unset, .unset] [(.int (4 : Int32))])) t
        refine st53 _ ?_
        show Steps p.tables e below (T53.setTop (mkF m 79 #[.val (.int p0), .val (.int p1), .val (.int p2), .val (.int p3), .val (.int p4), .val (.int p5), .val (.int (0 : Int32)), .val (.int v2), .val (.int (1 : Int32)), .unset, .unset, .unset] [(.ref b53)])) t
        refine XS.astore X53.here hx rfl (hb hby at_79) rfl rfl (l' := #[.val (.int p0), .val (.int p1), .val (.int p2), .val (.int p3), .val (.int p4), .val (.int p5), .val (.int (0 : Int32)), .val (.int v2), .val (.int (1 : Int32)), .val (.ref b53), .unset, .unset]) rfl ?_
        show Steps p.tables e below (T53.setTop (mkF m 81 #[.val (.int p0), .val (.int p1), .val (.int p2), .val (.int p3), .val (.int p4), .val (.int p5), .val (.int (0 : Int32)), .val (.int v2), .val (.int (1 : Int32)), .val (.ref b53), .unset, .unset] [])) t
        refine XS.aload X53.here hx rfl (hb hby at_81) rfl rfl ?_
        show Steps p.tables e below (T53.setTop (mkF m 83 #[.val (.int p0), .val (.int p1), .val (.int p2), .val (.int p3), .val (.int p4), .val (.int p5), .val (.int (0 : Int32)), .val (.int v2), .val (.int (1 : Int32)), .val (.ref b53), .unset, .unset] [(.ref b53)])) t
        refine XS.iconst X53.here hx rfl (hb hby at_83) ?_
        show Steps p.tables e below (T53.setTop (mkF m 84 #[.val (.int p0), .val (.int p1), .val (.int p2), .val (.int p3), .val (.int p4), .val (.int p5), .val (.int (0 : Int32)), .val (.int v2), .val (.int (1 : Int32)), .val (.ref b53), .unset, .unset] [(.int (0 : Int32)), (.ref b53)])) t
        refine XS.iloadN X53.here hx rfl (hb hby at_84) rfl ?_
        show Steps p.tables e below (T53.setTop (mkF m 85 #[.val (.int p0), .val (.int p1), .val (.int p2), .val (.int p3), .val (.int p4), .val (.int p5), .val (.int (0 : Int32)), .val (.int v2), .val (.int (1 : Int32)), .val (.ref b53), .unset, .unset] [(.int p0), (.int (0 : Int32)), (.ref b53)])) t
        refine X53.ldcInt hx hown (mvT hZ (hw _ (List.mem_of_getElem? (i := 1) rfl))) (g := (mkF m 85 #[.val (.int p0), .val (.int p1), .val (.int p2), .val (.int p3), .val (.int p4), .val (.int p5), .val (.int (0 : Int32)), .val (.int v2), .val (.int (1 : Int32)), .val (.ref b53), .unset, .unset] [(.int p0), (.int (0 : Int32)), (.ref b53)])) rfl (hb hby at_85) _ ?_
        show Steps p.tables e below (T53.setTop (mkF m 87 #[.val (.int p0), .val (.int p1), .val (.int p2), .val (.int p3), .val (.int p4), .val (.int p5), .val (.int (0 : Int32)), .val (.int v2), .val (.int (1 : Int32)), .val (.ref b53), .unset, .unset] [(.int (2147483647 : Int32)), (.int p0), (.int (0 : Int32)), (.ref b53)])) t
        refine XS.iand X53.here hx rfl (hb hby at_87) rfl ?_
        show Steps p.tables e below (T53.setTop (mkF m 88 #[.val (.int p0), .val (.int p1), .val (.int p2), .val (.int p3), .val (.int p4), .val (.int p5), .val (.int (0 : Int32)), .val (.int v2), .val (.int (1 : Int32)), .val (.ref b53), .unset, .unset] [(.int (p0 &&& (2147483647 : Int32))), (.int (0 : Int32)), (.ref b53)])) t
        refine XS.iload X53.here hx rfl (hb hby at_88) rfl ?_
        show Steps p.tables e below (T53.setTop (mkF m 90 #[.val (.int p0), .val (.int p1), .val (.int p2), .val (.int p3), .val (.int p4), .val (.int p5), .val (.int (0 : Int32)), .val (.int v2), .val (.int (1 : Int32)), .val (.ref b53), .unset, .unset] [(.int v2), (.int (p0 &&& (2147483647 : Int32))), (.int (0 : Int32)), (.ref b53)])) t
        refine Jvm.RoadKit.iremM (g := (mkF m 90 #[.val (.int p0), .val (.int p1), .val (.int p2), .val (.int p3), .val (.int p4), .val (.int p5), .val (.int (0 : Int32)), .val (.int v2), .val (.int (1 : Int32)), .val (.ref b53), .unset, .unset] [(.int v2), (.int (p0 &&& (2147483647 : Int32))), (.int (0 : Int32)), (.ref b53)])) X53 hx rfl (hb hby at_90) rfl hnz55 ?_
        show Steps p.tables e below (T53.setTop (mkF m 91 #[.val (.int p0), .val (.int p1), .val (.int p2), .val (.int p3), .val (.int p4), .val (.int p5), .val (.int (0 : Int32)), .val (.int v2), .val (.int (1 : Int32)), .val (.ref b53), .unset, .unset] [(.int ((p0 &&& (2147483647 : Int32)) % v2)), (.int (0 : Int32)), (.ref b53)])) t
        refine st57 _ ?_
        show Steps p.tables e below (T57.setTop (mkF m 92 #[.val (.int p0), .val (.int p1), .val (.int p2), .val (.int p3), .val (.int p4), .val (.int p5), .val (.int (0 : Int32)), .val (.int v2), .val (.int (1 : Int32)), .val (.ref b53), .unset, .unset] [])) t
        refine XS.aload X57.here hx rfl (hb hby at_92) rfl rfl ?_
        show Steps p.tables e below (T57.setTop (mkF m 94 #[.val (.int p0), .val (.int p1), .val (.int p2), .val (.int p3), .val (.int p4), .val (.int p5), .val (.int (0 : Int32)), .val (.int v2), .val (.int (1 : Int32)), .val (.ref b53), .unset, .unset] [(.ref b53)])) t
        refine XS.iconst X57.here hx rfl (hb hby at_94) ?_
        show Steps p.tables e below (T57.setTop (mkF m 95 #[.val (.int p0), .val (.int p1), .val (.int p2), .val (.int p3), .val (.int p4), .val (.int p5), .val (.int (0 : Int32)), .val (.int v2), .val (.int (1 : Int32)), .val (.ref b53), .unset, .unset] [(.int (1 : Int32)), (.ref b53)])) t
        refine XS.iloadN X57.here hx rfl (hb hby at_95) rfl ?_
        show Steps p.tables e below (T57.setTop (mkF m 96 #[.val (.int p0), .val (.int p1), .val (.int p2), .val (.int p3), .val (.int p4), .val (.int p5), .val (.int (0 : Int32)), .val (.int v2), .val (.int (1 : Int32)), .val (.ref b53), .unset, .unset] [(.int p1), (.int (1 : Int32)), (.ref b53)])) t
        refine X57.ldcInt hx hown (mvT hZ (hw _ (List.mem_of_getElem? (i := 1) rfl))) (g := (mkF m 96 #[.val (.int p0), .val (.int p1), .val (.int p2), .val (.int p3), .val (.int p4), .val (.int p5), .val (.int (0 : Int32)), .val (.int v2), .val (.int (1 : Int32)), .val (.ref b53), .unset, .unset] [(.int p1), (.int (1 : Int32)), (.ref b53)])) rfl (hb hby at_96) _ ?_
        show Steps p.tables e below (T57.setTop (mkF m 98 #[.val (.int p0), .val (.int p1), .val (.int p2), .val (.int p3), .val (.int p4), .val (.int p5), .val (.int (0 : Int32)), .val (.int v2), .val (.int (1 : Int32)), .val (.ref b53), .unset, .unset] [(.int (2147483647 : Int32)), (.int p1), (.int (1 : Int32)), (.ref b53)])) t
        refine XS.iand X57.here hx rfl (hb hby at_98) rfl ?_
        show Steps p.tables e below (T57.setTop (mkF m 99 #[.val (.int p0), .val (.int p1), .val (.int p2), .val (.int p3), .val (.int p4), .val (.int p5), .val (.int (0 : Int32)), .val (.int v2), .val (.int (1 : Int32)), .val (.ref b53), .unset, .unset] [(.int (p1 &&& (2147483647 : Int32))), (.int (1 : Int32)), (.ref b53)])) t
        refine XS.iload X57.here hx rfl (hb hby at_99) rfl ?_
        show Steps p.tables e below (T57.setTop (mkF m 101 #[.val (.int p0), .val (.int p1), .val (.int p2), .val (.int p3), .val (.int p4), .val (.int p5), .val (.int (0 : Int32)), .val (.int v2), .val (.int (1 : Int32)), .val (.ref b53), .unset, .unset] [(.int v2), (.int (p1 &&& (2147483647 : Int32))), (.int (1 : Int32)), (.ref b53)])) t
        refine Jvm.RoadKit.iremM (g := (mkF m 101 #[.val (.int p0), .val (.int p1), .val (.int p2), .val (.int p3), .val (.int p4), .val (.int p5), .val (.int (0 : Int32)), .val (.int v2), .val (.int (1 : Int32)), .val (.ref b53), .unset, .unset] [(.int v2), (.int (p1 &&& (2147483647 : Int32))), (.int (1 : Int32)), (.ref b53)])) X57 hx rfl (hb hby at_101) rfl hnz58 ?_
        show Steps p.tables e below (T57.setTop (mkF m 102 #[.val (.int p0), .val (.int p1), .val (.int p2), .val (.int p3), .val (.int p4), .val (.int p5), .val (.int (0 : Int32)), .val (.int v2), .val (.int (1 : Int32)), .val (.ref b53), .unset, .unset] [(.int ((p1 &&& (2147483647 : Int32)) % v2)), (.int (1 : Int32)), (.ref b53)])) t
        refine st60 _ ?_
        show Steps p.tables e below (T60.setTop (mkF m 103 #[.val (.int p0), .val (.int p1), .val (.int p2), .val (.int p3), .val (.int p4), .val (.int p5), .val (.int (0 : Int32)), .val (.int v2), .val (.int (1 : Int32)), .val (.ref b53), .unset, .unset] [])) t
        refine XS.aload X60.here hx rfl (hb hby at_103) rfl rfl ?_
        show Steps p.tables e below (T60.setTop (mkF m 105 #[.val (.int p0), .val (.int p1), .val (.int p2), .val (.int p3), .val (.int p4), .val (.int p5), .val (.int (0 : Int32)), .val (.int v2), .val (.int (1 : Int32)), .val (.ref b53), .unset, .unset] [(.ref b53)])) t
        refine XS.iconst X60.here hx rfl (hb hby at_105) ?_
        show Steps p.tables e below (T60.setTop (mkF m 106 #[.val (.int p0), .val (.int p1), .val (.int p2), .val (.int p3), .val (.int p4), .val (.int p5), .val (.int (0 : Int32)), .val (.int v2), .val (.int (1 : Int32)), .val (.ref b53), .unset, .unset] [(.int (2 : Int32)), (.ref b53)])) t
        refine XS.iloadN X60.here hx rfl (hb hby at_106) rfl ?_
        show Steps p.tables e below (T60.setTop (mkF m 107 #[.val (.int p0), .val (.int p1), .val (.int p2), .val (.int p3), .val (.int p4), .val (.int p5), .val (.int (0 : Int32)), .val (.int v2), .val (.int (1 : Int32)), .val (.ref b53), .unset, .unset] [(.int p2), (.int (2 : Int32)), (.ref b53)])) t
        refine X60.ldcInt hx hown (mvT hZ (hw _ (List.mem_of_getElem? (i := 1) rfl))) (g := (mkF m 107 #[.val (.int p0), .val (.int p1), .val (.int p2), .val (.int p3), .val (.int p4), .val (.int p5), .val (.int (0 : Int32)), .val (.int v2), .val (.int (1 : Int32)), .val (.ref b53), .unset, .unset] [(.int p2), (.int (2 : Int32)), (.ref b53)])) rfl (hb hby at_107) _ ?_
        show Steps p.tables e below (T60.setTop (mkF m 109 #[.val (.int p0), .val (.int p1), .val (.int p2), .val (.int p3), .val (.int p4), .val (.int p5), .val (.int (0 : Int32)), .val (.int v2), .val (.int (1 : Int32)), .val (.ref b53), .unset, .unset] [(.int (2147483647 : Int32)), (.int p2), (.int (2 : Int32)), (.ref b53)])) t
        refine XS.iand X60.here hx rfl (hb hby at_109) rfl ?_
        show Steps p.tables e below (T60.setTop (mkF m 110 #[.val (.int p0), .val (.int p1), .val (.int p2), .val (.int p3), .val (.int p4), .val (.int p5), .val (.int (0 : Int32)), .val (.int v2), .val (.int (1 : Int32)), .val (.ref b53), .unset, .unset] [(.int (p2 &&& (2147483647 : Int32))), (.int (2 : Int32)), (.ref b53)])) t
        refine XS.iload X60.here hx rfl (hb hby at_110) rfl ?_
        show Steps p.tables e below (T60.setTop (mkF m 112 #[.val (.int p0), .val (.int p1), .val (.int p2), .val (.int p3), .val (.int p4), .val (.int p5), .val (.int (0 : Int32)), .val (.int v2), .val (.int (1 : Int32)), .val (.ref b53), .unset, .unset] [(.int v2), (.int (p2 &&& (2147483647 : Int32))), (.int (2 : Int32)), (.ref b53)])) t
        refine Jvm.RoadKit.iremM (g := (mkF m 112 #[.val (.int p0), .val (.int p1), .val (.int p2), .val (.int p3), .val (.int p4), .val (.int p5), .val (.int (0 : Int32)), .val (.int v2), .val (.int (1 : Int32)), .val (.ref b53), .unset, .unset] [(.int v2), (.int (p2 &&& (2147483647 : Int32))), (.int (2 : Int32)), (.ref b53)])) X60 hx rfl (hb hby at_112) rfl hnz61 ?_
        show Steps p.tables e below (T60.setTop (mkF m 113 #[.val (.int p0), .val (.int p1), .val (.int p2), .val (.int p3), .val (.int p4), .val (.int p5), .val (.int (0 : Int32)), .val (.int v2), .val (.int (1 : Int32)), .val (.ref b53), .unset, .unset] [(.int ((p2 &&& (2147483647 : Int32)) % v2)), (.int (2 : Int32)), (.ref b53)])) t
        refine st63 _ ?_
        show Steps p.tables e below (T63.setTop (mkF m 114 #[.val (.int p0), .val (.int p1), .val (.int p2), .val (.int p3), .val (.int p4), .val (.int p5), .val (.int (0 : Int32)), .val (.int v2), .val (.int (1 : Int32)), .val (.ref b53), .unset, .unset] [])) t
        refine XS.aload X63.here hx rfl (hb hby at_114) rfl rfl ?_
        show Steps p.tables e below (T63.setTop (mkF m 116 #[.val (.int p0), .val (.int p1), .val (.int p2), .val (.int p3), .val (.int p4), .val (.int p5), .val (.int (0 : Int32)), .val (.int v2), .val (.int (1 : Int32)), .val (.ref b53), .unset, .unset] [(.ref b53)])) t
        refine XS.iconst X63.here hx rfl (hb hby at_116) ?_
        show Steps p.tables e below (T63.setTop (mkF m 117 #[.val (.int p0), .val (.int p1), .val (.int p2), .val (.int p3), .val (.int p4), .val (.int p5), .val (.int (0 : Int32)), .val (.int v2), .val (.int (1 : Int32)), .val (.ref b53), .unset, .unset] [(.int (3 : Int32)), (.ref b53)])) t
        refine XS.iloadN X63.here hx rfl (hb hby at_117) rfl ?_
        show Steps p.tables e below (T63.setTop (mkF m 118 #[.val (.int p0), .val (.int p1), .val (.int p2), .val (.int p3), .val (.int p4), .val (.int p5), .val (.int (0 : Int32)), .val (.int v2), .val (.int (1 : Int32)), .val (.ref b53), .unset, .unset] [(.int p3), (.int (3 : Int32)), (.ref b53)])) t
        refine X63.ldcInt hx hown (mvT hZ (hw _ (List.mem_of_getElem? (i := 1) rfl))) (g := (mkF m 118 #[.val (.int p0), .val (.int p1), .val (.int p2), .val (.int p3), .val (.int p4), .val (.int p5), .val (.int (0 : Int32)), .val (.int v2), .val (.int (1 : Int32)), .val (.ref b53), .unset, .unset] [(.int p3), (.int (3 : Int32)), (.ref b53)])) rfl (hb hby at_118) _ ?_
        show Steps p.tables e below (T63.setTop (mkF m 120 #[.val (.int p0), .val (.int p1), .val (.int p2), .val (.int p3), .val (.int p4), .val (.int p5), .val (.int (0 : Int32)), .val (.int v2), .val (.int (1 : Int32)), .val (.ref b53), .unset, .unset] [(.int (2147483647 : Int32)), (.int p3), (.int (3 : Int32)), (.ref b53)])) t
        refine XS.iand X63.here hx rfl (hb hby at_120) rfl ?_
        show Steps p.tables e below (T63.setTop (mkF m 121 #[.val (.int p0), .val (.int p1), .val (.int p2), .val (.int p3), .val (.int p4), .val (.int p5), .val (.int (0 : Int32)), .val (.int v2), .val (.int (1 : Int32)), .val (.ref b53), .unset, .unset] [(.int (p3 &&& (2147483647 : Int32))), (.int (3 : Int32)), (.ref b53)])) t
        refine XS.iload X63.here hx rfl (hb hby at_121) rfl ?_
        show Steps p.tables e below (T63.setTop (mkF m 123 #[.val (.int p0), .val (.int p1), .val (.int p2), .val (.int p3), .val (.int p4), .val (.int p5), .val (.int (0 : Int32)), .val (.int v2), .val (.int (1 : Int32)), .val (.ref b53), .unset, .unset] [(.int v2), (.int (p3 &&& (2147483647 : Int32))), (.int (3 : Int32)), (.ref b53)])) t
        refine Jvm.RoadKit.iremM (g := (mkF m 123 #[.val (.int p0), .val (.int p1), .val (.int p2), .val (.int p3), .val (.int p4), .val (.int p5), .val (.int (0 : Int32)), .val (.int v2), .val (.int (1 : Int32)), .val (.ref b53), .unset, .unset] [(.int v2), (.int (p3 &&& (2147483647 : Int32))), (.int (3 : Int32)), (.ref b53)])) X63 hx rfl (hb hby at_123) rfl hnz64 ?_
        show Steps p.tables e below (T63.setTop (mkF m 124 #[.val (.int p0), .val (.int p1), .val (.int p2), .val (.int p3), .val (.int p4), .val (.int p5), .val (.int (0 : Int32)), .val (.int v2), .val (.int (1 : Int32)), .val (.ref b53), .unset, .unset] [(.int ((p3 &&& (2147483647 : Int32)) % v2)), (.int (3 : Int32)), (.ref b53)])) t
        refine st66 _ ?_
        show Steps p.tables e below (T66.setTop (mkF m 125 #[.val (.int p0), .val (.int p1), .val (.int p2), .val (.int p3), .val (.int p4), .val (.int p5), .val (.int (0 : Int32)), .val (.int v2), .val (.int (1 : Int32)), .val (.ref b53), .unset, .unset] [])) t
        refine XS.iload X66.here hx rfl (hb hby at_125) rfl ?_
        show Steps p.tables e below (T66.setTop (mkF m 127 #[.val (.int p0), .val (.int p1), .val (.int p2), .val (.int p3), .val (.int p4), .val (.int p5), .val (.int (0 : Int32)), .val (.int v2), .val (.int (1 : Int32)), .val (.ref b53), .unset, .unset] [(.int (1 : Int32))])) t
        refine XS.ifNo X66.here hx rfl (hb hby at_127) rfl (by decide) ?_
        show Steps p.tables e below (T66.setTop (mkF m 130 #[.val (.int p0), .val (.int p1), .val (.int p2), .val (.int p3), .val (.int p4), .val (.int p5), .val (.int (0 : Int32)), .val (.int v2), .val (.int (1 : Int32)), .val (.ref b53), .unset, .unset] [])) t
        refine XS.aconstNull X66.here hx rfl (hb hby at_130) ?_
        show Steps p.tables e below (T66.setTop (mkF m 131 #[.val (.int p0), .val (.int p1), .val (.int p2), .val (.int p3), .val (.int p4), .val (.int p5), .val (.int (0 : Int32)), .val (.int v2), .val (.int (1 : Int32)), .val (.ref b53), .unset, .unset] [.null])) t
        refine XS.astore X66.here hx rfl (hb hby at_131) rfl rfl (l' := #[.val (.int p0), .val (.int p1), .val (.int p2), .val (.int p3), .val (.int p4), .val (.int p5), .val (.int (0 : Int32)), .val (.int v2), .val (.int (1 : Int32)), .val (.ref b53), .val .null, .unset]) rfl ?_
        show Steps p.tables e below (T66.setTop (mkF m 133 #[.val (.int p0), .val (.int p1), .val (.int p2), .val (.int p3), .val (.int p4), .val (.int p5), .val (.int (0 : Int32)), .val (.int v2), .val (.int (1 : Int32)), .val (.ref b53), .val .null, .unset] [])) t
        refine XS.goto X66.here hx rfl (pc0 := 133) (pc' := 206) rfl (hb hby at_133) (by decide) (by decide) ?_
        show Steps p.tables e below (T66.setTop (mkF m 206 #[.val (.int p0), .val (.int p1), .val (.int p2), .val (.int p3), .val (.int p4), .val (.int p5), .val (.int (0 : Int32)), .val (.int v2), .val (.int (1 : Int32)), .val (.ref b53), .val .null, .unset] [])) t
        refine XS.aload X66.here hx rfl (hb hby at_206) rfl rfl ?_
        show Steps p.tables e below (T66.setTop (mkF m 208 #[.val (.int p0), .val (.int p1), .val (.int p2), .val (.int p3), .val (.int p4), .val (.int p5), .val (.int (0 : Int32)), .val (.int v2), .val (.int (1 : Int32)), .val (.ref b53), .val .null, .unset] [(.ref b53)])) t
        refine XS.iload X66.here hx rfl (hb hby at_208) rfl ?_
        show Steps p.tables e below (T66.setTop (mkF m 210 #[.val (.int p0), .val (.int p1), .val (.int p2), .val (.int p3), .val (.int p4), .val (.int p5), .val (.int (0 : Int32)), .val (.int v2), .val (.int (1 : Int32)), .val (.ref b53), .val .null, .unset] [(.int v2), (.ref b53)])) t
        refine XS.aload X66.here hx rfl (hb hby at_210) rfl rfl ?_
        show Steps p.tables e below (T66.setTop (mkF m 212 #[.val (.int p0), .val (.int p1), .val (.int p2), .val (.int p3), .val (.int p4), .val (.int p5), .val (.int (0 : Int32)), .val (.int v2), .val (.int (1 : Int32)), .val (.ref b53), .val .null, .unset] [.null, (.int v2), (.ref b53)])) t
        refine st67 _ ?_
        show Steps p.tables e below (T67.setTop (mkF m 215 #[.val (.int p0), .val (.int p1), .val (.int p2), .val (.int p3), .val (.int p4), .val (.int p5), .val (.int (0 : Int32)), .val (.int v2), .val (.int (1 : Int32)), .val (.ref b53), .val .null, .unset] [(.ref b67)])) t
        refine XS.astore X67.here hx rfl (hb hby at_215) rfl rfl (l' := #[.val (.int p0), .val (.int p1), .val (.int p2), .val (.int p3), .val (.int p4), .val (.int p5), .val (.int (0 : Int32)), .val (.int v2), .val (.int (1 : Int32)), .val (.ref b53), .val .null, .val (.ref b67)]) rfl ?_
        show Steps p.tables e below (T67.setTop (mkF m 217 #[.val (.int p0), .val (.int p1), .val (.int p2), .val (.int p3), .val (.int p4), .val (.int p5), .val (.int (0 : Int32)), .val (.int v2), .val (.int (1 : Int32)), .val (.ref b53), .val .null, .val (.ref b67)] [])) t
        refine XS.aload X67.here hx rfl (hb hby at_217) rfl rfl ?_
        show Steps p.tables e below (T67.setTop (mkF m 219 #[.val (.int p0), .val (.int p1), .val (.int p2), .val (.int p3), .val (.int p4), .val (.int p5), .val (.int (0 : Int32)), .val (.int v2), .val (.int (1 : Int32)), .val (.ref b53), .val .null, .val (.ref b67)] [(.ref b67)])) t
        refine Own.lenI X67 hx hZ rfl A67 (g := (mkF m 219 #[.val (.int p0), .val (.int p1), .val (.int p2), .val (.int p3), .val (.int p4), .val (.int p5), .val (.int (0 : Int32)), .val (.int v2), .val (.int (1 : Int32)), .val (.ref b53), .val .null, .val (.ref b67)] [(.ref b67)])) rfl rfl (hb hby at_219) _ ?_
        show Steps p.tables e below (T67.setTop (mkF m 220 #[.val (.int p0), .val (.int p1), .val (.int p2), .val (.int p3), .val (.int p4), .val (.int p5), .val (.int (0 : Int32)), .val (.int v2), .val (.int (1 : Int32)), .val (.ref b53), .val .null, .val (.ref b67)] [(.int (Int32.ofNat (G + 1)))])) t
        refine XS.iload X67.here hx rfl (hb hby at_220) rfl ?_
        show Steps p.tables e below (T67.setTop (mkF m 222 #[.val (.int p0), .val (.int p1), .val (.int p2), .val (.int p3), .val (.int p4), .val (.int p5), .val (.int (0 : Int32)), .val (.int v2), .val (.int (1 : Int32)), .val (.ref b53), .val .null, .val (.ref b67)] [(.int v2), (.int (Int32.ofNat (G + 1)))])) t
        refine XS.iconst X67.here hx rfl (hb hby at_222) ?_
        show Steps p.tables e below (T67.setTop (mkF m 223 #[.val (.int p0), .val (.int p1), .val (.int p2), .val (.int p3), .val (.int p4), .val (.int p5), .val (.int (0 : Int32)), .val (.int v2), .val (.int (1 : Int32)), .val (.ref b53), .val .null, .val (.ref b67)] [(.int (1 : Int32)), (.int v2), (.int (Int32.ofNat (G + 1)))])) t
        refine XS.iadd X67.here hx rfl (hb hby at_223) rfl ?_
        show Steps p.tables e below (T67.setTop (mkF m 224 #[.val (.int p0), .val (.int p1), .val (.int p2), .val (.int p3), .val (.int p4), .val (.int p5), .val (.int (0 : Int32)), .val (.int v2), .val (.int (1 : Int32)), .val (.ref b53), .val .null, .val (.ref b67)] [(.int (v2 + (1 : Int32))), (.int (Int32.ofNat (G + 1)))])) t
        exact k
      have hc68 : (Int32.ofNat (G + 1)) = (v2 + (1 : Int32)) := by rw [own_eq, own_p1 hG (by omega), own_oi (by omega)]
      obtain ⟨T69, _, L69, X69, ⟨rfl, Nq69, e69⟩, st69⟩ := Own.callS (y := (⟨"com/example/schedulens/schedulens/PositionsGroupStartsPinLaw", "check", "([I[I[ZI)Z"⟩ : MethodName)) (W := 0) (argsL := [(.ref b67), (.ref b53), .null, (.int (0 : Int32))]) (rest := []) X67 hx hZ hown (hw _ (List.mem_of_getElem? (i := 7) rfl)) (hw _ (List.mem_of_getElem? (i := 8) rfl)) (hw _ (List.mem_of_getElem? (i := 9) rfl)) (hw _ (List.mem_of_getElem? (i := 10) rfl)) (by decide) rfl (rm3 l Z a0 hw [] b67 b53 (0 : Int32) (G + 1) 4 (own_s (own_c f (fun _ => true) 4) G) f T67.heap n0 (by omega) (by decide) (by decide) A67 B67) (by decide) (by decide) (by decide) (by decide) (g := (mkF m 236 #[.val (.int p0), .val (.int p1), .val (.int p2), .val (.int p3), .val (.int p4), .val (.int p5), .val (.int (0 : Int32)), .val (.int v2), .val (.int (1 : Int32)), .val (.ref b53), .val .null, .val (.ref b67)] [(.int (0 : Int32)), .null, (.ref b53), (.ref b67)])) rfl (by rw [hml]; rfl) (lenOf pd_2 rfl) rfl (by show 2 * 0 + _ ≤ _; exact Nat.le_of_eq rfl) (hb hby at_236)
      have N69 := Fr.app N67 Nq69
      refine hD _ (T69.setTop (mkF m 239 #[.val (.int p0), .val (.int p1), .val (.int p2), .val (.int p3), .val (.int p4), .val (.int p5), .val (.int (0 : Int32)), .val (.int v2), .val (.int (1 : Int32)), .val (.ref b53), .val .null, .val (.ref b67)] [(.int (Own.b2i (own_ck (own_s (own_c f (fun _ => true) 4) G) (G + 1) f (fun _ => true) 4 (0 : Int32))))])) (fun t k => ?_) ?_
      · show Steps p.tables e below (T67.setTop (mkF m 224 #[.val (.int p0), .val (.int p1), .val (.int p2), .val (.int p3), .val (.int p4), .val (.int p5), .val (.int (0 : Int32)), .val (.int v2), .val (.int (1 : Int32)), .val (.ref b53), .val .null, .val (.ref b67)] [(.int (v2 + (1 : Int32))), (.int (Int32.ofNat (G + 1)))])) t
        refine XS.icmpYes X67.here hx rfl (pc0 := 224) (pc' := 229) rfl (hb hby at_224) rfl (teq hc68).1 (by decide) (by decide) ?_
        show Steps p.tables e below (T67.setTop (mkF m 229 #[.val (.int p0), .val (.int p1), .val (.int p2), .val (.int p3), .val (.int p4), .val (.int p5), .val (.int (0 : Int32)), .val (.int v2), .val (.int (1 : Int32)), .val (.ref b53), .val .null, .val (.ref b67)] [])) t
        refine XS.aload X67.here hx rfl (hb hby at_229) rfl rfl ?_
        show Steps p.tables e below (T67.setTop (mkF m 231 #[.val (.int p0), .val (.int p1), .val (.int p2), .val (.int p3), .val (.int p4), .val (.int p5), .val (.int (0 : Int32)), .val (.int v2), .val (.int (1 : Int32)), .val (.ref b53), .val .null, .val (.ref b67)] [(.ref b67)])) t
        refine XS.aload X67.here hx rfl (hb hby at_231) rfl rfl ?_
        show Steps p.tables e below (T67.setTop (mkF m 233 #[.val (.int p0), .val (.int p1), .val (.int p2), .val (.int p3), .val (.int p4), .val (.int p5), .val (.int (0 : Int32)), .val (.int v2), .val (.int (1 : Int32)), .val (.ref b53), .val .null, .val (.ref b67)] [(.ref b53), (.ref b67)])) t
        refine XS.aload X67.here hx rfl (hb hby at_233) rfl rfl ?_
        show Steps p.tables e below (T67.setTop (mkF m 235 #[.val (.int p0), .val (.int p1), .val (.int p2), .val (.int p3), .val (.int p4), .val (.int p5), .val (.int (0 : Int32)), .val (.int v2), .val (.int (1 : Int32)), .val (.ref b53), .val .null, .val (.ref b67)] [.null, (.ref b53), (.ref b67)])) t
        refine XS.iconst X67.here hx rfl (hb hby at_235) ?_
        show Steps p.tables e below (T67.setTop (mkF m 236 #[.val (.int p0), .val (.int p1), .val (.int p2), .val (.int p3), .val (.int p4), .val (.int p5), .val (.int (0 : Int32)), .val (.int v2), .val (.int (1 : Int32)), .val (.ref b53), .val .null, .val (.ref b67)] [(.int (0 : Int32)), .null, (.ref b53), (.ref b67)])) t
        refine st69 _ ?_
        show Steps p.tables e below (T69.setTop (mkF m 239 #[.val (.int p0), .val (.int p1), .val (.int p2), .val (.int p3), .val (.int p4), .val (.int p5), .val (.int (0 : Int32)), .val (.int v2), .val (.int (1 : Int32)), .val (.ref b53), .val .null, .val (.ref b67)] [(.int (Own.b2i (own_ck (own_s (own_c f (fun _ => true) 4) G) (G + 1) f (fun _ => true) 4 (0 : Int32))))])) t
        exact k
      have hc70 : (own_ck (own_s (own_c f (fun _ => true) 4) G) (G + 1) f (fun _ => true) 4 (0 : Int32)) = true := own_main hf (by decide) hG4 (by decide)
      obtain ⟨T71, _, L71, X71, ⟨rfl, Nq71, e71⟩, st71⟩ := Own.callS (y := (⟨"com/example/schedulens/schedulens/PositionsGroupStartsPinLaw", "check", "([I[I[ZI)Z"⟩ : MethodName)) (W := 0) (argsL := [(.ref b67), (.ref b53), .null, (.int (1 : Int32))]) (rest := []) X69 hx hZ hown (hw _ (List.mem_of_getElem? (i := 7) rfl)) (hw _ (List.mem_of_getElem? (i := 8) rfl)) (hw _ (List.mem_of_getElem? (i := 9) rfl)) (hw _ (List.mem_of_getElem? (i := 10) rfl)) (by decide) e69 (rm3 l Z a0 hw [] b67 b53 (1 : Int32) (G + 1) 4 (own_s (own_c f (fun _ => true) 4) G) f T67.heap n0 (by omega) (by decide) (by decide) A67 B67) (by decide) (by decide) (by decide) (by decide) (g := (mkF m 249 #[.val (.int p0), .val (.int p1), .val (.int p2), .val (.int p3), .val (.int p4), .val (.int p5), .val (.int (0 : Int32)), .val (.int v2), .val (.int (1 : Int32)), .val (.ref b53), .val .null, .val (.ref b67)] [(.int (1 : Int32)), .null, (.ref b53), (.ref b67)])) rfl (by rw [hml]; rfl) (lenOf pd_2 rfl) rfl (by show 2 * 0 + _ ≤ _; exact Nat.le_of_eq rfl) (hb hby at_249)
      have N71 := Fr.app N69 Nq71
      refine hD _ (T71.setTop (mkF m 252 #[.val (.int p0), .val (.int p1), .val (.int p2), .val (.int p3), .val (.int p4), .val (.int p5), .val (.int (0 : Int32)), .val (.int v2), .val (.int (1 : Int32)), .val (.ref b53), .val .null, .val (.ref b67)] [(.int (Own.b2i (own_ck (own_s (own_c f (fun _ => true) 4) G) (G + 1) f (fun _ => true) 4 (1 : Int32))))])) (fun t k => ?_) ?_
      · show Steps p.tables e below (T69.setTop (mkF m 239 #[.val (.int p0), .val (.int p1), .val (.int p2), .val (.int p3), .val (.int p4), .val (.int p5), .val (.int (0 : Int32)), .val (.int v2), .val (.int (1 : Int32)), .val (.ref b53), .val .null, .val (.ref b67)] [(.int (Own.b2i (own_ck (own_s (own_c f (fun _ => true) 4) G) (G + 1) f (fun _ => true) 4 (0 : Int32))))])) t
        refine XS.ifNo X69.here hx rfl (hb hby at_239) rfl ((if0 _ _).trans (feq (fun q => Own.b2i_eq0.mp q hc70)).1) ?_
        show Steps p.tables e below (T69.setTop (mkF m 242 #[.val (.int p0), .val (.int p1), .val (.int p2), .val (.int p3), .val (.int p4), .val (.int p5), .val (.int (0 : Int32)), .val (.int v2), .val (.int (1 : Int32)), .val (.ref b53), .val .null, .val (.ref b67)] [])) t
        refine XS.aload X69.here hx rfl (hb hby at_242) rfl rfl ?_
        show Steps p.tables e below (T69.setTop (mkF m 244 #[.val (.int p0), .val (.int p1), .val (.int p2), .val (.int p3), .val (.int p4), .val (.int p5), .val (.int (0 : Int32)), .val (.int v2), .val (.int (1 : Int32)), .val (.ref b53), .val .null, .val (.ref b67)] [(.ref b67)])) t
        refine XS.aload X69.here hx rfl (hb hby at_244) rfl rfl ?_
        show Steps p.tables e below (T69.setTop (mkF m 246 #[.val (.int p0), .val (.int p1), .val (.int p2), .val (.int p3), .val (.int p4), .val (.int p5), .val (.int (0 : Int32)), .val (.int v2), .val (.int (1 : Int32)), .val (.ref b53), .val .null, .val (.ref b67)] [(.ref b53), (.ref b67)])) t
        refine XS.aload X69.here hx rfl (hb hby at_246) rfl rfl ?_
        show Steps p.tables e below (T69.setTop (mkF m 248 #[.val (.int p0), .val (.int p1), .val (.int p2), .val (.int p3), .val (.int p4), .val (.int p5), .val (.int (0 : Int32)), .val (.int v2), .val (.int (1 : Int32)), .val (.ref b53), .val .null, .val (.ref b67)] [.null, (.ref b53), (.ref b67)])) t
        refine XS.iconst X69.here hx rfl (hb hby at_248) ?_
        show Steps p.tables e below (T69.setTop (mkF m 249 #[.val (.int p0), .val (.int p1), .val (.int p2), .val (.int p3), .val (.int p4), .val (.int p5), .val (.int (0 : Int32)), .val (.int v2), .val (.int (1 : Int32)), .val (.ref b53), .val .null, .val (.ref b67)] [(.int (1 : Int32)), .null, (.ref b53), (.ref b67)])) t
        refine st71 _ ?_
        show Steps p.tables e below (T71.setTop (mkF m 252 #[.val (.int p0), .val (.int p1), .val (.int p2), .val (.int p3), .val (.int p4), .val (.int p5), .val (.int (0 : Int32)), .val (.int v2), .val (.int (1 : Int32)), .val (.ref b53), .val .null, .val (.ref b67)] [(.int (Own.b2i (own_ck (own_s (own_c f (fun _ => true) 4) G) (G + 1) f (fun _ => true) 4 (1 : Int32))))])) t
        exact k
      have hc72 : (own_ck (own_s (own_c f (fun _ => true) 4) G) (G + 1) f (fun _ => true) 4 (1 : Int32)) = true := own_main hf (by decide) hG4 (by decide)
      obtain ⟨T73, _, L73, X73, ⟨rfl, Nq73, e73⟩, st73⟩ := Own.callS (y := (⟨"com/example/schedulens/schedulens/PositionsGroupStartsPinLaw", "check", "([I[I[ZI)Z"⟩ : MethodName)) (W := 0) (argsL := [(.ref b67), (.ref b53), .null, (.int (2 : Int32))]) (rest := []) X71 hx hZ hown (hw _ (List.mem_of_getElem? (i := 7) rfl)) (hw _ (List.mem_of_getElem? (i := 8) rfl)) (hw _ (List.mem_of_getElem? (i := 9) rfl)) (hw _ (List.mem_of_getElem? (i := 10) rfl)) (by decide) e71 (rm3 l Z a0 hw [] b67 b53 (2 : Int32) (G + 1) 4 (own_s (own_c f (fun _ => true) 4) G) f T67.heap n0 (by omega) (by decide) (by decide) A67 B67) (by decide) (by decide) (by decide) (by decide) (g := (mkF m 262 #[.val (.int p0), .val (.int p1), .val (.int p2), .val (.int p3), .val (.int p4), .val (.int p5), .val (.int (0 : Int32)), .val (.int v2), .val (.int (1 : Int32)), .val (.ref b53), .val .null, .val (.ref b67)] [(.int (2 : Int32)), .null, (.ref b53), (.ref b67)])) rfl (by rw [hml]; rfl) (lenOf pd_2 rfl) rfl (by show 2 * 0 + _ ≤ _; exact Nat.le_of_eq rfl) (hb hby at_262)
      have N73 := Fr.app N71 Nq73
      refine hD _ (T73.setTop (mkF m 265 #[.val (.int p0), .val (.int p1), .val (.int p2), .val (.int p3), .val (.int p4), .val (.int p5), .val (.int (0 : Int32)), .val (.int v2), .val (.int (1 : Int32)), .val (.ref b53), .val .null, .val (.ref b67)] [(.int (Own.b2i (own_ck (own_s (own_c f (fun _ => true) 4) G) (G + 1) f (fun _ => true) 4 (2 : Int32))))])) (fun t k => ?_) ?_
      · show Steps p.tables e below (T71.setTop (mkF m 252 #[.val (.int p0), .val (.int p1), .val (.int p2), .val (.int p3), .val (.int p4), .val (.int p5), .val (.int (0 : Int32)), .val (.int v2), .val (.int (1 : Int32)), .val (.ref b53), .val .null, .val (.ref b67)] [(.int (Own.b2i (own_ck (own_s (own_c f (fun _ => true) 4) G) (G + 1) f (fun _ => true) 4 (1 : Int32))))])) t
        refine XS.ifNo X71.here hx rfl (hb hby at_252) rfl ((if0 _ _).trans (feq (fun q => Own.b2i_eq0.mp q hc72)).1) ?_
        show Steps p.tables e below (T71.setTop (mkF m 255 #[.val (.int p0), .val (.int p1), .val (.int p2), .val (.int p3), .val (.int p4), .val (.int p5), .val (.int (0 : Int32)), .val (.int v2), .val (.int (1 : Int32)), .val (.ref b53), .val .null, .val (.ref b67)] [])) t
        refine XS.aload X71.here hx rfl (hb hby at_255) rfl rfl ?_
        show Steps p.tables e below (T71.setTop (mkF m 257 #[.val (.int p0), .val (.int p1), .val (.int p2), .val (.int p3), .val (.int p4), .val (.int p5), .val (.int (0 : Int32)), .val (.int v2), .val (.int (1 : Int32)), .val (.ref b53), .val .null, .val (.ref b67)] [(.ref b67)])) t
        refine XS.aload X71.here hx rfl (hb hby at_257) rfl rfl ?_
        show Steps p.tables e below (T71.setTop (mkF m 259 #[.val (.int p0), .val (.int p1), .val (.int p2), .val (.int p3), .val (.int p4), .val (.int p5), .val (.int (0 : Int32)), .val (.int v2), .val (.int (1 : Int32)), .val (.ref b53), .val .null, .val (.ref b67)] [(.ref b53), (.ref b67)])) t
        refine XS.aload X71.here hx rfl (hb hby at_259) rfl rfl ?_
        show Steps p.tables e below (T71.setTop (mkF m 261 #[.val (.int p0), .val (.int p1), .val (.int p2), .val (.int p3), .val (.int p4), .val (.int p5), .val (.int (0 : Int32)), .val (.int v2), .val (.int (1 : Int32)), .val (.ref b53), .val .null, .val (.ref b67)] [.null, (.ref b53), (.ref b67)])) t
        refine XS.iconst X71.here hx rfl (hb hby at_261) ?_
        show Steps p.tables e below (T71.setTop (mkF m 262 #[.val (.int p0), .val (.int p1), .val (.int p2), .val (.int p3), .val (.int p4), .val (.int p5), .val (.int (0 : Int32)), .val (.int v2), .val (.int (1 : Int32)), .val (.ref b53), .val .null, .val (.ref b67)] [(.int (2 : Int32)), .null, (.ref b53), (.ref b67)])) t
        refine st73 _ ?_
        show Steps p.tables e below (T73.setTop (mkF m 265 #[.val (.int p0), .val (.int p1), .val (.int p2), .val (.int p3), .val (.int p4), .val (.int p5), .val (.int (0 : Int32)), .val (.int v2), .val (.int (1 : Int32)), .val (.ref b53), .val .null, .val (.ref b67)] [(.int (Own.b2i (own_ck (own_s (own_c f (fun _ => true) 4) G) (G + 1) f (fun _ => true) 4 (2 : Int32))))])) t
        exact k
      have hc74 : (own_ck (own_s (own_c f (fun _ => true) 4) G) (G + 1) f (fun _ => true) 4 (2 : Int32)) = true := own_main hf (by decide) hG4 (by decide)
      obtain ⟨T75, _, L75, X75, ⟨rfl, Nq75, e75⟩, st75⟩ := Own.callS (y := (⟨"com/example/schedulens/schedulens/PositionsGroupStartsPinLaw", "check", "([I[I[ZI)Z"⟩ : MethodName)) (W := 0) (argsL := [(.ref b67), (.ref b53), .null, (.int (3 : Int32))]) (rest := []) X73 hx hZ hown (hw _ (List.mem_of_getElem? (i := 7) rfl)) (hw _ (List.mem_of_getElem? (i := 8) rfl)) (hw _ (List.mem_of_getElem? (i := 9) rfl)) (hw _ (List.mem_of_getElem? (i := 10) rfl)) (by decide) e73 (rm3 l Z a0 hw [] b67 b53 (3 : Int32) (G + 1) 4 (own_s (own_c f (fun _ => true) 4) G) f T67.heap n0 (by omega) (by decide) (by decide) A67 B67) (by decide) (by decide) (by decide) (by decide) (g := (mkF m 275 #[.val (.int p0), .val (.int p1), .val (.int p2), .val (.int p3), .val (.int p4), .val (.int p5), .val (.int (0 : Int32)), .val (.int v2), .val (.int (1 : Int32)), .val (.ref b53), .val .null, .val (.ref b67)] [(.int (3 : Int32)), .null, (.ref b53), (.ref b67)])) rfl (by rw [hml]; rfl) (lenOf pd_2 rfl) rfl (by show 2 * 0 + _ ≤ _; exact Nat.le_of_eq rfl) (hb hby at_275)
      have N75 := Fr.app N73 Nq75
      refine hD _ (T75.setTop (mkF m 278 #[.val (.int p0), .val (.int p1), .val (.int p2), .val (.int p3), .val (.int p4), .val (.int p5), .val (.int (0 : Int32)), .val (.int v2), .val (.int (1 : Int32)), .val (.ref b53), .val .null, .val (.ref b67)] [(.int (Own.b2i (own_ck (own_s (own_c f (fun _ => true) 4) G) (G + 1) f (fun _ => true) 4 (3 : Int32))))])) (fun t k => ?_) ?_
      · show Steps p.tables e below (T73.setTop (mkF m 265 #[.val (.int p0), .val (.int p1), .val (.int p2), .val (.int p3), .val (.int p4), .val (.int p5), .val (.int (0 : Int32)), .val (.int v2), .val (.int (1 : Int32)), .val (.ref b53), .val .null, .val (.ref b67)] [(.int (Own.b2i (own_ck (own_s (own_c f (fun _ => true) 4) G) (G + 1) f (fun _ => true) 4 (2 : Int32))))])) t
        refine XS.ifNo X73.here hx rfl (hb hby at_265) rfl ((if0 _ _).trans (feq (fun q => Own.b2i_eq0.mp q hc74)).1) ?_
        show Steps p.tables e below (T73.setTop (mkF m 268 #[.val (.int p0), .val (.int p1), .val (.int p2), .val (.int p3), .val (.int p4), .val (.int p5), .val (.int (0 : Int32)), .val (.int v2), .val (.int (1 : Int32)), .val (.ref b53), .val .null, .val (.ref b67)] [])) t
        refine XS.aload X73.here hx rfl (hb hby at_268) rfl rfl ?_
        show Steps p.tables e below (T73.setTop (mkF m 270 #[.val (.int p0), .val (.int p1), .val (.int p2), .val (.int p3), .val (.int p4), .val (.int p5), .val (.int (0 : Int32)), .val (.int v2), .val (.int (1 : Int32)), .val (.ref b53), .val .null, .val (.ref b67)] [(.ref b67)])) t
        refine XS.aload X73.here hx rfl (hb hby at_270) rfl rfl ?_
        show Steps p.tables e below (T73.setTop (mkF m 272 #[.val (.int p0), .val (.int p1), .val (.int p2), .val (.int p3), .val (.int p4), .val (.int p5), .val (.int (0 : Int32)), .val (.int v2), .val (.int (1 : Int32)), .val (.ref b53), .val .null, .val (.ref b67)] [(.ref b53), (.ref b67)])) t
        refine XS.aload X73.here hx rfl (hb hby at_272) rfl rfl ?_
        show Steps p.tables e below (T73.setTop (mkF m 274 #[.val (.int p0), .val (.int p1), .val (.int p2), .val (.int p3), .val (.int p4), .val (.int p5), .val (.int (0 : Int32)), .val (.int v2), .val (.int (1 : Int32)), .val (.ref b53), .val .null, .val (.ref b67)] [.null, (.ref b53), (.ref b67)])) t
        refine XS.iconst X73.here hx rfl (hb hby at_274) ?_
        show Steps p.tables e below (T73.setTop (mkF m 275 #[.val (.int p0), .val (.int p1), .val (.int p2), .val (.int p3), .val (.int p4), .val (.int p5), .val (.int (0 : Int32)), .val (.int v2), .val (.int (1 : Int32)), .val (.ref b53), .val .null, .val (.ref b67)] [(.int (3 : Int32)), .null, (.ref b53), (.ref b67)])) t
        refine st75 _ ?_
        show Steps p.tables e below (T75.setTop (mkF m 278 #[.val (.int p0), .val (.int p1), .val (.int p2), .val (.int p3), .val (.int p4), .val (.int p5), .val (.int (0 : Int32)), .val (.int v2), .val (.int (1 : Int32)), .val (.ref b53), .val .null, .val (.ref b67)] [(.int (Own.b2i (own_ck (own_s (own_c f (fun _ => true) 4) G) (G + 1) f (fun _ => true) 4 (3 : Int32))))])) t
        exact k
      have hc76 : (own_ck (own_s (own_c f (fun _ => true) 4) G) (G + 1) f (fun _ => true) 4 (3 : Int32)) = true := own_main hf (by decide) hG4 (by decide)
      obtain ⟨T77, _, L77, X77, ⟨rfl, Nq77, e77⟩, st77⟩ := Own.callS (y := (⟨"com/example/schedulens/schedulens/PositionsGroupStartsPinLaw", "check", "([I[I[ZI)Z"⟩ : MethodName)) (W := 0) (argsL := [(.ref b67), (.ref b53), .null, (.int (4 : Int32))]) (rest := []) X75 hx hZ hown (hw _ (List.mem_of_getElem? (i := 7) rfl)) (hw _ (List.mem_of_getElem? (i := 8) rfl)) (hw _ (List.mem_of_getElem? (i := 9) rfl)) (hw _ (List.mem_of_getElem? (i := 10) rfl)) (by decide) e75 (rm3 l Z a0 hw [] b67 b53 (4 : Int32) (G + 1) 4 (own_s (own_c f (fun _ => true) 4) G) f T67.heap n0 (by omega) (by decide) (by decide) A67 B67) (by decide) (by decide) (by decide) (by decide) (g := (mkF m 288 #[.val (.int p0), .val (.int p1), .val (.int p2), .val (.int p3), .val (.int p4), .val (.int p5), .val (.int (0 : Int32)), .val (.int v2), .val (.int (1 : Int32)), .val (.ref b53), .val .null, .val (.ref b67)] [(.int (4 : Int32)), .null, (.ref b53), (.ref b67)])) rfl (by rw [hml]; rfl) (lenOf pd_2 rfl) rfl (by show 2 * 0 + _ ≤ _; exact Nat.le_of_eq rfl) (hb hby at_288)
      have N77 := Fr.app N75 Nq77
      refine hD _ (T77.setTop (mkF m 291 #[.val (.int p0), .val (.int p1), .val (.int p2), .val (.int p3), .val (.int p4), .val (.int p5), .val (.int (0 : Int32)), .val (.int v2), .val (.int (1 : Int32)), .val (.ref b53), .val .null, .val (.ref b67)] [(.int (Own.b2i (own_ck (own_s (own_c f (fun _ => true) 4) G) (G + 1) f (fun _ => true) 4 (4 : Int32))))])) (fun t k => ?_) ?_
      · show Steps p.tables e below (T75.setTop (mkF m 278 #[.val (.int p0), .val (.int p1), .val (.int p2), .val (.int p3), .val (.int p4), .val (.int p5), .val (.int (0 : Int32)), .val (.int v2), .val (.int (1 : Int32)), .val (.ref b53), .val .null, .val (.ref b67)] [(.int (Own.b2i (own_ck (own_s (own_c f (fun _ => true) 4) G) (G + 1) f (fun _ => true) 4 (3 : Int32))))])) t
        refine XS.ifNo X75.here hx rfl (hb hby at_278) rfl ((if0 _ _).trans (feq (fun q => Own.b2i_eq0.mp q hc76)).1) ?_
        show Steps p.tables e below (T75.setTop (mkF m 281 #[.val (.int p0), .val (.int p1), .val (.int p2), .val (.int p3), .val (.int p4), .val (.int p5), .val (.int (0 : Int32)), .val (.int v2), .val (.int (1 : Int32)), .val (.ref b53), .val .null, .val (.ref b67)] [])) t
        refine XS.aload X75.here hx rfl (hb hby at_281) rfl rfl ?_
        show Steps p.tables e below (T75.setTop (mkF m 283 #[.val (.int p0), .val (.int p1), .val (.int p2), .val (.int p3), .val (.int p4), .val (.int p5), .val (.int (0 : Int32)), .val (.int v2), .val (.int (1 : Int32)), .val (.ref b53), .val .null, .val (.ref b67)] [(.ref b67)])) t
        refine XS.aload X75.here hx rfl (hb hby at_283) rfl rfl ?_
        show Steps p.tables e below (T75.setTop (mkF m 285 #[.val (.int p0), .val (.int p1), .val (.int p2), .val (.int p3), .val (.int p4), .val (.int p5), .val (.int (0 : Int32)), .val (.int v2), .val (.int (1 : Int32)), .val (.ref b53), .val .null, .val (.ref b67)] [(.ref b53), (.ref b67)])) t
        refine XS.aload X75.here hx rfl (hb hby at_285) rfl rfl ?_
        show Steps p.tables e below (T75.setTop (mkF m 287 #[.val (.int p0), .val (.int p1), .val (.int p2), .val (.int p3), .val (.int p4), .val (.int p5), .val (.int (0 : Int32)), .val (.int v2), .val (.int (1 : Int32)), .val (.ref b53), .val .null, .val (.ref b67)] [.null, (.ref b53), (.ref b67)])) t
        refine XS.iconst X75.here hx rfl (hb hby at_287) ?_
        show Steps p.tables e below (T75.setTop (mkF m 288 #[.val (.int p0), .val (.int p1), .val (.int p2), .val (.int p3), .val (.int p4), .val (.int p5), .val (.int (0 : Int32)), .val (.int v2), .val (.int (1 : Int32)), .val (.ref b53), .val .null, .val (.ref b67)] [(.int (4 : Int32)), .null, (.ref b53), (.ref b67)])) t
        refine st77 _ ?_
        show Steps p.tables e below (T77.setTop (mkF m 291 #[.val (.int p0), .val (.int p1), .val (.int p2), .val (.int p3), .val (.int p4), .val (.int p5), .val (.int (0 : Int32)), .val (.int v2), .val (.int (1 : Int32)), .val (.ref b53), .val .null, .val (.ref b67)] [(.int (Own.b2i (own_ck (own_s (own_c f (fun _ => true) 4) G) (G + 1) f (fun _ => true) 4 (4 : Int32))))])) t
        exact k
      have hc78 : (own_ck (own_s (own_c f (fun _ => true) 4) G) (G + 1) f (fun _ => true) 4 (4 : Int32)) = true := own_main hf (by decide) hG4 (by decide)
      refine hD _ (T77.setTop (mkF m 299 #[.val (.int p0), .val (.int p1), .val (.int p2), .val (.int p3), .val (.int p4), .val (.int p5), .val (.int (0 : Int32)), .val (.int v2), .val (.int (1 : Int32)), .val (.ref b53), .val .null, .val (.ref b67)] [(.int (1 : Int32))])) (fun t k => ?_) ?_
      · show Steps p.tables e below (T77.setTop (mkF m 291 #[.val (.int p0), .val (.int p1), .val (.int p2), .val (.int p3), .val (.int p4), .val (.int p5), .val (.int (0 : Int32)), .val (.int v2), .val (.int (1 : Int32)), .val (.ref b53), .val .null, .val (.ref b67)] [(.int (Own.b2i (own_ck (own_s (own_c f (fun _ => true) 4) G) (G + 1) f (fun _ => true) 4 (4 : Int32))))])) t
        refine XS.ifNo X77.here hx rfl (hb hby at_291) rfl ((if0 _ _).trans (feq (fun q => Own.b2i_eq0.mp q hc78)).1) ?_
        show Steps p.tables e below (T77.setTop (mkF m 294 #[.val (.int p0), .val (.int p1), .val (.int p2), .val (.int p3), .val (.int p4), .val (.int p5), .val (.int (0 : Int32)), .val (.int v2), .val (.int (1 : Int32)), .val (.ref b53), .val .null, .val (.ref b67)] [])) t
        refine XS.iconst X77.here hx rfl (hb hby at_294) ?_
        show Steps p.tables e below (T77.setTop (mkF m 295 #[.val (.int p0), .val (.int p1), .val (.int p2), .val (.int p3), .val (.int p4), .val (.int p5), .val (.int (0 : Int32)), .val (.int v2), .val (.int (1 : Int32)), .val (.ref b53), .val .null, .val (.ref b67)] [(.int (1 : Int32))])) t
        refine XS.goto X77.here hx rfl (pc0 := 295) (pc' := 299) rfl (hb hby at_295) (by decide) (by decide) ?_
        show Steps p.tables e below (T77.setTop (mkF m 299 #[.val (.int p0), .val (.int p1), .val (.int p2), .val (.int p3), .val (.int p4), .val (.int p5), .val (.int (0 : Int32)), .val (.int v2), .val (.int (1 : Int32)), .val (.ref b53), .val .null, .val (.ref b67)] [(.int (1 : Int32))])) t
        exact k
      exact Own.retN hR X77 hx (t := .boolean) hret (by simp) (hb hby at_299) (by decide) (by decide) (by decide) ⟨rfl, N77⟩
  · obtain ⟨v79, hv79⟩ : ∃ z : Int32, z = (p4 &&& (3 : Int32)) := ⟨_, rfl⟩
    obtain ⟨G, hG, hG4⟩ := own_g0 hv79
    refine hD _ (s₁.setTop (mkF m 39 #[.val (.int p0), .val (.int p1), .val (.int p2), .val (.int p3), .val (.int p4), .val (.int p5), .val (.int (1 : Int32)), .val (.int v79), .unset, .unset, .unset, .unset] [(.int (p5 &&& (16 : Int32)))])) (fun t k => ?_) ?_
    · show Steps p.tables e below (s₁.setTop (mkF m 4 #[.val (.int p0), .val (.int p1), .val (.int p2), .val (.int p3), .val (.int p4), .val (.int p5), .unset, .unset, .unset, .unset, .unset, .unset] [(.int (p4 &&& (4 : Int32)))])) t
      refine XS.ifNo X0.here hx rfl (hb hby at_4) rfl ((if0 _ _).trans (feq hc1).1) ?_
      show Steps p.tables e below (s₁.setTop (mkF m 7 #[.val (.int p0), .val (.int p1), .val (.int p2), .val (.int p3), .val (.int p4), .val (.int p5), .unset, .unset, .unset, .unset, .unset, .unset] [])) t
      refine XS.iconst X0.here hx rfl (hb hby at_7) ?_
      show Steps p.tables e below (s₁.setTop (mkF m 8 #[.val (.int p0), .val (.int p1), .val (.int p2), .val (.int p3), .val (.int p4), .val (.int p5), .unset, .unset, .unset, .unset, .unset, .unset] [(.int (1 : Int32))])) t
      refine XS.goto X0.here hx rfl (pc0 := 8) (pc' := 12) rfl (hb hby at_8) (by decide) (by decide) ?_
      show Steps p.tables e below (s₁.setTop (mkF m 12 #[.val (.int p0), .val (.int p1), .val (.int p2), .val (.int p3), .val (.int p4), .val (.int p5), .unset, .unset, .unset, .unset, .unset, .unset] [(.int (1 : Int32))])) t
      refine XS.istore X0.here hx rfl (hb hby at_12) rfl (l' := #[.val (.int p0), .val (.int p1), .val (.int p2), .val (.int p3), .val (.int p4), .val (.int p5), .val (.int (1 : Int32)), .unset, .unset, .unset, .unset, .unset]) rfl ?_
      show Steps p.tables e below (s₁.setTop (mkF m 14 #[.val (.int p0), .val (.int p1), .val (.int p2), .val (.int p3), .val (.int p4), .val (.int p5), .val (.int (1 : Int32)), .unset, .unset, .unset, .unset, .unset] [])) t
      refine XS.iload X0.here hx rfl (hb hby at_14) rfl ?_
      show Steps p.tables e below (s₁.setTop (mkF m 16 #[.val (.int p0), .val (.int p1), .val (.int p2), .val (.int p3), .val (.int p4), .val (.int p5), .val (.int (1 : Int32)), .unset, .unset, .unset, .unset, .unset] [(.int (1 : Int32))])) t
      refine XS.ifNo X0.here hx rfl (hb hby at_16) rfl (by decide) ?_
      show Steps p.tables e below (s₁.setTop (mkF m 19 #[.val (.int p0), .val (.int p1), .val (.int p2), .val (.int p3), .val (.int p4), .val (.int p5), .val (.int (1 : Int32)), .unset, .unset, .unset, .unset, .unset] [])) t
      refine XS.iload X0.here hx rfl (hb hby at_19) rfl ?_
      show Steps p.tables e below (s₁.setTop (mkF m 21 #[.val (.int p0), .val (.int p1), .val (.int p2), .val (.int p3), .val (.int p4), .val (.int p5), .val (.int (1 : Int32)), .unset, .unset, .unset, .unset, .unset] [(.int p4)])) t
      refine XS.iconst X0.here hx rfl (hb hby at_21) ?_
      show Steps p.tables e below (s₁.setTop (mkF m 22 #[.val (.int p0), .val (.int p1), .val (.int p2), .val (.int p3), .val (.int p4), .val (.int p5), .val (.int (1 : Int32)), .unset, .unset, .unset, .unset, .unset] [(.int (3 : Int32)), (.int p4)])) t
      refine XS.iand X0.here hx rfl (hb hby at_22) rfl ?_
      show Steps p.tables e below (s₁.setTop (mkF m 23 #[.val (.int p0), .val (.int p1), .val (.int p2), .val (.int p3), .val (.int p4), .val (.int p5), .val (.int (1 : Int32)), .unset, .unset, .unset, .unset, .unset] [(.int (p4 &&& (3 : Int32)))])) t
      refine XS.goto X0.here hx rfl (pc0 := 23) (pc' := 32) rfl (hb hby at_23) (by decide) (by decide) ?_
      show Steps p.tables e below (s₁.setTop (mkF m 32 #[.val (.int p0), .val (.int p1), .val (.int p2), .val (.int p3), .val (.int p4), .val (.int p5), .val (.int (1 : Int32)), .unset, .unset, .unset, .unset, .unset] [(.int (p4 &&& (3 : Int32)))])) t
      refine Own.nmI hv79 ?_
      show Steps p.tables e below (s₁.setTop (mkF m 32 #[.val (.int p0), .val (.int p1), .val (.int p2), .val (.int p3), .val (.int p4), .val (.int p5), .val (.int (1 : Int32)), .unset, .unset, .unset, .unset, .unset] [(.int v79)])) t
      refine XS.istore X0.here hx rfl (hb hby at_32) rfl (l' := #[.val (.int p0), .val (.int p1), .val (.int p2), .val (.int p3), .val (.int p4), .val (.int p5), .val (.int (1 : Int32)), .val (.int v79), .unset, .unset, .unset, .unset]) rfl ?_
      show Steps p.tables e below (s₁.setTop (mkF m 34 #[.val (.int p0), .val (.int p1), .val (.int p2), .val (.int p3), .val (.int p4), .val (.int p5), .val (.int (1 : Int32)), .val (.int v79), .unset, .unset, .unset, .unset] [])) t
      refine XS.iload X0.here hx rfl (hb hby at_34) rfl ?_
      show Steps p.tables e below (s₁.setTop (mkF m 36 #[.val (.int p0), .val (.int p1), .val (.int p2), .val (.int p3), .val (.int p4), .val (.int p5), .val (.int (1 : Int32)), .val (.int v79), .unset, .unset, .unset, .unset] [(.int p5)])) t
      refine XS.bipush X0.here hx rfl (hb hby at_36) ?_
      show Steps p.tables e below (s₁.setTop (mkF m 38 #[.val (.int p0), .val (.int p1), .val (.int p2), .val (.int p3), .val (.int p4), .val (.int p5), .val (.int (1 : Int32)), .val (.int v79), .unset, .unset, .unset, .unset] [(.int (16 : Int32)), (.int p5)])) t
      refine XS.iand X0.here hx rfl (hb hby at_38) rfl ?_
      show Steps p.tables e below (s₁.setTop (mkF m 39 #[.val (.int p0), .val (.int p1), .val (.int p2), .val (.int p3), .val (.int p4), .val (.int p5), .val (.int (1 : Int32)), .val (.int v79), .unset, .unset, .unset, .unset] [(.int (p5 &&& (16 : Int32)))])) t
      exact k
    by_cases hc80 : (p5 &&& (16 : Int32)) = (0 : Int32)
    · obtain ⟨T81, h81, k81, X81, e81, E81, A81, st81⟩ := newP X0 hx hZ (hw _ (List.mem_of_getElem? (i := 0) rfl)) e0 (g := (mkF m 55 #[.val (.int p0), .val (.int p1), .val (.int p2), .val (.int p3), .val (.int p4), .val (.int p5), .val (.int (1 : Int32)), .val (.int v79), .val (.int (0 : Int32)), .unset, .unset, .unset] [(.int (0 : Int32))])) rfl (hb hby at_55) rfl (by decide) (cap := 0) (by decide) (by decide) (by decide) (by decide)
      obtain ⟨b81, g_b81⟩ : ∃ z : Nat, z = h0.size := ⟨_, rfl⟩
      rw [← g_b81] at A81 st81
      have g0_b81 : n0 ≤ b81 := by rw [g_b81]; exact Z0
      have f82 : Own.AvI Z h81 b81 .int 0 (fun _ => 0) := Own.AvI.new A81 (by decide) rfl
      have Z81 : n0 ≤ h81.size := Nat.le_trans Z0 E81.1
      obtain ⟨T83, h83, k83, X83, e83, E83, A83, st83⟩ := newP X81 hx hZ (hw _ (List.mem_of_getElem? (i := 2) rfl)) e81 (g := (mkF m 69 #[.val (.int p0), .val (.int p1), .val (.int p2), .val (.int p3), .val (.int p4), .val (.int p5), .val (.int (1 : Int32)), .val (.int v79), .val (.int (0 : Int32)), .val (.ref b81), .unset, .unset] [(.int (0 : Int32))])) rfl (hb hby at_69) rfl (by decide) (cap := 0) (by decide) (by decide) (by decide) (by decide)
      obtain ⟨b83, g_b83⟩ : ∃ z : Nat, z = h81.size := ⟨_, rfl⟩
      rw [← g_b83] at A83 st83
      have lt_b81_b83 : (b81 : Nat) < b83 := by rw [g_b83]; exact f82.lt
      have g0_b83 : n0 ≤ b83 := by rw [g_b83]; exact Z81
      have f84 : Own.AvI Z h83 b81 .int 0 (fun _ => 0) := f82.ext E83
      have f85 : Own.AvI Z h83 b83 .boolean 0 (fun _ => 0) := Own.AvI.new A83 (by decide) rfl
      have Z83 : n0 ≤ h83.size := Nat.le_trans Z81 E83.1
      have hf : ∀ i, i < 0 → 0 ≤ ((fun _ => 0 : Nat → Int32) i).toInt ∧ ((fun _ => 0 : Nat → Int32) i).toInt < G := fun i hi => by omega
      obtain ⟨T86, _, L86, X86, ⟨b86, rfl, Nq86, A86, B86, C86⟩, st86⟩ := Own.callS (y := (⟨"com/example/schedulens/schedulens/Positions", "groupStarts", "([II[Z)[I"⟩ : MethodName)) (W := 0) (argsL := [(.ref b81), (.int v79), (.ref b83)]) (rest := []) X83 hx hZ hown (hw _ (List.mem_of_getElem? (i := 3) rfl)) (hw _ (List.mem_of_getElem? (i := 4) rfl)) (hw _ (List.mem_of_getElem? (i := 5) rfl)) (hw _ (List.mem_of_getElem? (i := 6) rfl)) (by decide) e83 (rm11 l Z a0 hw [] b81 v79 b83 0 G (fun _ => 0) (fun _ => 0) h83 n0 Z83 (by decide) hG hG4 hf f84 f85) (by decide) (by decide) (by decide) (by decide) (g := (mkF m 212 #[.val (.int p0), .val (.int p1), .val (.int p2), .val (.int p3), .val (.int p4), .val (.int p5), .val (.int (1 : Int32)), .val (.int v79), .val (.int (0 : Int32)), .val (.ref b81), .val (.ref b83), .unset] [(.ref b83), (.int v79), (.ref b81)])) rfl (by rw [hml]; rfl) (lenOf pd_1 rfl) rfl (by show 2 * 0 + _ ≤ _; exact Nat.le_of_eq rfl) (hb hby at_212)
      have N86 := Fr.app N0 Nq86
      refine hD _ (T86.setTop (mkF m 224 #[.val (.int p0), .val (.int p1), .val (.int p2), .val (.int p3), .val (.int p4), .val (.int p5), .val (.int (1 : Int32)), .val (.int v79), .val (.int (0 : Int32)), .val (.ref b81), .val (.ref b83), .val (.ref b86)] [(.int (v79 + (1 : Int32))), (.int (Int32.ofNat (G + 1)))])) (fun t k => ?_) ?_
      · show Steps p.tables e below (s₁.setTop (mkF m 39 #[.val (.int p0), .val (.int p1), .val (.int p2), .val (.int p3), .val (.int p4), .val (.int p5), .val (.int (1 : Int32)), .val (.int v79), .unset, .unset, .unset, .unset] [(.int (p5 &&& (16 : Int32)))])) t
        refine XS.ifYes X0.here hx rfl (pc0 := 39) (pc' := 46) rfl (hb hby at_39) rfl ((if0 _ _).trans (teq hc80).1) (by decide) (by decide) ?_
        show Steps p.tables e below (s₁.setTop (mkF m 46 #[.val (.int p0), .val (.int p1), .val (.int p2), .val (.int p3), .val (.int p4), .val (.int p5), .val (.int (1 : Int32)), .val (.int v79), .unset, .unset, .unset, .unset] [])) t
        refine XS.iconst X0.here hx rfl (hb hby at_46) ?_
        show Steps p.tables e below (s₁.setTop (mkF m 47 #[.val (.int p0), .val (.int p1), .val (.int p2), .val (.int p3), .val (.int p4), .val (.int p5), .val (.int (1 : Int32)), .val (.int v79), .unset, .unset, .unset, .unset] [(.int (0 : Int32))])) t
        refine XS.istore X0.here hx rfl (hb hby at_47) rfl (l' := #[.val (.int p0), .val (.int p1), .val (.int p2), .val (.int p3), .val (.int p4), .val (.int p5), .val (.int (1 : Int32)), .val (.int v79), .val (.int (0 : Int32)), .unset, .unset, .unset]) rfl ?_
        show Steps p.tables e below (s₁.setTop (mkF m 49 #[.val (.int p0), .val (.int p1), .val (.int p2), .val (.int p3), .val (.int p4), .val (.int p5), .val (.int (1 : Int32)), .val (.int v79), .val (.int (0 : Int32)), .unset, .unset, .unset] [])) t
        refine XS.iload X0.here hx rfl (hb hby at_49) rfl ?_
        show Steps p.tables e below (s₁.setTop (mkF m 51 #[.val (.int p0), .val (.int p1), .val (.int p2), .val (.int p3), .val (.int p4), .val (.int p5), .val (.int (1 : Int32)), .val (.int v79), .val (.int (0 : Int32)), .unset, .unset, .unset] [(.int (1 : Int32))])) t
        refine XS.ifNo X0.here hx rfl (hb hby at_51) rfl (by decide) ?_
        show Steps p.tables e below (s₁.setTop (mkF m 54 #[.val (.int p0), .val (.int p1), .val (.int p2), .val (.int p3), .val (.int p4), .val (.int p5), .val (.int (1 : Int32)), .val (.int v79), .val (.int (0 : Int32)), .unset, .unset, .unset] [])) t
        refine XS.iconst X0.here hx rfl (hb hby at_54) ?_
        show Steps p.tables e below (s₁.setTop (mkF m 55 #[.val (.int p0), .val (.int p1), .val (.int p2), .val (.int p3), .val (.int p4), .val (.int p5), .val (.int (1 : Int32)), .val (.int v79), .val (.int (0 : Int32)), .unset, .unset, .unset] [(.int (0 : Int32))])) t
        refine st81 _ ?_
        show Steps p.tables e below (T81.setTop (mkF m 57 #[.val (.int p0), .val (.int p1), .val (.int p2), .val (.int p3), .val (.int p4), .val (.int p5), .val (.int (1 : Int32)), .val (.int v79), .val (.int (0 : Int32)), .unset, .unset, .unset] [(.ref b81)])) t
        refine XS.astore X81.here hx rfl (hb hby at_57) rfl rfl (l' := #[.val (.int p0), .val (.int p1), .val (.int p2), .val (.int p3), .val (.int p4), .val (.int p5), .val (.int (1 : Int32)), .val (.int v79), .val (.int (0 : Int32)), .val (.ref b81), .unset, .unset]) rfl ?_
        show Steps p.tables e below (T81.setTop (mkF m 59 #[.val (.int p0), .val (.int p1), .val (.int p2), .val (.int p3), .val (.int p4), .val (.int p5), .val (.int (1 : Int32)), .val (.int v79), .val (.int (0 : Int32)), .val (.ref b81), .unset, .unset] [])) t
        refine XS.iload X81.here hx rfl (hb hby at_59) rfl ?_
        show Steps p.tables e below (T81.setTop (mkF m 61 #[.val (.int p0), .val (.int p1), .val (.int p2), .val (.int p3), .val (.int p4), .val (.int p5), .val (.int (1 : Int32)), .val (.int v79), .val (.int (0 : Int32)), .val (.ref b81), .unset, .unset] [(.int (0 : Int32))])) t
        refine XS.ifYes X81.here hx rfl (pc0 := 61) (pc' := 68) rfl (hb hby at_61) rfl (by decide) (by decide) (by decide) ?_
        show Steps p.tables e below (T81.setTop (mkF m 68 #[.val (.int p0), .val (.int p1), .val (.int p2), .val (.int p3), .val (.int p4), .val (.int p5), .val (.int (1 : Int32)), .val (.int v79), .val (.int (0 : Int32)), .val (.ref b81), .unset, .unset] [])) t
        refine XS.iconst X81.here hx rfl (hb hby at_68) ?_
        show Steps p.tables e below (T81.setTop (mkF m 69 #[.val (.int p0), .val (.int p1), .val (.int p2), .val (.int p3), .val (.int p4), .val (.int p5), .val (.int (1 : Int32)), .val (.int v79), .val (.int (0 : Int32)), .val (.ref b81), .unset, .unset] [(.int (0 : Int32))])) t
        refine st83 _ ?_
        show Steps p.tables e below (T83.setTop (mkF m 71 #[.val (.int p0), .val (.int p1), .val (.int p2), .val (.int p3), .val (.int p4), .val (.int p5), .val (.int (1 : Int32)), .val (.int v79), .val (.int (0 : Int32)), .val (.ref b81), .unset, .unset] [(.ref b83)])) t
        refine XS.astore X83.here hx rfl (hb hby at_71) rfl rfl (l' := #[.val (.int p0), .val (.int p1), .val (.int p2), .val (.int p3), .val (.int p4), .val (.int p5), .val (.int (1 : Int32)), .val (.int v79), .val (.int (0 : Int32)), .val (.ref b81), .val (.ref b83), .unset]) rfl ?_
        show Steps p.tables e below (T83.setTop (mkF m 73 #[.val (.int p0), .val (.int p1), .val (.int p2), .val (.int p3), .val (.int p4), .val (.int p5), .val (.int (1 : Int32)), .val (.int v79), .val (.int (0 : Int32)), .val (.ref b81), .val (.ref b83), .unset] [])) t
        refine XS.goto X83.here hx rfl (pc0 := 73) (pc' := 206) rfl (hb hby at_73) (by decide) (by decide) ?_
        show Steps p.tables e below (T83.setTop (mkF m 206 #[.val (.int p0), .val (.int p1), .val (.int p2), .val (.int p3), .val (.int p4), .val (.int p5), .val (.int (1 : Int32)), .val (.int v79), .val (.int (0 : Int32)), .val (.ref b81), .val (.ref b83), .unset] [])) t
        refine XS.aload X83.here hx rfl (hb hby at_206) rfl rfl ?_
        show Steps p.tables e below (T83.setTop (mkF m 208 #[.val (.int p0), .val (.int p1), .val (.int p2), .val (.int p3), .val (.int p4), .val (.int p5), .val (.int (1 : Int32)), .val (.int v79), .val (.int (0 : Int32)), .val (.ref b81), .val (.ref b83), .unset] [(.ref b81)])) t
        refine XS.iload X83.here hx rfl (hb hby at_208) rfl ?_
        show Steps p.tables e below (T83.setTop (mkF m 210 #[.val (.int p0), .val (.int p1), .val (.int p2), .val (.int p3), .val (.int p4), .val (.int p5), .val (.int (1 : Int32)), .val (.int v79), .val (.int (0 : Int32)), .val (.ref b81), .val (.ref b83), .unset] [(.int v79), (.ref b81)])) t
        refine XS.aload X83.here hx rfl (hb hby at_210) rfl rfl ?_
        show Steps p.tables e below (T83.setTop (mkF m 212 #[.val (.int p0), .val (.int p1), .val (.int p2), .val (.int p3), .val (.int p4), .val (.int p5), .val (.int (1 : Int32)), .val (.int v79), .val (.int (0 : Int32)), .val (.ref b81), .val (.ref b83), .unset] [(.ref b83), (.int v79), (.ref b81)])) t
        refine st86 _ ?_
        show Steps p.tables e below (T86.setTop (mkF m 215 #[.val (.int p0), .val (.int p1), .val (.int p2), .val (.int p3), .val (.int p4), .val (.int p5), .val (.int (1 : Int32)), .val (.int v79), .val (.int (0 : Int32)), .val (.ref b81), .val (.ref b83), .unset] [(.ref b86)])) t
        refine XS.astore X86.here hx rfl (hb hby at_215) rfl rfl (l' := #[.val (.int p0), .val (.int p1), .val (.int p2), .val (.int p3), .val (.int p4), .val (.int p5), .val (.int (1 : Int32)), .val (.int v79), .val (.int (0 : Int32)), .val (.ref b81), .val (.ref b83), .val (.ref b86)]) rfl ?_
        show Steps p.tables e below (T86.setTop (mkF m 217 #[.val (.int p0), .val (.int p1), .val (.int p2), .val (.int p3), .val (.int p4), .val (.int p5), .val (.int (1 : Int32)), .val (.int v79), .val (.int (0 : Int32)), .val (.ref b81), .val (.ref b83), .val (.ref b86)] [])) t
        refine XS.aload X86.here hx rfl (hb hby at_217) rfl rfl ?_
        show Steps p.tables e below (T86.setTop (mkF m 219 #[.val (.int p0), .val (.int p1), .val (.int p2), .val (.int p3), .val (.int p4), .val (.int p5), .val (.int (1 : Int32)), .val (.int v79), .val (.int (0 : Int32)), .val (.ref b81), .val (.ref b83), .val (.ref b86)] [(.ref b86)])) t
        refine Own.lenI X86 hx hZ rfl A86 (g := (mkF m 219 #[.val (.int p0), .val (.int p1), .val (.int p2), .val (.int p3), .val (.int p4), .val (.int p5), .val (.int (1 : Int32)), .val (.int v79), .val (.int (0 : Int32)), .val (.ref b81), .val (.ref b83), .val (.ref b86)] [(.ref b86)])) rfl rfl (hb hby at_219) _ ?_
        show Steps p.tables e below (T86.setTop (mkF m 220 #[.val (.int p0), .val (.int p1), .val (.int p2), .val (.int p3), .val (.int p4), .val (.int p5), .val (.int (1 : Int32)), .val (.int v79), .val (.int (0 : Int32)), .val (.ref b81), .val (.ref b83), .val (.ref b86)] [(.int (Int32.ofNat (G + 1)))])) t
        refine XS.iload X86.here hx rfl (hb hby at_220) rfl ?_
        show Steps p.tables e below (T86.setTop (mkF m 222 #[.val (.int p0), .val (.int p1), .val (.int p2), .val (.int p3), .val (.int p4), .val (.int p5), .val (.int (1 : Int32)), .val (.int v79), .val (.int (0 : Int32)), .val (.ref b81), .val (.ref b83), .val (.ref b86)] [(.int v79), (.int (Int32.ofNat (G + 1)))])) t
        refine XS.iconst X86.here hx rfl (hb hby at_222) ?_
        show Steps p.tables e below (T86.setTop (mkF m 223 #[.val (.int p0), .val (.int p1), .val (.int p2), .val (.int p3), .val (.int p4), .val (.int p5), .val (.int (1 : Int32)), .val (.int v79), .val (.int (0 : Int32)), .val (.ref b81), .val (.ref b83), .val (.ref b86)] [(.int (1 : Int32)), (.int v79), (.int (Int32.ofNat (G + 1)))])) t
        refine XS.iadd X86.here hx rfl (hb hby at_223) rfl ?_
        show Steps p.tables e below (T86.setTop (mkF m 224 #[.val (.int p0), .val (.int p1), .val (.int p2), .val (.int p3), .val (.int p4), .val (.int p5), .val (.int (1 : Int32)), .val (.int v79), .val (.int (0 : Int32)), .val (.ref b81), .val (.ref b83), .val (.ref b86)] [(.int (v79 + (1 : Int32))), (.int (Int32.ofNat (G + 1)))])) t
        exact k
      have hc87 : (Int32.ofNat (G + 1)) = (v79 + (1 : Int32)) := by rw [own_eq, own_p1 hG (by omega), own_oi (by omega)]
      obtain ⟨T88, _, L88, X88, ⟨rfl, Nq88, e88⟩, st88⟩ := Own.callS (y := (⟨"com/example/schedulens/schedulens/PositionsGroupStartsPinLaw", "check", "([I[I[ZI)Z"⟩ : MethodName)) (W := 0) (argsL := [(.ref b86), (.ref b81), (.ref b83), (.int (0 : Int32))]) (rest := []) X86 hx hZ hown (hw _ (List.mem_of_getElem? (i := 7) rfl)) (hw _ (List.mem_of_getElem? (i := 8) rfl)) (hw _ (List.mem_of_getElem? (i := 9) rfl)) (hw _ (List.mem_of_getElem? (i := 10) rfl)) (by decide) rfl (rm13 l Z a0 hw [] b86 b81 b83 (0 : Int32) (G + 1) 0 (own_s (own_c (fun _ => 0) (own_kb (fun _ => 0)) 0) G) (fun _ => 0) (fun _ => 0) T86.heap n0 (by omega) (by decide) (by decide) A86 B86 C86) (by decide) (by decide) (by decide) (by decide) (g := (mkF m 236 #[.val (.int p0), .val (.int p1), .val (.int p2), .val (.int p3), .val (.int p4), .val (.int p5), .val (.int (1 : Int32)), .val (.int v79), .val (.int (0 : Int32)), .val (.ref b81), .val (.ref b83), .val (.ref b86)] [(.int (0 : Int32)), (.ref b83), (.ref b81), (.ref b86)])) rfl (by rw [hml]; rfl) (lenOf pd_2 rfl) rfl (by show 2 * 0 + _ ≤ _; exact Nat.le_of_eq rfl) (hb hby at_236)
      have N88 := Fr.app N86 Nq88
      refine hD _ (T88.setTop (mkF m 239 #[.val (.int p0), .val (.int p1), .val (.int p2), .val (.int p3), .val (.int p4), .val (.int p5), .val (.int (1 : Int32)), .val (.int v79), .val (.int (0 : Int32)), .val (.ref b81), .val (.ref b83), .val (.ref b86)] [(.int (Own.b2i (own_ck (own_s (own_c (fun _ => 0) (own_kb (fun _ => 0)) 0) G) (G + 1) (fun _ => 0) (own_kb (fun _ => 0)) 0 (0 : Int32))))])) (fun t k => ?_) ?_
      · show Steps p.tables e below (T86.setTop (mkF m 224 #[.val (.int p0), .val (.int p1), .val (.int p2), .val (.int p3), .val (.int p4), .val (.int p5), .val (.int (1 : Int32)), .val (.int v79), .val (.int (0 : Int32)), .val (.ref b81), .val (.ref b83), .val (.ref b86)] [(.int (v79 + (1 : Int32))), (.int (Int32.ofNat (G + 1)))])) t
        refine XS.icmpYes X86.here hx rfl (pc0 := 224) (pc' := 229) rfl (hb hby at_224) rfl (teq hc87).1 (by decide) (by decide) ?_
        show Steps p.tables e below (T86.setTop (mkF m 229 #[.val (.int p0), .val (.int p1), .val (.int p2), .val (.int p3), .val (.int p4), .val (.int p5), .val (.int (1 : Int32)), .val (.int v79), .val (.int (0 : Int32)), .val (.ref b81), .val (.ref b83), .val (.ref b86)] [])) t
        refine XS.aload X86.here hx rfl (hb hby at_229) rfl rfl ?_
        show Steps p.tables e below (T86.setTop (mkF m 231 #[.val (.int p0), .val (.int p1), .val (.int p2), .val (.int p3), .val (.int p4), .val (.int p5), .val (.int (1 : Int32)), .val (.int v79), .val (.int (0 : Int32)), .val (.ref b81), .val (.ref b83), .val (.ref b86)] [(.ref b86)])) t
        refine XS.aload X86.here hx rfl (hb hby at_231) rfl rfl ?_
        show Steps p.tables e below (T86.setTop (mkF m 233 #[.val (.int p0), .val (.int p1), .val (.int p2), .val (.int p3), .val (.int p4), .val (.int p5), .val (.int (1 : Int32)), .val (.int v79), .val (.int (0 : Int32)), .val (.ref b81), .val (.ref b83), .val (.ref b86)] [(.ref b81), (.ref b86)])) t
        refine XS.aload X86.here hx rfl (hb hby at_233) rfl rfl ?_
        show Steps p.tables e below (T86.setTop (mkF m 235 #[.val (.int p0), .val (.int p1), .val (.int p2), .val (.int p3), .val (.int p4), .val (.int p5), .val (.int (1 : Int32)), .val (.int v79), .val (.int (0 : Int32)), .val (.ref b81), .val (.ref b83), .val (.ref b86)] [(.ref b83), (.ref b81), (.ref b86)])) t
        refine XS.iconst X86.here hx rfl (hb hby at_235) ?_
        show Steps p.tables e below (T86.setTop (mkF m 236 #[.val (.int p0), .val (.int p1), .val (.int p2), .val (.int p3), .val (.int p4), .val (.int p5), .val (.int (1 : Int32)), .val (.int v79), .val (.int (0 : Int32)), .val (.ref b81), .val (.ref b83), .val (.ref b86)] [(.int (0 : Int32)), (.ref b83), (.ref b81), (.ref b86)])) t
        refine st88 _ ?_
        show Steps p.tables e below (T88.setTop (mkF m 239 #[.val (.int p0), .val (.int p1), .val (.int p2), .val (.int p3), .val (.int p4), .val (.int p5), .val (.int (1 : Int32)), .val (.int v79), .val (.int (0 : Int32)), .val (.ref b81), .val (.ref b83), .val (.ref b86)] [(.int (Own.b2i (own_ck (own_s (own_c (fun _ => 0) (own_kb (fun _ => 0)) 0) G) (G + 1) (fun _ => 0) (own_kb (fun _ => 0)) 0 (0 : Int32))))])) t
        exact k
      have hc89 : (own_ck (own_s (own_c (fun _ => 0) (own_kb (fun _ => 0)) 0) G) (G + 1) (fun _ => 0) (own_kb (fun _ => 0)) 0 (0 : Int32)) = true := own_main hf (by decide) hG4 (by decide)
      obtain ⟨T90, _, L90, X90, ⟨rfl, Nq90, e90⟩, st90⟩ := Own.callS (y := (⟨"com/example/schedulens/schedulens/PositionsGroupStartsPinLaw", "check", "([I[I[ZI)Z"⟩ : MethodName)) (W := 0) (argsL := [(.ref b86), (.ref b81), (.ref b83), (.int (1 : Int32))]) (rest := []) X88 hx hZ hown (hw _ (List.mem_of_getElem? (i := 7) rfl)) (hw _ (List.mem_of_getElem? (i := 8) rfl)) (hw _ (List.mem_of_getElem? (i := 9) rfl)) (hw _ (List.mem_of_getElem? (i := 10) rfl)) (by decide) e88 (rm13 l Z a0 hw [] b86 b81 b83 (1 : Int32) (G + 1) 0 (own_s (own_c (fun _ => 0) (own_kb (fun _ => 0)) 0) G) (fun _ => 0) (fun _ => 0) T86.heap n0 (by omega) (by decide) (by decide) A86 B86 C86) (by decide) (by decide) (by decide) (by decide) (g := (mkF m 249 #[.val (.int p0), .val (.int p1), .val (.int p2), .val (.int p3), .val (.int p4), .val (.int p5), .val (.int (1 : Int32)), .val (.int v79), .val (.int (0 : Int32)), .val (.ref b81), .val (.ref b83), .val (.ref b86)] [(.int (1 : Int32)), (.ref b83), (.ref b81), (.ref b86)])) rfl (by rw [hml]; rfl) (lenOf pd_2 rfl) rfl (by show 2 * 0 + _ ≤ _; exact Nat.le_of_eq rfl) (hb hby at_249)
      have N90 := Fr.app N88 Nq90
      refine hD _ (T90.setTop (mkF m 252 #[.val (.int p0), .val (.int p1), .val (.int p2), .val (.int p3), .val (.int p4), .val (.int p5), .val (.int (1 : Int32)), .val (.int v79), .val (.int (0 : Int32)), .val (.ref b81), .val (.ref b83), .val (.ref b86)] [(.int (Own.b2i (own_ck (own_s (own_c (fun _ => 0) (own_kb (fun _ => 0)) 0) G) (G + 1) (fun _ => 0) (own_kb (fun _ => 0)) 0 (1 : Int32))))])) (fun t k => ?_) ?_
      · show Steps p.tables e below (T88.setTop (mkF m 239 #[.val (.int p0), .val (.int p1), .val (.int p2), .val (.int p3), .val (.int p4), .val (.int p5), .val (.int (1 : Int32)), .val (.int v79), .val (.int (0 : Int32)), .val (.ref b81), .val (.ref b83), .val (.ref b86)] [(.int (Own.b2i (own_ck (own_s (own_c (fun _ => 0) (own_kb (fun _ => 0)) 0) G) (G + 1) (fun _ => 0) (own_kb (fun _ => 0)) 0 (0 : Int32))))])) t
        refine XS.ifNo X88.here hx rfl (hb hby at_239) rfl ((if0 _ _).trans (feq (fun q => Own.b2i_eq0.mp q hc89)).1) ?_
        show Steps p.tables e below (T88.setTop (mkF m 242 #[.val (.int p0), .val (.int p1), .val (.int p2), .val (.int p3), .val (.int p4), .val (.int p5), .val (.int (1 : Int32)), .val (.int v79), .val (.int (0 : Int32)), .val (.ref b81), .val (.ref b83), .val (.ref b86)] [])) t
        refine XS.aload X88.here hx rfl (hb hby at_242) rfl rfl ?_
        show Steps p.tables e below (T88.setTop (mkF m 244 #[.val (.int p0), .val (.int p1), .val (.int p2), .val (.int p3), .val (.int p4), .val (.int p5), .val (.int (1 : Int32)), .val (.int v79), .val (.int (0 : Int32)), .val (.ref b81), .val (.ref b83), .val (.ref b86)] [(.ref b86)])) t
        refine XS.aload X88.here hx rfl (hb hby at_244) rfl rfl ?_
        show Steps p.tables e below (T88.setTop (mkF m 246 #[.val (.int p0), .val (.int p1), .val (.int p2), .val (.int p3), .val (.int p4), .val (.int p5), .val (.int (1 : Int32)), .val (.int v79), .val (.int (0 : Int32)), .val (.ref b81), .val (.ref b83), .val (.ref b86)] [(.ref b81), (.ref b86)])) t
        refine XS.aload X88.here hx rfl (hb hby at_246) rfl rfl ?_
        show Steps p.tables e below (T88.setTop (mkF m 248 #[.val (.int p0), .val (.int p1), .val (.int p2), .val (.int p3), .val (.int p4), .val (.int p5), .val (.int (1 : Int32)), .val (.int v79), .val (.int (0 : Int32)), .val (.ref b81), .val (.ref b83), .val (.ref b86)] [(.ref b83), (.ref b81), (.ref b86)])) t
        refine XS.iconst X88.here hx rfl (hb hby at_248) ?_
        show Steps p.tables e below (T88.setTop (mkF m 249 #[.val (.int p0), .val (.int p1), .val (.int p2), .val (.int p3), .val (.int p4), .val (.int p5), .val (.int (1 : Int32)), .val (.int v79), .val (.int (0 : Int32)), .val (.ref b81), .val (.ref b83), .val (.ref b86)] [(.int (1 : Int32)), (.ref b83), (.ref b81), (.ref b86)])) t
        refine st90 _ ?_
        show Steps p.tables e below (T90.setTop (mkF m 252 #[.val (.int p0), .val (.int p1), .val (.int p2), .val (.int p3), .val (.int p4), .val (.int p5), .val (.int (1 : Int32)), .val (.int v79), .val (.int (0 : Int32)), .val (.ref b81), .val (.ref b83), .val (.ref b86)] [(.int (Own.b2i (own_ck (own_s (own_c (fun _ => 0) (own_kb (fun _ => 0)) 0) G) (G + 1) (fun _ => 0) (own_kb (fun _ => 0)) 0 (1 : Int32))))])) t
        exact k
      have hc91 : (own_ck (own_s (own_c (fun _ => 0) (own_kb (fun _ => 0)) 0) G) (G + 1) (fun _ => 0) (own_kb (fun _ => 0)) 0 (1 : Int32)) = true := own_main hf (by decide) hG4 (by decide)
      obtain ⟨T92, _, L92, X92, ⟨rfl, Nq92, e92⟩, st92⟩ := Own.callS (y := (⟨"com/example/schedulens/schedulens/PositionsGroupStartsPinLaw", "check", "([I[I[ZI)Z"⟩ : MethodName)) (W := 0) (argsL := [(.ref b86), (.ref b81), (.ref b83), (.int (2 : Int32))]) (rest := []) X90 hx hZ hown (hw _ (List.mem_of_getElem? (i := 7) rfl)) (hw _ (List.mem_of_getElem? (i := 8) rfl)) (hw _ (List.mem_of_getElem? (i := 9) rfl)) (hw _ (List.mem_of_getElem? (i := 10) rfl)) (by decide) e90 (rm13 l Z a0 hw [] b86 b81 b83 (2 : Int32) (G + 1) 0 (own_s (own_c (fun _ => 0) (own_kb (fun _ => 0)) 0) G) (fun _ => 0) (fun _ => 0) T86.heap n0 (by omega) (by decide) (by decide) A86 B86 C86) (by decide) (by decide) (by decide) (by decide) (g := (mkF m 262 #[.val (.int p0), .val (.int p1), .val (.int p2), .val (.int p3), .val (.int p4), .val (.int p5), .val (.int (1 : Int32)), .val (.int v79), .val (.int (0 : Int32)), .val (.ref b81), .val (.ref b83), .val (.ref b86)] [(.int (2 : Int32)), (.ref b83), (.ref b81), (.ref b86)])) rfl (by rw [hml]; rfl) (lenOf pd_2 rfl) rfl (by show 2 * 0 + _ ≤ _; exact Nat.le_of_eq rfl) (hb hby at_262)
      have N92 := Fr.app N90 Nq92
      refine hD _ (T92.setTop (mkF m 265 #[.val (.int p0), .val (.int p1), .val (.int p2), .val (.int p3), .val (.int p4), .val (.int p5), .val (.int (1 : Int32)), .val (.int v79), .val (.int (0 : Int32)), .val (.ref b81), .val (.ref b83), .val (.ref b86)] [(.int (Own.b2i (own_ck (own_s (own_c (fun _ => 0) (own_kb (fun _ => 0)) 0) G) (G + 1) (fun _ => 0) (own_kb (fun _ => 0)) 0 (2 : Int32))))])) (fun t k => ?_) ?_
      · show Steps p.tables e below (T90.setTop (mkF m 252 #[.val (.int p0), .val (.int p1), .val (.int p2), .val (.int p3), .val (.int p4), .val (.int p5), .val (.int (1 : Int32)), .val (.int v79), .val (.int (0 : Int32)), .val (.ref b81), .val (.ref b83), .val (.ref b86)] [(.int (Own.b2i (own_ck (own_s (own_c (fun _ => 0) (own_kb (fun _ => 0)) 0) G) (G + 1) (fun _ => 0) (own_kb (fun _ => 0)) 0 (1 : Int32))))])) t
        refine XS.ifNo X90.here hx rfl (hb hby at_252) rfl ((if0 _ _).trans (feq (fun q => Own.b2i_eq0.mp q hc91)).1) ?_
        show Steps p.tables e below (T90.setTop (mkF m 255 #[.val (.int p0), .val (.int p1), .val (.int p2), .val (.int p3), .val (.int p4), .val (.int p5), .val (.int (1 : Int32)), .val (.int v79), .val (.int (0 : Int32)), .val (.ref b81), .val (.ref b83), .val (.ref b86)] [])) t
        refine XS.aload X90.here hx rfl (hb hby at_255) rfl rfl ?_
        show Steps p.tables e below (T90.setTop (mkF m 257 #[.val (.int p0), .val (.int p1), .val (.int p2), .val (.int p3), .val (.int p4), .val (.int p5), .val (.int (1 : Int32)), .val (.int v79), .val (.int (0 : Int32)), .val (.ref b81), .val (.ref b83), .val (.ref b86)] [(.ref b86)])) t
        refine XS.aload X90.here hx rfl (hb hby at_257) rfl rfl ?_
        show Steps p.tables e below (T90.setTop (mkF m 259 #[.val (.int p0), .val (.int p1), .val (.int p2), .val (.int p3), .val (.int p4), .val (.int p5), .val (.int (1 : Int32)), .val (.int v79), .val (.int (0 : Int32)), .val (.ref b81), .val (.ref b83), .val (.ref b86)] [(.ref b81), (.ref b86)])) t
        refine XS.aload X90.here hx rfl (hb hby at_259) rfl rfl ?_
        show Steps p.tables e below (T90.setTop (mkF m 261 #[.val (.int p0), .val (.int p1), .val (.int p2), .val (.int p3), .val (.int p4), .val (.int p5), .val (.int (1 : Int32)), .val (.int v79), .val (.int (0 : Int32)), .val (.ref b81), .val (.ref b83), .val (.ref b86)] [(.ref b83), (.ref b81), (.ref b86)])) t
        refine XS.iconst X90.here hx rfl (hb hby at_261) ?_
        show Steps p.tables e below (T90.setTop (mkF m 262 #[.val (.int p0), .val (.int p1), .val (.int p2), .val (.int p3), .val (.int p4), .val (.int p5), .val (.int (1 : Int32)), .val (.int v79), .val (.int (0 : Int32)), .val (.ref b81), .val (.ref b83), .val (.ref b86)] [(.int (2 : Int32)), (.ref b83), (.ref b81), (.ref b86)])) t
        refine st92 _ ?_
        show Steps p.tables e below (T92.setTop (mkF m 265 #[.val (.int p0), .val (.int p1), .val (.int p2), .val (.int p3), .val (.int p4), .val (.int p5), .val (.int (1 : Int32)), .val (.int v79), .val (.int (0 : Int32)), .val (.ref b81), .val (.ref b83), .val (.ref b86)] [(.int (Own.b2i (own_ck (own_s (own_c (fun _ => 0) (own_kb (fun _ => 0)) 0) G) (G + 1) (fun _ => 0) (own_kb (fun _ => 0)) 0 (2 : Int32))))])) t
        exact k
      have hc93 : (own_ck (own_s (own_c (fun _ => 0) (own_kb (fun _ => 0)) 0) G) (G + 1) (fun _ => 0) (own_kb (fun _ => 0)) 0 (2 : Int32)) = true := own_main hf (by decide) hG4 (by decide)
      obtain ⟨T94, _, L94, X94, ⟨rfl, Nq94, e94⟩, st94⟩ := Own.callS (y := (⟨"com/example/schedulens/schedulens/PositionsGroupStartsPinLaw", "check", "([I[I[ZI)Z"⟩ : MethodName)) (W := 0) (argsL := [(.ref b86), (.ref b81), (.ref b83), (.int (3 : Int32))]) (rest := []) X92 hx hZ hown (hw _ (List.mem_of_getElem? (i := 7) rfl)) (hw _ (List.mem_of_getElem? (i := 8) rfl)) (hw _ (List.mem_of_getElem? (i := 9) rfl)) (hw _ (List.mem_of_getElem? (i := 10) rfl)) (by decide) e92 (rm13 l Z a0 hw [] b86 b81 b83 (3 : Int32) (G + 1) 0 (own_s (own_c (fun _ => 0) (own_kb (fun _ => 0)) 0) G) (fun _ => 0) (fun _ => 0) T86.heap n0 (by omega) (by decide) (by decide) A86 B86 C86) (by decide) (by decide) (by decide) (by decide) (g := (mkF m 275 #[.val (.int p0), .val (.int p1), .val (.int p2), .val (.int p3), .val (.int p4), .val (.int p5), .val (.int (1 : Int32)), .val (.int v79), .val (.int (0 : Int32)), .val (.ref b81), .val (.ref b83), .val (.ref b86)] [(.int (3 : Int32)), (.ref b83), (.ref b81), (.ref b86)])) rfl (by rw [hml]; rfl) (lenOf pd_2 rfl) rfl (by show 2 * 0 + _ ≤ _; exact Nat.le_of_eq rfl) (hb hby at_275)
      have N94 := Fr.app N92 Nq94
      refine hD _ (T94.setTop (mkF m 278 #[.val (.int p0), .val (.int p1), .val (.int p2), .val (.int p3), .val (.int p4), .val (.int p5), .val (.int (1 : Int32)), .val (.int v79), .val (.int (0 : Int32)), .val (.ref b81), .val (.ref b83), .val (.ref b86)] [(.int (Own.b2i (own_ck (own_s (own_c (fun _ => 0) (own_kb (fun _ => 0)) 0) G) (G + 1) (fun _ => 0) (own_kb (fun _ => 0)) 0 (3 : Int32))))])) (fun t k => ?_) ?_
      · show Steps p.tables e below (T92.setTop (mkF m 265 #[.val (.int p0), .val (.int p1), .val (.int p2), .val (.int p3), .val (.int p4), .val (.int p5), .val (.int (1 : Int32)), .val (.int v79), .val (.int (0 : Int32)), .val (.ref b81), .val (.ref b83), .val (.ref b86)] [(.int (Own.b2i (own_ck (own_s (own_c (fun _ => 0) (own_kb (fun _ => 0)) 0) G) (G + 1) (fun _ => 0) (own_kb (fun _ => 0)) 0 (2 : Int32))))])) t
        refine XS.ifNo X92.here hx rfl (hb hby at_265) rfl ((if0 _ _).trans (feq (fun q => Own.b2i_eq0.mp q hc93)).1) ?_
        show Steps p.tables e below (T92.setTop (mkF m 268 #[.val (.int p0), .val (.int p1), .val (.int p2), .val (.int p3), .val (.int p4), .val (.int p5), .val (.int (1 : Int32)), .val (.int v79), .val (.int (0 : Int32)), .val (.ref b81), .val (.ref b83), .val (.ref b86)] [])) t
        refine XS.aload X92.here hx rfl (hb hby at_268) rfl rfl ?_
        show Steps p.tables e below (T92.setTop (mkF m 270 #[.val (.int p0), .val (.int p1), .val (.int p2), .val (.int p3), .val (.int p4), .val (.int p5), .val (.int (1 : Int32)), .val (.int v79), .val (.int (0 : Int32)), .val (.ref b81), .val (.ref b83), .val (.ref b86)] [(.ref b86)])) t
        refine XS.aload X92.here hx rfl (hb hby at_270) rfl rfl ?_
        show Steps p.tables e below (T92.setTop (mkF m 272 #[.val (.int p0), .val (.int p1), .val (.int p2), .val (.int p3), .val (.int p4), .val (.int p5), .val (.int (1 : Int32)), .val (.int v79), .val (.int (0 : Int32)), .val (.ref b81), .val (.ref b83), .val (.ref b86)] [(.ref b81), (.ref b86)])) t
        refine XS.aload X92.here hx rfl (hb hby at_272) rfl rfl ?_
        show Steps p.tables e below (T92.setTop (mkF m 274 #[.val (.int p0), .val (.int p1), .val (.int p2), .val (.int p3), .val (.int p4), .val (.int p5), .val (.int (1 : Int32)), .val (.int v79), .val (.int (0 : Int32)), .val (.ref b81), .val (.ref b83), .val (.ref b86)] [(.ref b83), (.ref b81), (.ref b86)])) t
        refine XS.iconst X92.here hx rfl (hb hby at_274) ?_
        show Steps p.tables e below (T92.setTop (mkF m 275 #[.val (.int p0), .val (.int p1), .val (.int p2), .val (.int p3), .val (.int p4), .val (.int p5), .val (.int (1 : Int32)), .val (.int v79), .val (.int (0 : Int32)), .val (.ref b81), .val (.ref b83), .val (.ref b86)] [(.int (3 : Int32)), (.ref b83), (.ref b81), (.ref b86)])) t
        refine st94 _ ?_
        show Steps p.tables e below (T94.setTop (mkF m 278 #[.val (.int p0), .val (.int p1), .val (.int p2), .val (.int p3), .val (.int p4), .val (.int p5), .val (.int (1 : Int32)), .val (.int v79), .val (.int (0 : Int32)), .val (.ref b81), .val (.ref b83), .val (.ref b86)] [(.int (Own.b2i (own_ck (own_s (own_c (fun _ => 0) (own_kb (fun _ => 0)) 0) G) (G + 1) (fun _ => 0) (own_kb (fun _ => 0)) 0 (3 : Int32))))])) t
        exact k
      have hc95 : (own_ck (own_s (own_c (fun _ => 0) (own_kb (fun _ => 0)) 0) G) (G + 1) (fun _ => 0) (own_kb (fun _ => 0)) 0 (3 : Int32)) = true := own_main hf (by decide) hG4 (by decide)
      obtain ⟨T96, _, L96, X96, ⟨rfl, Nq96, e96⟩, st96⟩ := Own.callS (y := (⟨"com/example/schedulens/schedulens/PositionsGroupStartsPinLaw", "check", "([I[I[ZI)Z"⟩ : MethodName)) (W := 0) (argsL := [(.ref b86), (.ref b81), (.ref b83), (.int (4 : Int32))]) (rest := []) X94 hx hZ hown (hw _ (List.mem_of_getElem? (i := 7) rfl)) (hw _ (List.mem_of_getElem? (i := 8) rfl)) (hw _ (List.mem_of_getElem? (i := 9) rfl)) (hw _ (List.mem_of_getElem? (i := 10) rfl)) (by decide) e94 (rm13 l Z a0 hw [] b86 b81 b83 (4 : Int32) (G + 1) 0 (own_s (own_c (fun _ => 0) (own_kb (fun _ => 0)) 0) G) (fun _ => 0) (fun _ => 0) T86.heap n0 (by omega) (by decide) (by decide) A86 B86 C86) (by decide) (by decide) (by decide) (by decide) (g := (mkF m 288 #[.val (.int p0), .val (.int p1), .val (.int p2), .val (.int p3), .val (.int p4), .val (.int p5), .val (.int (1 : Int32)), .val (.int v79), .val (.int (0 : Int32)), .val (.ref b81), .val (.ref b83), .val (.ref b86)] [(.int (4 : Int32)), (.ref b83), (.ref b81), (.ref b86)])) rfl (by rw [hml]; rfl) (lenOf pd_2 rfl) rfl (by show 2 * 0 + _ ≤ _; exact Nat.le_of_eq rfl) (hb hby at_288)
      have N96 := Fr.app N94 Nq96
      refine hD _ (T96.setTop (mkF m 291 #[.val (.int p0), .val (.int p1), .val (.int p2), .val (.int p3), .val (.int p4), .val (.int p5), .val (.int (1 : Int32)), .val (.int v79), .val (.int (0 : Int32)), .val (.ref b81), .val (.ref b83), .val (.ref b86)] [(.int (Own.b2i (own_ck (own_s (own_c (fun _ => 0) (own_kb (fun _ => 0)) 0) G) (G + 1) (fun _ => 0) (own_kb (fun _ => 0)) 0 (4 : Int32))))])) (fun t k => ?_) ?_
      · show Steps p.tables e below (T94.setTop (mkF m 278 #[.val (.int p0), .val (.int p1), .val (.int p2), .val (.int p3), .val (.int p4), .val (.int p5), .val (.int (1 : Int32)), .val (.int v79), .val (.int (0 : Int32)), .val (.ref b81), .val (.ref b83), .val (.ref b86)] [(.int (Own.b2i (own_ck (own_s (own_c (fun _ => 0) (own_kb (fun _ => 0)) 0) G) (G + 1) (fun _ => 0) (own_kb (fun _ => 0)) 0 (3 : Int32))))])) t
        refine XS.ifNo X94.here hx rfl (hb hby at_278) rfl ((if0 _ _).trans (feq (fun q => Own.b2i_eq0.mp q hc95)).1) ?_
        show Steps p.tables e below (T94.setTop (mkF m 281 #[.val (.int p0), .val (.int p1), .val (.int p2), .val (.int p3), .val (.int p4), .val (.int p5), .val (.int (1 : Int32)), .val (.int v79), .val (.int (0 : Int32)), .val (.ref b81), .val (.ref b83), .val (.ref b86)] [])) t
        refine XS.aload X94.here hx rfl (hb hby at_281) rfl rfl ?_
        show Steps p.tables e below (T94.setTop (mkF m 283 #[.val (.int p0), .val (.int p1), .val (.int p2), .val (.int p3), .val (.int p4), .val (.int p5), .val (.int (1 : Int32)), .val (.int v79), .val (.int (0 : Int32)), .val (.ref b81), .val (.ref b83), .val (.ref b86)] [(.ref b86)])) t
        refine XS.aload X94.here hx rfl (hb hby at_283) rfl rfl ?_
        show Steps p.tables e below (T94.setTop (mkF m 285 #[.val (.int p0), .val (.int p1), .val (.int p2), .val (.int p3), .val (.int p4), .val (.int p5), .val (.int (1 : Int32)), .val (.int v79), .val (.int (0 : Int32)), .val (.ref b81), .val (.ref b83), .val (.ref b86)] [(.ref b81), (.ref b86)])) t
        refine XS.aload X94.here hx rfl (hb hby at_285) rfl rfl ?_
        show Steps p.tables e below (T94.setTop (mkF m 287 #[.val (.int p0), .val (.int p1), .val (.int p2), .val (.int p3), .val (.int p4), .val (.int p5), .val (.int (1 : Int32)), .val (.int v79), .val (.int (0 : Int32)), .val (.ref b81), .val (.ref b83), .val (.ref b86)] [(.ref b83), (.ref b81), (.ref b86)])) t
        refine XS.iconst X94.here hx rfl (hb hby at_287) ?_
        show Steps p.tables e below (T94.setTop (mkF m 288 #[.val (.int p0), .val (.int p1), .val (.int p2), .val (.int p3), .val (.int p4), .val (.int p5), .val (.int (1 : Int32)), .val (.int v79), .val (.int (0 : Int32)), .val (.ref b81), .val (.ref b83), .val (.ref b86)] [(.int (4 : Int32)), (.ref b83), (.ref b81), (.ref b86)])) t
        refine st96 _ ?_
        show Steps p.tables e below (T96.setTop (mkF m 291 #[.val (.int p0), .val (.int p1), .val (.int p2), .val (.int p3), .val (.int p4), .val (.int p5), .val (.int (1 : Int32)), .val (.int v79), .val (.int (0 : Int32)), .val (.ref b81), .val (.ref b83), .val (.ref b86)] [(.int (Own.b2i (own_ck (own_s (own_c (fun _ => 0) (own_kb (fun _ => 0)) 0) G) (G + 1) (fun _ => 0) (own_kb (fun _ => 0)) 0 (4 : Int32))))])) t
        exact k
      have hc97 : (own_ck (own_s (own_c (fun _ => 0) (own_kb (fun _ => 0)) 0) G) (G + 1) (fun _ => 0) (own_kb (fun _ => 0)) 0 (4 : Int32)) = true := own_main hf (by decide) hG4 (by decide)
      refine hD _ (T96.setTop (mkF m 299 #[.val (.int p0), .val (.int p1), .val (.int p2), .val (.int p3), .val (.int p4), .val (.int p5), .val (.int (1 : Int32)), .val (.int v79), .val (.int (0 : Int32)), .val (.ref b81), .val (.ref b83), .val (.ref b86)] [(.int (1 : Int32))])) (fun t k => ?_) ?_
      · show Steps p.tables e below (T96.setTop (mkF m 291 #[.val (.int p0), .val (.int p1), .val (.int p2), .val (.int p3), .val (.int p4), .val (.int p5), .val (.int (1 : Int32)), .val (.int v79), .val (.int (0 : Int32)), .val (.ref b81), .val (.ref b83), .val (.ref b86)] [(.int (Own.b2i (own_ck (own_s (own_c (fun _ => 0) (own_kb (fun _ => 0)) 0) G) (G + 1) (fun _ => 0) (own_kb (fun _ => 0)) 0 (4 : Int32))))])) t
        refine XS.ifNo X96.here hx rfl (hb hby at_291) rfl ((if0 _ _).trans (feq (fun q => Own.b2i_eq0.mp q hc97)).1) ?_
        show Steps p.tables e below (T96.setTop (mkF m 294 #[.val (.int p0), .val (.int p1), .val (.int p2), .val (.int p3), .val (.int p4), .val (.int p5), .val (.int (1 : Int32)), .val (.int v79), .val (.int (0 : Int32)), .val (.ref b81), .val (.ref b83), .val (.ref b86)] [])) t
        refine XS.iconst X96.here hx rfl (hb hby at_294) ?_
        show Steps p.tables e below (T96.setTop (mkF m 295 #[.val (.int p0), .val (.int p1), .val (.int p2), .val (.int p3), .val (.int p4), .val (.int p5), .val (.int (1 : Int32)), .val (.int v79), .val (.int (0 : Int32)), .val (.ref b81), .val (.ref b83), .val (.ref b86)] [(.int (1 : Int32))])) t
        refine XS.goto X96.here hx rfl (pc0 := 295) (pc' := 299) rfl (hb hby at_295) (by decide) (by decide) ?_
        show Steps p.tables e below (T96.setTop (mkF m 299 #[.val (.int p0), .val (.int p1), .val (.int p2), .val (.int p3), .val (.int p4), .val (.int p5), .val (.int (1 : Int32)), .val (.int v79), .val (.int (0 : Int32)), .val (.ref b81), .val (.ref b83), .val (.ref b86)] [(.int (1 : Int32))])) t
        exact k
      exact Own.retN hR X96 hx (t := .boolean) hret (by simp) (hb hby at_299) (by decide) (by decide) (by decide) ⟨rfl, N96⟩
    · obtain ⟨T98, h98, k98, X98, e98, E98, A98, st98⟩ := newP X0 hx hZ (hw _ (List.mem_of_getElem? (i := 0) rfl)) e0 (g := (mkF m 55 #[.val (.int p0), .val (.int p1), .val (.int p2), .val (.int p3), .val (.int p4), .val (.int p5), .val (.int (1 : Int32)), .val (.int v79), .val (.int (1 : Int32)), .unset, .unset, .unset] [(.int (0 : Int32))])) rfl (hb hby at_55) rfl (by decide) (cap := 0) (by decide) (by decide) (by decide) (by decide)
      obtain ⟨b98, g_b98⟩ : ∃ z : Nat, z = h0.size := ⟨_, rfl⟩
      rw [← g_b98] at A98 st98
      have g0_b98 : n0 ≤ b98 := by rw [g_b98]; exact Z0
      have f99 : Own.AvI Z h98 b98 .int 0 (fun _ => 0) := Own.AvI.new A98 (by decide) rfl
      have Z98 : n0 ≤ h98.size := Nat.le_trans Z0 E98.1
      have hf : ∀ i, i < 0 → 0 ≤ ((fun _ => 0 : Nat → Int32) i).toInt ∧ ((fun _ => 0 : Nat → Int32) i).toInt < G := fun i hi => by omega
      obtain ⟨T100, _, L100, X100, ⟨b100, rfl, Nq100, A100, B100⟩, st100⟩ := Own.callS (y := (⟨"com/example/schedulens/schedulens/Positions", "groupStarts", "([II[Z)[I"⟩ : MethodName)) (W := 0) (argsL := [(.ref b98), (.int v79), .null]) (rest := []) X98 hx hZ hown (hw _ (List.mem_of_getElem? (i := 3) rfl)) (hw _ (List.mem_of_getElem? (i := 4) rfl)) (hw _ (List.mem_of_getElem? (i := 5) rfl)) (hw _ (List.mem_of_getElem? (i := 6) rfl)) (by decide) e98 (rm1 l Z a0 hw [] b98 v79 0 G (fun _ => 0) h98 n0 Z98 (by decide) hG hG4 hf f99) (by decide) (by decide) (by decide) (by decide) (g := (mkF m 212 #[.val (.int p0), .val (.int p1), .val (.int p2), .val (.int p3), .val (.int p4), .val (.int p5), .val (.int (1 : Int32)), .val (.int v79), .val (.int (1 : Int32)), .val (.ref b98), .val .null, .unset] [.null, (.int v79), (.ref b98)])) rfl (by rw [hml]; rfl) (lenOf pd_1 rfl) rfl (by show 2 * 0 + _ ≤ _; exact Nat.le_of_eq rfl) (hb hby at_212)
      have N100 := Fr.app N0 Nq100
      refine hD _ (T100.setTop (mkF m 224 #[.val (.int p0), .val (.int p1), .val (.int p2), .val (.int p3), .val (.int p4), .val (.int p5), .val (.int (1 : Int32)), .val (.int v79), .val (.int (1 : Int32)), .val (.ref b98), .val .null, .val (.ref b100)] [(.int (v79 + (1 : Int32))), (.int (Int32.ofNat (G + 1)))])) (fun t k => ?_) ?_
      · show Steps p.tables e below (s₁.setTop (mkF m 39 #[.val (.int p0), .val (.int p1), .val (.int p2), .val (.int p3), .val (.int p4), .val (.int p5), .val (.int (1 : Int32)), .val (.int v79), .unset, .unset, .unset, .unset] [(.int (p5 &&& (16 : Int32)))])) t
        refine XS.ifNo X0.here hx rfl (hb hby at_39) rfl ((if0 _ _).trans (feq hc80).1) ?_
        show Steps p.tables e below (s₁.setTop (mkF m 42 #[.val (.int p0), .val (.int p1), .val (.int p2), .val (.int p3), .val (.int p4), .val (.int p5), .val (.int (1 : Int32)), .val (.int v79), .unset, .unset, .unset, .unset] [])) t
        refine XS.iconst X0.here hx rfl (hb hby at_42) ?_
        show Steps p.tables e below (s₁.setTop (mkF m 43 #[.val (.int p0), .val (.int p1), .val (.int p2), .val (.int p3), .val (.int p4), .val (.int p5), .val (.int (1 : Int32)), .val (.int v79), .unset, .unset, .unset, .unset] [(.int (1 : Int32))])) t
        refine XS.goto X0.here hx rfl (pc0 := 43) (pc' := 47) rfl (hb hby at_43) (by decide) (by decide) ?_
        show Steps p.tables e below (s₁.setTop (mkF m 47 #[.val (.int p0), .val (.int p1), .val (.int p2), .val (.int p3), .val (.int p4), .val (.int p5), .val (.int (1 : Int32)), .val (.int v79), .unset, .unset, .unset, .unset] [(.int (1 : Int32))])) t
        refine XS.istore X0.here hx rfl (hb hby at_47) rfl (l' := #[.val (.int p0), .val (.int p1), .val (.int p2), .val (.int p3), .val (.int p4), .val (.int p5), .val (.int (1 : Int32)), .val (.int v79), .val (.int (1 : Int32)), .unset, .unset, .unset]) rfl ?_
        show Steps p.tables e below (s₁.setTop (mkF m 49 #[.val (.int p0), .val (.int p1), .val (.int p2), .val (.int p3), .val (.int p4), .val (.int p5), .val (.int (1 : Int32)), .val (.int v79), .val (.int (1 : Int32)), .unset, .unset, .unset] [])) t
        refine XS.iload X0.here hx rfl (hb hby at_49) rfl ?_
        show Steps p.tables e below (s₁.setTop (mkF m 51 #[.val (.int p0), .val (.int p1), .val (.int p2), .val (.int p3), .val (.int p4), .val (.int p5), .val (.int (1 : Int32)), .val (.int v79), .val (.int (1 : Int32)), .unset, .unset, .unset] [(.int (1 : Int32))])) t
        refine XS.ifNo X0.here hx rfl (hb hby at_51) rfl (by decide) ?_
        show Steps p.tables e below (s₁.setTop (mkF m 54 #[.val (.int p0), .val (.int p1), .val (.int p2), .val (.int p3), .val (.int p4), .val (.int p5), .val (.int (1 : Int32)), .val (.int v79), .val (.int (1 : Int32)), .unset, .unset, .unset] [])) t
        refine XS.iconst X0.here hx rfl (hb hby at_54) ?_
        show Steps p.tables e below (s₁.setTop (mkF m 55 #[.val (.int p0), .val (.int p1), .val (.int p2), .val (.int p3), .val (.int p4), .val (.int p5), .val (.int (1 : Int32)), .val (.int v79), .val (.int (1 : Int32)), .unset, .unset, .unset] [(.int (0 : Int32))])) t
        refine st98 _ ?_
        show Steps p.tables e below (T98.setTop (mkF m 57 #[.val (.int p0), .val (.int p1), .val (.int p2), .val (.int p3), .val (.int p4), .val (.int p5), .val (.int (1 : Int32)), .val (.int v79), .val (.int (1 : Int32)), .unset, .unset, .unset] [(.ref b98)])) t
        refine XS.astore X98.here hx rfl (hb hby at_57) rfl rfl (l' := #[.val (.int p0), .val (.int p1), .val (.int p2), .val (.int p3), .val (.int p4), .val (.int p5), .val (.int (1 : Int32)), .val (.int v79), .val (.int (1 : Int32)), .val (.ref b98), .unset, .unset]) rfl ?_
        show Steps p.tables e below (T98.setTop (mkF m 59 #[.val (.int p0), .val (.int p1), .val (.int p2), .val (.int p3), .val (.int p4), .val (.int p5), .val (.int (1 : Int32)), .val (.int v79), .val (.int (1 : Int32)), .val (.ref b98), .unset, .unset] [])) t
        refine XS.iload X98.here hx rfl (hb hby at_59) rfl ?_
        show Steps p.tables e below (T98.setTop (mkF m 61 #[.val (.int p0), .val (.int p1), .val (.int p2), .val (.int p3), .val (.int p4), .val (.int p5), .val (.int (1 : Int32)), .val (.int v79), .val (.int (1 : Int32)), .val (.ref b98), .unset, .unset] [(.int (1 : Int32))])) t
        refine XS.ifNo X98.here hx rfl (hb hby at_61) rfl (by decide) ?_
        show Steps p.tables e below (T98.setTop (mkF m 64 #[.val (.int p0), .val (.int p1), .val (.int p2), .val (.int p3), .val (.int p4), .val (.int p5), .val (.int (1 : Int32)), .val (.int v79), .val (.int (1 : Int32)), .val (.ref b98), .unset, .unset] [])) t
        refine XS.aconstNull X98.here hx rfl (hb hby at_64) ?_
        show Steps p.tables e below (T98.setTop (mkF m 65 #[.val (.int p0), .val (.int p1), .val (.int p2), .val (.int p3), .val (.int p4), .val (.int p5), .val (.int (1 : Int32)), .val (.int v79), .val (.int (1 : Int32)), .val (.ref b98), .unset, .unset] [.null])) t
        refine XS.goto X98.here hx rfl (pc0 := 65) (pc' := 71) rfl (hb hby at_65) (by decide) (by decide) ?_
        show Steps p.tables e below (T98.setTop (mkF m 71 #[.val (.int p0), .val (.int p1), .val (.int p2), .val (.int p3), .val (.int p4), .val (.int p5), .val (.int (1 : Int32)), .val (.int v79), .val (.int (1 : Int32)), .val (.ref b98), .unset, .unset] [.null])) t
        refine XS.astore X98.here hx rfl (hb hby at_71) rfl rfl (l' := #[.val (.int p0), .val (.int p1), .val (.int p2), .val (.int p3), .val (.int p4), .val (.int p5), .val (.int (1 : Int32)), .val (.int v79), .val (.int (1 : Int32)), .val (.ref b98), .val .null, .unset]) rfl ?_
        show Steps p.tables e below (T98.setTop (mkF m 73 #[.val (.int p0), .val (.int p1), .val (.int p2), .val (.int p3), .val (.int p4), .val (.int p5), .val (.int (1 : Int32)), .val (.int v79), .val (.int (1 : Int32)), .val (.ref b98), .val .null, .unset] [])) t
        refine XS.goto X98.here hx rfl (pc0 := 73) (pc' := 206) rfl (hb hby at_73) (by decide) (by decide) ?_
        show Steps p.tables e below (T98.setTop (mkF m 206 #[.val (.int p0), .val (.int p1), .val (.int p2), .val (.int p3), .val (.int p4), .val (.int p5), .val (.int (1 : Int32)), .val (.int v79), .val (.int (1 : Int32)), .val (.ref b98), .val .null, .unset] [])) t
        refine XS.aload X98.here hx rfl (hb hby at_206) rfl rfl ?_
        show Steps p.tables e below (T98.setTop (mkF m 208 #[.val (.int p0), .val (.int p1), .val (.int p2), .val (.int p3), .val (.int p4), .val (.int p5), .val (.int (1 : Int32)), .val (.int v79), .val (.int (1 : Int32)), .val (.ref b98), .val .null, .unset] [(.ref b98)])) t
        refine XS.iload X98.here hx rfl (hb hby at_208) rfl ?_
        show Steps p.tables e below (T98.setTop (mkF m 210 #[.val (.int p0), .val (.int p1), .val (.int p2), .val (.int p3), .val (.int p4), .val (.int p5), .val (.int (1 : Int32)), .val (.int v79), .val (.int (1 : Int32)), .val (.ref b98), .val .null, .unset] [(.int v79), (.ref b98)])) t
        refine XS.aload X98.here hx rfl (hb hby at_210) rfl rfl ?_
        show Steps p.tables e below (T98.setTop (mkF m 212 #[.val (.int p0), .val (.int p1), .val (.int p2), .val (.int p3), .val (.int p4), .val (.int p5), .val (.int (1 : Int32)), .val (.int v79), .val (.int (1 : Int32)), .val (.ref b98), .val .null, .unset] [.null, (.int v79), (.ref b98)])) t
        refine st100 _ ?_
        show Steps p.tables e below (T100.setTop (mkF m 215 #[.val (.int p0), .val (.int p1), .val (.int p2), .val (.int p3), .val (.int p4), .val (.int p5), .val (.int (1 : Int32)), .val (.int v79), .val (.int (1 : Int32)), .val (.ref b98), .val .null, .unset] [(.ref b100)])) t
        refine XS.astore X100.here hx rfl (hb hby at_215) rfl rfl (l' := #[.val (.int p0), .val (.int p1), .val (.int p2), .val (.int p3), .val (.int p4), .val (.int p5), .val (.int (1 : Int32)), .val (.int v79), .val (.int (1 : Int32)), .val (.ref b98), .val .null, .val (.ref b100)]) rfl ?_
        show Steps p.tables e below (T100.setTop (mkF m 217 #[.val (.int p0), .val (.int p1), .val (.int p2), .val (.int p3), .val (.int p4), .val (.int p5), .val (.int (1 : Int32)), .val (.int v79), .val (.int (1 : Int32)), .val (.ref b98), .val .null, .val (.ref b100)] [])) t
        refine XS.aload X100.here hx rfl (hb hby at_217) rfl rfl ?_
        show Steps p.tables e below (T100.setTop (mkF m 219 #[.val (.int p0), .val (.int p1), .val (.int p2), .val (.int p3), .val (.int p4), .val (.int p5), .val (.int (1 : Int32)), .val (.int v79), .val (.int (1 : Int32)), .val (.ref b98), .val .null, .val (.ref b100)] [(.ref b100)])) t
        refine Own.lenI X100 hx hZ rfl A100 (g := (mkF m 219 #[.val (.int p0), .val (.int p1), .val (.int p2), .val (.int p3), .val (.int p4), .val (.int p5), .val (.int (1 : Int32)), .val (.int v79), .val (.int (1 : Int32)), .val (.ref b98), .val .null, .val (.ref b100)] [(.ref b100)])) rfl rfl (hb hby at_219) _ ?_
        show Steps p.tables e below (T100.setTop (mkF m 220 #[.val (.int p0), .val (.int p1), .val (.int p2), .val (.int p3), .val (.int p4), .val (.int p5), .val (.int (1 : Int32)), .val (.int v79), .val (.int (1 : Int32)), .val (.ref b98), .val .null, .val (.ref b100)] [(.int (Int32.ofNat (G + 1)))])) t
        refine XS.iload X100.here hx rfl (hb hby at_220) rfl ?_
        show Steps p.tables e below (T100.setTop (mkF m 222 #[.val (.int p0), .val (.int p1), .val (.int p2), .val (.int p3), .val (.int p4), .val (.int p5), .val (.int (1 : Int32)), .val (.int v79), .val (.int (1 : Int32)), .val (.ref b98), .val .null, .val (.ref b100)] [(.int v79), (.int (Int32.ofNat (G + 1)))])) t
        refine XS.iconst X100.here hx rfl (hb hby at_222) ?_
        show Steps p.tables e below (T100.setTop (mkF m 223 #[.val (.int p0), .val (.int p1), .val (.int p2), .val (.int p3), .val (.int p4), .val (.int p5), .val (.int (1 : Int32)), .val (.int v79), .val (.int (1 : Int32)), .val (.ref b98), .val .null, .val (.ref b100)] [(.int (1 : Int32)), (.int v79), (.int (Int32.ofNat (G + 1)))])) t
        refine XS.iadd X100.here hx rfl (hb hby at_223) rfl ?_
        show Steps p.tables e below (T100.setTop (mkF m 224 #[.val (.int p0), .val (.int p1), .val (.int p2), .val (.int p3), .val (.int p4), .val (.int p5), .val (.int (1 : Int32)), .val (.int v79), .val (.int (1 : Int32)), .val (.ref b98), .val .null, .val (.ref b100)] [(.int (v79 + (1 : Int32))), (.int (Int32.ofNat (G + 1)))])) t
        exact k
      have hc101 : (Int32.ofNat (G + 1)) = (v79 + (1 : Int32)) := by rw [own_eq, own_p1 hG (by omega), own_oi (by omega)]
      obtain ⟨T102, _, L102, X102, ⟨rfl, Nq102, e102⟩, st102⟩ := Own.callS (y := (⟨"com/example/schedulens/schedulens/PositionsGroupStartsPinLaw", "check", "([I[I[ZI)Z"⟩ : MethodName)) (W := 0) (argsL := [(.ref b100), (.ref b98), .null, (.int (0 : Int32))]) (rest := []) X100 hx hZ hown (hw _ (List.mem_of_getElem? (i := 7) rfl)) (hw _ (List.mem_of_getElem? (i := 8) rfl)) (hw _ (List.mem_of_getElem? (i := 9) rfl)) (hw _ (List.mem_of_getElem? (i := 10) rfl)) (by decide) rfl (rm3 l Z a0 hw [] b100 b98 (0 : Int32) (G + 1) 0 (own_s (own_c (fun _ => 0) (fun _ => true) 0) G) (fun _ => 0) T100.heap n0 (by omega) (by decide) (by decide) A100 B100) (by decide) (by decide) (by decide) (by decide) (g := (mkF m 236 #[.val (.int p0), .val (.int p1), .val (.int p2), .val (.int p3), .val (.int p4), .val (.int p5), .val (.int (1 : Int32)), .val (.int v79), .val (.int (1 : Int32)), .val (.ref b98), .val .null, .val (.ref b100)] [(.int (0 : Int32)), .null, (.ref b98), (.ref b100)])) rfl (by rw [hml]; rfl) (lenOf pd_2 rfl) rfl (by show 2 * 0 + _ ≤ _; exact Nat.le_of_eq rfl) (hb hby at_236)
      have N102 := Fr.app N100 Nq102
      refine hD _ (T102.setTop (mkF m 239 #[.val (.int p0), .val (.int p1), .val (.int p2), .val (.int p3), .val (.int p4), .val (.int p5), .val (.int (1 : Int32)), .val (.int v79), .val (.int (1 : Int32)), .val (.ref b98), .val .null, .val (.ref b100)] [(.int (Own.b2i (own_ck (own_s (own_c (fun _ => 0) (fun _ => true) 0) G) (G + 1) (fun _ => 0) (fun _ => true) 0 (0 : Int32))))])) (fun t k => ?_) ?_
      · show Steps p.tables e below (T100.setTop (mkF m 224 #[.val (.int p0), .val (.int p1), .val (.int p2), .val (.int p3), .val (.int p4), .val (.int p5), .val (.int (1 : Int32)), .val (.int v79), .val (.int (1 : Int32)), .val (.ref b98), .val .null, .val (.ref b100)] [(.int (v79 + (1 : Int32))), (.int (Int32.ofNat (G + 1)))])) t
        refine XS.icmpYes X100.here hx rfl (pc0 := 224) (pc' := 229) rfl (hb hby at_224) rfl (teq hc101).1 (by decide) (by decide) ?_
        show Steps p.tables e below (T100.setTop (mkF m 229 #[.val (.int p0), .val (.int p1), .val (.int p2), .val (.int p3), .val (.int p4), .val (.int p5), .val (.int (1 : Int32)), .val (.int v79), .val (.int (1 : Int32)), .val (.ref b98), .val .null, .val (.ref b100)] [])) t
        refine XS.aload X100.here hx rfl (hb hby at_229) rfl rfl ?_
        show Steps p.tables e below (T100.setTop (mkF m 231 #[.val (.int p0), .val (.int p1), .val (.int p2), .val (.int p3), .val (.int p4), .val (.int p5), .val (.int (1 : Int32)), .val (.int v79), .val (.int (1 : Int32)), .val (.ref b98), .val .null, .val (.ref b100)] [(.ref b100)])) t
        refine XS.aload X100.here hx rfl (hb hby at_231) rfl rfl ?_
        show Steps p.tables e below (T100.setTop (mkF m 233 #[.val (.int p0), .val (.int p1), .val (.int p2), .val (.int p3), .val (.int p4), .val (.int p5), .val (.int (1 : Int32)), .val (.int v79), .val (.int (1 : Int32)), .val (.ref b98), .val .null, .val (.ref b100)] [(.ref b98), (.ref b100)])) t
        refine XS.aload X100.here hx rfl (hb hby at_233) rfl rfl ?_
        show Steps p.tables e below (T100.setTop (mkF m 235 #[.val (.int p0), .val (.int p1), .val (.int p2), .val (.int p3), .val (.int p4), .val (.int p5), .val (.int (1 : Int32)), .val (.int v79), .val (.int (1 : Int32)), .val (.ref b98), .val .null, .val (.ref b100)] [.null, (.ref b98), (.ref b100)])) t
        refine XS.iconst X100.here hx rfl (hb hby at_235) ?_
        show Steps p.tables e below (T100.setTop (mkF m 236 #[.val (.int p0), .val (.int p1), .val (.int p2), .val (.int p3), .val (.int p4), .val (.int p5), .val (.int (1 : Int32)), .val (.int v79), .val (.int (1 : Int32)), .val (.ref b98), .val .null, .val (.ref b100)] [(.int (0 : Int32)), .null, (.ref b98), (.ref b100)])) t
        refine st102 _ ?_
        show Steps p.tables e below (T102.setTop (mkF m 239 #[.val (.int p0), .val (.int p1), .val (.int p2), .val (.int p3), .val (.int p4), .val (.int p5), .val (.int (1 : Int32)), .val (.int v79), .val (.int (1 : Int32)), .val (.ref b98), .val .null, .val (.ref b100)] [(.int (Own.b2i (own_ck (own_s (own_c (fun _ => 0) (fun _ => true) 0) G) (G + 1) (fun _ => 0) (fun _ => true) 0 (0 : Int32))))])) t
        exact k
      have hc103 : (own_ck (own_s (own_c (fun _ => 0) (fun _ => true) 0) G) (G + 1) (fun _ => 0) (fun _ => true) 0 (0 : Int32)) = true := own_main hf (by decide) hG4 (by decide)
      obtain ⟨T104, _, L104, X104, ⟨rfl, Nq104, e104⟩, st104⟩ := Own.callS (y := (⟨"com/example/schedulens/schedulens/PositionsGroupStartsPinLaw", "check", "([I[I[ZI)Z"⟩ : MethodName)) (W := 0) (argsL := [(.ref b100), (.ref b98), .null, (.int (1 : Int32))]) (rest := []) X102 hx hZ hown (hw _ (List.mem_of_getElem? (i := 7) rfl)) (hw _ (List.mem_of_getElem? (i := 8) rfl)) (hw _ (List.mem_of_getElem? (i := 9) rfl)) (hw _ (List.mem_of_getElem? (i := 10) rfl)) (by decide) e102 (rm3 l Z a0 hw [] b100 b98 (1 : Int32) (G + 1) 0 (own_s (own_c (fun _ => 0) (fun _ => true) 0) G) (fun _ => 0) T100.heap n0 (by omega) (by decide) (by decide) A100 B100) (by decide) (by decide) (by decide) (by decide) (g := (mkF m 249 #[.val (.int p0), .val (.int p1), .val (.int p2), .val (.int p3), .val (.int p4), .val (.int p5), .val (.int (1 : Int32)), .val (.int v79), .val (.int (1 : Int32)), .val (.ref b98), .val .null, .val (.ref b100)] [(.int (1 : Int32)), .null, (.ref b98), (.ref b100)])) rfl (by rw [hml]; rfl) (lenOf pd_2 rfl) rfl (by show 2 * 0 + _ ≤ _; exact Nat.le_of_eq rfl) (hb hby at_249)
      have N104 := Fr.app N102 Nq104
      refine hD _ (T104.setTop (mkF m 252 #[.val (.int p0), .val (.int p1), .val (.int p2), .val (.int p3), .val (.int p4), .val (.int p5), .val (.int (1 : Int32)), .val (.int v79), .val (.int (1 : Int32)), .val (.ref b98), .val .null, .val (.ref b100)] [(.int (Own.b2i (own_ck (own_s (own_c (fun _ => 0) (fun _ => true) 0) G) (G + 1) (fun _ => 0) (fun _ => true) 0 (1 : Int32))))])) (fun t k => ?_) ?_
      · show Steps p.tables e below (T102.setTop (mkF m 239 #[.val (.int p0), .val (.int p1), .val (.int p2), .val (.int p3), .val (.int p4), .val (.int p5), .val (.int (1 : Int32)), .val (.int v79), .val (.int (1 : Int32)), .val (.ref b98), .val .null, .val (.ref b100)] [(.int (Own.b2i (own_ck (own_s (own_c (fun _ => 0) (fun _ => true) 0) G) (G + 1) (fun _ => 0) (fun _ => true) 0 (0 : Int32))))])) t
        refine XS.ifNo X102.here hx rfl (hb hby at_239) rfl ((if0 _ _).trans (feq (fun q => Own.b2i_eq0.mp q hc103)).1) ?_
        show Steps p.tables e below (T102.setTop (mkF m 242 #[.val (.int p0), .val (.int p1), .val (.int p2), .val (.int p3), .val (.int p4), .val (.int p5), .val (.int (1 : Int32)), .val (.int v79), .val (.int (1 : Int32)), .val (.ref b98), .val .null, .val (.ref b100)] [])) t
        refine XS.aload X102.here hx rfl (hb hby at_242) rfl rfl ?_
        show Steps p.tables e below (T102.setTop (mkF m 244 #[.val (.int p0), .val (.int p1), .val (.int p2), .val (.int p3), .val (.int p4), .val (.int p5), .val (.int (1 : Int32)), .val (.int v79), .val (.int (1 : Int32)), .val (.ref b98), .val .null, .val (.ref b100)] [(.ref b100)])) t
        refine XS.aload X102.here hx rfl (hb hby at_244) rfl rfl ?_
        show Steps p.tables e below (T102.setTop (mkF m 246 #[.val (.int p0), .val (.int p1), .val (.int p2), .val (.int p3), .val (.int p4), .val (.int p5), .val (.int (1 : Int32)), .val (.int v79), .val (.int (1 : Int32)), .val (.ref b98), .val .null, .val (.ref b100)] [(.ref b98), (.ref b100)])) t
        refine XS.aload X102.here hx rfl (hb hby at_246) rfl rfl ?_
        show Steps p.tables e below (T102.setTop (mkF m 248 #[.val (.int p0), .val (.int p1), .val (.int p2), .val (.int p3), .val (.int p4), .val (.int p5), .val (.int (1 : Int32)), .val (.int v79), .val (.int (1 : Int32)), .val (.ref b98), .val .null, .val (.ref b100)] [.null, (.ref b98), (.ref b100)])) t
        refine XS.iconst X102.here hx rfl (hb hby at_248) ?_
        show Steps p.tables e below (T102.setTop (mkF m 249 #[.val (.int p0), .val (.int p1), .val (.int p2), .val (.int p3), .val (.int p4), .val (.int p5), .val (.int (1 : Int32)), .val (.int v79), .val (.int (1 : Int32)), .val (.ref b98), .val .null, .val (.ref b100)] [(.int (1 : Int32)), .null, (.ref b98), (.ref b100)])) t
        refine st104 _ ?_
        show Steps p.tables e below (T104.setTop (mkF m 252 #[.val (.int p0), .val (.int p1), .val (.int p2), .val (.int p3), .val (.int p4), .val (.int p5), .val (.int (1 : Int32)), .val (.int v79), .val (.int (1 : Int32)), .val (.ref b98), .val .null, .val (.ref b100)] [(.int (Own.b2i (own_ck (own_s (own_c (fun _ => 0) (fun _ => true) 0) G) (G + 1) (fun _ => 0) (fun _ => true) 0 (1 : Int32))))])) t
        exact k
      have hc105 : (own_ck (own_s (own_c (fun _ => 0) (fun _ => true) 0) G) (G + 1) (fun _ => 0) (fun _ => true) 0 (1 : Int32)) = true := own_main hf (by decide) hG4 (by decide)
      obtain ⟨T106, _, L106, X106, ⟨rfl, Nq106, e106⟩, st106⟩ := Own.callS (y := (⟨"com/example/schedulens/schedulens/PositionsGroupStartsPinLaw", "check", "([I[I[ZI)Z"⟩ : MethodName)) (W := 0) (argsL := [(.ref b100), (.ref b98), .null, (.int (2 : Int32))]) (rest := []) X104 hx hZ hown (hw _ (List.mem_of_getElem? (i := 7) rfl)) (hw _ (List.mem_of_getElem? (i := 8) rfl)) (hw _ (List.mem_of_getElem? (i := 9) rfl)) (hw _ (List.mem_of_getElem? (i := 10) rfl)) (by decide) e104 (rm3 l Z a0 hw [] b100 b98 (2 : Int32) (G + 1) 0 (own_s (own_c (fun _ => 0) (fun _ => true) 0) G) (fun _ => 0) T100.heap n0 (by omega) (by decide) (by decide) A100 B100) (by decide) (by decide) (by decide) (by decide) (g := (mkF m 262 #[.val (.int p0), .val (.int p1), .val (.int p2), .val (.int p3), .val (.int p4), .val (.int p5), .val (.int (1 : Int32)), .val (.int v79), .val (.int (1 : Int32)), .val (.ref b98), .val .null, .val (.ref b100)] [(.int (2 : Int32)), .null, (.ref b98), (.ref b100)])) rfl (by rw [hml]; rfl) (lenOf pd_2 rfl) rfl (by show 2 * 0 + _ ≤ _; exact Nat.le_of_eq rfl) (hb hby at_262)
      have N106 := Fr.app N104 Nq106
      refine hD _ (T106.setTop (mkF m 265 #[.val (.int p0), .val (.int p1), .val (.int p2), .val (.int p3), .val (.int p4), .val (.int p5), .val (.int (1 : Int32)), .val (.int v79), .val (.int (1 : Int32)), .val (.ref b98), .val .null, .val (.ref b100)] [(.int (Own.b2i (own_ck (own_s (own_c (fun _ => 0) (fun _ => true) 0) G) (G + 1) (fun _ => 0) (fun _ => true) 0 (2 : Int32))))])) (fun t k => ?_) ?_
      · show Steps p.tables e below (T104.setTop (mkF m 252 #[.val (.int p0), .val (.int p1), .val (.int p2), .val (.int p3), .val (.int p4), .val (.int p5), .val (.int (1 : Int32)), .val (.int v79), .val (.int (1 : Int32)), .val (.ref b98), .val .null, .val (.ref b100)] [(.int (Own.b2i (own_ck (own_s (own_c (fun _ => 0) (fun _ => true) 0) G) (G + 1) (fun _ => 0) (fun _ => true) 0 (1 : Int32))))])) t
        refine XS.ifNo X104.here hx rfl (hb hby at_252) rfl ((if0 _ _).trans (feq (fun q => Own.b2i_eq0.mp q hc105)).1) ?_
        show Steps p.tables e below (T104.setTop (mkF m 255 #[.val (.int p0), .val (.int p1), .val (.int p2), .val (.int p3), .val (.int p4), .val (.int p5), .val (.int (1 : Int32)), .val (.int v79), .val (.int (1 : Int32)), .val (.ref b98), .val .null, .val (.ref b100)] [])) t
        refine XS.aload X104.here hx rfl (hb hby at_255) rfl rfl ?_
        show Steps p.tables e below (T104.setTop (mkF m 257 #[.val (.int p0), .val (.int p1), .val (.int p2), .val (.int p3), .val (.int p4), .val (.int p5), .val (.int (1 : Int32)), .val (.int v79), .val (.int (1 : Int32)), .val (.ref b98), .val .null, .val (.ref b100)] [(.ref b100)])) t
        refine XS.aload X104.here hx rfl (hb hby at_257) rfl rfl ?_
        show Steps p.tables e below (T104.setTop (mkF m 259 #[.val (.int p0), .val (.int p1), .val (.int p2), .val (.int p3), .val (.int p4), .val (.int p5), .val (.int (1 : Int32)), .val (.int v79), .val (.int (1 : Int32)), .val (.ref b98), .val .null, .val (.ref b100)] [(.ref b98), (.ref b100)])) t
        refine XS.aload X104.here hx rfl (hb hby at_259) rfl rfl ?_
        show Steps p.tables e below (T104.setTop (mkF m 261 #[.val (.int p0), .val (.int p1), .val (.int p2), .val (.int p3), .val (.int p4), .val (.int p5), .val (.int (1 : Int32)), .val (.int v79), .val (.int (1 : Int32)), .val (.ref b98), .val .null, .val (.ref b100)] [.null, (.ref b98), (.ref b100)])) t
        refine XS.iconst X104.here hx rfl (hb hby at_261) ?_
        show Steps p.tables e below (T104.setTop (mkF m 262 #[.val (.int p0), .val (.int p1), .val (.int p2), .val (.int p3), .val (.int p4), .val (.int p5), .val (.int (1 : Int32)), .val (.int v79), .val (.int (1 : Int32)), .val (.ref b98), .val .null, .val (.ref b100)] [(.int (2 : Int32)), .null, (.ref b98), (.ref b100)])) t
        refine st106 _ ?_
        show Steps p.tables e below (T106.setTop (mkF m 265 #[.val (.int p0), .val (.int p1), .val (.int p2), .val (.int p3), .val (.int p4), .val (.int p5), .val (.int (1 : Int32)), .val (.int v79), .val (.int (1 : Int32)), .val (.ref b98), .val .null, .val (.ref b100)] [(.int (Own.b2i (own_ck (own_s (own_c (fun _ => 0) (fun _ => true) 0) G) (G + 1) (fun _ => 0) (fun _ => true) 0 (2 : Int32))))])) t
        exact k
      have hc107 : (own_ck (own_s (own_c (fun _ => 0) (fun _ => true) 0) G) (G + 1) (fun _ => 0) (fun _ => true) 0 (2 : Int32)) = true := own_main hf (by decide) hG4 (by decide)
      obtain ⟨T108, _, L108, X108, ⟨rfl, Nq108, e108⟩, st108⟩ := Own.callS (y := (⟨"com/example/schedulens/schedulens/PositionsGroupStartsPinLaw", "check", "([I[I[ZI)Z"⟩ : MethodName)) (W := 0) (argsL := [(.ref b100), (.ref b98), .null, (.int (3 : Int32))]) (rest := []) X106 hx hZ hown (hw _ (List.mem_of_getElem? (i := 7) rfl)) (hw _ (List.mem_of_getElem? (i := 8) rfl)) (hw _ (List.mem_of_getElem? (i := 9) rfl)) (hw _ (List.mem_of_getElem? (i := 10) rfl)) (by decide) e106 (rm3 l Z a0 hw [] b100 b98 (3 : Int32) (G + 1) 0 (own_s (own_c (fun _ => 0) (fun _ => true) 0) G) (fun _ => 0) T100.heap n0 (by omega) (by decide) (by decide) A100 B100) (by decide) (by decide) (by decide) (by decide) (g := (mkF m 275 #[.val (.int p0), .val (.int p1), .val (.int p2), .val (.int p3), .val (.int p4), .val (.int p5), .val (.int (1 : Int32)), .val (.int v79), .val (.int (1 : Int32)), .val (.ref b98), .val .null, .val (.ref b100)] [(.int (3 : Int32)), .null, (.ref b98), (.ref b100)])) rfl (by rw [hml]; rfl) (lenOf pd_2 rfl) rfl (by show 2 * 0 + _ ≤ _; exact Nat.le_of_eq rfl) (hb hby at_275)
      have N108 := Fr.app N106 Nq108
      refine hD _ (T108.setTop (mkF m 278 #[.val (.int p0), .val (.int p1), .val (.int p2), .val (.int p3), .val (.int p4), .val (.int p5), .val (.int (1 : Int32)), .val (.int v79), .val (.int (1 : Int32)), .val (.ref b98), .val .null, .val (.ref b100)] [(.int (Own.b2i (own_ck (own_s (own_c (fun _ => 0) (fun _ => true) 0) G) (G + 1) (fun _ => 0) (fun _ => true) 0 (3 : Int32))))])) (fun t k => ?_) ?_
      · show Steps p.tables e below (T106.setTop (mkF m 265 #[.val (.int p0), .val (.int p1), .val (.int p2), .val (.int p3), .val (.int p4), .val (.int p5), .val (.int (1 : Int32)), .val (.int v79), .val (.int (1 : Int32)), .val (.ref b98), .val .null, .val (.ref b100)] [(.int (Own.b2i (own_ck (own_s (own_c (fun _ => 0) (fun _ => true) 0) G) (G + 1) (fun _ => 0) (fun _ => true) 0 (2 : Int32))))])) t
        refine XS.ifNo X106.here hx rfl (hb hby at_265) rfl ((if0 _ _).trans (feq (fun q => Own.b2i_eq0.mp q hc107)).1) ?_
        show Steps p.tables e below (T106.setTop (mkF m 268 #[.val (.int p0), .val (.int p1), .val (.int p2), .val (.int p3), .val (.int p4), .val (.int p5), .val (.int (1 : Int32)), .val (.int v79), .val (.int (1 : Int32)), .val (.ref b98), .val .null, .val (.ref b100)] [])) t
        refine XS.aload X106.here hx rfl (hb hby at_268) rfl rfl ?_
        show Steps p.tables e below (T106.setTop (mkF m 270 #[.val (.int p0), .val (.int p1), .val (.int p2), .val (.int p3), .val (.int p4), .val (.int p5), .val (.int (1 : Int32)), .val (.int v79), .val (.int (1 : Int32)), .val (.ref b98), .val .null, .val (.ref b100)] [(.ref b100)])) t
        refine XS.aload X106.here hx rfl (hb hby at_270) rfl rfl ?_
        show Steps p.tables e below (T106.setTop (mkF m 272 #[.val (.int p0), .val (.int p1), .val (.int p2), .val (.int p3), .val (.int p4), .val (.int p5), .val (.int (1 : Int32)), .val (.int v79), .val (.int (1 : Int32)), .val (.ref b98), .val .null, .val (.ref b100)] [(.ref b98), (.ref b100)])) t
        refine XS.aload X106.here hx rfl (hb hby at_272) rfl rfl ?_
        show Steps p.tables e below (T106.setTop (mkF m 274 #[.val (.int p0), .val (.int p1), .val (.int p2), .val (.int p3), .val (.int p4), .val (.int p5), .val (.int (1 : Int32)), .val (.int v79), .val (.int (1 : Int32)), .val (.ref b98), .val .null, .val (.ref b100)] [.null, (.ref b98), (.ref b100)])) t
        refine XS.iconst X106.here hx rfl (hb hby at_274) ?_
        show Steps p.tables e below (T106.setTop (mkF m 275 #[.val (.int p0), .val (.int p1), .val (.int p2), .val (.int p3), .val (.int p4), .val (.int p5), .val (.int (1 : Int32)), .val (.int v79), .val (.int (1 : Int32)), .val (.ref b98), .val .null, .val (.ref b100)] [(.int (3 : Int32)), .null, (.ref b98), (.ref b100)])) t
        refine st108 _ ?_
        show Steps p.tables e below (T108.setTop (mkF m 278 #[.val (.int p0), .val (.int p1), .val (.int p2), .val (.int p3), .val (.int p4), .val (.int p5), .val (.int (1 : Int32)), .val (.int v79), .val (.int (1 : Int32)), .val (.ref b98), .val .null, .val (.ref b100)] [(.int (Own.b2i (own_ck (own_s (own_c (fun _ => 0) (fun _ => true) 0) G) (G + 1) (fun _ => 0) (fun _ => true) 0 (3 : Int32))))])) t
        exact k
      have hc109 : (own_ck (own_s (own_c (fun _ => 0) (fun _ => true) 0) G) (G + 1) (fun _ => 0) (fun _ => true) 0 (3 : Int32)) = true := own_main hf (by decide) hG4 (by decide)
      obtain ⟨T110, _, L110, X110, ⟨rfl, Nq110, e110⟩, st110⟩ := Own.callS (y := (⟨"com/example/schedulens/schedulens/PositionsGroupStartsPinLaw", "check", "([I[I[ZI)Z"⟩ : MethodName)) (W := 0) (argsL := [(.ref b100), (.ref b98), .null, (.int (4 : Int32))]) (rest := []) X108 hx hZ hown (hw _ (List.mem_of_getElem? (i := 7) rfl)) (hw _ (List.mem_of_getElem? (i := 8) rfl)) (hw _ (List.mem_of_getElem? (i := 9) rfl)) (hw _ (List.mem_of_getElem? (i := 10) rfl)) (by decide) e108 (rm3 l Z a0 hw [] b100 b98 (4 : Int32) (G + 1) 0 (own_s (own_c (fun _ => 0) (fun _ => true) 0) G) (fun _ => 0) T100.heap n0 (by omega) (by decide) (by decide) A100 B100) (by decide) (by decide) (by decide) (by decide) (g := (mkF m 288 #[.val (.int p0), .val (.int p1), .val (.int p2), .val (.int p3), .val (.int p4), .val (.int p5), .val (.int (1 : Int32)), .val (.int v79), .val (.int (1 : Int32)), .val (.ref b98), .val .null, .val (.ref b100)] [(.int (4 : Int32)), .null, (.ref b98), (.ref b100)])) rfl (by rw [hml]; rfl) (lenOf pd_2 rfl) rfl (by show 2 * 0 + _ ≤ _; exact Nat.le_of_eq rfl) (hb hby at_288)
      have N110 := Fr.app N108 Nq110
      refine hD _ (T110.setTop (mkF m 291 #[.val (.int p0), .val (.int p1), .val (.int p2), .val (.int p3), .val (.int p4), .val (.int p5), .val (.int (1 : Int32)), .val (.int v79), .val (.int (1 : Int32)), .val (.ref b98), .val .null, .val (.ref b100)] [(.int (Own.b2i (own_ck (own_s (own_c (fun _ => 0) (fun _ => true) 0) G) (G + 1) (fun _ => 0) (fun _ => true) 0 (4 : Int32))))])) (fun t k => ?_) ?_
      · show Steps p.tables e below (T108.setTop (mkF m 278 #[.val (.int p0), .val (.int p1), .val (.int p2), .val (.int p3), .val (.int p4), .val (.int p5), .val (.int (1 : Int32)), .val (.int v79), .val (.int (1 : Int32)), .val (.ref b98), .val .null, .val (.ref b100)] [(.int (Own.b2i (own_ck (own_s (own_c (fun _ => 0) (fun _ => true) 0) G) (G + 1) (fun _ => 0) (fun _ => true) 0 (3 : Int32))))])) t
        refine XS.ifNo X108.here hx rfl (hb hby at_278) rfl ((if0 _ _).trans (feq (fun q => Own.b2i_eq0.mp q hc109)).1) ?_
        show Steps p.tables e below (T108.setTop (mkF m 281 #[.val (.int p0), .val (.int p1), .val (.int p2), .val (.int p3), .val (.int p4), .val (.int p5), .val (.int (1 : Int32)), .val (.int v79), .val (.int (1 : Int32)), .val (.ref b98), .val .null, .val (.ref b100)] [])) t
        refine XS.aload X108.here hx rfl (hb hby at_281) rfl rfl ?_
        show Steps p.tables e below (T108.setTop (mkF m 283 #[.val (.int p0), .val (.int p1), .val (.int p2), .val (.int p3), .val (.int p4), .val (.int p5), .val (.int (1 : Int32)), .val (.int v79), .val (.int (1 : Int32)), .val (.ref b98), .val .null, .val (.ref b100)] [(.ref b100)])) t
        refine XS.aload X108.here hx rfl (hb hby at_283) rfl rfl ?_
        show Steps p.tables e below (T108.setTop (mkF m 285 #[.val (.int p0), .val (.int p1), .val (.int p2), .val (.int p3), .val (.int p4), .val (.int p5), .val (.int (1 : Int32)), .val (.int v79), .val (.int (1 : Int32)), .val (.ref b98), .val .null, .val (.ref b100)] [(.ref b98), (.ref b100)])) t
        refine XS.aload X108.here hx rfl (hb hby at_285) rfl rfl ?_
        show Steps p.tables e below (T108.setTop (mkF m 287 #[.val (.int p0), .val (.int p1), .val (.int p2), .val (.int p3), .val (.int p4), .val (.int p5), .val (.int (1 : Int32)), .val (.int v79), .val (.int (1 : Int32)), .val (.ref b98), .val .null, .val (.ref b100)] [.null, (.ref b98), (.ref b100)])) t
        refine XS.iconst X108.here hx rfl (hb hby at_287) ?_
        show Steps p.tables e below (T108.setTop (mkF m 288 #[.val (.int p0), .val (.int p1), .val (.int p2), .val (.int p3), .val (.int p4), .val (.int p5), .val (.int (1 : Int32)), .val (.int v79), .val (.int (1 : Int32)), .val (.ref b98), .val .null, .val (.ref b100)] [(.int (4 : Int32)), .null, (.ref b98), (.ref b100)])) t
        refine st110 _ ?_
        show Steps p.tables e below (T110.setTop (mkF m 291 #[.val (.int p0), .val (.int p1), .val (.int p2), .val (.int p3), .val (.int p4), .val (.int p5), .val (.int (1 : Int32)), .val (.int v79), .val (.int (1 : Int32)), .val (.ref b98), .val .null, .val (.ref b100)] [(.int (Own.b2i (own_ck (own_s (own_c (fun _ => 0) (fun _ => true) 0) G) (G + 1) (fun _ => 0) (fun _ => true) 0 (4 : Int32))))])) t
        exact k
      have hc111 : (own_ck (own_s (own_c (fun _ => 0) (fun _ => true) 0) G) (G + 1) (fun _ => 0) (fun _ => true) 0 (4 : Int32)) = true := own_main hf (by decide) hG4 (by decide)
      refine hD _ (T110.setTop (mkF m 299 #[.val (.int p0), .val (.int p1), .val (.int p2), .val (.int p3), .val (.int p4), .val (.int p5), .val (.int (1 : Int32)), .val (.int v79), .val (.int (1 : Int32)), .val (.ref b98), .val .null, .val (.ref b100)] [(.int (1 : Int32))])) (fun t k => ?_) ?_
      · show Steps p.tables e below (T110.setTop (mkF m 291 #[.val (.int p0), .val (.int p1), .val (.int p2), .val (.int p3), .val (.int p4), .val (.int p5), .val (.int (1 : Int32)), .val (.int v79), .val (.int (1 : Int32)), .val (.ref b98), .val .null, .val (.ref b100)] [(.int (Own.b2i (own_ck (own_s (own_c (fun _ => 0) (fun _ => true) 0) G) (G + 1) (fun _ => 0) (fun _ => true) 0 (4 : Int32))))])) t
        refine XS.ifNo X110.here hx rfl (hb hby at_291) rfl ((if0 _ _).trans (feq (fun q => Own.b2i_eq0.mp q hc111)).1) ?_
        show Steps p.tables e below (T110.setTop (mkF m 294 #[.val (.int p0), .val (.int p1), .val (.int p2), .val (.int p3), .val (.int p4), .val (.int p5), .val (.int (1 : Int32)), .val (.int v79), .val (.int (1 : Int32)), .val (.ref b98), .val .null, .val (.ref b100)] [])) t
        refine XS.iconst X110.here hx rfl (hb hby at_294) ?_
        show Steps p.tables e below (T110.setTop (mkF m 295 #[.val (.int p0), .val (.int p1), .val (.int p2), .val (.int p3), .val (.int p4), .val (.int p5), .val (.int (1 : Int32)), .val (.int v79), .val (.int (1 : Int32)), .val (.ref b98), .val .null, .val (.ref b100)] [(.int (1 : Int32))])) t
        refine XS.goto X110.here hx rfl (pc0 := 295) (pc' := 299) rfl (hb hby at_295) (by decide) (by decide) ?_
        show Steps p.tables e below (T110.setTop (mkF m 299 #[.val (.int p0), .val (.int p1), .val (.int p2), .val (.int p3), .val (.int p4), .val (.int p5), .val (.int (1 : Int32)), .val (.int v79), .val (.int (1 : Int32)), .val (.ref b98), .val .null, .val (.ref b100)] [(.int (1 : Int32))])) t
        exact k
      exact Own.retN hR X110 hx (t := .boolean) hret (by simp) (hb hby at_299) (by decide) (by decide) (by decide) ⟨rfl, N110⟩
set_option maxRecDepth 65536 in
set_option maxHeartbeats 40000000 in
theorem comes_1 {Post : Tables → Env → Array Value → State → Outcome → State → Prop} (hpost : ∀ tb e args s v u, (limb_1_1.after args s (.returned v) u = true ∧ limb_1_2.after args s (.returned v) u = true ∧ True) → FrameEnd s (.returned v) u (Jvm.fieldLocs frame_1_writes args s ++ Jvm.arrayLocs frame_1_arrays args s ++ Jvm.staticLocs frame_1_statics s) 16 128 → Post tb e args s (.returned v) u) :
    ArmFor flags0 classFile x code maxLocals ret World_1 tables_1 room_1 Calls_1 rest_1 Pre_1 Post := by
  intro l hfl _ _ p e ha hc hk s m args below hf hA hF happ hP
  obtain ⟨hcalls, hrest, hpre⟩ := hP
  obtain ⟨-, -, -, hnamed, -, -, -, hat⟩ := (Spec.applies_iff hf).mp happ
  obtain ⟨hg, hn⟩ := and_e (Cond.before_iff.mp (show (Jvm.Cond.and given_1 narrow_1).before args s = true from hpre))
  obtain ⟨hcnt, hg0⟩ := and_e hg
  obtain ⟨ga0, hg1⟩ := and_e hg0
  obtain ⟨ga1, hg2⟩ := and_e hg1
  obtain ⟨ga2, hg3⟩ := and_e hg2
  obtain ⟨ga3, hg4⟩ := and_e hg3
  obtain ⟨ga4, hg5⟩ := and_e hg4
  obtain ⟨w0, w1, w2, w3, w4, w5, rfl⟩ : ∃ w0 w1 w2 w3 w4 w5 : Value, args = #[w0, w1, w2, w3, w4, w5] := by
    have hs : args.size = 6 := by simpa [Cond.value, given_1] using hcnt
    obtain ⟨L⟩ := args
    match L, hs with
    | [w0, w1, w2, w3, w4, w5], _ => exact ⟨w0, w1, w2, w3, w4, w5, rfl⟩
  have hw := fun d (hd : d ∈ tables_1) => atoms_spec (ws := Jvm.Cond.code x code maxLocals ret :: tables_1) hat d (List.mem_cons_of_mem _ hd)
  obtain ⟨i0, ei0⟩ := is_v ga0
  obtain rfl : w0 = (.int i0) := Option.some.inj ei0
  obtain ⟨i1, ei1⟩ := is_v ga1
  obtain rfl : w1 = (.int i1) := Option.some.inj ei1
  obtain ⟨i2, ei2⟩ := is_v ga2
  obtain rfl : w2 = (.int i2) := Option.some.inj ei2
  obtain ⟨i3, ei3⟩ := is_v ga3
  obtain rfl : w3 = (.int i3) := Option.some.inj ei3
  obtain ⟨i4, ei4⟩ := is_v ga4
  obtain rfl : w4 = (.int i4) := Option.some.inj ei4
  obtain ⟨i5, ei5⟩ := is_v hg5
  obtain rfl : w5 = (.int i5) := Option.some.inj ei5
  obtain ⟨n, o, h1, h2, h3, _, L, rfl, ⟨rfl, N⟩, hq⟩ := rm0 l s _ hw tables_1 i0 i1 i2 i3 i4 i5 s.heap s.heap.size (Nat.le_refl _) p e ha hc hk s m _ below hf ((Spec.applies_iff_loose hf).mp happ).1 ⟨rfl, State.Warmed39.refl s, rfl⟩ trivial
  refine ⟨n, _, h1, h2, h3, hpost _ _ _ _ _ _ ⟨Cond.after_iff.mpr rfl, Cond.after_iff.mpr (eq_i res_at (Term.int_eval (1)) rfl), trivial⟩ ⟨hq.1, hq.2.1, (hq.2.2.sift fun y hy => Or.inr (N y hy)).mono (by decide) (by decide)⟩⟩
theorem main_1_1 : Claimed_1_1 := comes_1 fun _ _ _ _ _ _ h hF => ⟨h.1, hF⟩
theorem main_1_2 : Claimed_1_2 := comes_1 fun _ _ _ _ _ _ h hF => ⟨h.2.1, hF⟩
end Jvm.Pilot.@@N@@
namespace Jvm.Pilot.@@N@@
open Jvm Jvm.ClassFile Sem Op Lib Jvm.Free Jvm.Stand Jvm.Pilot.@@N@@.Jvm.D
/-! MADE BY PROGRAM (witnessworld.py) out of the Statement's table words and the real class files: 11 classes; the members and pool entries that the words name. The judged class is class 1, her method 1. -/
namespace start1
open Jvm.ClassFile
def u (s : String) : CpInfo := .utf8 (stringToUtf16 s)
/-- a pool by its gaps: so many unusable entries, then the entry; so many at the end -/
def gap : Nat → List CpInfo → List CpInfo
  | 0, r => r
  | n + 1, r => .unusable :: gap n r
def poolList (es : List (Nat × CpInfo)) (last : Nat) : List CpInfo := es.foldr (fun e r => gap e.1 (e.2 :: r)) (gap last [])
def pool (es : List (Nat × CpInfo)) (last : Nat) : Array CpInfo := ⟨poolList es last⟩
def fileOf (pool : Array CpInfo) (this : Nat) (attrs : Array Attribute := #[]) (ms : Array MethodInfo := #[]) (fl : Nat := 33) (sup : Nat := 0) (ifs : Array Nat := #[]) (fds : Array FieldInfo := #[]) : ClassFile where
  minorVersion := 0
  majorVersion := 65
  constantPool := pool
  accessFlags := fl
  thisClass := this
  superClass := sup
  interfaces := ifs
  fields := fds
  methods := ms
  attributes := attrs
def plain (name : String) (sup : Option ClassId) : Class where
  name := name
  kind := .ordinary
  loader := none
  accessFlags := 33
  super := sup
  interfaces := #[]
  cf := none
  fields := #[]
  methods := #[]
  instanceTypes := #[]
  staticTypes := #[]
  resolved := #[]
  callSites := []
  init := .initialized
  statics := none
  mirror := none

def pool0 : Array CpInfo := pool [(5, u "<init>"), (0, u "()V"), (1, .class_ 10), (1, u "java/lang/Object")] 113

def k0m0 : Method := { name := "<init>", desc := "()V", sig := { parameters := [], returnType := none }, accessFlags := 1, code := none }
/-- java/lang/Object -/
def k0 : Class := { plain "java/lang/Object" none with
  accessFlags := 33
  interfaces := #[]
  cf := some (fileOf pool0 8 #[] #[{ accessFlags := 1, nameIndex := 5, descriptorIndex := 6, attributes := #[] }] 33 0 #[] #[])
  fields := #[]
  methods := #[k0m0]
  instanceTypes := #[]
  staticTypes := #[]
  resolved := Array.replicate 124 none
  statics := none }

def pool1 : Array CpInfo := pool [(2, .class_ 4), (1, u "java/lang/Object"), (0, u "<init>"), (0, u "()V"), (0, .integer 2147483647), (0, .methodref 9 10), (0, .class_ 11), (0, .nameAndType 12 13), (0, u "com/example/schedulens/schedulens/Positions"), (0, u "groupStarts"), (0, u "([II[Z)[I"), (0, .methodref 15 16), (0, .class_ 17), (0, .nameAndType 18 19), (0, u "com/example/schedulens/schedulens/PositionsGroupStartsPinLaw"), (0, u "check"), (0, u "([I[I[ZI)Z"), (0, .methodref 15 21), (0, .nameAndType 22 23), (0, u "below"), (0, u "([I[ZII)I"), (2, u "law"), (0, u "(IIIIII)Z")] 7

def k1m0 : Method := { name := "<init>", desc := "()V", sig := { parameters := [], returnType := none }, accessFlags := 1, code := none }
def k1c1 : Code := { maxStack := 4, maxLocals := 12, code := code, exceptionTable := #[], attributes := #[] }
def k1m1 : Method := { name := "law", desc := "(IIIIII)Z", sig := { parameters := [.int, .int, .int, .int, .int, .int], returnType := some .boolean }, accessFlags := 9, code := some k1c1 }
def k1c2 : Code := { maxStack := 5, maxLocals := 5, code := method_3_code, exceptionTable := #[], attributes := #[] }
def k1m2 : Method := { name := "check", desc := "([I[I[ZI)Z", sig := { parameters := [(.array .int), (.array .int), (.array .boolean), .int], returnType := some .boolean }, accessFlags := 10, code := some k1c2 }
def k1c3 : Code := { maxStack := 2, maxLocals := 4, code := method_4_code, exceptionTable := #[], attributes := #[] }
def k1m3 : Method := { name := "below", desc := "([I[ZII)I", sig := { parameters := [(.array .int), (.array .boolean), .int, .int], returnType := some .int }, accessFlags := 10, code := some k1c3 }
/-- com/example/schedulens/schedulens/PositionsGroupStartsPinLaw -/
def k1 : Class := { plain "com/example/schedulens/schedulens/PositionsGroupStartsPinLaw" (some 0) with
  accessFlags := 49
  interfaces := #[]
  cf := some (fileOf pool1 15 #[] #[{ accessFlags := 1, nameIndex := 5, descriptorIndex := 6, attributes := #[] }, { accessFlags := 9, nameIndex := 26, descriptorIndex := 27, attributes := #[] }, { accessFlags := 10, nameIndex := 18, descriptorIndex := 19, attributes := #[] }, { accessFlags := 10, nameIndex := 22, descriptorIndex := 23, attributes := #[] }] 49 2 #[] #[])
  fields := #[]
  methods := #[k1m0, k1m1, k1m2, k1m3]
  instanceTypes := #[]
  staticTypes := #[]
  resolved := Array.replicate 35 none
  statics := none }

def pool2 : Array CpInfo := pool [(2, .class_ 4), (1, u "com/example/schedulens/schedulens/Positions"), (3, .class_ 10), (1, u "java/lang/Object"), (3, u "groupStarts"), (0, u "([II[Z)[I"), (2, u "start"), (0, u "[I"), (2, u "at")] 30

def k2c0 : Code := { maxStack := 5, maxLocals := 5, code := prog_43_method_3_code, exceptionTable := #[], attributes := #[] }
def k2m0 : Method := { name := "groupStarts", desc := "([II[Z)[I", sig := { parameters := [(.array .int), .int, (.array .boolean)], returnType := some (.array .int) }, accessFlags := 8, code := some k2c0 }
/-- com/example/schedulens/schedulens/Positions -/
def k2 : Class := { plain "com/example/schedulens/schedulens/Positions" (some 0) with
  accessFlags := 32
  interfaces := #[]
  cf := some (fileOf pool2 2 #[] #[{ accessFlags := 8, nameIndex := 14, descriptorIndex := 15, attributes := #[] }] 32 8 #[] #[{ accessFlags := 18, nameIndex := 18, descriptorIndex := 19, attributes := #[] }, { accessFlags := 18, nameIndex := 22, descriptorIndex := 19, attributes := #[] }])
  fields := #[{ name := "start", type := (.array .int), accessFlags := 18, slot := 0, constantValue := 0 }, { name := "at", type := (.array .int), accessFlags := 18, slot := 1, constantValue := 0 }]
  methods := #[k2m0]
  instanceTypes := #[(.array .int), (.array .int)]
  staticTypes := #[]
  resolved := Array.replicate 53 none
  statics := none }

def pool3 : Array CpInfo := pool [(1, u "java/lang/Cloneable"), (0, .class_ 1), (0, u "java/lang/Object"), (0, .class_ 3)] 3

/-- java/lang/Cloneable -/
def k3 : Class := { plain "java/lang/Cloneable" (some 0) with
  accessFlags := 1537
  interfaces := #[]
  cf := some (fileOf pool3 2 #[] #[] 1537 4 #[] #[])
  fields := #[]
  methods := #[]
  instanceTypes := #[]
  staticTypes := #[]
  resolved := Array.replicate 8 none
  statics := none }

def pool4 : Array CpInfo := pool [(1, u "java/io/Serializable"), (0, .class_ 1), (0, u "java/lang/Object"), (0, .class_ 3)] 3

/-- java/io/Serializable -/
def k4 : Class := { plain "java/io/Serializable" (some 0) with
  accessFlags := 1537
  interfaces := #[]
  cf := some (fileOf pool4 2 #[] #[] 1537 4 #[] #[])
  fields := #[]
  methods := #[]
  instanceTypes := #[]
  staticTypes := #[]
  resolved := Array.replicate 8 none
  statics := none }

/-- the primitive boolean -/
def k5 : Class := { plain "boolean" none with kind := .primitive 'Z', accessFlags := 0x411 }
/-- [Z -/
def k6 : Class := { plain "[Z" (some 0) with kind := .array 5 .boolean, interfaces := #[3, 4], accessFlags := 1041 }

/-- the primitive byte -/
def k7 : Class := { plain "byte" none with kind := .primitive 'B', accessFlags := 0x411 }
/-- [B -/
def k8 : Class := { plain "[B" (some 0) with kind := .array 7 .byte, interfaces := #[3, 4], accessFlags := 1041 }

/-- the primitive int -/
def k9 : Class := { plain "int" none with kind := .primitive 'I', accessFlags := 0x411 }
/-- [I -/
def k10 : Class := { plain "[I" (some 0) with kind := .array 9 .int, interfaces := #[3, 4], accessFlags := 1041 }

def heap : Heap := #[]
def classes : Array Class := #[k0, k1, k2, k3, k4, k5, k6, k7, k8, k9, k10]
def interned : List (Array UInt16 × Addr) := []
def slotsUsed : Nat := 0
def theMethod : MethodId := ⟨1, 1⟩
def args0 : Array Value := #[.int 7, .int 7, .int 7, .int 7, .int 7, .int 7]
def aboutOver (below : List Frame) : State where
  vm := { classes := classes, interned := interned.toArray }
  heap := heap
  slotsUsed := slotsUsed
  threads := #[{ frames := .invoking theMethod args0 :: below }]
def below0 : List Frame := [.native { method := ⟨0, 0⟩, args := #[] }]
def about1 : State := aboutOver below0
def p0 : Program := .bare "" "" ""
def e0 : Env := launch0.env 0 0 0
theorem w_frames : about1.frames = Frame.invoking theMethod args0 :: below0 := rfl
set_option maxRecDepth 65536 in
theorem w_args : argsFit about1.vm theMethod args0 = true := by decide +kernel
set_option maxRecDepth 65536 in
theorem w_heap : heapFits about1 = true := by decide +kernel
set_option maxRecDepth 65536 in
theorem w_runnable : about1.curStatus? = some .runnable := by decide +kernel
set_option maxRecDepth 65536 in
theorem w_alone : about1.alone = true := by decide +kernel
set_option maxRecDepth 65536 in
theorem w_named : about1.methodNamed? x = some theMethod := by decide +kernel
set_option maxRecDepth 65536 in
theorem w_hears : about1.hears theMethod below0 = true := by decide +kernel
set_option maxRecDepth 65536 in
theorem w_ripe : about1.ripe theMethod args0 below0 = true := by decide +kernel
theorem w_running : about1.status = .running := rfl
set_option maxRecDepth 65536 in
theorem w_room : about1.hasRoom e0.platform room_1 = true :=
  launch0.hasRoom_least _ room_1 (by decide +kernel) (by decide +kernel) (by decide +kernel) (by decide +kernel) (by decide +kernel) (by decide +kernel)
theorem allAtoms_all (ts : List Jvm.Cond) (a : Array Jvm.Value) (st : Jvm.State) : (allAtoms ts).before a st = ts.all (fun c => c.before a st) := by
  induction ts with
  | nil => rfl
  | cons c t ih =>
    show (Jvm.Cond.and c (allAtoms t)).before a st = _
    rw [Jvm.Cond.before_and, ih, List.all_cons]
def words1 : List Jvm.Cond := Jvm.Cond.code x code maxLocals ret :: tables_1
/-- a 'code' word, met by the world's own term for the bytes: nothing is compared byte by byte -/
theorem code_word {y : MethodName} {bytes : ByteArray} {mx : Nat} {rt : Option FieldType} {a : Array Value} {s : State} {m : MethodId} {meth : Method} {c : Code} (h1 : s.methodNamed? y = some m) (h2 : s.vm.method? m = some meth) (h3 : meth.code = some c) (h4 : c.code = bytes)
    (h5 : (c.maxLocals == mx && c.exceptionTable.isEmpty && decide (c.maxStack ≤ mostOperands) && decide (meth.sig.returnType = rt) && !meth.locks && decide (parseMethodDescriptor y.desc = some meth.sig)) = true) : (Jvm.Cond.code y bytes mx rt).before a s = true := by
  simp only [Bool.and_eq_true, beq_iff_eq, Bool.not_eq_true', decide_eq_true_eq] at h5
  obtain ⟨⟨⟨⟨⟨g1, g2⟩, g3⟩, g4⟩, g5⟩, g6⟩ := h5
  simp [Cond.before, Cond.holds, Cond.value, h1, h2, h3, h4, g1, g2, g3, g4, g5, g6]
def isCode : Jvm.Cond → Bool
  | .code _ _ _ _ => true
  | _ => false
theorem all_split {L : List Jvm.Cond} {P : Jvm.Cond → Bool} (h1 : L.all (fun c => isCode c || P c) = true) (h2 : ∀ c ∈ L.filter isCode, P c = true) : L.all P = true := by
  refine List.all_eq_true.mpr fun c hc => ?_
  have h := List.all_eq_true.mp h1 c hc
  rcases Bool.eq_false_or_eq_true (isCode c) with hi | hi
  · exact h2 c (List.mem_filter.mpr ⟨hc, hi⟩)
  · simpa [hi] using h
set_option maxRecDepth 65536 in
theorem w_c0 : (Jvm.Cond.code x code maxLocals ret).before args0 about1 = true := code_word (m := ⟨1, 1⟩) (meth := k1m1) (c := k1c1) (by decide +kernel) rfl rfl rfl (by decide +kernel)
set_option maxRecDepth 65536 in
theorem w_c1 : (Jvm.Cond.code ({ cls := "com/example/schedulens/schedulens/Positions", name := "groupStarts", desc := "([II[Z)[I" } : Jvm.MethodName) prog_43_method_3_code (5 : Nat) (Option.some (Jvm.ClassFile.FieldType.array Jvm.ClassFile.FieldType.int))).before args0 about1 = true := code_word (m := ⟨2, 0⟩) (meth := k2m0) (c := k2c0) (by decide +kernel) rfl rfl rfl (by decide +kernel)
set_option maxRecDepth 65536 in
theorem w_c2 : (Jvm.Cond.code ({ cls := "com/example/schedulens/schedulens/PositionsGroupStartsPinLaw", name := "check", desc := "([I[I[ZI)Z" } : Jvm.MethodName) method_3_code (5 : Nat) (Option.some Jvm.ClassFile.FieldType.boolean)).before args0 about1 = true := code_word (m := ⟨1, 2⟩) (meth := k1m2) (c := k1c2) (by decide +kernel) rfl rfl rfl (by decide +kernel)
set_option maxRecDepth 65536 in
theorem w_c3 : (Jvm.Cond.code ({ cls := "com/example/schedulens/schedulens/PositionsGroupStartsPinLaw", name := "below", desc := "([I[ZII)I" } : Jvm.MethodName) method_4_code (4 : Nat) (Option.some Jvm.ClassFile.FieldType.int)).before args0 about1 = true := code_word (m := ⟨1, 3⟩) (meth := k1m3) (c := k1c3) (by decide +kernel) rfl rfl rfl (by decide +kernel)
def codes1 : List Jvm.Cond := [Jvm.Cond.code x code maxLocals ret, Jvm.Cond.code ({ cls := "com/example/schedulens/schedulens/Positions", name := "groupStarts", desc := "([II[Z)[I" } : Jvm.MethodName) prog_43_method_3_code (5 : Nat) (Option.some (Jvm.ClassFile.FieldType.array Jvm.ClassFile.FieldType.int)), Jvm.Cond.code ({ cls := "com/example/schedulens/schedulens/PositionsGroupStartsPinLaw", name := "check", desc := "([I[I[ZI)Z" } : Jvm.MethodName) method_3_code (5 : Nat) (Option.some Jvm.ClassFile.FieldType.boolean), Jvm.Cond.code ({ cls := "com/example/schedulens/schedulens/PositionsGroupStartsPinLaw", name := "below", desc := "([I[ZII)I" } : Jvm.MethodName) method_4_code (4 : Nat) (Option.some Jvm.ClassFile.FieldType.int)]
set_option maxRecDepth 65536 in
theorem codes_eq : words1.filter isCode = codes1 := rfl
theorem w_codes : ∀ c ∈ words1.filter isCode, c.before args0 about1 = true := by
  rw [codes_eq]
  intro c hc
  simp only [codes1, List.mem_cons, List.not_mem_nil, or_false] at hc
  rcases hc with rfl | rfl | rfl | rfl
  · exact w_c0
  · exact w_c1
  · exact w_c2
  · exact w_c3
set_option maxRecDepth 65536 in
theorem w_t1 : words1.all (fun c => isCode c || c.before args0 about1) = true := by decide +kernel
theorem w_tables : (allAtoms (Jvm.Cond.code x code maxLocals ret :: tables_1)).before args0 about1 = true := by
  rw [allAtoms_all]
  show words1.all (fun c => c.before args0 about1) = true
  refine all_split ?_ w_codes
  rw [w_t1]
set_option maxRecDepth 65536 in
theorem w_case : (Jvm.Cond.and given_1 narrow_1).before args0 about1 = true := by decide +kernel
theorem w_applies : (headSpec (Jvm.Cond.code x code maxLocals ret :: tables_1) room_1).applies x e0.platform about1 = true :=
  (Spec.applies_iff w_frames).mpr ⟨w_running, w_runnable, w_alone, w_named, w_hears, w_ripe, w_room, w_tables⟩
theorem atStart : AtStart classFile x code maxLocals ret World_1 tables_1 room_1 Calls_1 rest_1 Pre_1 launch0 p0 e0 about1 theMethod args0 below0 :=
  ⟨lists_1, trivial, launch0.admits_env _ _ _, launch0.least_env, fairChoices_fair.cas, fairChoices_fair.clock, w_frames, w_args, w_heap, w_applies, trivial, trivial, w_case⟩
end start1
theorem witness_1 : WitnessClaimed_1 := ⟨start1.p0, start1.e0, start1.about1, start1.theMethod, start1.args0, start1.below0, start1.atStart⟩
end Jvm.Pilot.@@N@@
