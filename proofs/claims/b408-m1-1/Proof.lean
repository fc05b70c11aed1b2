import JvmDerived
import JvmDerived.Pilot.@@N@@Statement
import JvmDerived.Pilot.@@N@@Code
set_option linter.unusedVariables false
set_option linter.unusedSimpArgs false
@@BLOCK:NumsL.lean.txt@@
namespace Jvm.Own
open Sem ClassFile Op Lib Jvm.Stand Jvm.Free Jvm.LawKit Jvm.RoadKit
section Kit
variable {p : Program} {l : Launch} {e : Env} {R : Room} {s : State} {m : MethodId} {args : Array Value} {below : List Frame} {meth : Method} {c : Code} {T : State} {locs : List Loc} {cells slots : Nat} {Z : State} {a0 : Array Value} {h : Heap}
/-- D is closed under going back over steps -/
def Clo (p : Program) (e : Env) (below : List Frame) (D : State → Prop) : Prop := ∀ (U U' : State), (∀ t, Steps p.tables e below U' t → Steps p.tables e below U t) → D U' → D U
/-- D holds wherever the body returns with what Q says -/
def Ret (p : Program) (l : Launch) (e : Env) (R : Room) (s : State) (m : MethodId) (args : Array Value) (below : List Frame) (meth : Method) (c : Code) (Q : Option Value → Heap → List Loc → Prop) (C N : Nat) (D : State → Prop) : Prop :=
  ∀ (T : State) (locs : List Loc) (cells slots : Nat) (v : Option Value) (U : State), Stand p l e R s m args below meth c T locs cells slots → (meth.sig.returnType = none → v = none) → cells ≤ C → slots ≤ N → Q v T.heap locs →
    (∀ fs, (∀ (f : JFrame) (acts : List Action), f.method = m → f.locked = none → f.entered = [] → (doReturn e (T.setTop f) acts v).1 = T.setFrames fs) → Steps p.tables e below U (T.setFrames fs)) → D U
theorem enter {y : MethodName} {code : ByteArray} {maxL : Nat} {ret : Option FieldType} {ws : List Cond} {rm : Room} {as' : Array Value} {h0 : Heap} {Q : Option Value → Heap → List Loc → Prop} {C N : Nat} (hpl : plainFor y = true)
    (body : ∀ (p : Program) (e : Env) (s : State) (m : MethodId) (below : List Frame) (meth : Method) (c : Code) (s₁ : State) (D : State → Prop),
      p.tables.exec = Jvm.exec → c.code = code → c.maxLocals = maxL → s.vm.findClass y.cls = some m.cls → meth.name = y.name → meth.sig.returnType = ret → Z.Warmed39 s.vm → Stand p l e rm s m as' below meth c s₁ [] 0 0 → s₁.heap = h0 →
      Clo p e below D → Ret p l e rm s m as' below meth c Q C N D → D (s₁.setTop (entryFrame m as' maxL))) :
    MetFree l y (head1 (Jvm.Cond.code y code maxL ret :: ws) rm) (fun a U => a = as' ∧ Z.Warmed39 U.vm ∧ U.heap = h0) (fun _ _ _ _ _ => True) (fun _ U o U' => ∃ v L, o = .returned v ∧ Q v U'.heap L ∧ FrameEnd U o U' L C N) := by
  refine MetFree.of_bodySF hpl hisR ?_
  intro p e s m args below meth c s₁ Bd hml hP hK
  obtain ⟨rfl, hZ, hh⟩ := hP
  have X0 : Stand p l e rm s m args below meth c s₁ [] 0 0 := Stand.of_body Bd
  refine body p e s m below meth c s₁ (fun U => ∃ s₂ o, Steps p.tables e below U s₂ ∧ s₂.status = .running ∧ Ended s₂ below o ∧ ∃ v L, o = .returned v ∧ Q v s₂.heap L ∧ FrameEnd s o s₂ L C N) Bd.exec Bd.bytes hml (findClass_of_methodNamed Bd.named) (name_of_methodNamed Bd.named Bd.method).1 Bd.returns hZ X0 (by rw [← hh, Bd.state]; rfl) ?_ ?_
  · rintro U U' k ⟨s₂, o, st, r⟩
    exact ⟨s₂, o, k _ st, r⟩
  · intro T locs cells slots v U X hv hc hn hQ k
    obtain ⟨fs, hr, hrun, hended, hW, hsame⟩ := X.leave (v := v) hv
    exact ⟨_, _, k fs hr, hrun, hended, v, locs, rfl, hQ, ⟨_, rfl⟩, hW, hsame.mono hc hn⟩
theorem mono {c' n' : Nat} (X : Stand p l e R s m args below meth c T locs cells slots) (hc : cells ≤ c') (hn : slots ≤ n') : Stand p l e R s m args below meth c T locs c' n' :=
  { X with same := X.same.weaken (fun _ hy _ => hy) hc hn }
theorem forget {k : Nat} (X : Stand p l e R s m args below meth c T locs cells slots) (N : Fr k locs) (hk : s.heap.size ≤ k) : Stand p l e R s m args below meth c T [] cells slots :=
  { X with same := X.same.weaken (fun y hy hlt => absurd hlt (Nat.not_lt.mpr (Nat.le_trans hk (N y hy)))) (Nat.le_refl _) (Nat.le_refl _) }
variable {Q : Option Value → Heap → List Loc → Prop} {C N : Nat} {D : State → Prop}
theorem retI (hR : Ret p l e R s m args below meth c Q C N D) (X : Stand p l e R s m args below meth c T locs cells slots) (hx : p.tables.exec = Jvm.exec) {pc : Nat} {Ls : Array Slot} {z : Int32} {rest : List Value} (hret : meth.sig.returnType = some .int) (hd : decode c.code pc = .ok (.ireturn, 1)) (hc : cells ≤ C) (hn : slots ≤ N) (hQ : Q (some (.int z)) T.heap locs) : D (T.setTop (mkF m pc Ls (.int z :: rest))) := by
  refine hR T locs cells slots (some (.int z)) _ X (fun h => by rw [hret] at h; cases h) hc hn hQ fun fs hl => ?_
  have hm' : T.vm.method? m = some meth := X.method'
  have hn : narrow .int (.int z) = .int z := rfl
  show Steps p.tables e below (T.setTop { method := m, pc := pc, locals := Ls, stack := _ :: rest, locked := none }) _
  jvm_step X.here [X.here.top, hx, hd, hm', hret, hn]
  first | (intro acts; rw [hl _ acts rfl rfl rfl]) | rw [hl _ _ rfl rfl rfl]
  exact Steps.refl _
theorem retN (hR : Ret p l e R s m args below meth c Q C N D) (X : Stand p l e R s m args below meth c T locs cells slots) (hx : p.tables.exec = Jvm.exec) {pc : Nat} {Ls : Array Slot} {z : Int32} {t : FieldType} {rest : List Value} (hret : meth.sig.returnType = some t) (ht : t = .boolean ∨ t = .byte ∨ t = .char ∨ t = .short) (hd : decode c.code pc = .ok (.ireturn, 1)) (hc : cells ≤ C) (hn : slots ≤ N) (hz : nar t z = z) (hQ : Q (some (.int z)) T.heap locs) : D (T.setTop (mkF m pc Ls (.int z :: rest))) := by
  refine hR T locs cells slots (some (.int z)) _ X (fun h => by rw [hret] at h; cases h) hc hn hQ fun fs hl => ?_
  exact Jvm.RoadKit.retN X hx hret ht hd (by rw [hz]; exact hl)
theorem retJ (hR : Ret p l e R s m args below meth c Q C N D) (X : Stand p l e R s m args below meth c T locs cells slots) (hx : p.tables.exec = Jvm.exec) {pc : Nat} {Ls : Array Slot} {z : Int64} (hret : meth.sig.returnType = some .long) (hd : decode c.code pc = .ok (.lreturn, 1)) (hc : cells ≤ C) (hn : slots ≤ N) (hQ : Q (some (.long z)) T.heap locs) : D (T.setTop (mkF m pc Ls [.long z])) :=
  hR T locs cells slots (some (.long z)) _ X (fun h => by rw [hret] at h; cases h) hc hn hQ fun fs hl => X.lreturnOut hx hret hd hl
theorem retA (hR : Ret p l e R s m args below meth c Q C N D) (X : Stand p l e R s m args below meth c T locs cells slots) (hx : p.tables.exec = Jvm.exec) {pc : Nat} {Ls : Array Slot} {w : Value} {t : FieldType} (hw : w.isRef = true) (hret : meth.sig.returnType = some t) (ht : t.isReference = true) (hd : decode c.code pc = .ok (.areturn, 1)) (hc : cells ≤ C) (hn : slots ≤ N) (hQ : Q (some w) T.heap locs) : D (T.setTop (mkF m pc Ls [w])) :=
  hR T locs cells slots (some w) _ X (fun h => by rw [hret] at h; cases h) hc hn hQ fun fs hl => X.areturnOut hx hw hret ht hd hl
theorem retV (hR : Ret p l e R s m args below meth c Q C N D) (X : Stand p l e R s m args below meth c T locs cells slots) (hx : p.tables.exec = Jvm.exec) {pc : Nat} {Ls : Array Slot} (hret : meth.sig.returnType = none) (hd : decode c.code pc = .ok (.return_, 1)) (hc : cells ≤ C) (hn : slots ≤ N) (hQ : Q none T.heap locs) : D (T.setTop (mkF m pc Ls [])) :=
  hR T locs cells slots none _ X (fun _ => rfl) hc hn hQ fun fs hl => X.returnOut hx hret hd hl
/-! calls -/
variable {y z : MethodName} {bytes : ByteArray} {maxL : Nat} {ret : Option FieldType} {rm : Room} {W : Nat} {Qc : Option Value → Heap → List Loc → Prop} {own Cn : String} {index : Nat} {g : JFrame} {argsL rest : List Value} {a : Addr}
theorem callS (X : Stand p l e R s m args below meth c T locs cells slots) (hx : p.tables.exec = Jvm.exec) (hZ : Z.Warmed39 s.vm) (hown : s.vm.findClass own = some m.cls)
    (w1 : (Cond.methodLink own index y).before a0 Z = true) (w2 : (Cond.static y).before a0 Z = true) (w3 : (Cond.initialized y.cls).before a0 Z = true) (w4 : (Cond.code y bytes maxL ret).before a0 Z = true)
    (hy : y.cls ≠ "java/lang/invoke/MethodHandle" ∧ y.cls ≠ "java/lang/invoke/VarHandle") (e0 : T.heap = h)
    (hM : MetFree l y (head1 [Cond.code y bytes maxL ret] rm) (fun a U => a = argsL.toArray ∧ Z.Warmed39 U.vm ∧ U.heap = h) (fun _ _ _ _ _ => True) (fun _ U o U' => ∃ v L, o = .returned v ∧ Qc v U'.heap L ∧ FrameEnd U o U' L rm.cells rm.slots))
    (hf : rm.frames + 1 ≤ R.frames) (hl : W + (maxL + 11) + rm.locals ≤ R.locals) (hcells : cells + rm.cells ≤ R.cells) (hslots : slots + rm.slots ≤ R.slots)
    (hg : g.method = m) (hsize : g.locals.size = c.maxLocals) (hlen : ∀ sig, parseMethodDescriptor y.desc = some sig → argsL.length = sig.parameters.length)
    (hstack : g.stack = argsL.reverse ++ rest) (hW : 2 * g.monitorRoom + (rest.map fun v => v.category).sum ≤ W) (hdg : decode c.code g.pc = .ok (.invokestatic index, 3)) :
    ∃ (T' : State) (v : Option Value) (L : List Loc), Stand p l e R s m args below meth c T' (locs ++ L) (cells + rm.cells) (slots + rm.slots) ∧ Qc v T'.heap L ∧
      ∀ t, Steps p.tables e below (T'.setTop { g with pc := g.pc + 3, stack := v.toList ++ rest }) t → Steps p.tables e below (T.setTop g) t := by
  obtain ⟨v, _, ⟨T', L', k', n'⟩, -, X', ⟨Lc, hQ, l1, y1, z1⟩, st⟩ := Jvm.LawKit.callS X hx (y := y) hown (mvT hZ w1) (mvT hZ w2) (mvT hZ w3) (mvT hZ w4) hy (backOf (W := W) hM hZ w4 w3 hf hl) hg hsize hlen hstack hW hdg (fun _ _ => ⟨rfl, e0, hcells, hslots⟩)
  dsimp only [Pt.U, Pt.locs, Pt.cells, Pt.slots] at X' l1 y1 z1 st hQ
  subst l1 y1 z1
  exact ⟨T', v, Lc, X', hQ, st⟩
theorem callI (X : Stand p l e R s m args below meth c T locs cells slots) (hx : p.tables.exec = Jvm.exec) (hZ : Z.Warmed39 s.vm) (hown : s.vm.findClass own = some m.cls) (hy1 : y.name = "<init>")
    (w1 : (Cond.methodLink own index y).before a0 Z = true) (w2 : (Cond.instanceMethod y).before a0 Z = true) (w3 : (Cond.initialized y.cls).before a0 Z = true) (w4 : (Cond.code y bytes maxL none).before a0 Z = true)
    (hy : y.cls ≠ "java/lang/invoke/MethodHandle" ∧ y.cls ≠ "java/lang/invoke/VarHandle") (e0 : T.heap = h)
    (hM : MetFree l y (head1 [Cond.code y bytes maxL none] rm) (fun q U => q = (.ref a :: argsL).toArray ∧ Z.Warmed39 U.vm ∧ U.heap = h) (fun _ _ _ _ _ => True) (fun _ U o U' => ∃ v L, o = .returned v ∧ Qc v U'.heap L ∧ FrameEnd U o U' L rm.cells rm.slots))
    (hf : rm.frames + 1 ≤ R.frames) (hl : W + (maxL + 11) + rm.locals ≤ R.locals) (hcells : cells + rm.cells ≤ R.cells) (hslots : slots + rm.slots ≤ R.slots)
    (hg : g.method = m) (hsize : g.locals.size = c.maxLocals) (hlen : ∀ sig, parseMethodDescriptor y.desc = some sig → argsL.length = sig.parameters.length)
    (hstack : g.stack = argsL.reverse ++ .ref a :: rest) (hW : 2 * g.monitorRoom + (rest.map fun v => v.category).sum ≤ W) (hdg : decode c.code g.pc = .ok (.invokespecial index, 3)) :
    ∃ (T' : State) (v : Option Value) (L : List Loc), Stand p l e R s m args below meth c T' (locs ++ L) (cells + rm.cells) (slots + rm.slots) ∧ Qc v T'.heap L ∧
      ∀ t, Steps p.tables e below (T'.setTop { g with pc := g.pc + 3, stack := v.toList ++ rest }) t → Steps p.tables e below (T.setTop g) t := by
  obtain ⟨v, _, ⟨T', L', k', n'⟩, -, X', ⟨Lc, hQ, l1, y1, z1⟩, st⟩ := X.specialBack hx (y := y) hy1 hown (mvT hZ w1) (mvT hZ w2) (mvT hZ w4) hy (backOf (W := W) hM hZ w4 w3 hf hl) hg hsize (Steps.refl _) hlen hstack hW hdg (fun _ _ => ⟨rfl, e0, hcells, hslots⟩)
  dsimp only [Pt.U, Pt.locs, Pt.cells, Pt.slots] at X' l1 y1 z1 st hQ
  subst l1 y1 z1
  exact ⟨T', v, Lc, X', hQ, fun t k => st.trans k⟩
theorem callV (X : Stand p l e R s m args below meth c T locs cells slots) (hx : p.tables.exec = Jvm.exec) (hZ : Z.Warmed39 s.vm) (hown : s.vm.findClass own = some m.cls)
    (w1 : (Cond.methodLink own index y).before a0 Z = true) (w5 : (Cond.declares y).before a0 Z = true) (w6 : (Cond.selects Cn y y).before a0 Z = true) (w2 : (Cond.instanceMethod y).before a0 Z = true) (w3 : (Cond.initialized y.cls).before a0 Z = true) (w4 : (Cond.code y bytes maxL ret).before a0 Z = true)
    (hy : y.cls ≠ "java/lang/invoke/MethodHandle" ∧ y.cls ≠ "java/lang/invoke/VarHandle") (e0 : T.heap = h) (E : Exa Z h a Cn)
    (hM : MetFree l y (head1 [Cond.code y bytes maxL ret] rm) (fun q U => q = (.ref a :: argsL).toArray ∧ Z.Warmed39 U.vm ∧ U.heap = h) (fun _ _ _ _ _ => True) (fun _ U o U' => ∃ v L, o = .returned v ∧ Qc v U'.heap L ∧ FrameEnd U o U' L rm.cells rm.slots))
    (hf : rm.frames + 1 ≤ R.frames) (hl : W + (maxL + 11) + rm.locals ≤ R.locals) (hcells : cells + rm.cells ≤ R.cells) (hslots : slots + rm.slots ≤ R.slots)
    (hg : g.method = m) (hsize : g.locals.size = c.maxLocals) (hlen : ∀ sig, parseMethodDescriptor y.desc = some sig → argsL.length = sig.parameters.length)
    (hstack : g.stack = argsL.reverse ++ .ref a :: rest) (hW : 2 * g.monitorRoom + (rest.map fun v => v.category).sum ≤ W) (hdg : decode c.code g.pc = .ok (.invokevirtual index, 3)) :
    ∃ (T' : State) (v : Option Value) (L : List Loc), Stand p l e R s m args below meth c T' (locs ++ L) (cells + rm.cells) (slots + rm.slots) ∧ Qc v T'.heap L ∧
      ∀ t, Steps p.tables e below (T'.setTop { g with pc := g.pc + 3, stack := v.toList ++ rest }) t → Steps p.tables e below (T.setTop g) t := by
  obtain ⟨cq, kq, q1, q2, q3⟩ := isOf hZ e0 E
  obtain ⟨v, _, ⟨T', L', k', n'⟩, -, X', ⟨Lc, hQ, l1, y1, z1⟩, st⟩ := X.virtualBack hx (y := y) (z := y) hown (mvT hZ w1) (mvT hZ w5) (notFace_of_selects (args := #[]) (mvT hZ w6)) (mvT hZ w6) (mvT hZ w2) hy (backOf (W := W) hM hZ w4 w3 hf hl) q1 q3 hg hsize (Steps.refl _) hlen hstack hW hdg (fun _ _ => ⟨rfl, e0, hcells, hslots⟩)
  dsimp only [Pt.U, Pt.locs, Pt.cells, Pt.slots] at X' l1 y1 z1 st hQ
  subst l1 y1 z1
  exact ⟨T', v, Lc, X', hQ, fun t k => st.trans k⟩
/-! arrays, as functions of the place -/
def AvI (Z : State) (h : Heap) (a : Addr) (ty : FieldType) (n : Nat) (f : Nat → Int32) : Prop := ∃ c : Cell, Arr Z h a c ty ∧ c.slots.size = n ∧ n < 2 ^ 31 ∧ ∀ i, i < n → c.slots[i]? = some (.int (f i))
def AvJ (Z : State) (h : Heap) (a : Addr) (n : Nat) (f : Nat → Int64) : Prop := ∃ c : Cell, Arr Z h a c .long ∧ c.slots.size = n ∧ n < 2 ^ 31 ∧ ∀ i, i < n → c.slots[i]? = some (.long (f i))
variable {h' : Heap} {ty : FieldType} {n : Nat} {f f' : Nat → Int32} {fj fj' : Nat → Int64} {j x : Int32} {xl : Int64} {b : Addr} {sl : Nat} {v : Value} {ws : List Addr}
theorem clamp (hj : 0 ≤ j.toInt ∧ j.toInt < n) : j.toNatClampNeg = j.toInt.toNat ∧ ¬ j < 0 := by
  refine ⟨rfl, ?_⟩
  rw [Int32.lt_iff_toInt_lt, Int32.toInt_zero]; omega
theorem inb {c : Cell} (S : c.slots.size = n) (hj : 0 ≤ j.toInt ∧ j.toInt < n) : ¬ (j < 0 ∨ c.slots.size ≤ j.toNatClampNeg) := by
  have q := clamp hj
  rw [q.1, S]
  intro w
  rcases w with w | w
  · exact q.2 w
  · omega
theorem AvI.lt (A : AvI Z h a ty n f) : a < h.size := by obtain ⟨c, A, -⟩ := A; exact A.lt
theorem AvJ.lt (A : AvJ Z h a n fj) : a < h.size := by obtain ⟨c, A, -⟩ := A; exact A.lt
theorem AvI.ext (A : AvI Z h a ty n f) (E : Ext h h') : AvI Z h' a ty n f := by obtain ⟨c, A, r⟩ := A; exact ⟨c, A.ext E, r⟩
theorem AvJ.ext (A : AvJ Z h a n fj) (E : Ext h h') : AvJ Z h' a n fj := by obtain ⟨c, A, r⟩ := A; exact ⟨c, A.ext E, r⟩
theorem AvI.other (A : AvI Z h b ty n f) (W : Wr h h' a sl v) (q : b ≠ a) : AvI Z h' b ty n f := by obtain ⟨c, A, r⟩ := A; exact ⟨c, A.other W q, r⟩
theorem AvJ.other (A : AvJ Z h b n fj) (W : Wr h h' a sl v) (q : b ≠ a) : AvJ Z h' b n fj := by obtain ⟨c, A, r⟩ := A; exact ⟨c, A.other W q, r⟩
theorem AvI.keep (A : AvI Z h a ty n f) (K : Keep h h' ws) (q : a ∉ ws) : AvI Z h' a ty n f := by obtain ⟨c, A, r⟩ := A; exact ⟨c, ⟨K.2.1 a c A.1 q, A.2⟩, r⟩
theorem AvJ.keep (A : AvJ Z h a n fj) (K : Keep h h' ws) (q : a ∉ ws) : AvJ Z h' a n fj := by obtain ⟨c, A, r⟩ := A; exact ⟨c, ⟨K.2.1 a c A.1 q, A.2⟩, r⟩
theorem AvI.congr (A : AvI Z h a ty n f) (q : ∀ i, i < n → f' i = f i) : AvI Z h a ty n f' := by obtain ⟨c, A, S, M, H⟩ := A; exact ⟨c, A, S, M, fun i hi => by rw [q i hi]; exact H i hi⟩
theorem AvJ.congr (A : AvJ Z h a n fj) (q : ∀ i, i < n → fj' i = fj i) : AvJ Z h a n fj' := by obtain ⟨c, A, S, M, H⟩ := A; exact ⟨c, A, S, M, fun i hi => by rw [q i hi]; exact H i hi⟩
theorem AvI.new {cA : ClassId} {z : Int32} (A : Arr Z h a (newA cA ty z) ty) (hz : z.toInt = n) (hd : defaultValue ty = .int 0) : AvI Z h a ty n (fun _ => 0) := by
  have q : z.toNatClampNeg = n := by show z.toInt.toNat = n; omega
  refine ⟨_, A, by rw [sz_new]; exact q, by have := z.toInt_lt; omega, fun i hi => ?_⟩
  simp [newA, q, hi, hd]
theorem AvJ.new {cA : ClassId} {z : Int32} (A : Arr Z h a (newA cA .long z) .long) (hz : z.toInt = n) : AvJ Z h a n (fun _ => 0) := by
  have q : z.toNatClampNeg = n := by show z.toInt.toNat = n; omega
  refine ⟨_, A, by rw [sz_new]; exact q, by have := z.toInt_lt; omega, fun i hi => ?_⟩
  simp [newA, q, hi, defaultValue]
theorem len_nat {c : Cell} (S : c.slots.size = n) (M : n < 2 ^ 31) : c.slots.size.toInt32 = Int32.ofNat n := by rw [S]
theorem lenI (X : Stand p l e R s m args below meth c T locs cells slots) (hx : p.tables.exec = Jvm.exec) (hZ : Z.Warmed39 s.vm) (e0 : T.heap = h) (A : AvI Z h a ty n f) (hg : g.method = m) (hs : g.stack = .ref a :: rest) (hd : decode c.code g.pc = .ok (.arraylength, 1)) :
    ∀ t, Steps p.tables e below (T.setTop { g with pc := g.pc + 1, stack := .int (Int32.ofNat n) :: rest }) t → Steps p.tables e below (T.setTop g) t := by
  obtain ⟨c, A, S, M, H⟩ := A
  intro t k
  refine X.arraylength hx (by rw [e0]; exact A.1) (State.isArrayOf_alike hZ.alike A.2.1) hg hs hd _ ?_
  rw [len_nat S M]; exact k
theorem lenJ (X : Stand p l e R s m args below meth c T locs cells slots) (hx : p.tables.exec = Jvm.exec) (hZ : Z.Warmed39 s.vm) (e0 : T.heap = h) (A : AvJ Z h a n fj) (hg : g.method = m) (hs : g.stack = .ref a :: rest) (hd : decode c.code g.pc = .ok (.arraylength, 1)) :
    ∀ t, Steps p.tables e below (T.setTop { g with pc := g.pc + 1, stack := .int (Int32.ofNat n) :: rest }) t → Steps p.tables e below (T.setTop g) t := by
  obtain ⟨c, A, S, M, H⟩ := A
  intro t k
  refine X.arraylength hx (by rw [e0]; exact A.1) (State.isArrayOf_alike hZ.alike A.2.1) hg hs hd _ ?_
  rw [len_nat S M]; exact k
theorem ldI (X : Stand p l e R s m args below meth c T locs cells slots) (hx : p.tables.exec = Jvm.exec) (hZ : Z.Warmed39 s.vm) (e0 : T.heap = h) (A : AvI Z h a .int n f) (hj : 0 ≤ j.toInt ∧ j.toInt < n) (hg : g.method = m) (hs : g.stack = .int j :: .ref a :: rest) (hd : decode c.code g.pc = .ok (.iaload, 1)) :
    ∀ t, Steps p.tables e below (T.setTop { g with pc := g.pc + 1, stack := .int (f j.toInt.toNat) :: rest }) t → Steps p.tables e below (T.setTop g) t := by
  obtain ⟨c, A, S, M, H⟩ := A
  exact fun t k => X.iaload hx (by rw [e0]; exact A.1) (State.isArrayOf_alike hZ.alike A.2.1) A.2.2 (inb S hj) (by rw [(clamp hj).1]; exact H _ (by omega)) hg hs hd _ k
theorem ldJ (X : Stand p l e R s m args below meth c T locs cells slots) (hx : p.tables.exec = Jvm.exec) (hZ : Z.Warmed39 s.vm) (e0 : T.heap = h) (A : AvJ Z h a n fj) (hj : 0 ≤ j.toInt ∧ j.toInt < n) (hg : g.method = m) (hs : g.stack = .int j :: .ref a :: rest) (hd : decode c.code g.pc = .ok (.laload, 1)) :
    ∀ t, Steps p.tables e below (T.setTop { g with pc := g.pc + 1, stack := .long (fj j.toInt.toNat) :: rest }) t → Steps p.tables e below (T.setTop g) t := by
  obtain ⟨c, A, S, M, H⟩ := A
  exact fun t k => X.laload hx (by rw [e0]; exact A.1) (State.isArrayOf_alike hZ.alike A.2.1) A.2.2 (inb S hj) (by rw [(clamp hj).1]; exact H _ (by omega)) hg hs hd _ k
theorem ldB (X : Stand p l e R s m args below meth c T locs cells slots) (hx : p.tables.exec = Jvm.exec) (hZ : Z.Warmed39 s.vm) (e0 : T.heap = h) (A : AvI Z h a .byte n f) (hj : 0 ≤ j.toInt ∧ j.toInt < n) (hg : g.method = m) (hs : g.stack = .int j :: .ref a :: rest) (hd : decode c.code g.pc = .ok (.baload, 1)) :
    ∀ t, Steps p.tables e below (T.setTop { g with pc := g.pc + 1, stack := .int (f j.toInt.toNat) :: rest }) t → Steps p.tables e below (T.setTop g) t := by
  obtain ⟨c, A, S, M, H⟩ := A
  exact fun t k => X.baloadBytes hx (by rw [e0]; exact A.1) (State.isArrayOf_alike hZ.alike A.2.1) A.2.2 (inb S hj) (by rw [(clamp hj).1]; exact H _ (by omega)) hg hs hd _ k
theorem AvI.set (A : AvI Z h a ty n f) (hj : 0 ≤ j.toInt ∧ j.toInt < n) (W : Wr h h' a j.toNatClampNeg (.int x)) : AvI Z h' a ty n (fun i => if i = j.toInt.toNat then x else f i) := by
  obtain ⟨c, A, S, M, H⟩ := A
  refine ⟨_, A.same W, by rw [sz_set]; exact S, M, fun i hi => ?_⟩
  rw [(clamp hj).1]
  by_cases q : i = j.toInt.toNat
  · subst q
    simp only [Cell.setSlot, if_true]
    show (c.slots.setIfInBounds j.toInt.toNat _)[j.toInt.toNat]? = _
    rw [Array.getElem?_setIfInBounds, if_pos rfl, if_pos (by rw [S]; exact hi)]
  · simp only [Cell.setSlot, q, if_false]
    rw [Array.getElem?_setIfInBounds_ne (Ne.symm q)]; exact H i hi
theorem AvJ.set (A : AvJ Z h a n fj) (hj : 0 ≤ j.toInt ∧ j.toInt < n) (W : Wr h h' a j.toNatClampNeg (.long xl)) : AvJ Z h' a n (fun i => if i = j.toInt.toNat then xl else fj i) := by
  obtain ⟨c, A, S, M, H⟩ := A
  refine ⟨_, A.same W, by rw [sz_set]; exact S, M, fun i hi => ?_⟩
  rw [(clamp hj).1]
  by_cases q : i = j.toInt.toNat
  · subst q
    simp only [Cell.setSlot, if_true]
    show (c.slots.setIfInBounds j.toInt.toNat _)[j.toInt.toNat]? = _
    rw [Array.getElem?_setIfInBounds, if_pos rfl, if_pos (by rw [S]; exact hi)]
  · simp only [Cell.setSlot, q, if_false]
    rw [Array.getElem?_setIfInBounds_ne (Ne.symm q)]; exact H i hi
theorem stoI (X : Stand p l e R s m args below meth c T locs cells slots) (hx : p.tables.exec = Jvm.exec) (hZ : Z.Warmed39 s.vm) (e0 : T.heap = h) (A : AvI Z h a .int n f) (hj : 0 ≤ j.toInt ∧ j.toInt < n) (hg : g.method = m) (hs : g.stack = .int x :: .int j :: .ref a :: rest) (hd : decode c.code g.pc = .ok (.iastore, 1)) :
    ∃ T' h', Stand p l e R s m args below meth c T' (locs ++ [⟨a, j.toNatClampNeg⟩]) cells slots ∧ T'.heap = h' ∧ AvI Z h' a .int n (fun i => if i = j.toInt.toNat then x else f i) ∧ Wr h h' a j.toNatClampNeg (.int x) ∧ ∀ t, Steps p.tables e below (T'.setTop { g with pc := g.pc + 1, stack := rest }) t → Steps p.tables e below (T.setTop g) t := by
  obtain ⟨c, A', S, M, H⟩ := id A
  obtain ⟨T', h', X', e', W, st⟩ := stI X hx hZ e0 A' (inb S hj) hg hs hd
  exact ⟨T', h', X', e', A.set hj W, W, st⟩
theorem stoJ (X : Stand p l e R s m args below meth c T locs cells slots) (hx : p.tables.exec = Jvm.exec) (hZ : Z.Warmed39 s.vm) (e0 : T.heap = h) (A : AvJ Z h a n fj) (hj : 0 ≤ j.toInt ∧ j.toInt < n) (hg : g.method = m) (hs : g.stack = .long xl :: .int j :: .ref a :: rest) (hd : decode c.code g.pc = .ok (.lastore, 1)) :
    ∃ T' h', Stand p l e R s m args below meth c T' (locs ++ [⟨a, j.toNatClampNeg⟩]) cells slots ∧ T'.heap = h' ∧ AvJ Z h' a n (fun i => if i = j.toInt.toNat then xl else fj i) ∧ Wr h h' a j.toNatClampNeg (.long xl) ∧ ∀ t, Steps p.tables e below (T'.setTop { g with pc := g.pc + 1, stack := rest }) t → Steps p.tables e below (T.setTop g) t := by
  obtain ⟨c, A', S, M, H⟩ := id A
  obtain ⟨T', h', X', e', W, st⟩ := stJ X hx hZ e0 A' (inb S hj) hg hs hd
  exact ⟨T', h', X', e', A.set hj W, W, st⟩
theorem stoB (X : Stand p l e R s m args below meth c T locs cells slots) (hx : p.tables.exec = Jvm.exec) (hZ : Z.Warmed39 s.vm) (e0 : T.heap = h) (A : AvI Z h a .byte n f) (hj : 0 ≤ j.toInt ∧ j.toInt < n) (hg : g.method = m) (hs : g.stack = .int x :: .int j :: .ref a :: rest) (hd : decode c.code g.pc = .ok (.bastore, 1)) :
    ∃ T' h', Stand p l e R s m args below meth c T' (locs ++ [⟨a, j.toNatClampNeg⟩]) cells slots ∧ T'.heap = h' ∧ AvI Z h' a .byte n (fun i => if i = j.toInt.toNat then nar .byte x else f i) ∧ Wr h h' a j.toNatClampNeg (.int (nar .byte x)) ∧ ∀ t, Steps p.tables e below (T'.setTop { g with pc := g.pc + 1, stack := rest }) t → Steps p.tables e below (T.setTop g) t := by
  obtain ⟨c, A', S, M, H⟩ := id A
  obtain ⟨T', h', X', e', W, st⟩ := stB X hx hZ e0 A' (inb S hj) hg hs hd
  exact ⟨T', h', X', e', A.set hj W, W, st⟩
theorem stoZ (X : Stand p l e R s m args below meth c T locs cells slots) (hx : p.tables.exec = Jvm.exec) (hZ : Z.Warmed39 s.vm) (e0 : T.heap = h) (A : AvI Z h a .boolean n f) (hj : 0 ≤ j.toInt ∧ j.toInt < n) (hg : g.method = m) (hs : g.stack = .int x :: .int j :: .ref a :: rest) (hd : decode c.code g.pc = .ok (.bastore, 1)) :
    ∃ T' h', Stand p l e R s m args below meth c T' (locs ++ [⟨a, j.toNatClampNeg⟩]) cells slots ∧ T'.heap = h' ∧ AvI Z h' a .boolean n (fun i => if i = j.toInt.toNat then nar .boolean x else f i) ∧ Wr h h' a j.toNatClampNeg (.int (nar .boolean x)) ∧ ∀ t, Steps p.tables e below (T'.setTop { g with pc := g.pc + 1, stack := rest }) t → Steps p.tables e below (T.setTop g) t := by
  obtain ⟨c, A', S, M, H⟩ := id A
  obtain ⟨T', h', X', e', W, st⟩ := stZ X hx hZ e0 A' (inb S hj) hg hs hd
  exact ⟨T', h', X', e', A.set hj W, W, st⟩
theorem snoc {k : Nat} (N : Fr k locs) (q : k ≤ a) : Fr k (locs ++ [⟨a, sl⟩]) := N.app fun y hy => by cases List.mem_singleton.mp hy; exact q
theorem nmI {v x : Int32} {pc : Nat} {ls : Array Slot} {st : List Value} {t : State} (q : v = x) (k : Steps p.tables e below (T.setTop (mkF m pc ls (.int v :: st))) t) : Steps p.tables e below (T.setTop (mkF m pc ls (.int x :: st))) t := by subst q; exact k
theorem nmJ {v x : Int64} {pc : Nat} {ls : Array Slot} {st : List Value} {t : State} (q : v = x) (k : Steps p.tables e below (T.setTop (mkF m pc ls (.long v :: st))) t) : Steps p.tables e below (T.setTop (mkF m pc ls (.long x :: st))) t := by subst q; exact k
theorem iincW {t : State} (X : Stand p l e R s m args below meth c T locs cells slots) (hx : p.tables.exec = Jvm.exec) (hg : g.method = m) {k : Nat} {cst : Int} {x : Int32} {l' : Array Slot} (hd : decode c.code g.pc = .ok (.iinc k cst, 6)) (hl : g.locals[k]? = some (.val (.int x))) (hl' : storeLocals g.locals k (.int (x + Int32.ofInt cst)) = some l')
    (hr : Steps p.tables e below (T.setTop { g with pc := g.pc + 6, locals := l' }) t) : Steps p.tables e below (T.setTop g) t := by
  subst hg
  jvm_step X.here [X.here.top, hx, hd, hl, hl']
  exact hr
theorem ne_of {x y : Nat} (q : @Ne Nat x y) : @Ne Addr x y := q
theorem ldZ (X : Stand p l e R s m args below meth c T locs cells slots) (hx : p.tables.exec = Jvm.exec) (hZ : Z.Warmed39 s.vm) (e0 : T.heap = h) (A : AvI Z h a .boolean n f) (hj : 0 ≤ j.toInt ∧ j.toInt < n) (hg : g.method = m) (hs : g.stack = .int j :: .ref a :: rest) (hd : decode c.code g.pc = .ok (.baload, 1)) :
    ∀ t, Steps p.tables e below (T.setTop { g with pc := g.pc + 1, stack := .int (f j.toInt.toNat) :: rest }) t → Steps p.tables e below (T.setTop g) t := by
  obtain ⟨c, A, S, M, H⟩ := A
  exact fun t k => X.baloadBooleans hx (by rw [e0]; exact A.1) (State.isArrayOf_alike hZ.alike A.2.1) A.2.2 (inb S hj) (by rw [(clamp hj).1]; exact H _ (by omega)) hg hs hd _ k
theorem lrem_eq (x y : Int64) : x - x / y * y = x % y := by
  apply Int64.toInt_inj.mp
  have hy := Int64.toInt_mod x y
  have q := Int64.toInt_div x y
  rw [hy, Int64.toInt_sub, Int64.toInt_mul, q]
  have h1 := Int.tmod_add_mul_tdiv x.toInt y.toInt
  have h2 : x.toInt.tmod y.toInt = x.toInt - x.toInt.tdiv y.toInt * y.toInt := by rw [Int.mul_comm]; omega
  have h3 := rng64 x
  have h4 := rng64 y
  have h5 : (x.toInt.tmod y.toInt) % (2 ^ 64) = (x.toInt - x.toInt.tdiv y.toInt * y.toInt) % (2 ^ 64) := by rw [h2]
  have h6 : -2 ^ 63 ≤ x.toInt.tmod y.toInt ∧ x.toInt.tmod y.toInt < 2 ^ 63 := by rw [← hy]; exact ⟨(x % y).le_toInt, (x % y).toInt_lt⟩
  rw [← Int.bmod_eq_of_le (n := x.toInt.tmod y.toInt) (m := 2 ^ 64) (by omega) (by omega), h2]
  simp only [Int.bmod_sub_bmod, Int.sub_bmod_bmod, Int.bmod_mul_bmod, Int.mul_bmod_bmod]
theorem lremM {t : State} (X : Stand p l e R s m args below meth c T locs cells slots) (hx : p.tables.exec = Jvm.exec) (hg : g.method = m) {x y : Int64} (hd : decode c.code g.pc = .ok (.lrem, 1)) (hs : g.stack = .long y :: .long x :: rest) (hy : y ≠ 0)
    (hr : Steps p.tables e below (T.setTop { g with pc := g.pc + 1, stack := .long (x % y) :: rest }) t) : Steps p.tables e below (T.setTop g) t :=
  XS.lrem X.here hx hg hd hs hy (by rw [lrem_eq]; exact hr)
/-- a boolean as an int -/
def b2i (b : Bool) : Int32 := if b then 1 else 0
theorem b2i_t : b2i true = 1 := rfl
theorem b2i_f : b2i false = 0 := rfl
theorem b2i_nar (b : Bool) : nar .boolean (b2i b) = b2i b := by cases b <;> decide
theorem b2i_eq0 {b : Bool} : b2i b = 0 ↔ ¬ b = true := by cases b <;> decide
theorem b2i_inj {b b' : Bool} : b2i b = b2i b' ↔ b = b' := by cases b <;> cases b' <;> decide
end Kit
end Jvm.Own
namespace Jvm.Pilot.@@N@@
open Jvm Jvm.ClassFile Sem Op Lib Jvm.Free Jvm.Stand Jvm.LawKit Jvm.RoadKit Bundle Jvm.Pilot.@@N@@.Jvm.D
theorem own_l0 : (0 : Int32).toInt = 0 := by decide
theorem own_l1 : (1 : Int32).toInt = 1 := by decide
theorem own_l2 : (2 : Int32).toInt = 2 := by decide
theorem own_l3 : (3 : Int32).toInt = 3 := by decide
theorem own_l4 : (4 : Int32).toInt = 4 := by decide
theorem own_l5 : (5 : Int32).toInt = 5 := by decide
theorem own_l6 : (6 : Int32).toInt = 6 := by decide
theorem own_l7 : (7 : Int32).toInt = 7 := by decide
theorem own_l8 : (8 : Int32).toInt = 8 := by decide
theorem own_l12 : (12 : Int32).toInt = 12 := by decide
theorem own_l15 : (15 : Int32).toInt = 15 := by decide
theorem own_l18 : (18 : Int32).toInt = 18 := by decide
theorem own_l31 : (31 : Int32).toInt = 31 := by decide
theorem own_l63 : (63 : Int32).toInt = 63 := by decide
theorem own_l64 : (64 : Int32).toInt = 64 := by decide
theorem own_l127 : (127 : Int32).toInt = 127 := by decide
theorem own_l128 : (128 : Int32).toInt = 128 := by decide
theorem own_l143 : (143 : Int32).toInt = 143 := by decide
theorem own_l144 : (144 : Int32).toInt = 144 := by decide
theorem own_l159 : (159 : Int32).toInt = 159 := by decide
theorem own_l160 : (160 : Int32).toInt = 160 := by decide
theorem own_l191 : (191 : Int32).toInt = 191 := by decide
theorem own_l192 : (192 : Int32).toInt = 192 := by decide
theorem own_l194 : (194 : Int32).toInt = 194 := by decide
theorem own_l223 : (223 : Int32).toInt = 223 := by decide
theorem own_l224 : (224 : Int32).toInt = 224 := by decide
theorem own_l237 : (237 : Int32).toInt = 237 := by decide
theorem own_l239 : (239 : Int32).toInt = 239 := by decide
theorem own_l240 : (240 : Int32).toInt = 240 := by decide
theorem own_l244 : (244 : Int32).toInt = 244 := by decide
theorem own_l247 : (247 : Int32).toInt = 247 := by decide
theorem own_l248 : (248 : Int32).toInt = 248 := by decide
theorem own_l255 : (255 : Int32).toInt = 255 := by decide
theorem own_l1920 : (1920 : Int32).toInt = 1920 := by decide
theorem own_l2048 : (2048 : Int32).toInt = 2048 := by decide
theorem own_l55296 : (55296 : Int32).toInt = 55296 := by decide
theorem own_l57343 : (57343 : Int32).toInt = 57343 := by decide
theorem own_l61440 : (61440 : Int32).toInt = 61440 := by decide
theorem own_l65536 : (65536 : Int32).toInt = 65536 := by decide
theorem own_l1048576 : (1048576 : Int32).toInt = 1048576 := by decide
theorem own_l1114111 : (1114111 : Int32).toInt = 1114111 := by decide
theorem own_l2097152 : (2097152 : Int32).toInt = 2097152 := by decide
theorem own_l4194304 : (4194304 : Int32).toInt = 4194304 := by decide
theorem own_l6291456 : (6291456 : Int32).toInt = 6291456 := by decide
theorem own_l8388608 : (8388608 : Int32).toInt = 8388608 := by decide
theorem own_lm1 : (-1 : Int32).toInt = -1 := by decide
theorem own_eq {a b : Int32} : a = b ↔ a.toInt = b.toInt := Int32.toInt_inj.symm
theorem own_lt {a b : Int32} : a < b ↔ a.toInt < b.toInt := Int32.lt_iff_toInt_lt
theorem own_nat {x : Int32} (h : 0 ≤ x.toInt) : x.toBitVec.toNat = x.toInt.toNat := by
  have e : x.toInt = if 2 * x.toBitVec.toNat < 2 ^ 32 then (x.toBitVec.toNat : Int) else (x.toBitVec.toNat : Int) - ((2 ^ 32 : Nat) : Int) := BitVec.toInt_eq_toNat_cond x.toBitVec
  have l := x.toBitVec.isLt
  split at e <;> omega
theorem own_or {x y : Int32} (i k : Nat) (hx : x.toInt = ((2 ^ i * k : Nat) : Int)) (hk : 2 ^ i * k + 2 ^ i ≤ 2 ^ 31) (hy : 0 ≤ y.toInt ∧ y.toInt < ((2 ^ i : Nat) : Int)) : (x ||| y).toInt = x.toInt + y.toInt := by
  have nx : x.toBitVec.toNat = 2 ^ i * k := by rw [own_nat (by omega), hx]; rfl
  have ny : y.toBitVec.toNat = y.toInt.toNat := own_nat hy.1
  have e : (x ||| y).toBitVec.toNat = 2 ^ i * k + y.toInt.toNat := by
    rw [Int32.toBitVec_or, BitVec.toNat_or, nx, ny, Nat.two_pow_add_eq_or_of_lt (by omega)]
  have l := (x ||| y).toBitVec.isLt
  have e2 : (x ||| y).toInt = (x ||| y).toBitVec.toInt := rfl
  rw [e2, BitVec.toInt_eq_toNat_cond, e, if_pos (by omega)]
  omega
theorem own_and (x m : Int32) (k : Nat) (hk : k < 32) (hm : m.toBitVec.toNat = 2 ^ k - 1) : (x &&& m).toInt = x.toInt % ((2 ^ k : Nat) : Int) := by
  rw [Jvm.Kit.i32_mask x m hk hm, Int.natCast_pow]; rfl
theorem own_l224b : True := trivial
def own_up (g : Nat → Int32) (i x : Int32) : Nat → Int32 := fun ii => if ii = i.toInt.toNat then x else g ii
def own_byte (v : Int32) : Int32 := nar .byte v.toInt8.toInt32
theorem own_byteT {v : Int32} (h : 0 ≤ v.toInt ∧ v.toInt ≤ 255) : own_byte v &&& 255 = v := by
  have hm : (own_byte v &&& 255).toInt = (own_byte v).toInt % 2 ^ 8 := Jvm.Kit.i32_mask _ 255 (k := 8) (by decide) (by decide)
  rw [own_eq, hm]
  have e1 : v.toInt8.toInt32.toInt = v.toInt.bmod (2 ^ 8) := by rw [Int8.toInt_toInt32, Int32.toInt_toInt8]
  have e2 : (own_byte v).toInt = v.toInt.bmod (2 ^ 8) := by
    show (v.toInt8.toInt32.toInt8.toInt32).toInt = _
    rw [Int8.toInt_toInt32, Int32.toInt_toInt8, e1]; simp
  rw [e2, Int.bmod_def]; omega
theorem own_nar {v x : Int32} (h : v = x.toInt8.toInt32) : nar .byte v = v := by
  show v.toInt8.toInt32 = v
  rw [own_eq, h, Int8.toInt_toInt32, Int32.toInt_toInt8, Int8.toInt_toInt32, Int32.toInt_toInt8]; simp
theorem own_shr6 (c : Int32) : (c >>> ((6 : Int32) &&& 31)).toInt = c.toInt / 64 := Jvm.Kit.i32_shr c _ (k := 6) (by decide)
theorem own_shr12 (c : Int32) : (c >>> ((12 : Int32) &&& 31)).toInt = c.toInt / 4096 := Jvm.Kit.i32_shr c _ (k := 12) (by decide)
theorem own_shr18 (c : Int32) : (c >>> ((18 : Int32) &&& 31)).toInt = c.toInt / 262144 := Jvm.Kit.i32_shr c _ (k := 18) (by decide)
theorem own_m63 (u : Int32) : (u &&& 63).toInt = u.toInt % 64 := Jvm.Kit.i32_mask u 63 (k := 6) (by decide) (by decide)
theorem own_m31 (u : Int32) : (u &&& 31).toInt = u.toInt % 32 := Jvm.Kit.i32_mask u 31 (k := 5) (by decide) (by decide)
theorem own_m15 (u : Int32) : (u &&& 15).toInt = u.toInt % 16 := Jvm.Kit.i32_mask u 15 (k := 4) (by decide) (by decide)
theorem own_m7 (u : Int32) : (u &&& 7).toInt = u.toInt % 8 := Jvm.Kit.i32_mask u 7 (k := 3) (by decide) (by decide)
theorem own_128 (u : Int32) : (128 ||| (u &&& 63)).toInt = 128 + u.toInt % 64 := by
  have e := own_m63 u
  rw [own_or (x := 128) 7 1 (by decide) (by decide) (by omega), own_l128, e]
theorem own_192 {c : Int32} (h : 0 ≤ c.toInt ∧ c.toInt ≤ 2047) : (192 ||| (c >>> ((6 : Int32) &&& 31))).toInt = 192 + c.toInt / 64 := by
  have e := own_shr6 c
  rw [own_or (x := 192) 6 3 (by decide) (by decide) (by omega), own_l192, e]
theorem own_224 {c : Int32} (h : 0 ≤ c.toInt ∧ c.toInt ≤ 65535) : (224 ||| (c >>> ((12 : Int32) &&& 31))).toInt = 224 + c.toInt / 4096 := by
  have e := own_shr12 c
  rw [own_or (x := 224) 5 7 (by decide) (by decide) (by omega), own_l224, e]
theorem own_240 {c : Int32} (h : 0 ≤ c.toInt ∧ c.toInt ≤ 1114111) : (240 ||| (c >>> ((18 : Int32) &&& 31))).toInt = 240 + c.toInt / 262144 := by
  have e := own_shr18 c
  rw [own_or (x := 240) 4 15 (by decide) (by decide) (by omega), own_l240, e]
theorem own_sh6 {u : Int32} (h : 0 ≤ u.toInt ∧ u.toInt ≤ 255) : (u <<< ((6 : Int32) &&& 31)).toInt = u.toInt * 64 := Jvm.Kit.i32_shl u _ (k := 6) (by decide) (by omega) (by omega)
theorem own_sh12 {u : Int32} (h : 0 ≤ u.toInt ∧ u.toInt ≤ 255) : (u <<< ((12 : Int32) &&& 31)).toInt = u.toInt * 4096 := Jvm.Kit.i32_shl u _ (k := 12) (by decide) (by omega) (by omega)
theorem own_sh18 {u : Int32} (h : 0 ≤ u.toInt ∧ u.toInt ≤ 255) : (u <<< ((18 : Int32) &&& 31)).toInt = u.toInt * 262144 := Jvm.Kit.i32_shl u _ (k := 18) (by decide) (by omega) (by omega)
theorem own_ofN {u : Int32} (h : 0 ≤ u.toInt ∧ u.toInt ≤ 255) : ∃ n : Fin 256, u = Int32.ofNat n.val ∧ u.toInt = n.val := by
  refine ⟨⟨u.toInt.toNat, by omega⟩, ?_, by show u.toInt = (u.toInt.toNat : Int); omega⟩
  rw [own_eq, Int32.toInt_ofNat_of_lt (by show u.toInt.toNat < 2 ^ 31; omega)]
  show u.toInt = (u.toInt.toNat : Int); omega
theorem own_hiF : ∀ n : Fin 256, ((192 ≤ n.val ∧ n.val < 224) → Int32.ofNat n.val &&& 224 = 192) ∧ ((224 ≤ n.val ∧ n.val < 240) → Int32.ofNat n.val &&& 240 = 224) ∧ ((240 ≤ n.val ∧ n.val < 248) → Int32.ofNat n.val &&& 248 = 240) ∧ ((128 ≤ n.val ∧ n.val < 192) → Int32.ofNat n.val &&& 192 = 128) := by decide +kernel
theorem own_hi {u : Int32} (h : 0 ≤ u.toInt ∧ u.toInt ≤ 255) : ((192 ≤ u.toInt ∧ u.toInt < 224) → u &&& 224 = 192) ∧ ((224 ≤ u.toInt ∧ u.toInt < 240) → u &&& 240 = 224) ∧ ((240 ≤ u.toInt ∧ u.toInt < 248) → u &&& 248 = 240) ∧ ((128 ≤ u.toInt ∧ u.toInt < 192) → u &&& 192 = 128) := by
  obtain ⟨n, e, e'⟩ := own_ofN h
  have q := own_hiF n
  rw [e', e]
  exact ⟨fun z => q.1 (by omega), fun z => q.2.1 (by omega), fun z => q.2.2.1 (by omega), fun z => q.2.2.2 (by omega)⟩
theorem own_c2 {c b0 b1 : Int32} (h : 128 ≤ c.toInt ∧ c.toInt ≤ 2047) (h0 : b0.toInt = 192 + c.toInt / 64) (h1 : b1.toInt = 128 + c.toInt % 64) : ((b0 &&& 31) <<< ((6 : Int32) &&& 31)) ||| (b1 &&& 63) = c := by
  have e0 := own_m31 b0
  have e1 := own_m63 b1
  have s0 := own_sh6 (u := b0 &&& 31) (by omega)
  have o := own_or (x := (b0 &&& 31) <<< ((6 : Int32) &&& 31)) (y := b1 &&& 63) 6 (b0.toInt % 32).toNat (by omega) (by omega) (by omega)
  rw [own_eq, o]; omega
theorem own_c3 {c b0 b1 b2 : Int32} (h : 2048 ≤ c.toInt ∧ c.toInt ≤ 65535) (h0 : b0.toInt = 224 + c.toInt / 4096) (h1 : b1.toInt = 128 + c.toInt / 64 % 64) (h2 : b2.toInt = 128 + c.toInt % 64) : (((b0 &&& 15) <<< ((12 : Int32) &&& 31)) ||| ((b1 &&& 63) <<< ((6 : Int32) &&& 31))) ||| (b2 &&& 63) = c := by
  have e0 := own_m15 b0
  have e1 := own_m63 b1
  have e2 := own_m63 b2
  have s0 := own_sh12 (u := b0 &&& 15) (by omega)
  have s1 := own_sh6 (u := b1 &&& 63) (by omega)
  have o1 := own_or (x := (b0 &&& 15) <<< ((12 : Int32) &&& 31)) (y := (b1 &&& 63) <<< ((6 : Int32) &&& 31)) 12 (b0.toInt % 16).toNat (by omega) (by omega) (by omega)
  have o2 := own_or (x := ((b0 &&& 15) <<< ((12 : Int32) &&& 31)) ||| ((b1 &&& 63) <<< ((6 : Int32) &&& 31))) (y := b2 &&& 63) 6 (b0.toInt % 16 * 64 + b1.toInt % 64).toNat (by omega) (by omega) (by omega)
  rw [own_eq, o2, o1]; omega
theorem own_c4 {c b0 b1 b2 b3 : Int32} (h : 65536 ≤ c.toInt ∧ c.toInt ≤ 1114111) (h0 : b0.toInt = 240 + c.toInt / 262144) (h1 : b1.toInt = 128 + c.toInt / 4096 % 64) (h2 : b2.toInt = 128 + c.toInt / 64 % 64) (h3 : b3.toInt = 128 + c.toInt % 64) : ((((b0 &&& 7) <<< ((18 : Int32) &&& 31)) ||| ((b1 &&& 63) <<< ((12 : Int32) &&& 31))) ||| ((b2 &&& 63) <<< ((6 : Int32) &&& 31))) ||| (b3 &&& 63) = c := by
  have e0 := own_m7 b0
  have e1 := own_m63 b1
  have e2 := own_m63 b2
  have e3 := own_m63 b3
  have s0 := own_sh18 (u := b0 &&& 7) (by omega)
  have s1 := own_sh12 (u := b1 &&& 63) (by omega)
  have s2 := own_sh6 (u := b2 &&& 63) (by omega)
  have o1 := own_or (x := (b0 &&& 7) <<< ((18 : Int32) &&& 31)) (y := (b1 &&& 63) <<< ((12 : Int32) &&& 31)) 18 (b0.toInt % 8).toNat (by omega) (by omega) (by omega)
  have o2 := own_or (x := ((b0 &&& 7) <<< ((18 : Int32) &&& 31)) ||| ((b1 &&& 63) <<< ((12 : Int32) &&& 31))) (y := (b2 &&& 63) <<< ((6 : Int32) &&& 31)) 12 (b0.toInt % 8 * 64 + b1.toInt % 64).toNat (by omega) (by omega) (by omega)
  have o3 := own_or (x := (((b0 &&& 7) <<< ((18 : Int32) &&& 31)) ||| ((b1 &&& 63) <<< ((12 : Int32) &&& 31))) ||| ((b2 &&& 63) <<< ((6 : Int32) &&& 31))) (y := b3 &&& 63) 6 (b0.toInt % 8 * 4096 + b1.toInt % 64 * 64 + b2.toInt % 64).toNat (by omega) (by omega) (by omega)
  rw [own_eq, o3, o2, o1]; omega
theorem own_n4 {n : Int32} (h : 0 ≤ n.toInt ∧ n.toInt ≤ 3) : n = 0 ∨ n = 1 ∨ n = 2 ∨ n = 3 := by
  simp only [own_eq, own_l0, own_l1, own_l2, own_l3]; omega
theorem own_ix {n : Int32} (h : 0 ≤ n.toInt ∧ n.toInt ≤ 3) : (n + 1).toInt = n.toInt + 1 ∧ (n + 2).toInt = n.toInt + 2 ∧ (n + 3).toInt = n.toInt + 3 ∧ (n + 4).toInt = n.toInt + 4 ∧ (n + 1 + 1).toInt = n.toInt + 2 ∧ (n + 1 + 1 + 1).toInt = n.toInt + 3 := by
  rcases own_n4 h with rfl | rfl | rfl | rfl <;> decide
def own_kept (g : Nat → Int32) (i n l s : Int32) : Bool := decide ((¬ i < n ∧ i < n + l) ∨ g i.toInt.toNat = s)
theorem own_n {n x : Int32} (h : n = x &&& 3) : 0 ≤ n.toInt ∧ n.toInt ≤ 3 := by
  have e : (x &&& 3).toInt = x.toInt % 2 ^ 2 := Jvm.Kit.i32_mask x 3 (k := 2) (by decide) (by decide)
  rw [h, e]; omega
theorem own_u {v x : Int32} (h : v = x &&& 2147483647) : 0 ≤ v.toInt := by
  have e : (x &&& 2147483647).toInt = x.toInt % 2 ^ 31 := Jvm.Kit.i32_mask x 2147483647 (k := 31) (by decide) (by decide)
  rw [h, e]; omega
theorem own_rm {u m : Int32} {M : Int} (hu : 0 ≤ u.toInt) (hm : m.toInt = M) (hM : 0 < M) : 0 ≤ (u % m).toInt ∧ (u % m).toInt < M := by
  rw [Jvm.Kit.i32_rem_nonneg hu, hm]
  exact ⟨Int.emod_nonneg _ (by omega), Int.emod_lt_of_pos _ hM⟩
theorem own_ad {v a b : Int32} (h : v = a + b) (ha : 0 ≤ a.toInt ∧ a.toInt ≤ 1000000) (hb : 0 ≤ b.toInt ∧ b.toInt ≤ 1100000) : v.toInt = a.toInt + b.toInt := by
  rw [h, Jvm.Kit.i32_add] <;> omega
theorem own_l1920' : (1920 : Int32).toInt = 1920 := by decide
def own_put1 (g : Nat → Int32) (n c : Int32) : Nat → Int32 := (own_up g (n) (own_byte c))
theorem own_at1 (g : Nat → Int32) {n c : Int32} (h : 0 ≤ n.toInt ∧ n.toInt ≤ 3) (hc : 0 ≤ c.toInt ∧ c.toInt ≤ 127) : own_put1 g n c (n).toInt.toNat &&& 255 = c := by
  have q := own_ix h
  rw [show own_put1 g n c (n).toInt.toNat = own_byte c from by unfold own_put1 own_up; rw [if_pos (by omega)], own_byteT]
  omega
theorem own_st1 (g : Nat → Int32) {n c i s : Int32} (h : 0 ≤ n.toInt ∧ n.toInt ≤ 3) (hi : 0 ≤ i.toInt) (hg : g i.toInt.toNat = s) : own_kept (own_put1 g n c) i n 1 s = true := by
  have q := own_ix h
  refine decide_eq_true ?_
  by_cases w : ¬ i < n ∧ i < n + 1
  · exact Or.inl w
  · right
    rw [own_lt, own_lt] at w
    rw [← hg]
    unfold own_put1 own_up
    rw [if_neg (by omega)]
def own_put2 (g : Nat → Int32) (n c : Int32) : Nat → Int32 := (own_up (own_up g (n) (own_byte (192 ||| (c >>> ((6 : Int32) &&& 31))))) (n + 1) (own_byte (128 ||| (c &&& 63))))
theorem own_at2 (g : Nat → Int32) {n c : Int32} (h : 0 ≤ n.toInt ∧ n.toInt ≤ 3) (hc : 128 ≤ c.toInt ∧ c.toInt ≤ 2047) : own_put2 g n c (n).toInt.toNat &&& 255 = (192 ||| (c >>> ((6 : Int32) &&& 31))) ∧ own_put2 g n c (n + 1).toInt.toNat &&& 255 = (128 ||| (c &&& 63)) := by
  have q := own_ix h
  refine ⟨?_, ?_⟩
  · rw [show own_put2 g n c (n).toInt.toNat = own_byte (192 ||| (c >>> ((6 : Int32) &&& 31))) from by unfold own_put2 own_up; rw [if_neg (by omega)]; rw [if_pos (by omega)], own_byteT]
    have e := own_192 (c := c) (by omega)
    omega
  · rw [show own_put2 g n c (n + 1).toInt.toNat = own_byte (128 ||| (c &&& 63)) from by unfold own_put2 own_up; rw [if_pos (by omega)], own_byteT]
    have e := own_128 c
    omega
theorem own_st2 (g : Nat → Int32) {n c i s : Int32} (h : 0 ≤ n.toInt ∧ n.toInt ≤ 3) (hi : 0 ≤ i.toInt) (hg : g i.toInt.toNat = s) : own_kept (own_put2 g n c) i n 2 s = true := by
  have q := own_ix h
  refine decide_eq_true ?_
  by_cases w : ¬ i < n ∧ i < n + 2
  · exact Or.inl w
  · right
    rw [own_lt, own_lt] at w
    rw [← hg]
    unfold own_put2 own_up
    rw [if_neg (by omega)]
    rw [if_neg (by omega)]
def own_put3 (g : Nat → Int32) (n c : Int32) : Nat → Int32 := (own_up (own_up (own_up g (n) (own_byte (224 ||| (c >>> ((12 : Int32) &&& 31))))) (n + 1) (own_byte (128 ||| ((c >>> ((6 : Int32) &&& 31)) &&& 63)))) (n + 1 + 1) (own_byte (128 ||| (c &&& 63))))
theorem own_at3 (g : Nat → Int32) {n c : Int32} (h : 0 ≤ n.toInt ∧ n.toInt ≤ 3) (hc : 2048 ≤ c.toInt ∧ c.toInt ≤ 65535) : own_put3 g n c (n).toInt.toNat &&& 255 = (224 ||| (c >>> ((12 : Int32) &&& 31))) ∧ own_put3 g n c (n + 1).toInt.toNat &&& 255 = (128 ||| ((c >>> ((6 : Int32) &&& 31)) &&& 63)) ∧ own_put3 g n c (n + 2).toInt.toNat &&& 255 = (128 ||| (c &&& 63)) := by
  have q := own_ix h
  refine ⟨?_, ?_, ?_⟩
  · rw [show own_put3 g n c (n).toInt.toNat = own_byte (224 ||| (c >>> ((12 : Int32) &&& 31))) from by unfold own_put3 own_up; rw [if_neg (by omega)]; rw [if_neg (by omega)]; rw [if_pos (by omega)], own_byteT]
    have e := own_224 (c := c) (by omega)
    omega
  · rw [show own_put3 g n c (n + 1).toInt.toNat = own_byte (128 ||| ((c >>> ((6 : Int32) &&& 31)) &&& 63)) from by unfold own_put3 own_up; rw [if_neg (by omega)]; rw [if_pos (by omega)], own_byteT]
    have e := own_128 (c >>> ((6 : Int32) &&& 31))
    omega
  · rw [show own_put3 g n c (n + 2).toInt.toNat = own_byte (128 ||| (c &&& 63)) from by unfold own_put3 own_up; rw [if_pos (by omega)], own_byteT]
    have e := own_128 c
    omega
theorem own_st3 (g : Nat → Int32) {n c i s : Int32} (h : 0 ≤ n.toInt ∧ n.toInt ≤ 3) (hi : 0 ≤ i.toInt) (hg : g i.toInt.toNat = s) : own_kept (own_put3 g n c) i n 3 s = true := by
  have q := own_ix h
  refine decide_eq_true ?_
  by_cases w : ¬ i < n ∧ i < n + 3
  · exact Or.inl w
  · right
    rw [own_lt, own_lt] at w
    rw [← hg]
    unfold own_put3 own_up
    rw [if_neg (by omega)]
    rw [if_neg (by omega)]
    rw [if_neg (by omega)]
def own_put4 (g : Nat → Int32) (n c : Int32) : Nat → Int32 := (own_up (own_up (own_up (own_up g (n) (own_byte (240 ||| (c >>> ((18 : Int32) &&& 31))))) (n + 1) (own_byte (128 ||| ((c >>> ((12 : Int32) &&& 31)) &&& 63)))) (n + 1 + 1) (own_byte (128 ||| ((c >>> ((6 : Int32) &&& 31)) &&& 63)))) (n + 1 + 1 + 1) (own_byte (128 ||| (c &&& 63))))
theorem own_at4 (g : Nat → Int32) {n c : Int32} (h : 0 ≤ n.toInt ∧ n.toInt ≤ 3) (hc : 65536 ≤ c.toInt ∧ c.toInt ≤ 1114111) : own_put4 g n c (n).toInt.toNat &&& 255 = (240 ||| (c >>> ((18 : Int32) &&& 31))) ∧ own_put4 g n c (n + 1).toInt.toNat &&& 255 = (128 ||| ((c >>> ((12 : Int32) &&& 31)) &&& 63)) ∧ own_put4 g n c (n + 2).toInt.toNat &&& 255 = (128 ||| ((c >>> ((6 : Int32) &&& 31)) &&& 63)) ∧ own_put4 g n c (n + 3).toInt.toNat &&& 255 = (128 ||| (c &&& 63)) := by
  have q := own_ix h
  refine ⟨?_, ?_, ?_, ?_⟩
  · rw [show own_put4 g n c (n).toInt.toNat = own_byte (240 ||| (c >>> ((18 : Int32) &&& 31))) from by unfold own_put4 own_up; rw [if_neg (by omega)]; rw [if_neg (by omega)]; rw [if_neg (by omega)]; rw [if_pos (by omega)], own_byteT]
    have e := own_240 (c := c) (by omega)
    omega
  · rw [show own_put4 g n c (n + 1).toInt.toNat = own_byte (128 ||| ((c >>> ((12 : Int32) &&& 31)) &&& 63)) from by unfold own_put4 own_up; rw [if_neg (by omega)]; rw [if_neg (by omega)]; rw [if_pos (by omega)], own_byteT]
    have e := own_128 (c >>> ((12 : Int32) &&& 31))
    omega
  · rw [show own_put4 g n c (n + 2).toInt.toNat = own_byte (128 ||| ((c >>> ((6 : Int32) &&& 31)) &&& 63)) from by unfold own_put4 own_up; rw [if_neg (by omega)]; rw [if_pos (by omega)], own_byteT]
    have e := own_128 (c >>> ((6 : Int32) &&& 31))
    omega
  · rw [show own_put4 g n c (n + 3).toInt.toNat = own_byte (128 ||| (c &&& 63)) from by unfold own_put4 own_up; rw [if_pos (by omega)], own_byteT]
    have e := own_128 c
    omega
theorem own_st4 (g : Nat → Int32) {n c i s : Int32} (h : 0 ≤ n.toInt ∧ n.toInt ≤ 3) (hi : 0 ≤ i.toInt) (hg : g i.toInt.toNat = s) : own_kept (own_put4 g n c) i n 4 s = true := by
  have q := own_ix h
  refine decide_eq_true ?_
  by_cases w : ¬ i < n ∧ i < n + 4
  · exact Or.inl w
  · right
    rw [own_lt, own_lt] at w
    rw [← hg]
    unfold own_put4 own_up
    rw [if_neg (by omega)]
    rw [if_neg (by omega)]
    rw [if_neg (by omega)]
    rw [if_neg (by omega)]
theorem d1_0 : decode prog_84_method_9_code 0 = .ok (.iload_n 2, 1) := by decide +kernel
theorem d1_1 : decode prog_84_method_9_code 1 = .ok (.sipush 128, 3) := by decide +kernel
theorem d1_4 : decode prog_84_method_9_code 4 = .ok (.if_icmp .ge 14, 3) := by decide +kernel
theorem d1_7 : decode prog_84_method_9_code 7 = .ok (.aload_n 0, 1) := by decide +kernel
theorem d1_8 : decode prog_84_method_9_code 8 = .ok (.iload_n 1, 1) := by decide +kernel
theorem d1_9 : decode prog_84_method_9_code 9 = .ok (.iinc 1 1, 3) := by decide +kernel
theorem d1_12 : decode prog_84_method_9_code 12 = .ok (.iload_n 2, 1) := by decide +kernel
theorem d1_13 : decode prog_84_method_9_code 13 = .ok (.i2b, 1) := by decide +kernel
theorem d1_14 : decode prog_84_method_9_code 14 = .ok (.bastore, 1) := by decide +kernel
theorem d1_15 : decode prog_84_method_9_code 15 = .ok (.goto 166, 3) := by decide +kernel
theorem d1_181 : decode prog_84_method_9_code 181 = .ok (.iload_n 1, 1) := by decide +kernel
theorem d1_182 : decode prog_84_method_9_code 182 = .ok (.ireturn, 1) := by decide +kernel
theorem pn_0 : plainName "org/wireform/json/JsonString" = true := by first | (simp [plainName, overriddenIn]; done) | decide +kernel
theorem ef_1 (m : MethodId) (o0 : Addr) (p1 : Int32) (p2 : Int32) : entryFrame m #[(.ref o0), (.int p1), (.int p2)] 3 = mkF m 0 #[.val (.ref o0), .val (.int p1), .val (.int p2)] [] := by first | (simp [entryFrame, mkF, argsToLocals, Value.category]; done) | rfl
def Q1 (Z : State) (o0 : Nat) (p1 : Int32) (p2 : Int32) (g : Nat → Int32) (h0 : Heap) (n0 : Nat) (v : Option Value) (h : Heap) (L : List Loc) : Prop := v = some (.int (p1 + 1)) ∧ Fr n0 L ∧ Own.AvI Z h o0 .byte 8 (own_put1 g p1 p2)
set_option maxRecDepth 65536 in
set_option maxHeartbeats 40000000 in
theorem rm1 (l : Launch) (Z : State) (a0 : Array Value) (hw : ∀ d ∈ tables_1, d.before a0 Z = true) (ws : List Jvm.Cond) (o0 : Nat) (p1 : Int32) (p2 : Int32) (g : Nat → Int32) (h0 : Heap) (n0 : Nat) (Z0 : n0 ≤ h0.size) (g0 : n0 ≤ o0) (hn : 0 ≤ p1.toInt ∧ p1.toInt ≤ 3) (hc : 0 ≤ p2.toInt ∧ p2.toInt ≤ 127) (A0 : Own.AvI Z h0 o0 .byte 8 g) :
    MetFree l (⟨"org/wireform/json/JsonString", "putUtf8", "([BII)I"⟩ : MethodName) (head1 (Jvm.Cond.code (⟨"org/wireform/json/JsonString", "putUtf8", "([BII)I"⟩ : MethodName) prog_84_method_9_code 3 (some .int) :: ws) ({ frames := 0, cells := 0, slots := 0, locals := 0 } : Room)) (fun a U => a = #[(.ref o0), (.int p1), (.int p2)] ∧ Z.Warmed39 U.vm ∧ U.heap = h0) (fun _ _ _ _ _ => True) (fun _ U o U' => ∃ v L, o = .returned v ∧ Q1 Z o0 p1 p2 g h0 n0 v U'.heap L ∧ FrameEnd U o U' L ({ frames := 0, cells := 0, slots := 0, locals := 0 } : Room).cells ({ frames := 0, cells := 0, slots := 0, locals := 0 } : Room).slots) := by
  refine Own.enter (Q := Q1 Z o0 p1 p2 g h0 n0) (plainFor_of_name pn_0) ?_
  intro p e s m below meth c s₁ D hx hby hml hown hnm hret hZ X0 e0 hD hR
  have N0 := Fr.nil n0
  rw [show entryFrame m #[(.ref o0), (.int p1), (.int p2)] 3 = mkF m 0 #[.val (.ref o0), .val (.int p1), .val (.int p2)] [] from ef_1 m o0 p1 p2]
  refine hD _ (s₁.setTop (mkF m 4 #[.val (.ref o0), .val (.int p1), .val (.int p2)] [(.int (128 : Int32)), (.int p2)])) (fun t k => ?_) ?_
  · show Steps p.tables e below (s₁.setTop (mkF m 0 #[.val (.ref o0), .val (.int p1), .val (.int p2)] [])) t
    refine XS.iloadN X0.here hx rfl (hb hby d1_0) rfl ?_
    show Steps p.tables e below (s₁.setTop (mkF m 1 #[.val (.ref o0), .val (.int p1), .val (.int p2)] [(.int p2)])) t
    refine XS.sipush X0.here hx rfl (hb hby d1_1) ?_
    show Steps p.tables e below (s₁.setTop (mkF m 4 #[.val (.ref o0), .val (.int p1), .val (.int p2)] [(.int (128 : Int32)), (.int p2)])) t
    exact k
  have hc1 : p2 < (128 : Int32) := by rw [own_lt, own_l128]; omega
  obtain ⟨v2, hv2⟩ : ∃ z : Int32, z = (p1 + (1 : Int32)) := ⟨_, rfl⟩
  have hj3 : 0 ≤ p1.toInt ∧ p1.toInt < (8 : Nat) := by omega
  obtain ⟨T4, h4, X4, e4, A4, W4, st4⟩ := Own.stoB X0 hx hZ e0 A0 hj3 (g := (mkF m 14 #[.val (.ref o0), .val (.int v2), .val (.int p2)] [(.int (p2.toInt8.toInt32)), (.int p1), (.ref o0)])) rfl rfl (hb hby d1_14)
  have N4 := Fr.snoc X4 N0 (show n0 ≤ o0 by omega)
  have Z4 : n0 ≤ h4.size := Nat.le_trans Z0 (Keep.of_wr W4).1
  refine hD _ (T4.setTop (mkF m 182 #[.val (.ref o0), .val (.int v2), .val (.int p2)] [(.int v2)])) (fun t k => ?_) ?_
  · show Steps p.tables e below (s₁.setTop (mkF m 4 #[.val (.ref o0), .val (.int p1), .val (.int p2)] [(.int (128 : Int32)), (.int p2)])) t
    refine XS.icmpNo X0.here hx rfl (hb hby d1_4) rfl (tlt hc1).2.1 ?_
    show Steps p.tables e below (s₁.setTop (mkF m 7 #[.val (.ref o0), .val (.int p1), .val (.int p2)] [])) t
    refine XS.aloadN X0.here hx rfl (hb hby d1_7) rfl rfl ?_
    show Steps p.tables e below (s₁.setTop (mkF m 8 #[.val (.ref o0), .val (.int p1), .val (.int p2)] [(.ref o0)])) t
    refine XS.iloadN X0.here hx rfl (hb hby d1_8) rfl ?_
    show Steps p.tables e below (s₁.setTop (mkF m 9 #[.val (.ref o0), .val (.int p1), .val (.int p2)] [(.int p1), (.ref o0)])) t
    refine XS.iinc X0.here hx rfl (hb hby d1_9) rfl (l' := #[.val (.ref o0), .val (.int (p1 + (1 : Int32))), .val (.int p2)]) rfl ?_
    show Steps p.tables e below (s₁.setTop (mkF m 12 #[.val (.ref o0), .val (.int (p1 + (1 : Int32))), .val (.int p2)] [(.int p1), (.ref o0)])) t
    rw [← hv2]
    show Steps p.tables e below (s₁.setTop (mkF m 12 #[.val (.ref o0), .val (.int v2), .val (.int p2)] [(.int p1), (.ref o0)])) t
    refine XS.iloadN X0.here hx rfl (hb hby d1_12) rfl ?_
    show Steps p.tables e below (s₁.setTop (mkF m 13 #[.val (.ref o0), .val (.int v2), .val (.int p2)] [(.int p2), (.int p1), (.ref o0)])) t
    refine XS.i2b X0.here hx rfl (hb hby d1_13) rfl ?_
    show Steps p.tables e below (s₁.setTop (mkF m 14 #[.val (.ref o0), .val (.int v2), .val (.int p2)] [(.int (p2.toInt8.toInt32)), (.int p1), (.ref o0)])) t
    refine st4 _ ?_
    show Steps p.tables e below (T4.setTop (mkF m 15 #[.val (.ref o0), .val (.int v2), .val (.int p2)] [])) t
    refine XS.goto X4.here hx rfl (pc0 := 15) (pc' := 181) rfl (hb hby d1_15) (by decide) (by decide) ?_
    show Steps p.tables e below (T4.setTop (mkF m 181 #[.val (.ref o0), .val (.int v2), .val (.int p2)] [])) t
    refine XS.iloadN X4.here hx rfl (hb hby d1_181) rfl ?_
    show Steps p.tables e below (T4.setTop (mkF m 182 #[.val (.ref o0), .val (.int v2), .val (.int p2)] [(.int v2)])) t
    exact k
  have A_ := A4
  subst hv2
  exact Own.retI hR X4 hx hret (hb hby d1_182) (by decide) (by decide) (by rw [e4]; exact ⟨rfl, N4, A_⟩)
theorem d2_0 : decode prog_84_method_9_code 0 = .ok (.iload_n 2, 1) := by decide +kernel
theorem d2_1 : decode prog_84_method_9_code 1 = .ok (.sipush 128, 3) := by decide +kernel
theorem d2_4 : decode prog_84_method_9_code 4 = .ok (.if_icmp .ge 14, 3) := by decide +kernel
theorem d2_18 : decode prog_84_method_9_code 18 = .ok (.iload_n 2, 1) := by decide +kernel
theorem d2_19 : decode prog_84_method_9_code 19 = .ok (.sipush 2048, 3) := by decide +kernel
theorem d2_22 : decode prog_84_method_9_code 22 = .ok (.if_icmp .ge 36, 3) := by decide +kernel
theorem d2_25 : decode prog_84_method_9_code 25 = .ok (.aload_n 0, 1) := by decide +kernel
theorem d2_26 : decode prog_84_method_9_code 26 = .ok (.iload_n 1, 1) := by decide +kernel
theorem d2_27 : decode prog_84_method_9_code 27 = .ok (.iinc 1 1, 3) := by decide +kernel
theorem d2_30 : decode prog_84_method_9_code 30 = .ok (.sipush 192, 3) := by decide +kernel
theorem d2_33 : decode prog_84_method_9_code 33 = .ok (.iload_n 2, 1) := by decide +kernel
theorem d2_34 : decode prog_84_method_9_code 34 = .ok (.bipush 6, 2) := by decide +kernel
theorem d2_36 : decode prog_84_method_9_code 36 = .ok (.ishr, 1) := by decide +kernel
theorem d2_37 : decode prog_84_method_9_code 37 = .ok (.ior, 1) := by decide +kernel
theorem d2_38 : decode prog_84_method_9_code 38 = .ok (.i2b, 1) := by decide +kernel
theorem d2_39 : decode prog_84_method_9_code 39 = .ok (.bastore, 1) := by decide +kernel
theorem d2_40 : decode prog_84_method_9_code 40 = .ok (.aload_n 0, 1) := by decide +kernel
theorem d2_41 : decode prog_84_method_9_code 41 = .ok (.iload_n 1, 1) := by decide +kernel
theorem d2_42 : decode prog_84_method_9_code 42 = .ok (.iinc 1 1, 3) := by decide +kernel
theorem d2_45 : decode prog_84_method_9_code 45 = .ok (.sipush 128, 3) := by decide +kernel
theorem d2_48 : decode prog_84_method_9_code 48 = .ok (.iload_n 2, 1) := by decide +kernel
theorem d2_49 : decode prog_84_method_9_code 49 = .ok (.bipush 63, 2) := by decide +kernel
theorem d2_51 : decode prog_84_method_9_code 51 = .ok (.iand, 1) := by decide +kernel
theorem d2_52 : decode prog_84_method_9_code 52 = .ok (.ior, 1) := by decide +kernel
theorem d2_53 : decode prog_84_method_9_code 53 = .ok (.i2b, 1) := by decide +kernel
theorem d2_54 : decode prog_84_method_9_code 54 = .ok (.bastore, 1) := by decide +kernel
theorem d2_55 : decode prog_84_method_9_code 55 = .ok (.goto 126, 3) := by decide +kernel
theorem d2_181 : decode prog_84_method_9_code 181 = .ok (.iload_n 1, 1) := by decide +kernel
theorem d2_182 : decode prog_84_method_9_code 182 = .ok (.ireturn, 1) := by decide +kernel
theorem ef_2 (m : MethodId) (o0 : Addr) (p1 : Int32) (p2 : Int32) : entryFrame m #[(.ref o0), (.int p1), (.int p2)] 3 = mkF m 0 #[.val (.ref o0), .val (.int p1), .val (.int p2)] [] := by first | (simp [entryFrame, mkF, argsToLocals, Value.category]; done) | rfl
def Q2 (Z : State) (o0 : Nat) (p1 : Int32) (p2 : Int32) (g : Nat → Int32) (h0 : Heap) (n0 : Nat) (v : Option Value) (h : Heap) (L : List Loc) : Prop := v = some (.int (p1 + 2)) ∧ Fr n0 L ∧ Own.AvI Z h o0 .byte 8 (own_put2 g p1 p2)
set_option maxRecDepth 65536 in
set_option maxHeartbeats 40000000 in
theorem rm2 (l : Launch) (Z : State) (a0 : Array Value) (hw : ∀ d ∈ tables_1, d.before a0 Z = true) (ws : List Jvm.Cond) (o0 : Nat) (p1 : Int32) (p2 : Int32) (g : Nat → Int32) (h0 : Heap) (n0 : Nat) (Z0 : n0 ≤ h0.size) (g0 : n0 ≤ o0) (hn : 0 ≤ p1.toInt ∧ p1.toInt ≤ 3) (hc : 128 ≤ p2.toInt ∧ p2.toInt ≤ 2047) (A0 : Own.AvI Z h0 o0 .byte 8 g) :
    MetFree l (⟨"org/wireform/json/JsonString", "putUtf8", "([BII)I"⟩ : MethodName) (head1 (Jvm.Cond.code (⟨"org/wireform/json/JsonString", "putUtf8", "([BII)I"⟩ : MethodName) prog_84_method_9_code 3 (some .int) :: ws) ({ frames := 0, cells := 0, slots := 0, locals := 0 } : Room)) (fun a U => a = #[(.ref o0), (.int p1), (.int p2)] ∧ Z.Warmed39 U.vm ∧ U.heap = h0) (fun _ _ _ _ _ => True) (fun _ U o U' => ∃ v L, o = .returned v ∧ Q2 Z o0 p1 p2 g h0 n0 v U'.heap L ∧ FrameEnd U o U' L ({ frames := 0, cells := 0, slots := 0, locals := 0 } : Room).cells ({ frames := 0, cells := 0, slots := 0, locals := 0 } : Room).slots) := by
  refine Own.enter (Q := Q2 Z o0 p1 p2 g h0 n0) (plainFor_of_name pn_0) ?_
  intro p e s m below meth c s₁ D hx hby hml hown hnm hret hZ X0 e0 hD hR
  have N0 := Fr.nil n0
  rw [show entryFrame m #[(.ref o0), (.int p1), (.int p2)] 3 = mkF m 0 #[.val (.ref o0), .val (.int p1), .val (.int p2)] [] from ef_2 m o0 p1 p2]
  refine hD _ (s₁.setTop (mkF m 4 #[.val (.ref o0), .val (.int p1), .val (.int p2)] [(.int (128 : Int32)), (.int p2)])) (fun t k => ?_) ?_
  · show Steps p.tables e below (s₁.setTop (mkF m 0 #[.val (.ref o0), .val (.int p1), .val (.int p2)] [])) t
    refine XS.iloadN X0.here hx rfl (hb hby d2_0) rfl ?_
    show Steps p.tables e below (s₁.setTop (mkF m 1 #[.val (.ref o0), .val (.int p1), .val (.int p2)] [(.int p2)])) t
    refine XS.sipush X0.here hx rfl (hb hby d2_1) ?_
    show Steps p.tables e below (s₁.setTop (mkF m 4 #[.val (.ref o0), .val (.int p1), .val (.int p2)] [(.int (128 : Int32)), (.int p2)])) t
    exact k
  have hc1 : ¬ (p2 < (128 : Int32)) := by rw [own_lt, own_l128]; omega
  refine hD _ (s₁.setTop (mkF m 22 #[.val (.ref o0), .val (.int p1), .val (.int p2)] [(.int (2048 : Int32)), (.int p2)])) (fun t k => ?_) ?_
  · show Steps p.tables e below (s₁.setTop (mkF m 4 #[.val (.ref o0), .val (.int p1), .val (.int p2)] [(.int (128 : Int32)), (.int p2)])) t
    refine XS.icmpYes X0.here hx rfl (pc0 := 4) (pc' := 18) rfl (hb hby d2_4) rfl (flt hc1).2.1 (by decide) (by decide) ?_
    show Steps p.tables e below (s₁.setTop (mkF m 18 #[.val (.ref o0), .val (.int p1), .val (.int p2)] [])) t
    refine XS.iloadN X0.here hx rfl (hb hby d2_18) rfl ?_
    show Steps p.tables e below (s₁.setTop (mkF m 19 #[.val (.ref o0), .val (.int p1), .val (.int p2)] [(.int p2)])) t
    refine XS.sipush X0.here hx rfl (hb hby d2_19) ?_
    show Steps p.tables e below (s₁.setTop (mkF m 22 #[.val (.ref o0), .val (.int p1), .val (.int p2)] [(.int (2048 : Int32)), (.int p2)])) t
    exact k
  have hc2 : p2 < (2048 : Int32) := by rw [own_lt, own_l2048]; omega
  obtain ⟨v3, hv3⟩ : ∃ z : Int32, z = (p1 + (1 : Int32)) := ⟨_, rfl⟩
  have hj4 : 0 ≤ p1.toInt ∧ p1.toInt < (8 : Nat) := by omega
  obtain ⟨T5, h5, X5, e5, A5, W5, st5⟩ := Own.stoB X0 hx hZ e0 A0 hj4 (g := (mkF m 39 #[.val (.ref o0), .val (.int v3), .val (.int p2)] [(.int (((192 : Int32) ||| (p2 >>> ((6 : Int32) &&& 31))).toInt8.toInt32)), (.int p1), (.ref o0)])) rfl rfl (hb hby d2_39)
  have N5 := Fr.snoc X5 N0 (show n0 ≤ o0 by omega)
  have Z5 : n0 ≤ h5.size := Nat.le_trans Z0 (Keep.of_wr W5).1
  obtain ⟨v6, hv6⟩ : ∃ z : Int32, z = (v3 + (1 : Int32)) := ⟨_, rfl⟩
  have hj7 : 0 ≤ v3.toInt ∧ v3.toInt < (8 : Nat) := by rw [hv3]; have q := own_ix hn; omega
  obtain ⟨T8, h8, X8, e8, A8, W8, st8⟩ := Own.stoB X5 hx hZ e5 A5 hj7 (g := (mkF m 54 #[.val (.ref o0), .val (.int v6), .val (.int p2)] [(.int (((128 : Int32) ||| (p2 &&& (63 : Int32))).toInt8.toInt32)), (.int v3), (.ref o0)])) rfl rfl (hb hby d2_54)
  have N8 := Fr.snoc X8 N5 (show n0 ≤ o0 by omega)
  have Z8 : n0 ≤ h8.size := Nat.le_trans Z5 (Keep.of_wr W8).1
  refine hD _ (T8.setTop (mkF m 182 #[.val (.ref o0), .val (.int v6), .val (.int p2)] [(.int v6)])) (fun t k => ?_) ?_
  · show Steps p.tables e below (s₁.setTop (mkF m 22 #[.val (.ref o0), .val (.int p1), .val (.int p2)] [(.int (2048 : Int32)), (.int p2)])) t
    refine XS.icmpNo X0.here hx rfl (hb hby d2_22) rfl (tlt hc2).2.1 ?_
    show Steps p.tables e below (s₁.setTop (mkF m 25 #[.val (.ref o0), .val (.int p1), .val (.int p2)] [])) t
    refine XS.aloadN X0.here hx rfl (hb hby d2_25) rfl rfl ?_
    show Steps p.tables e below (s₁.setTop (mkF m 26 #[.val (.ref o0), .val (.int p1), .val (.int p2)] [(.ref o0)])) t
    refine XS.iloadN X0.here hx rfl (hb hby d2_26) rfl ?_
    show Steps p.tables e below (s₁.setTop (mkF m 27 #[.val (.ref o0), .val (.int p1), .val (.int p2)] [(.int p1), (.ref o0)])) t
    refine XS.iinc X0.here hx rfl (hb hby d2_27) rfl (l' := #[.val (.ref o0), .val (.int (p1 + (1 : Int32))), .val (.int p2)]) rfl ?_
    show Steps p.tables e below (s₁.setTop (mkF m 30 #[.val (.ref o0), .val (.int (p1 + (1 : Int32))), .val (.int p2)] [(.int p1), (.ref o0)])) t
    rw [← hv3]
    show Steps p.tables e below (s₁.setTop (mkF m 30 #[.val (.ref o0), .val (.int v3), .val (.int p2)] [(.int p1), (.ref o0)])) t
    refine XS.sipush X0.here hx rfl (hb hby d2_30) ?_
    show Steps p.tables e below (s₁.setTop (mkF m 33 #[.val (.ref o0), .val (.int v3), .val (.int p2)] [(.int (192 : Int32)), (.int p1), (.ref o0)])) t
    refine XS.iloadN X0.here hx rfl (hb hby d2_33) rfl ?_
    show Steps p.tables e below (s₁.setTop (mkF m 34 #[.val (.ref o0), .val (.int v3), .val (.int p2)] [(.int p2), (.int (192 : Int32)), (.int p1), (.ref o0)])) t
    refine XS.bipush X0.here hx rfl (hb hby d2_34) ?_
    show Steps p.tables e below (s₁.setTop (mkF m 36 #[.val (.ref o0), .val (.int v3), .val (.int p2)] [(.int (6 : Int32)), (.int p2), (.int (192 : Int32)), (.int p1), (.ref o0)])) t
    refine XS.ishr X0.here hx rfl (hb hby d2_36) rfl ?_
    show Steps p.tables e below (s₁.setTop (mkF m 37 #[.val (.ref o0), .val (.int v3), .val (.int p2)] [(.int (p2 >>> ((6 : Int32) &&& 31))), (.int (192 : Int32)), (.int p1), (.ref o0)])) t
    refine XS.ior X0.here hx rfl (hb hby d2_37) rfl ?_
    show Steps p.tables e below (s₁.setTop (mkF m 38 #[.val (.ref o0), .val (.int v3), .val (.int p2)] [(.int ((192 : Int32) ||| (p2 >>> ((6 : Int32) &&& 31)))), (.int p1), (.ref o0)])) t
    refine XS.i2b X0.here hx rfl (hb hby d2_38) rfl ?_
    show Steps p.tables e below (s₁.setTop (mkF m 39 #[.val (.ref o0), .val (.int v3), .val (.int p2)] [(.int (((192 : Int32) ||| (p2 >>> ((6 : Int32) &&& 31))).toInt8.toInt32)), (.int p1), (.ref o0)])) t
    refine st5 _ ?_
    show Steps p.tables e below (T5.setTop (mkF m 40 #[.val (.ref o0), .val (.int v3), .val (.int p2)] [])) t
    refine XS.aloadN X5.here hx rfl (hb hby d2_40) rfl rfl ?_
    show Steps p.tables e below (T5.setTop (mkF m 41 #[.val (.ref o0), .val (.int v3), .val (.int p2)] [(.ref o0)])) t
    refine XS.iloadN X5.here hx rfl (hb hby d2_41) rfl ?_
    show Steps p.tables e below (T5.setTop (mkF m 42 #[.val (.ref o0), .val (.int v3), .val (.int p2)] [(.int v3), (.ref o0)])) t
    refine XS.iinc X5.here hx rfl (hb hby d2_42) rfl (l' := #[.val (.ref o0), .val (.int (v3 + (1 : Int32))), .val (.int p2)]) rfl ?_
    show Steps p.tables e below (T5.setTop (mkF m 45 #[.val (.ref o0), .val (.int (v3 + (1 : Int32))), .val (.int p2)] [(.int v3), (.ref o0)])) t
    rw [← hv6]
    show Steps p.tables e below (T5.setTop (mkF m 45 #[.val (.ref o0), .val (.int v6), .val (.int p2)] [(.int v3), (.ref o0)])) t
    refine XS.sipush X5.here hx rfl (hb hby d2_45) ?_
    show Steps p.tables e below (T5.setTop (mkF m 48 #[.val (.ref o0), .val (.int v6), .val (.int p2)] [(.int (128 : Int32)), (.int v3), (.ref o0)])) t
    refine XS.iloadN X5.here hx rfl (hb hby d2_48) rfl ?_
    show Steps p.tables e below (T5.setTop (mkF m 49 #[.val (.ref o0), .val (.int v6), .val (.int p2)] [(.int p2), (.int (128 : Int32)), (.int v3), (.ref o0)])) t
    refine XS.bipush X5.here hx rfl (hb hby d2_49) ?_
    show Steps p.tables e below (T5.setTop (mkF m 51 #[.val (.ref o0), .val (.int v6), .val (.int p2)] [(.int (63 : Int32)), (.int p2), (.int (128 : Int32)), (.int v3), (.ref o0)])) t
    refine XS.iand X5.here hx rfl (hb hby d2_51) rfl ?_
    show Steps p.tables e below (T5.setTop (mkF m 52 #[.val (.ref o0), .val (.int v6), .val (.int p2)] [(.int (p2 &&& (63 : Int32))), (.int (128 : Int32)), (.int v3), (.ref o0)])) t
    refine XS.ior X5.here hx rfl (hb hby d2_52) rfl ?_
    show Steps p.tables e below (T5.setTop (mkF m 53 #[.val (.ref o0), .val (.int v6), .val (.int p2)] [(.int ((128 : Int32) ||| (p2 &&& (63 : Int32)))), (.int v3), (.ref o0)])) t
    refine XS.i2b X5.here hx rfl (hb hby d2_53) rfl ?_
    show Steps p.tables e below (T5.setTop (mkF m 54 #[.val (.ref o0), .val (.int v6), .val (.int p2)] [(.int (((128 : Int32) ||| (p2 &&& (63 : Int32))).toInt8.toInt32)), (.int v3), (.ref o0)])) t
    refine st8 _ ?_
    show Steps p.tables e below (T8.setTop (mkF m 55 #[.val (.ref o0), .val (.int v6), .val (.int p2)] [])) t
    refine XS.goto X8.here hx rfl (pc0 := 55) (pc' := 181) rfl (hb hby d2_55) (by decide) (by decide) ?_
    show Steps p.tables e below (T8.setTop (mkF m 181 #[.val (.ref o0), .val (.int v6), .val (.int p2)] [])) t
    refine XS.iloadN X8.here hx rfl (hb hby d2_181) rfl ?_
    show Steps p.tables e below (T8.setTop (mkF m 182 #[.val (.ref o0), .val (.int v6), .val (.int p2)] [(.int v6)])) t
    exact k
  have A_ := A8
  subst hv6
  subst hv3
  exact Own.retI hR X8 hx hret (hb hby d2_182) (by decide) (by decide) (by rw [e8]; exact ⟨by rw [Int32.add_assoc]; rfl, N8, A_⟩)
theorem d3_0 : decode prog_84_method_9_code 0 = .ok (.iload_n 2, 1) := by decide +kernel
theorem d3_1 : decode prog_84_method_9_code 1 = .ok (.sipush 128, 3) := by decide +kernel
theorem d3_4 : decode prog_84_method_9_code 4 = .ok (.if_icmp .ge 14, 3) := by decide +kernel
theorem d3_18 : decode prog_84_method_9_code 18 = .ok (.iload_n 2, 1) := by decide +kernel
theorem d3_19 : decode prog_84_method_9_code 19 = .ok (.sipush 2048, 3) := by decide +kernel
theorem d3_22 : decode prog_84_method_9_code 22 = .ok (.if_icmp .ge 36, 3) := by decide +kernel
theorem d3_58 : decode prog_84_method_9_code 58 = .ok (.iload_n 2, 1) := by decide +kernel
theorem d3_59 : decode prog_84_method_9_code 59 = .ok (.ldc 99, 2) := by decide +kernel
theorem d3_61 : decode prog_84_method_9_code 61 = .ok (.if_icmp .ge 54, 3) := by decide +kernel
theorem d3_64 : decode prog_84_method_9_code 64 = .ok (.aload_n 0, 1) := by decide +kernel
theorem d3_65 : decode prog_84_method_9_code 65 = .ok (.iload_n 1, 1) := by decide +kernel
theorem d3_66 : decode prog_84_method_9_code 66 = .ok (.iinc 1 1, 3) := by decide +kernel
theorem d3_69 : decode prog_84_method_9_code 69 = .ok (.sipush 224, 3) := by decide +kernel
theorem d3_72 : decode prog_84_method_9_code 72 = .ok (.iload_n 2, 1) := by decide +kernel
theorem d3_73 : decode prog_84_method_9_code 73 = .ok (.bipush 12, 2) := by decide +kernel
theorem d3_75 : decode prog_84_method_9_code 75 = .ok (.ishr, 1) := by decide +kernel
theorem d3_76 : decode prog_84_method_9_code 76 = .ok (.ior, 1) := by decide +kernel
theorem d3_77 : decode prog_84_method_9_code 77 = .ok (.i2b, 1) := by decide +kernel
theorem d3_78 : decode prog_84_method_9_code 78 = .ok (.bastore, 1) := by decide +kernel
theorem d3_79 : decode prog_84_method_9_code 79 = .ok (.aload_n 0, 1) := by decide +kernel
theorem d3_80 : decode prog_84_method_9_code 80 = .ok (.iload_n 1, 1) := by decide +kernel
theorem d3_81 : decode prog_84_method_9_code 81 = .ok (.iinc 1 1, 3) := by decide +kernel
theorem d3_84 : decode prog_84_method_9_code 84 = .ok (.sipush 128, 3) := by decide +kernel
theorem d3_87 : decode prog_84_method_9_code 87 = .ok (.iload_n 2, 1) := by decide +kernel
theorem d3_88 : decode prog_84_method_9_code 88 = .ok (.bipush 6, 2) := by decide +kernel
theorem d3_90 : decode prog_84_method_9_code 90 = .ok (.ishr, 1) := by decide +kernel
theorem d3_91 : decode prog_84_method_9_code 91 = .ok (.bipush 63, 2) := by decide +kernel
theorem d3_93 : decode prog_84_method_9_code 93 = .ok (.iand, 1) := by decide +kernel
theorem d3_94 : decode prog_84_method_9_code 94 = .ok (.ior, 1) := by decide +kernel
theorem d3_95 : decode prog_84_method_9_code 95 = .ok (.i2b, 1) := by decide +kernel
theorem d3_96 : decode prog_84_method_9_code 96 = .ok (.bastore, 1) := by decide +kernel
theorem d3_97 : decode prog_84_method_9_code 97 = .ok (.aload_n 0, 1) := by decide +kernel
theorem d3_98 : decode prog_84_method_9_code 98 = .ok (.iload_n 1, 1) := by decide +kernel
theorem d3_99 : decode prog_84_method_9_code 99 = .ok (.iinc 1 1, 3) := by decide +kernel
theorem d3_102 : decode prog_84_method_9_code 102 = .ok (.sipush 128, 3) := by decide +kernel
theorem d3_105 : decode prog_84_method_9_code 105 = .ok (.iload_n 2, 1) := by decide +kernel
theorem d3_106 : decode prog_84_method_9_code 106 = .ok (.bipush 63, 2) := by decide +kernel
theorem d3_108 : decode prog_84_method_9_code 108 = .ok (.iand, 1) := by decide +kernel
theorem d3_109 : decode prog_84_method_9_code 109 = .ok (.ior, 1) := by decide +kernel
theorem d3_110 : decode prog_84_method_9_code 110 = .ok (.i2b, 1) := by decide +kernel
theorem d3_111 : decode prog_84_method_9_code 111 = .ok (.bastore, 1) := by decide +kernel
theorem d3_112 : decode prog_84_method_9_code 112 = .ok (.goto 69, 3) := by decide +kernel
theorem d3_181 : decode prog_84_method_9_code 181 = .ok (.iload_n 1, 1) := by decide +kernel
theorem d3_182 : decode prog_84_method_9_code 182 = .ok (.ireturn, 1) := by decide +kernel
theorem ef_3 (m : MethodId) (o0 : Addr) (p1 : Int32) (p2 : Int32) : entryFrame m #[(.ref o0), (.int p1), (.int p2)] 3 = mkF m 0 #[.val (.ref o0), .val (.int p1), .val (.int p2)] [] := by first | (simp [entryFrame, mkF, argsToLocals, Value.category]; done) | rfl
def Q3 (Z : State) (o0 : Nat) (p1 : Int32) (p2 : Int32) (g : Nat → Int32) (h0 : Heap) (n0 : Nat) (v : Option Value) (h : Heap) (L : List Loc) : Prop := v = some (.int (p1 + 3)) ∧ Fr n0 L ∧ Own.AvI Z h o0 .byte 8 (own_put3 g p1 p2)
set_option maxRecDepth 65536 in
set_option maxHeartbeats 40000000 in
theorem rm3 (l : Launch) (Z : State) (a0 : Array Value) (hw : ∀ d ∈ tables_1, d.before a0 Z = true) (ws : List Jvm.Cond) (o0 : Nat) (p1 : Int32) (p2 : Int32) (g : Nat → Int32) (h0 : Heap) (n0 : Nat) (Z0 : n0 ≤ h0.size) (g0 : n0 ≤ o0) (hn : 0 ≤ p1.toInt ∧ p1.toInt ≤ 3) (hc : 2048 ≤ p2.toInt ∧ p2.toInt ≤ 65535) (A0 : Own.AvI Z h0 o0 .byte 8 g) :
    MetFree l (⟨"org/wireform/json/JsonString", "putUtf8", "([BII)I"⟩ : MethodName) (head1 (Jvm.Cond.code (⟨"org/wireform/json/JsonString", "putUtf8", "([BII)I"⟩ : MethodName) prog_84_method_9_code 3 (some .int) :: ws) ({ frames := 0, cells := 0, slots := 0, locals := 0 } : Room)) (fun a U => a = #[(.ref o0), (.int p1), (.int p2)] ∧ Z.Warmed39 U.vm ∧ U.heap = h0) (fun _ _ _ _ _ => True) (fun _ U o U' => ∃ v L, o = .returned v ∧ Q3 Z o0 p1 p2 g h0 n0 v U'.heap L ∧ FrameEnd U o U' L ({ frames := 0, cells := 0, slots := 0, locals := 0 } : Room).cells ({ frames := 0, cells := 0, slots := 0, locals := 0 } : Room).slots) := by
  refine Own.enter (Q := Q3 Z o0 p1 p2 g h0 n0) (plainFor_of_name pn_0) ?_
  intro p e s m below meth c s₁ D hx hby hml hown hnm hret hZ X0 e0 hD hR
  have N0 := Fr.nil n0
  rw [show entryFrame m #[(.ref o0), (.int p1), (.int p2)] 3 = mkF m 0 #[.val (.ref o0), .val (.int p1), .val (.int p2)] [] from ef_3 m o0 p1 p2]
  refine hD _ (s₁.setTop (mkF m 4 #[.val (.ref o0), .val (.int p1), .val (.int p2)] [(.int (128 : Int32)), (.int p2)])) (fun t k => ?_) ?_
  · show Steps p.tables e below (s₁.setTop (mkF m 0 #[.val (.ref o0), .val (.int p1), .val (.int p2)] [])) t
    refine XS.iloadN X0.here hx rfl (hb hby d3_0) rfl ?_
    show Steps p.tables e below (s₁.setTop (mkF m 1 #[.val (.ref o0), .val (.int p1), .val (.int p2)] [(.int p2)])) t
    refine XS.sipush X0.here hx rfl (hb hby d3_1) ?_
    show Steps p.tables e below (s₁.setTop (mkF m 4 #[.val (.ref o0), .val (.int p1), .val (.int p2)] [(.int (128 : Int32)), (.int p2)])) t
    exact k
  have hc1 : ¬ (p2 < (128 : Int32)) := by rw [own_lt, own_l128]; omega
  refine hD _ (s₁.setTop (mkF m 22 #[.val (.ref o0), .val (.int p1), .val (.int p2)] [(.int (2048 : Int32)), (.int p2)])) (fun t k => ?_) ?_
  · show Steps p.tables e below (s₁.setTop (mkF m 4 #[.val (.ref o0), .val (.int p1), .val (.int p2)] [(.int (128 : Int32)), (.int p2)])) t
    refine XS.icmpYes X0.here hx rfl (pc0 := 4) (pc' := 18) rfl (hb hby d3_4) rfl (flt hc1).2.1 (by decide) (by decide) ?_
    show Steps p.tables e below (s₁.setTop (mkF m 18 #[.val (.ref o0), .val (.int p1), .val (.int p2)] [])) t
    refine XS.iloadN X0.here hx rfl (hb hby d3_18) rfl ?_
    show Steps p.tables e below (s₁.setTop (mkF m 19 #[.val (.ref o0), .val (.int p1), .val (.int p2)] [(.int p2)])) t
    refine XS.sipush X0.here hx rfl (hb hby d3_19) ?_
    show Steps p.tables e below (s₁.setTop (mkF m 22 #[.val (.ref o0), .val (.int p1), .val (.int p2)] [(.int (2048 : Int32)), (.int p2)])) t
    exact k
  have hc2 : ¬ (p2 < (2048 : Int32)) := by rw [own_lt, own_l2048]; omega
  refine hD _ (s₁.setTop (mkF m 61 #[.val (.ref o0), .val (.int p1), .val (.int p2)] [(.int (65536 : Int32)), (.int p2)])) (fun t k => ?_) ?_
  · show Steps p.tables e below (s₁.setTop (mkF m 22 #[.val (.ref o0), .val (.int p1), .val (.int p2)] [(.int (2048 : Int32)), (.int p2)])) t
    refine XS.icmpYes X0.here hx rfl (pc0 := 22) (pc' := 58) rfl (hb hby d3_22) rfl (flt hc2).2.1 (by decide) (by decide) ?_
    show Steps p.tables e below (s₁.setTop (mkF m 58 #[.val (.ref o0), .val (.int p1), .val (.int p2)] [])) t
    refine XS.iloadN X0.here hx rfl (hb hby d3_58) rfl ?_
    show Steps p.tables e below (s₁.setTop (mkF m 59 #[.val (.ref o0), .val (.int p1), .val (.int p2)] [(.int p2)])) t
    refine X0.ldcInt hx hown (mvT hZ (hw _ (List.mem_of_getElem? (i := 12) rfl))) (g := (mkF m 59 #[.val (.ref o0), .val (.int p1), .val (.int p2)] [(.int p2)])) rfl (hb hby d3_59) _ ?_
    show Steps p.tables e below (s₁.setTop (mkF m 61 #[.val (.ref o0), .val (.int p1), .val (.int p2)] [(.int (65536 : Int32)), (.int p2)])) t
    exact k
  have hc3 : p2 < (65536 : Int32) := by rw [own_lt, own_l65536]; omega
  obtain ⟨v4, hv4⟩ : ∃ z : Int32, z = (p1 + (1 : Int32)) := ⟨_, rfl⟩
  have hj5 : 0 ≤ p1.toInt ∧ p1.toInt < (8 : Nat) := by omega
  obtain ⟨T6, h6, X6, e6, A6, W6, st6⟩ := Own.stoB X0 hx hZ e0 A0 hj5 (g := (mkF m 78 #[.val (.ref o0), .val (.int v4), .val (.int p2)] [(.int (((224 : Int32) ||| (p2 >>> ((12 : Int32) &&& 31))).toInt8.toInt32)), (.int p1), (.ref o0)])) rfl rfl (hb hby d3_78)
  have N6 := Fr.snoc X6 N0 (show n0 ≤ o0 by omega)
  have Z6 : n0 ≤ h6.size := Nat.le_trans Z0 (Keep.of_wr W6).1
  obtain ⟨v7, hv7⟩ : ∃ z : Int32, z = (v4 + (1 : Int32)) := ⟨_, rfl⟩
  have hj8 : 0 ≤ v4.toInt ∧ v4.toInt < (8 : Nat) := by rw [hv4]; have q := own_ix hn; omega
  obtain ⟨T9, h9, X9, e9, A9, W9, st9⟩ := Own.stoB X6 hx hZ e6 A6 hj8 (g := (mkF m 96 #[.val (.ref o0), .val (.int v7), .val (.int p2)] [(.int (((128 : Int32) ||| ((p2 >>> ((6 : Int32) &&& 31)) &&& (63 : Int32))).toInt8.toInt32)), (.int v4), (.ref o0)])) rfl rfl (hb hby d3_96)
  have N9 := Fr.snoc X9 N6 (show n0 ≤ o0 by omega)
  have Z9 : n0 ≤ h9.size := Nat.le_trans Z6 (Keep.of_wr W9).1
  obtain ⟨v10, hv10⟩ : ∃ z : Int32, z = (v7 + (1 : Int32)) := ⟨_, rfl⟩
  have hj11 : 0 ≤ v7.toInt ∧ v7.toInt < (8 : Nat) := by rw [hv7, hv4]; have q := own_ix hn; omega
  obtain ⟨T12, h12, X12, e12, A12, W12, st12⟩ := Own.stoB X9 hx hZ e9 A9 hj11 (g := (mkF m 111 #[.val (.ref o0), .val (.int v10), .val (.int p2)] [(.int (((128 : Int32) ||| (p2 &&& (63 : Int32))).toInt8.toInt32)), (.int v7), (.ref o0)])) rfl rfl (hb hby d3_111)
  have N12 := Fr.snoc X12 N9 (show n0 ≤ o0 by omega)
  have Z12 : n0 ≤ h12.size := Nat.le_trans Z9 (Keep.of_wr W12).1
  refine hD _ (T12.setTop (mkF m 182 #[.val (.ref o0), .val (.int v10), .val (.int p2)] [(.int v10)])) (fun t k => ?_) ?_
  · show Steps p.tables e below (s₁.setTop (mkF m 61 #[.val (.ref o0), .val (.int p1), .val (.int p2)] [(.int (65536 : Int32)), (.int p2)])) t
    refine XS.icmpNo X0.here hx rfl (hb hby d3_61) rfl (tlt hc3).2.1 ?_
    show Steps p.tables e below (s₁.setTop (mkF m 64 #[.val (.ref o0), .val (.int p1), .val (.int p2)] [])) t
    refine XS.aloadN X0.here hx rfl (hb hby d3_64) rfl rfl ?_
    show Steps p.tables e below (s₁.setTop (mkF m 65 #[.val (.ref o0), .val (.int p1), .val (.int p2)] [(.ref o0)])) t
    refine XS.iloadN X0.here hx rfl (hb hby d3_65) rfl ?_
    show Steps p.tables e below (s₁.setTop (mkF m 66 #[.val (.ref o0), .val (.int p1), .val (.int p2)] [(.int p1), (.ref o0)])) t
    refine XS.iinc X0.here hx rfl (hb hby d3_66) rfl (l' := #[.val (.ref o0), .val (.int (p1 + (1 : Int32))), .val (.int p2)]) rfl ?_
    show Steps p.tables e below (s₁.setTop (mkF m 69 #[.val (.ref o0), .val (.int (p1 + (1 : Int32))), .val (.int p2)] [(.int p1), (.ref o0)])) t
    rw [← hv4]
    show Steps p.tables e below (s₁.setTop (mkF m 69 #[.val (.ref o0), .val (.int v4), .val (.int p2)] [(.int p1), (.ref o0)])) t
    refine XS.sipush X0.here hx rfl (hb hby d3_69) ?_
    show Steps p.tables e below (s₁.setTop (mkF m 72 #[.val (.ref o0), .val (.int v4), .val (.int p2)] [(.int (224 : Int32)), (.int p1), (.ref o0)])) t
    refine XS.iloadN X0.here hx rfl (hb hby d3_72) rfl ?_
    show Steps p.tables e below (s₁.setTop (mkF m 73 #[.val (.ref o0), .val (.int v4), .val (.int p2)] [(.int p2), (.int (224 : Int32)), (.int p1), (.ref o0)])) t
    refine XS.bipush X0.here hx rfl (hb hby d3_73) ?_
    show Steps p.tables e below (s₁.setTop (mkF m 75 #[.val (.ref o0), .val (.int v4), .val (.int p2)] [(.int (12 : Int32)), (.int p2), (.int (224 : Int32)), (.int p1), (.ref o0)])) t
    refine XS.ishr X0.here hx rfl (hb hby d3_75) rfl ?_
    show Steps p.tables e below (s₁.setTop (mkF m 76 #[.val (.ref o0), .val (.int v4), .val (.int p2)] [(.int (p2 >>> ((12 : Int32) &&& 31))), (.int (224 : Int32)), (.int p1), (.ref o0)])) t
    refine XS.ior X0.here hx rfl (hb hby d3_76) rfl ?_
    show Steps p.tables e below (s₁.setTop (mkF m 77 #[.val (.ref o0), .val (.int v4), .val (.int p2)] [(.int ((224 : Int32) ||| (p2 >>> ((12 : Int32) &&& 31)))), (.int p1), (.ref o0)])) t
    refine XS.i2b X0.here hx rfl (hb hby d3_77) rfl ?_
    show Steps p.tables e below (s₁.setTop (mkF m 78 #[.val (.ref o0), .val (.int v4), .val (.int p2)] [(.int (((224 : Int32) ||| (p2 >>> ((12 : Int32) &&& 31))).toInt8.toInt32)), (.int p1), (.ref o0)])) t
    refine st6 _ ?_
    show Steps p.tables e below (T6.setTop (mkF m 79 #[.val (.ref o0), .val (.int v4), .val (.int p2)] [])) t
    refine XS.aloadN X6.here hx rfl (hb hby d3_79) rfl rfl ?_
    show Steps p.tables e below (T6.setTop (mkF m 80 #[.val (.ref o0), .val (.int v4), .val (.int p2)] [(.ref o0)])) t
    refine XS.iloadN X6.here hx rfl (hb hby d3_80) rfl ?_
    show Steps p.tables e below (T6.setTop (mkF m 81 #[.val (.ref o0), .val (.int v4), .val (.int p2)] [(.int v4), (.ref o0)])) t
    refine XS.iinc X6.here hx rfl (hb hby d3_81) rfl (l' := #[.val (.ref o0), .val (.int (v4 + (1 : Int32))), .val (.int p2)]) rfl ?_
    show Steps p.tables e below (T6.setTop (mkF m 84 #[.val (.ref o0), .val (.int (v4 + (1 : Int32))), .val (.int p2)] [(.int v4), (.ref o0)])) t
    rw [← hv7]
    show Steps p.tables e below (T6.setTop (mkF m 84 #[.val (.ref o0), .val (.int v7), .val (.int p2)] [(.int v4), (.ref o0)])) t
    refine XS.sipush X6.here hx rfl (hb hby d3_84) ?_
    show Steps p.tables e below (T6.setTop (mkF m 87 #[.val (.ref o0), .val (.int v7), .val (.int p2)] [(.int (128 : Int32)), (.int v4), (.ref o0)])) t
    refine XS.iloadN X6.here hx rfl (hb hby d3_87) rfl ?_
    show Steps p.tables e below (T6.setTop (mkF m 88 #[.val (.ref o0), .val (.int v7), .val (.int p2)] [(.int p2), (.int (128 : Int32)), (.int v4), (.ref o0)])) t
    refine XS.bipush X6.here hx rfl (hb hby d3_88) ?_
    show Steps p.tables e below (T6.setTop (mkF m 90 #[.val (.ref o0), .val (.int v7), .val (.int p2)] [(.int (6 : Int32)), (.int p2), (.int (128 : Int32)), (.int v4), (.ref o0)])) t
    refine XS.ishr X6.here hx rfl (hb hby d3_90) rfl ?_
    show Steps p.tables e below (T6.setTop (mkF m 91 #[.val (.ref o0), .val (.int v7), .val (.int p2)] [(.int (p2 >>> ((6 : Int32) &&& 31))), (.int (128 : Int32)), (.int v4), (.ref o0)])) t
    refine XS.bipush X6.here hx rfl (hb hby d3_91) ?_
    show Steps p.tables e below (T6.setTop (mkF m 93 #[.val (.ref o0), .val (.int v7), .val (.int p2)] [(.int (63 : Int32)), (.int (p2 >>> ((6 : Int32) &&& 31))), (.int (128 : Int32)), (.int v4), (.ref o0)])) t
    refine XS.iand X6.here hx rfl (hb hby d3_93) rfl ?_
    show Steps p.tables e below (T6.setTop (mkF m 94 #[.val (.ref o0), .val (.int v7), .val (.int p2)] [(.int ((p2 >>> ((6 : Int32) &&& 31)) &&& (63 : Int32))), (.int (128 : Int32)), (.int v4), (.ref o0)])) t
    refine XS.ior X6.here hx rfl (hb hby d3_94) rfl ?_
    show Steps p.tables e below (T6.setTop (mkF m 95 #[.val (.ref o0), .val (.int v7), .val (.int p2)] [(.int ((128 : Int32) ||| ((p2 >>> ((6 : Int32) &&& 31)) &&& (63 : Int32)))), (.int v4), (.ref o0)])) t
    refine XS.i2b X6.here hx rfl (hb hby d3_95) rfl ?_
    show Steps p.tables e below (T6.setTop (mkF m 96 #[.val (.ref o0), .val (.int v7), .val (.int p2)] [(.int (((128 : Int32) ||| ((p2 >>> ((6 : Int32) &&& 31)) &&& (63 : Int32))).toInt8.toInt32)), (.int v4), (.ref o0)])) t
    refine st9 _ ?_
    show Steps p.tables e below (T9.setTop (mkF m 97 #[.val (.ref o0), .val (.int v7), .val (.int p2)] [])) t
    refine XS.aloadN X9.here hx rfl (hb hby d3_97) rfl rfl ?_
    show Steps p.tables e below (T9.setTop (mkF m 98 #[.val (.ref o0), .val (.int v7), .val (.int p2)] [(.ref o0)])) t
    refine XS.iloadN X9.here hx rfl (hb hby d3_98) rfl ?_
    show Steps p.tables e below (T9.setTop (mkF m 99 #[.val (.ref o0), .val (.int v7), .val (.int p2)] [(.int v7), (.ref o0)])) t
    refine XS.iinc X9.here hx rfl (hb hby d3_99) rfl (l' := #[.val (.ref o0), .val (.int (v7 + (1 : Int32))), .val (.int p2)]) rfl ?_
    show Steps p.tables e below (T9.setTop (mkF m 102 #[.val (.ref o0), .val (.int (v7 + (1 : Int32))), .val (.int p2)] [(.int v7), (.ref o0)])) t
    rw [← hv10]
    show Steps p.tables e below (T9.setTop (mkF m 102 #[.val (.ref o0), .val (.int v10), .val (.int p2)] [(.int v7), (.ref o0)])) t
    refine XS.sipush X9.here hx rfl (hb hby d3_102) ?_
    show Steps p.tables e below (T9.setTop (mkF m 105 #[.val (.ref o0), .val (.int v10), .val (.int p2)] [(.int (128 : Int32)), (.int v7), (.ref o0)])) t
    refine XS.iloadN X9.here hx rfl (hb hby d3_105) rfl ?_
    show Steps p.tables e below (T9.setTop (mkF m 106 #[.val (.ref o0), .val (.int v10), .val (.int p2)] [(.int p2), (.int (128 : Int32)), (.int v7), (.ref o0)])) t
    refine XS.bipush X9.here hx rfl (hb hby d3_106) ?_
    show Steps p.tables e below (T9.setTop (mkF m 108 #[.val (.ref o0), .val (.int v10), .val (.int p2)] [(.int (63 : Int32)), (.int p2), (.int (128 : Int32)), (.int v7), (.ref o0)])) t
    refine XS.iand X9.here hx rfl (hb hby d3_108) rfl ?_
    show Steps p.tables e below (T9.setTop (mkF m 109 #[.val (.ref o0), .val (.int v10), .val (.int p2)] [(.int (p2 &&& (63 : Int32))), (.int (128 : Int32)), (.int v7), (.ref o0)])) t
    refine XS.ior X9.here hx rfl (hb hby d3_109) rfl ?_
    show Steps p.tables e below (T9.setTop (mkF m 110 #[.val (.ref o0), .val (.int v10), .val (.int p2)] [(.int ((128 : Int32) ||| (p2 &&& (63 : Int32)))), (.int v7), (.ref o0)])) t
    refine XS.i2b X9.here hx rfl (hb hby d3_110) rfl ?_
    show Steps p.tables e below (T9.setTop (mkF m 111 #[.val (.ref o0), .val (.int v10), .val (.int p2)] [(.int (((128 : Int32) ||| (p2 &&& (63 : Int32))).toInt8.toInt32)), (.int v7), (.ref o0)])) t
    refine st12 _ ?_
    show Steps p.tables e below (T12.setTop (mkF m 112 #[.val (.ref o0), .val (.int v10), .val (.int p2)] [])) t
    refine XS.goto X12.here hx rfl (pc0 := 112) (pc' := 181) rfl (hb hby d3_112) (by decide) (by decide) ?_
    show Steps p.tables e below (T12.setTop (mkF m 181 #[.val (.ref o0), .val (.int v10), .val (.int p2)] [])) t
    refine XS.iloadN X12.here hx rfl (hb hby d3_181) rfl ?_
    show Steps p.tables e below (T12.setTop (mkF m 182 #[.val (.ref o0), .val (.int v10), .val (.int p2)] [(.int v10)])) t
    exact k
  have A_ := A12
  subst hv10
  subst hv7
  subst hv4
  exact Own.retI hR X12 hx hret (hb hby d3_182) (by decide) (by decide) (by rw [e12]; exact ⟨by rw [Int32.add_assoc, Int32.add_assoc]; rfl, N12, A_⟩)
theorem d4_0 : decode prog_84_method_9_code 0 = .ok (.iload_n 2, 1) := by decide +kernel
theorem d4_1 : decode prog_84_method_9_code 1 = .ok (.sipush 128, 3) := by decide +kernel
theorem d4_4 : decode prog_84_method_9_code 4 = .ok (.if_icmp .ge 14, 3) := by decide +kernel
theorem d4_18 : decode prog_84_method_9_code 18 = .ok (.iload_n 2, 1) := by decide +kernel
theorem d4_19 : decode prog_84_method_9_code 19 = .ok (.sipush 2048, 3) := by decide +kernel
theorem d4_22 : decode prog_84_method_9_code 22 = .ok (.if_icmp .ge 36, 3) := by decide +kernel
theorem d4_58 : decode prog_84_method_9_code 58 = .ok (.iload_n 2, 1) := by decide +kernel
theorem d4_59 : decode prog_84_method_9_code 59 = .ok (.ldc 99, 2) := by decide +kernel
theorem d4_61 : decode prog_84_method_9_code 61 = .ok (.if_icmp .ge 54, 3) := by decide +kernel
theorem d4_115 : decode prog_84_method_9_code 115 = .ok (.aload_n 0, 1) := by decide +kernel
theorem d4_116 : decode prog_84_method_9_code 116 = .ok (.iload_n 1, 1) := by decide +kernel
theorem d4_117 : decode prog_84_method_9_code 117 = .ok (.iinc 1 1, 3) := by decide +kernel
theorem d4_120 : decode prog_84_method_9_code 120 = .ok (.sipush 240, 3) := by decide +kernel
theorem d4_123 : decode prog_84_method_9_code 123 = .ok (.iload_n 2, 1) := by decide +kernel
theorem d4_124 : decode prog_84_method_9_code 124 = .ok (.bipush 18, 2) := by decide +kernel
theorem d4_126 : decode prog_84_method_9_code 126 = .ok (.ishr, 1) := by decide +kernel
theorem d4_127 : decode prog_84_method_9_code 127 = .ok (.ior, 1) := by decide +kernel
theorem d4_128 : decode prog_84_method_9_code 128 = .ok (.i2b, 1) := by decide +kernel
theorem d4_129 : decode prog_84_method_9_code 129 = .ok (.bastore, 1) := by decide +kernel
theorem d4_130 : decode prog_84_method_9_code 130 = .ok (.aload_n 0, 1) := by decide +kernel
theorem d4_131 : decode prog_84_method_9_code 131 = .ok (.iload_n 1, 1) := by decide +kernel
theorem d4_132 : decode prog_84_method_9_code 132 = .ok (.iinc 1 1, 3) := by decide +kernel
theorem d4_135 : decode prog_84_method_9_code 135 = .ok (.sipush 128, 3) := by decide +kernel
theorem d4_138 : decode prog_84_method_9_code 138 = .ok (.iload_n 2, 1) := by decide +kernel
theorem d4_139 : decode prog_84_method_9_code 139 = .ok (.bipush 12, 2) := by decide +kernel
theorem d4_141 : decode prog_84_method_9_code 141 = .ok (.ishr, 1) := by decide +kernel
theorem d4_142 : decode prog_84_method_9_code 142 = .ok (.bipush 63, 2) := by decide +kernel
theorem d4_144 : decode prog_84_method_9_code 144 = .ok (.iand, 1) := by decide +kernel
theorem d4_145 : decode prog_84_method_9_code 145 = .ok (.ior, 1) := by decide +kernel
theorem d4_146 : decode prog_84_method_9_code 146 = .ok (.i2b, 1) := by decide +kernel
theorem d4_147 : decode prog_84_method_9_code 147 = .ok (.bastore, 1) := by decide +kernel
theorem d4_148 : decode prog_84_method_9_code 148 = .ok (.aload_n 0, 1) := by decide +kernel
theorem d4_149 : decode prog_84_method_9_code 149 = .ok (.iload_n 1, 1) := by decide +kernel
theorem d4_150 : decode prog_84_method_9_code 150 = .ok (.iinc 1 1, 3) := by decide +kernel
theorem d4_153 : decode prog_84_method_9_code 153 = .ok (.sipush 128, 3) := by decide +kernel
theorem d4_156 : decode prog_84_method_9_code 156 = .ok (.iload_n 2, 1) := by decide +kernel
theorem d4_157 : decode prog_84_method_9_code 157 = .ok (.bipush 6, 2) := by decide +kernel
theorem d4_159 : decode prog_84_method_9_code 159 = .ok (.ishr, 1) := by decide +kernel
theorem d4_160 : decode prog_84_method_9_code 160 = .ok (.bipush 63, 2) := by decide +kernel
theorem d4_162 : decode prog_84_method_9_code 162 = .ok (.iand, 1) := by decide +kernel
theorem d4_163 : decode prog_84_method_9_code 163 = .ok (.ior, 1) := by decide +kernel
theorem d4_164 : decode prog_84_method_9_code 164 = .ok (.i2b, 1) := by decide +kernel
theorem d4_165 : decode prog_84_method_9_code 165 = .ok (.bastore, 1) := by decide +kernel
theorem d4_166 : decode prog_84_method_9_code 166 = .ok (.aload_n 0, 1) := by decide +kernel
theorem d4_167 : decode prog_84_method_9_code 167 = .ok (.iload_n 1, 1) := by decide +kernel
theorem d4_168 : decode prog_84_method_9_code 168 = .ok (.iinc 1 1, 3) := by decide +kernel
theorem d4_171 : decode prog_84_method_9_code 171 = .ok (.sipush 128, 3) := by decide +kernel
theorem d4_174 : decode prog_84_method_9_code 174 = .ok (.iload_n 2, 1) := by decide +kernel
theorem d4_175 : decode prog_84_method_9_code 175 = .ok (.bipush 63, 2) := by decide +kernel
theorem d4_177 : decode prog_84_method_9_code 177 = .ok (.iand, 1) := by decide +kernel
theorem d4_178 : decode prog_84_method_9_code 178 = .ok (.ior, 1) := by decide +kernel
theorem d4_179 : decode prog_84_method_9_code 179 = .ok (.i2b, 1) := by decide +kernel
theorem d4_180 : decode prog_84_method_9_code 180 = .ok (.bastore, 1) := by decide +kernel
theorem d4_181 : decode prog_84_method_9_code 181 = .ok (.iload_n 1, 1) := by decide +kernel
theorem d4_182 : decode prog_84_method_9_code 182 = .ok (.ireturn, 1) := by decide +kernel
theorem ef_4 (m : MethodId) (o0 : Addr) (p1 : Int32) (p2 : Int32) : entryFrame m #[(.ref o0), (.int p1), (.int p2)] 3 = mkF m 0 #[.val (.ref o0), .val (.int p1), .val (.int p2)] [] := by first | (simp [entryFrame, mkF, argsToLocals, Value.category]; done) | rfl
def Q4 (Z : State) (o0 : Nat) (p1 : Int32) (p2 : Int32) (g : Nat → Int32) (h0 : Heap) (n0 : Nat) (v : Option Value) (h : Heap) (L : List Loc) : Prop := v = some (.int (p1 + 4)) ∧ Fr n0 L ∧ Own.AvI Z h o0 .byte 8 (own_put4 g p1 p2)
set_option maxRecDepth 65536 in
set_option maxHeartbeats 40000000 in
theorem rm4 (l : Launch) (Z : State) (a0 : Array Value) (hw : ∀ d ∈ tables_1, d.before a0 Z = true) (ws : List Jvm.Cond) (o0 : Nat) (p1 : Int32) (p2 : Int32) (g : Nat → Int32) (h0 : Heap) (n0 : Nat) (Z0 : n0 ≤ h0.size) (g0 : n0 ≤ o0) (hn : 0 ≤ p1.toInt ∧ p1.toInt ≤ 3) (hc : 65536 ≤ p2.toInt ∧ p2.toInt ≤ 1114111) (A0 : Own.AvI Z h0 o0 .byte 8 g) :
    MetFree l (⟨"org/wireform/json/JsonString", "putUtf8", "([BII)I"⟩ : MethodName) (head1 (Jvm.Cond.code (⟨"org/wireform/json/JsonString", "putUtf8", "([BII)I"⟩ : MethodName) prog_84_method_9_code 3 (some .int) :: ws) ({ frames := 0, cells := 0, slots := 0, locals := 0 } : Room)) (fun a U => a = #[(.ref o0), (.int p1), (.int p2)] ∧ Z.Warmed39 U.vm ∧ U.heap = h0) (fun _ _ _ _ _ => True) (fun _ U o U' => ∃ v L, o = .returned v ∧ Q4 Z o0 p1 p2 g h0 n0 v U'.heap L ∧ FrameEnd U o U' L ({ frames := 0, cells := 0, slots := 0, locals := 0 } : Room).cells ({ frames := 0, cells := 0, slots := 0, locals := 0 } : Room).slots) := by
  refine Own.enter (Q := Q4 Z o0 p1 p2 g h0 n0) (plainFor_of_name pn_0) ?_
  intro p e s m below meth c s₁ D hx hby hml hown hnm hret hZ X0 e0 hD hR
  have N0 := Fr.nil n0
  rw [show entryFrame m #[(.ref o0), (.int p1), (.int p2)] 3 = mkF m 0 #[.val (.ref o0), .val (.int p1), .val (.int p2)] [] from ef_4 m o0 p1 p2]
  refine hD _ (s₁.setTop (mkF m 4 #[.val (.ref o0), .val (.int p1), .val (.int p2)] [(.int (128 : Int32)), (.int p2)])) (fun t k => ?_) ?_
  · show Steps p.tables e below (s₁.setTop (mkF m 0 #[.val (.ref o0), .val (.int p1), .val (.int p2)] [])) t
    refine XS.iloadN X0.here hx rfl (hb hby d4_0) rfl ?_
    show Steps p.tables e below (s₁.setTop (mkF m 1 #[.val (.ref o0), .val (.int p1), .val (.int p2)] [(.int p2)])) t
    refine XS.sipush X0.here hx rfl (hb hby d4_1) ?_
    show Steps p.tables e below (s₁.setTop (mkF m 4 #[.val (.ref o0), .val (.int p1), .val (.int p2)] [(.int (128 : Int32)), (.int p2)])) t
    exact k
  have hc1 : ¬ (p2 < (128 : Int32)) := by rw [own_lt, own_l128]; omega
  refine hD _ (s₁.setTop (mkF m 22 #[.val (.ref o0), .val (.int p1), .val (.int p2)] [(.int (2048 : Int32)), (.int p2)])) (fun t k => ?_) ?_
  · show Steps p.tables e below (s₁.setTop (mkF m 4 #[.val (.ref o0), .val (.int p1), .val (.int p2)] [(.int (128 : Int32)), (.int p2)])) t
    refine XS.icmpYes X0.here hx rfl (pc0 := 4) (pc' := 18) rfl (hb hby d4_4) rfl (flt hc1).2.1 (by decide) (by decide) ?_
    show Steps p.tables e below (s₁.setTop (mkF m 18 #[.val (.ref o0), .val (.int p1), .val (.int p2)] [])) t
    refine XS.iloadN X0.here hx rfl (hb hby d4_18) rfl ?_
    show Steps p.tables e below (s₁.setTop (mkF m 19 #[.val (.ref o0), .val (.int p1), .val (.int p2)] [(.int p2)])) t
    refine XS.sipush X0.here hx rfl (hb hby d4_19) ?_
    show Steps p.tables e below (s₁.setTop (mkF m 22 #[.val (.ref o0), .val (.int p1), .val (.int p2)] [(.int (2048 : Int32)), (.int p2)])) t
    exact k
  have hc2 : ¬ (p2 < (2048 : Int32)) := by rw [own_lt, own_l2048]; omega
  refine hD _ (s₁.setTop (mkF m 61 #[.val (.ref o0), .val (.int p1), .val (.int p2)] [(.int (65536 : Int32)), (.int p2)])) (fun t k => ?_) ?_
  · show Steps p.tables e below (s₁.setTop (mkF m 22 #[.val (.ref o0), .val (.int p1), .val (.int p2)] [(.int (2048 : Int32)), (.int p2)])) t
    refine XS.icmpYes X0.here hx rfl (pc0 := 22) (pc' := 58) rfl (hb hby d4_22) rfl (flt hc2).2.1 (by decide) (by decide) ?_
    show Steps p.tables e below (s₁.setTop (mkF m 58 #[.val (.ref o0), .val (.int p1), .val (.int p2)] [])) t
    refine XS.iloadN X0.here hx rfl (hb hby d4_58) rfl ?_
    show Steps p.tables e below (s₁.setTop (mkF m 59 #[.val (.ref o0), .val (.int p1), .val (.int p2)] [(.int p2)])) t
    refine X0.ldcInt hx hown (mvT hZ (hw _ (List.mem_of_getElem? (i := 12) rfl))) (g := (mkF m 59 #[.val (.ref o0), .val (.int p1), .val (.int p2)] [(.int p2)])) rfl (hb hby d4_59) _ ?_
    show Steps p.tables e below (s₁.setTop (mkF m 61 #[.val (.ref o0), .val (.int p1), .val (.int p2)] [(.int (65536 : Int32)), (.int p2)])) t
    exact k
  have hc3 : ¬ (p2 < (65536 : Int32)) := by rw [own_lt, own_l65536]; omega
  obtain ⟨v4, hv4⟩ : ∃ z : Int32, z = (p1 + (1 : Int32)) := ⟨_, rfl⟩
  have hj5 : 0 ≤ p1.toInt ∧ p1.toInt < (8 : Nat) := by omega
  obtain ⟨T6, h6, X6, e6, A6, W6, st6⟩ := Own.stoB X0 hx hZ e0 A0 hj5 (g := (mkF m 129 #[.val (.ref o0), .val (.int v4), .val (.int p2)] [(.int (((240 : Int32) ||| (p2 >>> ((18 : Int32) &&& 31))).toInt8.toInt32)), (.int p1), (.ref o0)])) rfl rfl (hb hby d4_129)
  have N6 := Fr.snoc X6 N0 (show n0 ≤ o0 by omega)
  have Z6 : n0 ≤ h6.size := Nat.le_trans Z0 (Keep.of_wr W6).1
  obtain ⟨v7, hv7⟩ : ∃ z : Int32, z = (v4 + (1 : Int32)) := ⟨_, rfl⟩
  have hj8 : 0 ≤ v4.toInt ∧ v4.toInt < (8 : Nat) := by rw [hv4]; have q := own_ix hn; omega
  obtain ⟨T9, h9, X9, e9, A9, W9, st9⟩ := Own.stoB X6 hx hZ e6 A6 hj8 (g := (mkF m 147 #[.val (.ref o0), .val (.int v7), .val (.int p2)] [(.int (((128 : Int32) ||| ((p2 >>> ((12 : Int32) &&& 31)) &&& (63 : Int32))).toInt8.toInt32)), (.int v4), (.ref o0)])) rfl rfl (hb hby d4_147)
  have N9 := Fr.snoc X9 N6 (show n0 ≤ o0 by omega)
  have Z9 : n0 ≤ h9.size := Nat.le_trans Z6 (Keep.of_wr W9).1
  obtain ⟨v10, hv10⟩ : ∃ z : Int32, z = (v7 + (1 : Int32)) := ⟨_, rfl⟩
  have hj11 : 0 ≤ v7.toInt ∧ v7.toInt < (8 : Nat) := by rw [hv7, hv4]; have q := own_ix hn; omega
  obtain ⟨T12, h12, X12, e12, A12, W12, st12⟩ := Own.stoB X9 hx hZ e9 A9 hj11 (g := (mkF m 165 #[.val (.ref o0), .val (.int v10), .val (.int p2)] [(.int (((128 : Int32) ||| ((p2 >>> ((6 : Int32) &&& 31)) &&& (63 : Int32))).toInt8.toInt32)), (.int v7), (.ref o0)])) rfl rfl (hb hby d4_165)
  have N12 := Fr.snoc X12 N9 (show n0 ≤ o0 by omega)
  have Z12 : n0 ≤ h12.size := Nat.le_trans Z9 (Keep.of_wr W12).1
  obtain ⟨v13, hv13⟩ : ∃ z : Int32, z = (v10 + (1 : Int32)) := ⟨_, rfl⟩
  have hj14 : 0 ≤ v10.toInt ∧ v10.toInt < (8 : Nat) := by rw [hv10, hv7, hv4]; have q := own_ix hn; omega
  obtain ⟨T15, h15, X15, e15, A15, W15, st15⟩ := Own.stoB X12 hx hZ e12 A12 hj14 (g := (mkF m 180 #[.val (.ref o0), .val (.int v13), .val (.int p2)] [(.int (((128 : Int32) ||| (p2 &&& (63 : Int32))).toInt8.toInt32)), (.int v10), (.ref o0)])) rfl rfl (hb hby d4_180)
  have N15 := Fr.snoc X15 N12 (show n0 ≤ o0 by omega)
  have Z15 : n0 ≤ h15.size := Nat.le_trans Z12 (Keep.of_wr W15).1
  refine hD _ (T15.setTop (mkF m 182 #[.val (.ref o0), .val (.int v13), .val (.int p2)] [(.int v13)])) (fun t k => ?_) ?_
  · show Steps p.tables e below (s₁.setTop (mkF m 61 #[.val (.ref o0), .val (.int p1), .val (.int p2)] [(.int (65536 : Int32)), (.int p2)])) t
    refine XS.icmpYes X0.here hx rfl (pc0 := 61) (pc' := 115) rfl (hb hby d4_61) rfl (flt hc3).2.1 (by decide) (by decide) ?_
    show Steps p.tables e below (s₁.setTop (mkF m 115 #[.val (.ref o0), .val (.int p1), .val (.int p2)] [])) t
    refine XS.aloadN X0.here hx rfl (hb hby d4_115) rfl rfl ?_
    show Steps p.tables e below (s₁.setTop (mkF m 116 #[.val (.ref o0), .val (.int p1), .val (.int p2)] [(.ref o0)])) t
    refine XS.iloadN X0.here hx rfl (hb hby d4_116) rfl ?_
    show Steps p.tables e below (s₁.setTop (mkF m 117 #[.val (.ref o0), .val (.int p1), .val (.int p2)] [(.int p1), (.ref o0)])) t
    refine XS.iinc X0.here hx rfl (hb hby d4_117) rfl (l' := #[.val (.ref o0), .val (.int (p1 + (1 : Int32))), .val (.int p2)]) rfl ?_
    show Steps p.tables e below (s₁.setTop (mkF m 120 #[.val (.ref o0), .val (.int (p1 + (1 : Int32))), .val (.int p2)] [(.int p1), (.ref o0)])) t
    rw [← hv4]
    show Steps p.tables e below (s₁.setTop (mkF m 120 #[.val (.ref o0), .val (.int v4), .val (.int p2)] [(.int p1), (.ref o0)])) t
    refine XS.sipush X0.here hx rfl (hb hby d4_120) ?_
    show Steps p.tables e below (s₁.setTop (mkF m 123 #[.val (.ref o0), .val (.int v4), .val (.int p2)] [(.int (240 : Int32)), (.int p1), (.ref o0)])) t
    refine XS.iloadN X0.here hx rfl (hb hby d4_123) rfl ?_
    show Steps p.tables e below (s₁.setTop (mkF m 124 #[.val (.ref o0), .val (.int v4), .val (.int p2)] [(.int p2), (.int (240 : Int32)), (.int p1), (.ref o0)])) t
    refine XS.bipush X0.here hx rfl (hb hby d4_124) ?_
    show Steps p.tables e below (s₁.setTop (mkF m 126 #[.val (.ref o0), .val (.int v4), .val (.int p2)] [(.int (18 : Int32)), (.int p2), (.int (240 : Int32)), (.int p1), (.ref o0)])) t
    refine XS.ishr X0.here hx rfl (hb hby d4_126) rfl ?_
    show Steps p.tables e below (s₁.setTop (mkF m 127 #[.val (.ref o0), .val (.int v4), .val (.int p2)] [(.int (p2 >>> ((18 : Int32) &&& 31))), (.int (240 : Int32)), (.int p1), (.ref o0)])) t
    refine XS.ior X0.here hx rfl (hb hby d4_127) rfl ?_
    show Steps p.tables e below (s₁.setTop (mkF m 128 #[.val (.ref o0), .val (.int v4), .val (.int p2)] [(.int ((240 : Int32) ||| (p2 >>> ((18 : Int32) &&& 31)))), (.int p1), (.ref o0)])) t
    refine XS.i2b X0.here hx rfl (hb hby d4_128) rfl ?_
    show Steps p.tables e below (s₁.setTop (mkF m 129 #[.val (.ref o0), .val (.int v4), .val (.int p2)] [(.int (((240 : Int32) ||| (p2 >>> ((18 : Int32) &&& 31))).toInt8.toInt32)), (.int p1), (.ref o0)])) t
    refine st6 _ ?_
    show Steps p.tables e below (T6.setTop (mkF m 130 #[.val (.ref o0), .val (.int v4), .val (.int p2)] [])) t
    refine XS.aloadN X6.here hx rfl (hb hby d4_130) rfl rfl ?_
    show Steps p.tables e below (T6.setTop (mkF m 131 #[.val (.ref o0), .val (.int v4), .val (.int p2)] [(.ref o0)])) t
    refine XS.iloadN X6.here hx rfl (hb hby d4_131) rfl ?_
    show Steps p.tables e below (T6.setTop (mkF m 132 #[.val (.ref o0), .val (.int v4), .val (.int p2)] [(.int v4), (.ref o0)])) t
    refine XS.iinc X6.here hx rfl (hb hby d4_132) rfl (l' := #[.val (.ref o0), .val (.int (v4 + (1 : Int32))), .val (.int p2)]) rfl ?_
    show Steps p.tables e below (T6.setTop (mkF m 135 #[.val (.ref o0), .val (.int (v4 + (1 : Int32))), .val (.int p2)] [(.int v4), (.ref o0)])) t
    rw [← hv7]
    show Steps p.tables e below (T6.setTop (mkF m 135 #[.val (.ref o0), .val (.int v7), .val (.int p2)] [(.int v4), (.ref o0)])) t
    refine XS.sipush X6.here hx rfl (hb hby d4_135) ?_
    show Steps p.tables e below (T6.setTop (mkF m 138 #[.val (.ref o0), .val (.int v7), .val (.int p2)] [(.int (128 : Int32)), (.int v4), (.ref o0)])) t
    refine XS.iloadN X6.here hx rfl (hb hby d4_138) rfl ?_
    show Steps p.tables e below (T6.setTop (mkF m 139 #[.val (.ref o0), .val (.int v7), .val (.int p2)] [(.int p2), (.int (128 : Int32)), (.int v4), (.ref o0)])) t
    refine XS.bipush X6.here hx rfl (hb hby d4_139) ?_
    show Steps p.tables e below (T6.setTop (mkF m 141 #[.val (.ref o0), .val (.int v7), .val (.int p2)] [(.int (12 : Int32)), (.int p2), (.int (128 : Int32)), (.int v4), (.ref o0)])) t
    refine XS.ishr X6.here hx rfl (hb hby d4_141) rfl ?_
    show Steps p.tables e below (T6.setTop (mkF m 142 #[.val (.ref o0), .val (.int v7), .val (.int p2)] [(.int (p2 >>> ((12 : Int32) &&& 31))), (.int (128 : Int32)), (.int v4), (.ref o0)])) t
    refine XS.bipush X6.here hx rfl (hb hby d4_142) ?_
    show Steps p.tables e below (T6.setTop (mkF m 144 #[.val (.ref o0), .val (.int v7), .val (.int p2)] [(.int (63 : Int32)), (.int (p2 >>> ((12 : Int32) &&& 31))), (.int (128 : Int32)), (.int v4), (.ref o0)])) t
    refine XS.iand X6.here hx rfl (hb hby d4_144) rfl ?_
    show Steps p.tables e below (T6.setTop (mkF m 145 #[.val (.ref o0), .val (.int v7), .val (.int p2)] [(.int ((p2 >>> ((12 : Int32) &&& 31)) &&& (63 : Int32))), (.int (128 : Int32)), (.int v4), (.ref o0)])) t
    refine XS.ior X6.here hx rfl (hb hby d4_145) rfl ?_
    show Steps p.tables e below (T6.setTop (mkF m 146 #[.val (.ref o0), .val (.int v7), .val (.int p2)] [(.int ((128 : Int32) ||| ((p2 >>> ((12 : Int32) &&& 31)) &&& (63 : Int32)))), (.int v4), (.ref o0)])) t
    refine XS.i2b X6.here hx rfl (hb hby d4_146) rfl ?_
    show Steps p.tables e below (T6.setTop (mkF m 147 #[.val (.ref o0), .val (.int v7), .val (.int p2)] [(.int (((128 : Int32) ||| ((p2 >>> ((12 : Int32) &&& 31)) &&& (63 : Int32))).toInt8.toInt32)), (.int v4), (.ref o0)])) t
    refine st9 _ ?_
    show Steps p.tables e below (T9.setTop (mkF m 148 #[.val (.ref o0), .val (.int v7), .val (.int p2)] [])) t
    refine XS.aloadN X9.here hx rfl (hb hby d4_148) rfl rfl ?_
    show Steps p.tables e below (T9.setTop (mkF m 149 #[.val (.ref o0), .val (.int v7), .val (.int p2)] [(.ref o0)])) t
    refine XS.iloadN X9.here hx rfl (hb hby d4_149) rfl ?_
    show Steps p.tables e below (T9.setTop (mkF m 150 #[.val (.ref o0), .val (.int v7), .val (.int p2)] [(.int v7), (.ref o0)])) t
    refine XS.iinc X9.here hx rfl (hb hby d4_150) rfl (l' := #[.val (.ref o0), .val (.int (v7 + (1 : Int32))), .val (.int p2)]) rfl ?_
    show Steps p.tables e below (T9.setTop (mkF m 153 #[.val (.ref o0), .val (.int (v7 + (1 : Int32))), .val (.int p2)] [(.int v7), (.ref o0)])) t
    rw [← hv10]
    show Steps p.tables e below (T9.setTop (mkF m 153 #[.val (.ref o0), .val (.int v10), .val (.int p2)] [(.int v7), (.ref o0)])) t
    refine XS.sipush X9.here hx rfl (hb hby d4_153) ?_
    show Steps p.tables e below (T9.setTop (mkF m 156 #[.val (.ref o0), .val (.int v10), .val (.int p2)] [(.int (128 : Int32)), (.int v7), (.ref o0)])) t
    refine XS.iloadN X9.here hx rfl (hb hby d4_156) rfl ?_
    show Steps p.tables e below (T9.setTop (mkF m 157 #[.val (.ref o0), .val (.int v10), .val (.int p2)] [(.int p2), (.int (128 : Int32)), (.int v7), (.ref o0)])) t
    refine XS.bipush X9.here hx rfl (hb hby d4_157) ?_
    show Steps p.tables e below (T9.setTop (mkF m 159 #[.val (.ref o0), .val (.int v10), .val (.int p2)] [(.int (6 : Int32)), (.int p2), (.int (128 : Int32)), (.int v7), (.ref o0)])) t
    refine XS.ishr X9.here hx rfl (hb hby d4_159) rfl ?_
    show Steps p.tables e below (T9.setTop (mkF m 160 #[.val (.ref o0), .val (.int v10), .val (.int p2)] [(.int (p2 >>> ((6 : Int32) &&& 31))), (.int (128 : Int32)), (.int v7), (.ref o0)])) t
    refine XS.bipush X9.here hx rfl (hb hby d4_160) ?_
    show Steps p.tables e below (T9.setTop (mkF m 162 #[.val (.ref o0), .val (.int v10), .val (.int p2)] [(.int (63 : Int32)), (.int (p2 >>> ((6 : Int32) &&& 31))), (.int (128 : Int32)), (.int v7), (.ref o0)])) t
    refine XS.iand X9.here hx rfl (hb hby d4_162) rfl ?_
    show Steps p.tables e below (T9.setTop (mkF m 163 #[.val (.ref o0), .val (.int v10), .val (.int p2)] [(.int ((p2 >>> ((6 : Int32) &&& 31)) &&& (63 : Int32))), (.int (128 : Int32)), (.int v7), (.ref o0)])) t
    refine XS.ior X9.here hx rfl (hb hby d4_163) rfl ?_
    show Steps p.tables e below (T9.setTop (mkF m 164 #[.val (.ref o0), .val (.int v10), .val (.int p2)] [(.int ((128 : Int32) ||| ((p2 >>> ((6 : Int32) &&& 31)) &&& (63 : Int32)))), (.int v7), (.ref o0)])) t
    refine XS.i2b X9.here hx rfl (hb hby d4_164) rfl ?_
    show Steps p.tables e below (T9.setTop (mkF m 165 #[.val (.ref o0), .val (.int v10), .val (.int p2)] [(.int (((128 : Int32) ||| ((p2 >>> ((6 : Int32) &&& 31)) &&& (63 : Int32))).toInt8.toInt32)), (.int v7), (.ref o0)])) t
    refine st12 _ ?_
    show Steps p.tables e below (T12.setTop (mkF m 166 #[.val (.ref o0), .val (.int v10), .val (.int p2)] [])) t
    refine XS.aloadN X12.here hx rfl (hb hby d4_166) rfl rfl ?_
    show Steps p.tables e below (T12.setTop (mkF m 167 #[.val (.ref o0), .val (.int v10), .val (.int p2)] [(.ref o0)])) t
    refine XS.iloadN X12.here hx rfl (hb hby d4_167) rfl ?_
    show Steps p.tables e below (T12.setTop (mkF m 168 #[.val (.ref o0), .val (.int v10), .val (.int p2)] [(.int v10), (.ref o0)])) t
    refine XS.iinc X12.here hx rfl (hb hby d4_168) rfl (l' := #[.val (.ref o0), .val (.int (v10 + (1 : Int32))), .val (.int p2)]) rfl ?_
    show Steps p.tables e below (T12.setTop (mkF m 171 #[.val (.ref o0), .val (.int (v10 + (1 : Int32))), .val (.int p2)] [(.int v10), (.ref o0)])) t
    rw [← hv13]
    show Steps p.tables e below (T12.setTop (mkF m 171 #[.val (.ref o0), .val (.int v13), .val (.int p2)] [(.int v10), (.ref o0)])) t
    refine XS.sipush X12.here hx rfl (hb hby d4_171) ?_
    show Steps p.tables e below (T12.setTop (mkF m 174 #[.val (.ref o0), .val (.int v13), .val (.int p2)] [(.int (128 : Int32)), (.int v10), (.ref o0)])) t
    refine XS.iloadN X12.here hx rfl (hb hby d4_174) rfl ?_
    show Steps p.tables e below (T12.setTop (mkF m 175 #[.val (.ref o0), .val (.int v13), .val (.int p2)] [(.int p2), (.int (128 : Int32)), (.int v10), (.ref o0)])) t
    refine XS.bipush X12.here hx rfl (hb hby d4_175) ?_
    show Steps p.tables e below (T12.setTop (mkF m 177 #[.val (.ref o0), .val (.int v13), .val (.int p2)] [(.int (63 : Int32)), (.int p2), (.int (128 : Int32)), (.int v10), (.ref o0)])) t
    refine XS.iand X12.here hx rfl (hb hby d4_177) rfl ?_
    show Steps p.tables e below (T12.setTop (mkF m 178 #[.val (.ref o0), .val (.int v13), .val (.int p2)] [(.int (p2 &&& (63 : Int32))), (.int (128 : Int32)), (.int v10), (.ref o0)])) t
    refine XS.ior X12.here hx rfl (hb hby d4_178) rfl ?_
    show Steps p.tables e below (T12.setTop (mkF m 179 #[.val (.ref o0), .val (.int v13), .val (.int p2)] [(.int ((128 : Int32) ||| (p2 &&& (63 : Int32)))), (.int v10), (.ref o0)])) t
    refine XS.i2b X12.here hx rfl (hb hby d4_179) rfl ?_
    show Steps p.tables e below (T12.setTop (mkF m 180 #[.val (.ref o0), .val (.int v13), .val (.int p2)] [(.int (((128 : Int32) ||| (p2 &&& (63 : Int32))).toInt8.toInt32)), (.int v10), (.ref o0)])) t
    refine st15 _ ?_
    show Steps p.tables e below (T15.setTop (mkF m 181 #[.val (.ref o0), .val (.int v13), .val (.int p2)] [])) t
    refine XS.iloadN X15.here hx rfl (hb hby d4_181) rfl ?_
    show Steps p.tables e below (T15.setTop (mkF m 182 #[.val (.ref o0), .val (.int v13), .val (.int p2)] [(.int v13)])) t
    exact k
  have A_ := A15
  subst hv13
  subst hv10
  subst hv7
  subst hv4
  exact Own.retI hR X15 hx hret (hb hby d4_182) (by decide) (by decide) (by rw [e15]; exact ⟨by rw [Int32.add_assoc, Int32.add_assoc, Int32.add_assoc]; rfl, N15, A_⟩)
theorem d5_0 : decode method_3_code 0 = .ok (.iload_n 1, 1) := by decide +kernel
theorem d5_1 : decode method_3_code 1 = .ok (.iload_n 2, 1) := by decide +kernel
theorem d5_2 : decode method_3_code 2 = .ok (.if_icmp .lt 10, 3) := by decide +kernel
theorem d5_5 : decode method_3_code 5 = .ok (.iload_n 1, 1) := by decide +kernel
theorem d5_6 : decode method_3_code 6 = .ok (.iload_n 2, 1) := by decide +kernel
theorem d5_7 : decode method_3_code 7 = .ok (.iload_n 3, 1) := by decide +kernel
theorem d5_8 : decode method_3_code 8 = .ok (.iadd, 1) := by decide +kernel
theorem d5_9 : decode method_3_code 9 = .ok (.if_icmp .lt 11, 3) := by decide +kernel
theorem d5_12 : decode method_3_code 12 = .ok (.aload_n 0, 1) := by decide +kernel
theorem d5_13 : decode method_3_code 13 = .ok (.iload_n 1, 1) := by decide +kernel
theorem d5_14 : decode method_3_code 14 = .ok (.baload, 1) := by decide +kernel
theorem d5_15 : decode method_3_code 15 = .ok (.iload 4, 2) := by decide +kernel
theorem d5_17 : decode method_3_code 17 = .ok (.if_icmp .ne 7, 3) := by decide +kernel
theorem d5_20 : decode method_3_code 20 = .ok (.iconst 1, 1) := by decide +kernel
theorem d5_21 : decode method_3_code 21 = .ok (.goto 4, 3) := by decide +kernel
theorem d5_24 : decode method_3_code 24 = .ok (.iconst 0, 1) := by decide +kernel
theorem d5_25 : decode method_3_code 25 = .ok (.ireturn, 1) := by decide +kernel
theorem pn_1 : plainName "org/wireform/json/JsonStringPutUtf8PinLaw" = true := by first | (simp [plainName, overriddenIn]; done) | decide +kernel
theorem ef_5 (m : MethodId) (o0 : Addr) (p1 : Int32) (p2 : Int32) (p3 : Int32) (p4 : Int32) : entryFrame m #[(.ref o0), (.int p1), (.int p2), (.int p3), (.int p4)] 5 = mkF m 0 #[.val (.ref o0), .val (.int p1), .val (.int p2), .val (.int p3), .val (.int p4)] [] := by first | (simp [entryFrame, mkF, argsToLocals, Value.category]; done) | rfl
def Q5 (Z : State) (o0 : Nat) (p1 : Int32) (p2 : Int32) (p3 : Int32) (p4 : Int32) (g : Nat → Int32) (h0 : Heap) (n0 : Nat) (v : Option Value) (h : Heap) (L : List Loc) : Prop := v = some (.int (Own.b2i (own_kept g p1 p2 p3 p4))) ∧ Fr n0 L ∧ h = h0
set_option maxRecDepth 65536 in
set_option maxHeartbeats 40000000 in
theorem rm5 (l : Launch) (Z : State) (a0 : Array Value) (hw : ∀ d ∈ tables_1, d.before a0 Z = true) (ws : List Jvm.Cond) (o0 : Nat) (p1 : Int32) (p2 : Int32) (p3 : Int32) (p4 : Int32) (g : Nat → Int32) (h0 : Heap) (n0 : Nat) (hi : 0 ≤ p1.toInt ∧ p1.toInt < 8) (A0 : Own.AvI Z h0 o0 .byte 8 g) :
    MetFree l (⟨"org/wireform/json/JsonStringPutUtf8PinLaw", "kept", "([BIIIB)Z"⟩ : MethodName) (head1 (Jvm.Cond.code (⟨"org/wireform/json/JsonStringPutUtf8PinLaw", "kept", "([BIIIB)Z"⟩ : MethodName) method_3_code 5 (some .boolean) :: ws) ({ frames := 0, cells := 0, slots := 0, locals := 0 } : Room)) (fun a U => a = #[(.ref o0), (.int p1), (.int p2), (.int p3), (.int p4)] ∧ Z.Warmed39 U.vm ∧ U.heap = h0) (fun _ _ _ _ _ => True) (fun _ U o U' => ∃ v L, o = .returned v ∧ Q5 Z o0 p1 p2 p3 p4 g h0 n0 v U'.heap L ∧ FrameEnd U o U' L ({ frames := 0, cells := 0, slots := 0, locals := 0 } : Room).cells ({ frames := 0, cells := 0, slots := 0, locals := 0 } : Room).slots) := by
  refine Own.enter (Q := Q5 Z o0 p1 p2 p3 p4 g h0 n0) (plainFor_of_name pn_1) ?_
  intro p e s m below meth c s₁ D hx hby hml hown hnm hret hZ X0 e0 hD hR
  have N0 := Fr.nil n0
  rw [show entryFrame m #[(.ref o0), (.int p1), (.int p2), (.int p3), (.int p4)] 5 = mkF m 0 #[.val (.ref o0), .val (.int p1), .val (.int p2), .val (.int p3), .val (.int p4)] [] from ef_5 m o0 p1 p2 p3 p4]
  refine hD _ (s₁.setTop (mkF m 2 #[.val (.ref o0), .val (.int p1), .val (.int p2), .val (.int p3), .val (.int p4)] [(.int p2), (.int p1)])) (fun t k => ?_) ?_
  · show Steps p.tables e below (s₁.setTop (mkF m 0 #[.val (.ref o0), .val (.int p1), .val (.int p2), .val (.int p3), .val (.int p4)] [])) t
    refine XS.iloadN X0.here hx rfl (hb hby d5_0) rfl ?_
    show Steps p.tables e below (s₁.setTop (mkF m 1 #[.val (.ref o0), .val (.int p1), .val (.int p2), .val (.int p3), .val (.int p4)] [(.int p1)])) t
    refine XS.iloadN X0.here hx rfl (hb hby d5_1) rfl ?_
    show Steps p.tables e below (s₁.setTop (mkF m 2 #[.val (.ref o0), .val (.int p1), .val (.int p2), .val (.int p3), .val (.int p4)] [(.int p2), (.int p1)])) t
    exact k
  by_cases hc1 : p1 < p2
  · have hj2 : 0 ≤ p1.toInt ∧ p1.toInt < (8 : Nat) := hi
    refine hD _ (s₁.setTop (mkF m 17 #[.val (.ref o0), .val (.int p1), .val (.int p2), .val (.int p3), .val (.int p4)] [(.int p4), (.int (g p1.toInt.toNat))])) (fun t k => ?_) ?_
    · show Steps p.tables e below (s₁.setTop (mkF m 2 #[.val (.ref o0), .val (.int p1), .val (.int p2), .val (.int p3), .val (.int p4)] [(.int p2), (.int p1)])) t
      refine XS.icmpYes X0.here hx rfl (pc0 := 2) (pc' := 12) rfl (hb hby d5_2) rfl (tlt hc1).1 (by decide) (by decide) ?_
      show Steps p.tables e below (s₁.setTop (mkF m 12 #[.val (.ref o0), .val (.int p1), .val (.int p2), .val (.int p3), .val (.int p4)] [])) t
      refine XS.aloadN X0.here hx rfl (hb hby d5_12) rfl rfl ?_
      show Steps p.tables e below (s₁.setTop (mkF m 13 #[.val (.ref o0), .val (.int p1), .val (.int p2), .val (.int p3), .val (.int p4)] [(.ref o0)])) t
      refine XS.iloadN X0.here hx rfl (hb hby d5_13) rfl ?_
      show Steps p.tables e below (s₁.setTop (mkF m 14 #[.val (.ref o0), .val (.int p1), .val (.int p2), .val (.int p3), .val (.int p4)] [(.int p1), (.ref o0)])) t
      refine Own.ldB X0 hx hZ e0 A0 hj2 (g := (mkF m 14 #[.val (.ref o0), .val (.int p1), .val (.int p2), .val (.int p3), .val (.int p4)] [(.int p1), (.ref o0)])) rfl rfl (hb hby d5_14) _ ?_
      show Steps p.tables e below (s₁.setTop (mkF m 15 #[.val (.ref o0), .val (.int p1), .val (.int p2), .val (.int p3), .val (.int p4)] [(.int (g p1.toInt.toNat))])) t
      refine XS.iload X0.here hx rfl (hb hby d5_15) rfl ?_
      show Steps p.tables e below (s₁.setTop (mkF m 17 #[.val (.ref o0), .val (.int p1), .val (.int p2), .val (.int p3), .val (.int p4)] [(.int p4), (.int (g p1.toInt.toNat))])) t
      exact k
    by_cases hc3 : (g p1.toInt.toNat) = p4
    · refine hD _ (s₁.setTop (mkF m 25 #[.val (.ref o0), .val (.int p1), .val (.int p2), .val (.int p3), .val (.int p4)] [(.int (1 : Int32))])) (fun t k => ?_) ?_
      · show Steps p.tables e below (s₁.setTop (mkF m 17 #[.val (.ref o0), .val (.int p1), .val (.int p2), .val (.int p3), .val (.int p4)] [(.int p4), (.int (g p1.toInt.toNat))])) t
        refine XS.icmpNo X0.here hx rfl (hb hby d5_17) rfl (teq hc3).2 ?_
        show Steps p.tables e below (s₁.setTop (mkF m 20 #[.val (.ref o0), .val (.int p1), .val (.int p2), .val (.int p3), .val (.int p4)] [])) t
        refine XS.iconst X0.here hx rfl (hb hby d5_20) ?_
        show Steps p.tables e below (s₁.setTop (mkF m 21 #[.val (.ref o0), .val (.int p1), .val (.int p2), .val (.int p3), .val (.int p4)] [(.int (1 : Int32))])) t
        refine XS.goto X0.here hx rfl (pc0 := 21) (pc' := 25) rfl (hb hby d5_21) (by decide) (by decide) ?_
        show Steps p.tables e below (s₁.setTop (mkF m 25 #[.val (.ref o0), .val (.int p1), .val (.int p2), .val (.int p3), .val (.int p4)] [(.int (1 : Int32))])) t
        exact k
      have hk : own_kept g p1 p2 p3 p4 = true := decide_eq_true (Or.inr hc3)
      exact Own.retN hR X0 hx (t := .boolean) hret (by simp) (hb hby d5_25) (by decide) (by decide) (by decide) ⟨by rw [hk]; rfl, N0, e0⟩
    · refine hD _ (s₁.setTop (mkF m 25 #[.val (.ref o0), .val (.int p1), .val (.int p2), .val (.int p3), .val (.int p4)] [(.int (0 : Int32))])) (fun t k => ?_) ?_
      · show Steps p.tables e below (s₁.setTop (mkF m 17 #[.val (.ref o0), .val (.int p1), .val (.int p2), .val (.int p3), .val (.int p4)] [(.int p4), (.int (g p1.toInt.toNat))])) t
        refine XS.icmpYes X0.here hx rfl (pc0 := 17) (pc' := 24) rfl (hb hby d5_17) rfl (feq hc3).2 (by decide) (by decide) ?_
        show Steps p.tables e below (s₁.setTop (mkF m 24 #[.val (.ref o0), .val (.int p1), .val (.int p2), .val (.int p3), .val (.int p4)] [])) t
        refine XS.iconst X0.here hx rfl (hb hby d5_24) ?_
        show Steps p.tables e below (s₁.setTop (mkF m 25 #[.val (.ref o0), .val (.int p1), .val (.int p2), .val (.int p3), .val (.int p4)] [(.int (0 : Int32))])) t
        exact k
      have hk : own_kept g p1 p2 p3 p4 = false := decide_eq_false (by rintro (q | q); exact q.1 hc1; exact hc3 q)
      exact Own.retN hR X0 hx (t := .boolean) hret (by simp) (hb hby d5_25) (by decide) (by decide) (by decide) ⟨by rw [hk]; rfl, N0, e0⟩
  · refine hD _ (s₁.setTop (mkF m 9 #[.val (.ref o0), .val (.int p1), .val (.int p2), .val (.int p3), .val (.int p4)] [(.int (p2 + p3)), (.int p1)])) (fun t k => ?_) ?_
    · show Steps p.tables e below (s₁.setTop (mkF m 2 #[.val (.ref o0), .val (.int p1), .val (.int p2), .val (.int p3), .val (.int p4)] [(.int p2), (.int p1)])) t
      refine XS.icmpNo X0.here hx rfl (hb hby d5_2) rfl (flt hc1).1 ?_
      show Steps p.tables e below (s₁.setTop (mkF m 5 #[.val (.ref o0), .val (.int p1), .val (.int p2), .val (.int p3), .val (.int p4)] [])) t
      refine XS.iloadN X0.here hx rfl (hb hby d5_5) rfl ?_
      show Steps p.tables e below (s₁.setTop (mkF m 6 #[.val (.ref o0), .val (.int p1), .val (.int p2), .val (.int p3), .val (.int p4)] [(.int p1)])) t
      refine XS.iloadN X0.here hx rfl (hb hby d5_6) rfl ?_
      show Steps p.tables e below (s₁.setTop (mkF m 7 #[.val (.ref o0), .val (.int p1), .val (.int p2), .val (.int p3), .val (.int p4)] [(.int p2), (.int p1)])) t
      refine XS.iloadN X0.here hx rfl (hb hby d5_7) rfl ?_
      show Steps p.tables e below (s₁.setTop (mkF m 8 #[.val (.ref o0), .val (.int p1), .val (.int p2), .val (.int p3), .val (.int p4)] [(.int p3), (.int p2), (.int p1)])) t
      refine XS.iadd X0.here hx rfl (hb hby d5_8) rfl ?_
      show Steps p.tables e below (s₁.setTop (mkF m 9 #[.val (.ref o0), .val (.int p1), .val (.int p2), .val (.int p3), .val (.int p4)] [(.int (p2 + p3)), (.int p1)])) t
      exact k
    by_cases hc4 : p1 < (p2 + p3)
    · refine hD _ (s₁.setTop (mkF m 25 #[.val (.ref o0), .val (.int p1), .val (.int p2), .val (.int p3), .val (.int p4)] [(.int (1 : Int32))])) (fun t k => ?_) ?_
      · show Steps p.tables e below (s₁.setTop (mkF m 9 #[.val (.ref o0), .val (.int p1), .val (.int p2), .val (.int p3), .val (.int p4)] [(.int (p2 + p3)), (.int p1)])) t
        refine XS.icmpYes X0.here hx rfl (pc0 := 9) (pc' := 20) rfl (hb hby d5_9) rfl (tlt hc4).1 (by decide) (by decide) ?_
        show Steps p.tables e below (s₁.setTop (mkF m 20 #[.val (.ref o0), .val (.int p1), .val (.int p2), .val (.int p3), .val (.int p4)] [])) t
        refine XS.iconst X0.here hx rfl (hb hby d5_20) ?_
        show Steps p.tables e below (s₁.setTop (mkF m 21 #[.val (.ref o0), .val (.int p1), .val (.int p2), .val (.int p3), .val (.int p4)] [(.int (1 : Int32))])) t
        refine XS.goto X0.here hx rfl (pc0 := 21) (pc' := 25) rfl (hb hby d5_21) (by decide) (by decide) ?_
        show Steps p.tables e below (s₁.setTop (mkF m 25 #[.val (.ref o0), .val (.int p1), .val (.int p2), .val (.int p3), .val (.int p4)] [(.int (1 : Int32))])) t
        exact k
      have hk : own_kept g p1 p2 p3 p4 = true := decide_eq_true (Or.inl ⟨hc1, hc4⟩)
      exact Own.retN hR X0 hx (t := .boolean) hret (by simp) (hb hby d5_25) (by decide) (by decide) (by decide) ⟨by rw [hk]; rfl, N0, e0⟩
    · have hj5 : 0 ≤ p1.toInt ∧ p1.toInt < (8 : Nat) := hi
      refine hD _ (s₁.setTop (mkF m 17 #[.val (.ref o0), .val (.int p1), .val (.int p2), .val (.int p3), .val (.int p4)] [(.int p4), (.int (g p1.toInt.toNat))])) (fun t k => ?_) ?_
      · show Steps p.tables e below (s₁.setTop (mkF m 9 #[.val (.ref o0), .val (.int p1), .val (.int p2), .val (.int p3), .val (.int p4)] [(.int (p2 + p3)), (.int p1)])) t
        refine XS.icmpNo X0.here hx rfl (hb hby d5_9) rfl (flt hc4).1 ?_
        show Steps p.tables e below (s₁.setTop (mkF m 12 #[.val (.ref o0), .val (.int p1), .val (.int p2), .val (.int p3), .val (.int p4)] [])) t
        refine XS.aloadN X0.here hx rfl (hb hby d5_12) rfl rfl ?_
        show Steps p.tables e below (s₁.setTop (mkF m 13 #[.val (.ref o0), .val (.int p1), .val (.int p2), .val (.int p3), .val (.int p4)] [(.ref o0)])) t
        refine XS.iloadN X0.here hx rfl (hb hby d5_13) rfl ?_
        show Steps p.tables e below (s₁.setTop (mkF m 14 #[.val (.ref o0), .val (.int p1), .val (.int p2), .val (.int p3), .val (.int p4)] [(.int p1), (.ref o0)])) t
        refine Own.ldB X0 hx hZ e0 A0 hj5 (g := (mkF m 14 #[.val (.ref o0), .val (.int p1), .val (.int p2), .val (.int p3), .val (.int p4)] [(.int p1), (.ref o0)])) rfl rfl (hb hby d5_14) _ ?_
        show Steps p.tables e below (s₁.setTop (mkF m 15 #[.val (.ref o0), .val (.int p1), .val (.int p2), .val (.int p3), .val (.int p4)] [(.int (g p1.toInt.toNat))])) t
        refine XS.iload X0.here hx rfl (hb hby d5_15) rfl ?_
        show Steps p.tables e below (s₁.setTop (mkF m 17 #[.val (.ref o0), .val (.int p1), .val (.int p2), .val (.int p3), .val (.int p4)] [(.int p4), (.int (g p1.toInt.toNat))])) t
        exact k
      by_cases hc6 : (g p1.toInt.toNat) = p4
      · refine hD _ (s₁.setTop (mkF m 25 #[.val (.ref o0), .val (.int p1), .val (.int p2), .val (.int p3), .val (.int p4)] [(.int (1 : Int32))])) (fun t k => ?_) ?_
        · show Steps p.tables e below (s₁.setTop (mkF m 17 #[.val (.ref o0), .val (.int p1), .val (.int p2), .val (.int p3), .val (.int p4)] [(.int p4), (.int (g p1.toInt.toNat))])) t
          refine XS.icmpNo X0.here hx rfl (hb hby d5_17) rfl (teq hc6).2 ?_
          show Steps p.tables e below (s₁.setTop (mkF m 20 #[.val (.ref o0), .val (.int p1), .val (.int p2), .val (.int p3), .val (.int p4)] [])) t
          refine XS.iconst X0.here hx rfl (hb hby d5_20) ?_
          show Steps p.tables e below (s₁.setTop (mkF m 21 #[.val (.ref o0), .val (.int p1), .val (.int p2), .val (.int p3), .val (.int p4)] [(.int (1 : Int32))])) t
          refine XS.goto X0.here hx rfl (pc0 := 21) (pc' := 25) rfl (hb hby d5_21) (by decide) (by decide) ?_
          show Steps p.tables e below (s₁.setTop (mkF m 25 #[.val (.ref o0), .val (.int p1), .val (.int p2), .val (.int p3), .val (.int p4)] [(.int (1 : Int32))])) t
          exact k
        have hk : own_kept g p1 p2 p3 p4 = true := decide_eq_true (Or.inr hc6)
        exact Own.retN hR X0 hx (t := .boolean) hret (by simp) (hb hby d5_25) (by decide) (by decide) (by decide) ⟨by rw [hk]; rfl, N0, e0⟩
      · refine hD _ (s₁.setTop (mkF m 25 #[.val (.ref o0), .val (.int p1), .val (.int p2), .val (.int p3), .val (.int p4)] [(.int (0 : Int32))])) (fun t k => ?_) ?_
        · show Steps p.tables e below (s₁.setTop (mkF m 17 #[.val (.ref o0), .val (.int p1), .val (.int p2), .val (.int p3), .val (.int p4)] [(.int p4), (.int (g p1.toInt.toNat))])) t
          refine XS.icmpYes X0.here hx rfl (pc0 := 17) (pc' := 24) rfl (hb hby d5_17) rfl (feq hc6).2 (by decide) (by decide) ?_
          show Steps p.tables e below (s₁.setTop (mkF m 24 #[.val (.ref o0), .val (.int p1), .val (.int p2), .val (.int p3), .val (.int p4)] [])) t
          refine XS.iconst X0.here hx rfl (hb hby d5_24) ?_
          show Steps p.tables e below (s₁.setTop (mkF m 25 #[.val (.ref o0), .val (.int p1), .val (.int p2), .val (.int p3), .val (.int p4)] [(.int (0 : Int32))])) t
          exact k
        have hk : own_kept g p1 p2 p3 p4 = false := decide_eq_false (by rintro (q | q); exact hc4 q.2; exact hc6 q)
        exact Own.retN hR X0 hx (t := .boolean) hret (by simp) (hb hby d5_25) (by decide) (by decide) (by decide) ⟨by rw [hk]; rfl, N0, e0⟩
theorem pd_0 : parseMethodDescriptor "([BII)I" = some ⟨[(.array .byte), .int, .int], some .int⟩ := by decide +kernel
theorem pd_1 : parseMethodDescriptor "([BIIIB)Z" = some ⟨[(.array .byte), .int, .int, .int, .byte], some .boolean⟩ := by decide +kernel
theorem ef_0 (m : MethodId) (p0 : Int32) (p1 : Int32) (p2 : Int32) (p3 : Int32) : entryFrame m #[(.int p0), (.int p1), (.int p2), (.int p3)] maxLocals = mkF m 0 #[.val (.int p0), .val (.int p1), .val (.int p2), .val (.int p3), .unset, .unset, .unset, .unset, .unset, .unset, .unset, .unset, .unset, .unset, .unset, .unset, .unset] [] := by first | (simp [entryFrame, mkF, argsToLocals, Value.category, maxLocals]; done) | rfl
def Q0 (Z : State) (p0 : Int32) (p1 : Int32) (p2 : Int32) (p3 : Int32) (h0 : Heap) (n0 : Nat) (v : Option Value) (h : Heap) (L : List Loc) : Prop := v = some (.int 1) ∧ Fr n0 L
set_option maxRecDepth 65536 in
set_option maxHeartbeats 40000000 in
theorem rm0 (l : Launch) (Z : State) (a0 : Array Value) (hw : ∀ d ∈ tables_1, d.before a0 Z = true) (ws : List Jvm.Cond) (p0 : Int32) (p1 : Int32) (p2 : Int32) (p3 : Int32) (h0 : Heap) (n0 : Nat) (Z0 : n0 ≤ h0.size) :
    MetFree l x (head1 (Jvm.Cond.code x code maxLocals ret :: ws) room_1) (fun a U => a = #[(.int p0), (.int p1), (.int p2), (.int p3)] ∧ Z.Warmed39 U.vm ∧ U.heap = h0) (fun _ _ _ _ _ => True) (fun _ U o U' => ∃ v L, o = .returned v ∧ Q0 Z p0 p1 p2 p3 h0 n0 v U'.heap L ∧ FrameEnd U o U' L room_1.cells room_1.slots) := by
  refine Own.enter (Q := Q0 Z p0 p1 p2 p3 h0 n0) (plainFor_of_name pn_1) ?_
  intro p e s m below meth c s₁ D hx hby hml hown hnm hret hZ X0 e0 hD hR
  have N0 := Fr.nil n0
  rw [show entryFrame m #[(.int p0), (.int p1), (.int p2), (.int p3)] maxLocals = mkF m 0 #[.val (.int p0), .val (.int p1), .val (.int p2), .val (.int p3), .unset, .unset, .unset, .unset, .unset, .unset, .unset, .unset, .unset, .unset, .unset, .unset, .unset] [] from ef_0 m p0 p1 p2 p3]
  obtain ⟨v1, hv1⟩ : ∃ z : Int32, z = (p0 &&& (3 : Int32)) := ⟨_, rfl⟩
  obtain ⟨v2, hv2⟩ : ∃ z : Int32, z = (p1 &&& (2147483647 : Int32)) := ⟨_, rfl⟩
  have hu := own_u hv2
  refine hD _ (s₁.setTop (mkF m 13 #[.val (.int p0), .val (.int p1), .val (.int p2), .val (.int p3), .val (.int v1), .val (.int v2), .unset, .unset, .unset, .unset, .unset, .unset, .unset, .unset, .unset, .unset, .unset] [(.int v1)])) (fun t k => ?_) ?_
  · show Steps p.tables e below (s₁.setTop (mkF m 0 #[.val (.int p0), .val (.int p1), .val (.int p2), .val (.int p3), .unset, .unset, .unset, .unset, .unset, .unset, .unset, .unset, .unset, .unset, .unset, .unset, .unset] [])) t
    refine XS.iloadN X0.here hx rfl (hb hby at_0) rfl ?_
    show Steps p.tables e below (s₁.setTop (mkF m 1 #[.val (.int p0), .val (.int p1), .val (.int p2), .val (.int p3), .unset, .unset, .unset, .unset, .unset, .unset, .unset, .unset, .unset, .unset, .unset, .unset, .unset] [(.int p0)])) t
    refine XS.iconst X0.here hx rfl (hb hby at_1) ?_
    show Steps p.tables e below (s₁.setTop (mkF m 2 #[.val (.int p0), .val (.int p1), .val (.int p2), .val (.int p3), .unset, .unset, .unset, .unset, .unset, .unset, .unset, .unset, .unset, .unset, .unset, .unset, .unset] [(.int (3 : Int32)), (.int p0)])) t
    refine XS.iand X0.here hx rfl (hb hby at_2) rfl ?_
    show Steps p.tables e below (s₁.setTop (mkF m 3 #[.val (.int p0), .val (.int p1), .val (.int p2), .val (.int p3), .unset, .unset, .unset, .unset, .unset, .unset, .unset, .unset, .unset, .unset, .unset, .unset, .unset] [(.int (p0 &&& (3 : Int32)))])) t
    refine Own.nmI hv1 ?_
    show Steps p.tables e below (s₁.setTop (mkF m 3 #[.val (.int p0), .val (.int p1), .val (.int p2), .val (.int p3), .unset, .unset, .unset, .unset, .unset, .unset, .unset, .unset, .unset, .unset, .unset, .unset, .unset] [(.int v1)])) t
    refine XS.istore X0.here hx rfl (hb hby at_3) rfl (l' := #[.val (.int p0), .val (.int p1), .val (.int p2), .val (.int p3), .val (.int v1), .unset, .unset, .unset, .unset, .unset, .unset, .unset, .unset, .unset, .unset, .unset, .unset]) rfl ?_
    show Steps p.tables e below (s₁.setTop (mkF m 5 #[.val (.int p0), .val (.int p1), .val (.int p2), .val (.int p3), .val (.int v1), .unset, .unset, .unset, .unset, .unset, .unset, .unset, .unset, .unset, .unset, .unset, .unset] [])) t
    refine XS.iloadN X0.here hx rfl (hb hby at_5) rfl ?_
    show Steps p.tables e below (s₁.setTop (mkF m 6 #[.val (.int p0), .val (.int p1), .val (.int p2), .val (.int p3), .val (.int v1), .unset, .unset, .unset, .unset, .unset, .unset, .unset, .unset, .unset, .unset, .unset, .unset] [(.int p1)])) t
    refine X0.ldcInt hx hown (mvT hZ (hw _ (List.mem_of_getElem? (i := 0) rfl))) (g := (mkF m 6 #[.val (.int p0), .val (.int p1), .val (.int p2), .val (.int p3), .val (.int v1), .unset, .unset, .unset, .unset, .unset, .unset, .unset, .unset, .unset, .unset, .unset, .unset] [(.int p1)])) rfl (hb hby at_6) _ ?_
    show Steps p.tables e below (s₁.setTop (mkF m 8 #[.val (.int p0), .val (.int p1), .val (.int p2), .val (.int p3), .val (.int v1), .unset, .unset, .unset, .unset, .unset, .unset, .unset, .unset, .unset, .unset, .unset, .unset] [(.int (2147483647 : Int32)), (.int p1)])) t
    refine XS.iand X0.here hx rfl (hb hby at_8) rfl ?_
    show Steps p.tables e below (s₁.setTop (mkF m 9 #[.val (.int p0), .val (.int p1), .val (.int p2), .val (.int p3), .val (.int v1), .unset, .unset, .unset, .unset, .unset, .unset, .unset, .unset, .unset, .unset, .unset, .unset] [(.int (p1 &&& (2147483647 : Int32)))])) t
    refine Own.nmI hv2 ?_
    show Steps p.tables e below (s₁.setTop (mkF m 9 #[.val (.int p0), .val (.int p1), .val (.int p2), .val (.int p3), .val (.int v1), .unset, .unset, .unset, .unset, .unset, .unset, .unset, .unset, .unset, .unset, .unset, .unset] [(.int v2)])) t
    refine XS.istore X0.here hx rfl (hb hby at_9) rfl (l' := #[.val (.int p0), .val (.int p1), .val (.int p2), .val (.int p3), .val (.int v1), .val (.int v2), .unset, .unset, .unset, .unset, .unset, .unset, .unset, .unset, .unset, .unset, .unset]) rfl ?_
    show Steps p.tables e below (s₁.setTop (mkF m 11 #[.val (.int p0), .val (.int p1), .val (.int p2), .val (.int p3), .val (.int v1), .val (.int v2), .unset, .unset, .unset, .unset, .unset, .unset, .unset, .unset, .unset, .unset, .unset] [])) t
    refine XS.iload X0.here hx rfl (hb hby at_11) rfl ?_
    show Steps p.tables e below (s₁.setTop (mkF m 13 #[.val (.int p0), .val (.int p1), .val (.int p2), .val (.int p3), .val (.int v1), .val (.int v2), .unset, .unset, .unset, .unset, .unset, .unset, .unset, .unset, .unset, .unset, .unset] [(.int v1)])) t
    exact k
  by_cases hc3 : v1 = (0 : Int32)
  · have hnz4 : (128 : Int32) ≠ 0 := by decide
    obtain ⟨v5, hv5⟩ : ∃ z : Int32, z = (v2 % (128 : Int32)) := ⟨_, rfl⟩
    have hcp : 0 ≤ v5.toInt ∧ v5.toInt ≤ 127 := by
      have q := own_rm (m := 128) (M := 128) hu (by decide) (by decide)
      rw [hv5]; omega
    obtain ⟨v6, hv6⟩ : ∃ z : Int32, z = (p2 &&& (3 : Int32)) := ⟨_, rfl⟩
    have hn := own_n hv6
    have hix := own_ix hn
    obtain ⟨v7, hv7⟩ : ∃ z : Int32, z = (p3.toInt8.toInt32) := ⟨_, rfl⟩
    obtain ⟨T8, h8, k8, X8, e8, E8, A8, st8⟩ := newP X0 hx hZ (hw _ (List.mem_of_getElem? (i := 1) rfl)) e0 (g := (mkF m 118 #[.val (.int p0), .val (.int p1), .val (.int p2), .val (.int p3), .val (.int v1), .val (.int v2), .val (.int v5), .val (.int (1 : Int32)), .val (.int v6), .val (.int v7), .unset, .unset, .unset, .unset, .unset, .unset, .unset] [(.int (8 : Int32))])) rfl (hb hby at_118) rfl (by decide) (cap := 8) (by decide) (by decide) (by decide) (by decide)
    obtain ⟨b8, g_b8⟩ : ∃ z : Nat, z = h0.size := ⟨_, rfl⟩
    rw [← g_b8] at A8 st8
    have g0_b8 : n0 ≤ b8 := by rw [g_b8]; exact Z0
    have f9 : Own.AvI Z h8 b8 .byte 8 (fun _ => 0) := Own.AvI.new A8 (by decide) rfl
    have Z8 : n0 ≤ h8.size := Nat.le_trans Z0 E8.1
    have hj10 : 0 ≤ (0 : Int32).toInt ∧ (0 : Int32).toInt < (8 : Nat) := ⟨by decide, by decide⟩
    obtain ⟨T11, h11, X11, e11, A11, W11, st11⟩ := Own.stoB X8 hx hZ e8 f9 hj10 (g := (mkF m 124 #[.val (.int p0), .val (.int p1), .val (.int p2), .val (.int p3), .val (.int v1), .val (.int v2), .val (.int v5), .val (.int (1 : Int32)), .val (.int v6), .val (.int v7), .unset, .unset, .unset, .unset, .unset, .unset, .unset] [(.int v7), (.int (0 : Int32)), (.ref b8), (.ref b8)])) rfl rfl (hb hby at_124)
    have N11 := Fr.snoc X11 N0 (show n0 ≤ b8 by omega)
    have Z11 : n0 ≤ h11.size := Nat.le_trans Z8 (Keep.of_wr W11).1
    have hj12 : 0 ≤ (1 : Int32).toInt ∧ (1 : Int32).toInt < (8 : Nat) := ⟨by decide, by decide⟩
    obtain ⟨T13, h13, X13, e13, A13, W13, st13⟩ := Own.stoB X11 hx hZ e11 A11 hj12 (g := (mkF m 129 #[.val (.int p0), .val (.int p1), .val (.int p2), .val (.int p3), .val (.int v1), .val (.int v2), .val (.int v5), .val (.int (1 : Int32)), .val (.int v6), .val (.int v7), .unset, .unset, .unset, .unset, .unset, .unset, .unset] [(.int v7), (.int (1 : Int32)), (.ref b8), (.ref b8)])) rfl rfl (hb hby at_129)
    have N13 := Fr.snoc X13 N11 (show n0 ≤ b8 by omega)
    have Z13 : n0 ≤ h13.size := Nat.le_trans Z11 (Keep.of_wr W13).1
    have hj14 : 0 ≤ (2 : Int32).toInt ∧ (2 : Int32).toInt < (8 : Nat) := ⟨by decide, by decide⟩
    obtain ⟨T15, h15, X15, e15, A15, W15, st15⟩ := Own.stoB X13 hx hZ e13 A13 hj14 (g := (mkF m 134 #[.val (.int p0), .val (.int p1), .val (.int p2), .val (.int p3), .val (.int v1), .val (.int v2), .val (.int v5), .val (.int (1 : Int32)), .val (.int v6), .val (.int v7), .unset, .unset, .unset, .unset, .unset, .unset, .unset] [(.int v7), (.int (2 : Int32)), (.ref b8), (.ref b8)])) rfl rfl (hb hby at_134)
    have N15 := Fr.snoc X15 N13 (show n0 ≤ b8 by omega)
    have Z15 : n0 ≤ h15.size := Nat.le_trans Z13 (Keep.of_wr W15).1
    have hj16 : 0 ≤ (3 : Int32).toInt ∧ (3 : Int32).toInt < (8 : Nat) := ⟨by decide, by decide⟩
    obtain ⟨T17, h17, X17, e17, A17, W17, st17⟩ := Own.stoB X15 hx hZ e15 A15 hj16 (g := (mkF m 139 #[.val (.int p0), .val (.int p1), .val (.int p2), .val (.int p3), .val (.int v1), .val (.int v2), .val (.int v5), .val (.int (1 : Int32)), .val (.int v6), .val (.int v7), .unset, .unset, .unset, .unset, .unset, .unset, .unset] [(.int v7), (.int (3 : Int32)), (.ref b8), (.ref b8)])) rfl rfl (hb hby at_139)
    have N17 := Fr.snoc X17 N15 (show n0 ≤ b8 by omega)
    have Z17 : n0 ≤ h17.size := Nat.le_trans Z15 (Keep.of_wr W17).1
    have hj18 : 0 ≤ (4 : Int32).toInt ∧ (4 : Int32).toInt < (8 : Nat) := ⟨by decide, by decide⟩
    obtain ⟨T19, h19, X19, e19, A19, W19, st19⟩ := Own.stoB X17 hx hZ e17 A17 hj18 (g := (mkF m 144 #[.val (.int p0), .val (.int p1), .val (.int p2), .val (.int p3), .val (.int v1), .val (.int v2), .val (.int v5), .val (.int (1 : Int32)), .val (.int v6), .val (.int v7), .unset, .unset, .unset, .unset, .unset, .unset, .unset] [(.int v7), (.int (4 : Int32)), (.ref b8), (.ref b8)])) rfl rfl (hb hby at_144)
    have N19 := Fr.snoc X19 N17 (show n0 ≤ b8 by omega)
    have Z19 : n0 ≤ h19.size := Nat.le_trans Z17 (Keep.of_wr W19).1
    have hj20 : 0 ≤ (5 : Int32).toInt ∧ (5 : Int32).toInt < (8 : Nat) := ⟨by decide, by decide⟩
    obtain ⟨T21, h21, X21, e21, A21, W21, st21⟩ := Own.stoB X19 hx hZ e19 A19 hj20 (g := (mkF m 149 #[.val (.int p0), .val (.int p1), .val (.int p2), .val (.int p3), .val (.int v1), .val (.int v2), .val (.int v5), .val (.int (1 : Int32)), .val (.int v6), .val (.int v7), .unset, .unset, .unset, .unset, .unset, .unset, .unset] [(.int v7), (.int (5 : Int32)), (.ref b8), (.ref b8)])) rfl rfl (hb hby at_149)
    have N21 := Fr.snoc X21 N19 (show n0 ≤ b8 by omega)
    have Z21 : n0 ≤ h21.size := Nat.le_trans Z19 (Keep.of_wr W21).1
    have hj22 : 0 ≤ (6 : Int32).toInt ∧ (6 : Int32).toInt < (8 : Nat) := ⟨by decide, by decide⟩
    obtain ⟨T23, h23, X23, e23, A23, W23, st23⟩ := Own.stoB X21 hx hZ e21 A21 hj22 (g := (mkF m 155 #[.val (.int p0), .val (.int p1), .val (.int p2), .val (.int p3), .val (.int v1), .val (.int v2), .val (.int v5), .val (.int (1 : Int32)), .val (.int v6), .val (.int v7), .unset, .unset, .unset, .unset, .unset, .unset, .unset] [(.int v7), (.int (6 : Int32)), (.ref b8), (.ref b8)])) rfl rfl (hb hby at_155)
    have N23 := Fr.snoc X23 N21 (show n0 ≤ b8 by omega)
    have Z23 : n0 ≤ h23.size := Nat.le_trans Z21 (Keep.of_wr W23).1
    have hj24 : 0 ≤ (7 : Int32).toInt ∧ (7 : Int32).toInt < (8 : Nat) := ⟨by decide, by decide⟩
    obtain ⟨T25, h25, X25, e25, A25, W25, st25⟩ := Own.stoB X23 hx hZ e23 A23 hj24 (g := (mkF m 161 #[.val (.int p0), .val (.int p1), .val (.int p2), .val (.int p3), .val (.int v1), .val (.int v2), .val (.int v5), .val (.int (1 : Int32)), .val (.int v6), .val (.int v7), .unset, .unset, .unset, .unset, .unset, .unset, .unset] [(.int v7), (.int (7 : Int32)), (.ref b8), (.ref b8)])) rfl rfl (hb hby at_161)
    have N25 := Fr.snoc X25 N23 (show n0 ≤ b8 by omega)
    have Z25 : n0 ≤ h25.size := Nat.le_trans Z23 (Keep.of_wr W25).1
    obtain ⟨g, Ag, hg⟩ : ∃ z : Nat → Int32, Own.AvI Z h25 b8 .byte 8 z ∧ ∀ i, i < 8 → z i = v7 := ⟨_, A25, fun i hi => by
      have q := own_nar hv7
      match i, hi with
      | 0, _ => exact q
      | 1, _ => exact q
      | 2, _ => exact q
      | 3, _ => exact q
      | 4, _ => exact q
      | 5, _ => exact q
      | 6, _ => exact q
      | 7, _ => exact q⟩
    obtain ⟨T26, _, L26, X26, ⟨rfl, Nq26, A26⟩, st26⟩ := Own.callS (y := (⟨"org/wireform/json/JsonString", "putUtf8", "([BII)I"⟩ : MethodName)) (W := 0) (argsL := [(.ref b8), (.int v6), (.int v5)]) (rest := []) X25 hx hZ hown (hw _ (List.mem_of_getElem? (i := 2) rfl)) (hw _ (List.mem_of_getElem? (i := 3) rfl)) (hw _ (List.mem_of_getElem? (i := 4) rfl)) (hw _ (List.mem_of_getElem? (i := 5) rfl)) (by decide) e25 (rm1 l Z a0 hw [] b8 v6 v5 g h25 n0 Z25 g0_b8 hn hcp Ag) (by decide) (by decide) (by decide) (by decide) (g := (mkF m 170 #[.val (.int p0), .val (.int p1), .val (.int p2), .val (.int p3), .val (.int v1), .val (.int v2), .val (.int v5), .val (.int (1 : Int32)), .val (.int v6), .val (.int v7), .val (.ref b8), .unset, .unset, .unset, .unset, .unset, .unset] [(.int v5), (.int v6), (.ref b8)])) rfl (by rw [hml]; rfl) (lenOf pd_0 rfl) rfl (by show 2 * 0 + _ ≤ _; exact Nat.le_of_eq rfl) (hb hby at_170)
    have N26 := Fr.app N25 Nq26
    obtain ⟨v27, hv27⟩ : ∃ z : Int32, z = (v6 + (1 : Int32)) := ⟨_, rfl⟩
    refine hD _ (T26.setTop (mkF m 182 #[.val (.int p0), .val (.int p1), .val (.int p2), .val (.int p3), .val (.int v1), .val (.int v2), .val (.int v5), .val (.int (1 : Int32)), .val (.int v6), .val (.int v7), .val (.ref b8), .val (.int v27), .unset, .unset, .unset, .unset, .unset] [(.int (v6 + (1 : Int32))), (.int v27)])) (fun t k => ?_) ?_
    · show Steps p.tables e below (s₁.setTop (mkF m 13 #[.val (.int p0), .val (.int p1), .val (.int p2), .val (.int p3), .val (.int v1), .val (.int v2), .unset, .unset, .unset, .unset, .unset, .unset, .unset, .unset, .unset, .unset, .unset] [(.int v1)])) t
      refine XS.ifNo X0.here hx rfl (hb hby at_13) rfl ((if0 _ _).trans (teq hc3).2) ?_
      show Steps p.tables e below (s₁.setTop (mkF m 16 #[.val (.int p0), .val (.int p1), .val (.int p2), .val (.int p3), .val (.int v1), .val (.int v2), .unset, .unset, .unset, .unset, .unset, .unset, .unset, .unset, .unset, .unset, .unset] [])) t
      refine XS.iload X0.here hx rfl (hb hby at_16) rfl ?_
      show Steps p.tables e below (s₁.setTop (mkF m 18 #[.val (.int p0), .val (.int p1), .val (.int p2), .val (.int p3), .val (.int v1), .val (.int v2), .unset, .unset, .unset, .unset, .unset, .unset, .unset, .unset, .unset, .unset, .unset] [(.int v2)])) t
      refine XS.sipush X0.here hx rfl (hb hby at_18) ?_
      show Steps p.tables e below (s₁.setTop (mkF m 21 #[.val (.int p0), .val (.int p1), .val (.int p2), .val (.int p3), .val (.int v1), .val (.int v2), .unset, .unset, .unset, .unset, .unset, .unset, .unset, .unset, .unset, .unset, .unset] [(.int (128 : Int32)), (.int v2)])) t
      refine Jvm.RoadKit.iremM (g := (mkF m 21 #[.val (.int p0), .val (.int p1), .val (.int p2), .val (.int p3), .val (.int v1), .val (.int v2), .unset, .unset, .unset, .unset, .unset, .unset, .unset, .unset, .unset, .unset, .unset] [(.int (128 : Int32)), (.int v2)])) X0 hx rfl (hb hby at_21) rfl hnz4 ?_
      show Steps p.tables e below (s₁.setTop (mkF m 22 #[.val (.int p0), .val (.int p1), .val (.int p2), .val (.int p3), .val (.int v1), .val (.int v2), .unset, .unset, .unset, .unset, .unset, .unset, .unset, .unset, .unset, .unset, .unset] [(.int (v2 % (128 : Int32)))])) t
      refine Own.nmI hv5 ?_
      show Steps p.tables e below (s₁.setTop (mkF m 22 #[.val (.int p0), .val (.int p1), .val (.int p2), .val (.int p3), .val (.int v1), .val (.int v2), .unset, .unset, .unset, .unset, .unset, .unset, .unset, .unset, .unset, .unset, .unset] [(.int v5)])) t
      refine XS.istore X0.here hx rfl (hb hby at_22) rfl (l' := #[.val (.int p0), .val (.int p1), .val (.int p2), .val (.int p3), .val (.int v1), .val (.int v2), .val (.int v5), .unset, .unset, .unset, .unset, .unset, .unset, .unset, .unset, .unset, .unset]) rfl ?_
      show Steps p.tables e below (s₁.setTop (mkF m 24 #[.val (.int p0), .val (.int p1), .val (.int p2), .val (.int p3), .val (.int v1), .val (.int v2), .val (.int v5), .unset, .unset, .unset, .unset, .unset, .unset, .unset, .unset, .unset, .unset] [])) t
      refine XS.iconst X0.here hx rfl (hb hby at_24) ?_
      show Steps p.tables e below (s₁.setTop (mkF m 25 #[.val (.int p0), .val (.int p1), .val (.int p2), .val (.int p3), .val (.int v1), .val (.int v2), .val (.int v5), .unset, .unset, .unset, .unset, .unset, .unset, .unset, .unset, .unset, .unset] [(.int (1 : Int32))])) t
      refine XS.istore X0.here hx rfl (hb hby at_25) rfl (l' := #[.val (.int p0), .val (.int p1), .val (.int p2), .val (.int p3), .val (.int v1), .val (.int v2), .val (.int v5), .val (.int (1 : Int32)), .unset, .unset, .unset, .unset, .unset, .unset, .unset, .unset, .unset]) rfl ?_
      show Steps p.tables e below (s₁.setTop (mkF m 27 #[.val (.int p0), .val (.int p1), .val (.int p2), .val (.int p3), .val (.int v1), .val (.int v2), .val (.int v5), .val (.int (1 : Int32)), .unset, .unset, .unset, .unset, .unset, .unset, .unset, .unset, .unset] [])) t
      refine XS.goto X0.here hx rfl (pc0 := 27) (pc' := 107) rfl (hb hby at_27) (by decide) (by decide) ?_
      show Steps p.tables e below (s₁.setTop (mkF m 107 #[.val (.int p0), .val (.int p1), .val (.int p2), .val (.int p3), .val (.int v1), .val (.int v2), .val (.int v5), .val (.int (1 : Int32)), .unset, .unset, .unset, .unset, .unset, .unset, .unset, .unset, .unset] [])) t
      refine XS.iloadN X0.here hx rfl (hb hby at_107) rfl ?_
      show Steps p.tables e below (s₁.setTop (mkF m 108 #[.val (.int p0), .val (.int p1), .val (.int p2), .val (.int p3), .val (.int v1), .val (.int v2), .val (.int v5), .val (.int (1 : Int32)), .unset, .unset, .unset, .unset, .unset, .unset, .unset, .unset, .unset] [(.int p2)])) t
      refine XS.iconst X0.here hx rfl (hb hby at_108) ?_
      show Steps p.tables e below (s₁.setTop (mkF m 109 #[.val (.int p0), .val (.int p1), .val (.int p2), .val (.int p3), .val (.int v1), .val (.int v2), .val (.int v5), .val (.int (1 : Int32)), .unset, .unset, .unset, .unset, .unset, .unset, .unset, .unset, .unset] [(.int (3 : Int32)), (.int p2)])) t
      refine XS.iand X0.here hx rfl (hb hby at_109) rfl ?_
      show Steps p.tables e below (s₁.setTop (mkF m 110 #[.val (.int p0), .val (.int p1), .val (.int p2), .val (.int p3), .val (.int v1), .val (.int v2), .val (.int v5), .val (.int (1 : Int32)), .unset, .unset, .unset, .unset, .unset, .unset, .unset, .unset, .unset] [(.int (p2 &&& (3 : Int32)))])) t
      refine Own.nmI hv6 ?_
      show Steps p.tables e below (s₁.setTop (mkF m 110 #[.val (.int p0), .val (.int p1), .val (.int p2), .val (.int p3), .val (.int v1), .val (.int v2), .val (.int v5), .val (.int (1 : Int32)), .unset, .unset, .unset, .unset, .unset, .unset, .unset, .unset, .unset] [(.int v6)])) t
      refine XS.istore X0.here hx rfl (hb hby at_110) rfl (l' := #[.val (.int p0), .val (.int p1), .val (.int p2), .val (.int p3), .val (.int v1), .val (.int v2), .val (.int v5), .val (.int (1 : Int32)), .val (.int v6), .unset, .unset, .unset, .unset, .unset, .unset, .unset, .unset]) rfl ?_
      show Steps p.tables e below (s₁.setTop (mkF m 112 #[.val (.int p0), .val (.int p1), .val (.int p2), .val (.int p3), .val (.int v1), .val (.int v2), .val (.int v5), .val (.int (1 : Int32)), .val (.int v6), .unset, .unset, .unset, .unset, .unset, .unset, .unset, .unset] [])) t
      refine XS.iloadN X0.here hx rfl (hb hby at_112) rfl ?_
      show Steps p.tables e below (s₁.setTop (mkF m 113 #[.val (.int p0), .val (.int p1), .val (.int p2), .val (.int p3), .val (.int v1), .val (.int v2), .val (.int v5), .val (.int (1 : Int32)), .val (.int v6), .unset, .unset, .unset, .unset, .unset, .unset, .unset, .unset] [(.int p3)])) t
      refine XS.i2b X0.here hx rfl (hb hby at_113) rfl ?_
      show Steps p.tables e below (s₁.setTop (mkF m 114 #[.val (.int p0), .val (.int p1), .val (.int p2), .val (.int p3), .val (.int v1), .val (.int v2), .val (.int v5), .val (.int (1 : Int32)), .val (.int v6), .unset, .unset, .unset, .unset, .unset, .unset, .unset, .unset] [(.int (p3.toInt8.toInt32))])) t
      refine Own.nmI hv7 ?_
      show Steps p.tables e below (s₁.setTop (mkF m 114 #[.val (.int p0), .val (.int p1), .val (.int p2), .val (.int p3), .val (.int v1), .val (.int v2), .val (.int v5), .val (.int (1 : Int32)), .val (.int v6), .unset, .unset, .unset, .unset, .unset, .unset, .unset, .unset] [(.int v7)])) t
      refine XS.istore X0.here hx rfl (hb hby at_114) rfl (l' := #[.val (.int p0), .val (.int p1), .val (.int p2), .val (.int p3), .val (.int v1), .val (.int v2), .val (.int v5), .val (.int (1 : Int32)), .val (.int v6), .val (.int v7), .unset, .unset, .unset, .unset, .unset, .unset, .unset]) rfl ?_
      show Steps p.tables e below (s₁.setTop (mkF m 116 #[.val (.int p0), .val (.int p1), .val (.int p2), .val (.int p3), .val (.int v1), .val (.int v2), .val (.int v5), .val (.int (1 : Int32)), .val (.int v6), .val (.int v7), .unset, .unset, .unset, .unset, .unset, .unset, .unset] [])) t
      refine XS.bipush X0.here hx rfl (hb hby at_116) ?_
      show Steps p.tables e below (s₁.setTop (mkF m 118 #[.val (.int p0), .val (.int p1), .val (.int p2), .val (.int p3), .val (.int v1), .val (.int v2), .val (.int v5), .val (.int (1 : Int32)), .val (.int v6), .val (.int v7), .unset, .unset, .unset, .unset, .unset, .unset, .unset] [(.int (8 : Int32))])) t
      refine st8 _ ?_
      show Steps p.tables e below (T8.setTop (mkF m 120 #[.val (.int p0), .val (.int p1), .val (.int p2), .val (.int p3), .val (.int v1), .val (.int v2), .val (.int v5), .val (.int (1 : Int32)), .val (.int v6), .val (.int v7), .unset, .unset, .unset, .unset, .unset, .unset, .unset] [(.ref b8)])) t
      refine XS.dup X8.here hx rfl (hb hby at_120) rfl rfl ?_
      show Steps p.tables e below (T8.setTop (mkF m 121 #[.val (.int p0), .val (.int p1), .val (.int p2), .val (.int p3), .val (.int v1), .val (.int v2), .val (.int v5), .val (.int (1 : Int32)), .val (.int v6), .val (.int v7), .unset, .unset, .unset, .unset, .unset, .unset, .unset] [(.ref b8), (.ref b8)])) t
      refine XS.iconst X8.here hx rfl (hb hby at_121) ?_
      show Steps p.tables e below (T8.setTop (mkF m 122 #[.val (.int p0), .val (.int p1), .val (.int p2), .val (.int p3), .val (.int v1), .val (.int v2), .val (.int v5), .val (.int (1 : Int32)), .val (.int v6), .val (.int v7), .unset, .unset, .unset, .unset, .unset, .unset, .unset] [(.int (0 : Int32)), (.ref b8), (.ref b8)])) t
      refine XS.iload X8.here hx rfl (hb hby at_122) rfl ?_
      show Steps p.tables e below (T8.setTop (mkF m 124 #[.val (.int p0), .val (.int p1), .val (.int p2), .val (.int p3), .val (.int v1), .val (.int v2), .val (.int v5), .val (.int (1 : Int32)), .val (.int v6), .val (.int v7), .unset, .unset, .unset, .unset, .unset, .unset, .unset] [(.int v7), (.int (0 : Int32)), (.ref b8), (.ref b8)])) t
      refine st11 _ ?_
      show Steps p.tables e below (T11.setTop (mkF m 125 #[.val (.int p0), .val (.int p1), .val (.int p2), .val (.int p3), .val (.int v1), .val (.int v2), .val (.int v5), .val (.int (1 : Int32)), .val (.int v6), .val (.int v7), .unset, .unset, .unset, .unset, .unset, .unset, .unset] [(.ref b8)])) t
      refine XS.dup X11.here hx rfl (hb hby at_125) rfl rfl ?_
      show Steps p.tables e below (T11.setTop (mkF m 126 #[.val (.int p0), .val (.int p1), .val (.int p2), .val (.int p3), .val (.int v1), .val (.int v2), .val (.int v5), .val (.int (1 : Int32)), .val (.int v6), .val (.int v7), .unset, .unset, .unset, .unset, .unset, .unset, .unset] [(.ref b8), (.ref b8)])) t
      refine XS.iconst X11.here hx rfl (hb hby at_126) ?_
      show Steps p.tables e below (T11.setTop (mkF m 127 #[.val (.int p0), .val (.int p1), .val (.int p2), .val (.int p3), .val (.int v1), .val (.int v2), .val (.int v5), .val (.int (1 : Int32)), .val (.int v6), .val (.int v7), .unset, .unset, .unset, .unset, .unset, .unset, .unset] [(.int (1 : Int32)), (.ref b8), (.ref b8)])) t
      refine XS.iload X11.here hx rfl (hb hby at_127) rfl ?_
      show Steps p.tables e below (T11.setTop (mkF m 129 #[.val (.int p0), .val (.int p1), .val (.int p2), .val (.int p3), .val (.int v1), .val (.int v2), .val (.int v5), .val (.int (1 : Int32)), .val (.int v6), .val (.int v7), .unset, .unset, .unset, .unset, .unset, .unset, .unset] [(.int v7), (.int (1 : Int32)), (.ref b8), (.ref b8)])) t
      refine st13 _ ?_
      show Steps p.tables e below (T13.setTop (mkF m 130 #[.val (.int p0), .val (.int p1), .val (.int p2), .val (.int p3), .val (.int v1), .val (.int v2), .val (.int v5), .val (.int (1 : Int32)), .val (.int v6), .val (.int v7), .unset, .unset, .unset, .unset, .unset, .unset, .unset] [(.ref b8)])) t
      refine XS.dup X13.here hx rfl (hb hby at_130) rfl rfl ?_
      show Steps p.tables e below (T13.setTop (mkF m 131 #[.val (.int p0), .val (.int p1), .val (.int p2), .val (.int p3), .val (.int v1), .val (.int v2), .val (.int v5), .val (.int (1 : Int32)), .val (.int v6), .val (.int v7), .unset, .unset, .unset, .unset, .unset, .unset, .unset] [(.ref b8), (.ref b8)])) t
      refine XS.iconst X13.here hx rfl (hb hby at_131) ?_
      show Steps p.tables e below (T13.setTop (mkF m 132 #[.val (.int p0), .val (.int p1), .val (.int p2), .val (.int p3), .val (.int v1), .val (.int v2), .val (.int v5), .val (.int (1 : Int32)), .val (.int v6), .val (.int v7), .unset, .unset, .unset, .unset, .unset, .unset, .unset] [(.int (2 : Int32)), (.ref b8), (.ref b8)])) t
      refine XS.iload X13.here hx rfl (hb hby at_132) rfl ?_
      show Steps p.tables e below (T13.setTop (mkF m 134 #[.val (.int p0), .val (.int p1), .val (.int p2), .val (.int p3), .val (.int v1), .val (.int v2), .val (.int v5), .val (.int (1 : Int32)), .val (.int v6), .val (.int v7), .unset, .unset, .unset, .unset, .unset, .unset, .unset] [(.int v7), (.int (2 : Int32)), (.ref b8), (.ref b8)])) t
      refine st15 _ ?_
      show Steps p.tables e below (T15.setTop (mkF m 135 #[.val (.int p0), .val (.int p1), .val (.int p2), .val (.int p3), .val (.int v1), .val (.int v2), .val (.int v5), .val (.int (1 : Int32)), .val (.int v6), .val (.int v7), .unset, .unset, .unset, .unset, .unset, .unset, .unset] [(.ref b8)])) t
      refine XS.dup X15.here hx rfl (hb hby at_135) rfl rfl ?_
      show Steps p.tables e below (T15.setTop (mkF m 136 #[.val (.int p0), .val (.int p1), .val (.int p2), .val (.int p3), .val (.int v1), .val (.int v2), .val (.int v5), .val (.int (1 : Int32)), .val (.int v6), .val (.int v7), .unset, .unset, .unset, .unset, .unset, .unset, .unset] [(.ref b8), (.ref b8)])) t
      refine XS.iconst X15.here hx rfl (hb hby at_136) ?_
      show Steps p.tables e below (T15.setTop (mkF m 137 #[.val (.int p0), .val (.int p1), .val (.int p2), .val (.int p3), .val (.int v1), .val (.int v2), .val (.int v5), .val (.int (1 : Int32)), .val (.int v6), .val (.int v7), .unset, .unset, .unset, .unset, .unset, .unset, .unset] [(.int (3 : Int32)), (.ref b8), (.ref b8)])) t
      refine XS.iload X15.here hx rfl (hb hby at_137) rfl ?_
      show Steps p.tables e below (T15.setTop (mkF m 139 #[.val (.int p0), .val (.int p1), .val (.int p2), .val (.int p3), .val (.int v1), .val (.int v2), .val (.int v5), .val (.int (1 : Int32)), .val (.int v6), .val (.int v7), .unset, .unset, .unset, .unset, .unset, .unset, .unset] [(.int v7), (.int (3 : Int32)), (.ref b8), (.ref b8)])) t
      refine st17 _ ?_
      show Steps p.tables e below (T17.setTop (mkF m 140 #[.val (.int p0), .val (.int p1), .val (.int p2), .val (.int p3), .val (.int v1), .val (.int v2), .val (.int v5), .val (.int (1 : Int32)), .val (.int v6), .val (.int v7), .unset, .unset, .unset, .unset, .unset, .unset, .unset] [(.ref b8)])) t
      refine XS.dup X17.here hx rfl (hb hby at_140) rfl rfl ?_
      show Steps p.tables e below (T17.setTop (mkF m 141 #[.val (.int p0), .val (.int p1), .val (.int p2), .val (.int p3), .val (.int v1), .val (.int v2), .val (.int v5), .val (.int (1 : Int32)), .val (.int v6), .val (.int v7), .unset, .unset, .unset, .unset, .unset, .unset, .unset] [(.ref b8), (.ref b8)])) t
      refine XS.iconst X17.here hx rfl (hb hby at_141) ?_
      show Steps p.tables e below (T17.setTop (mkF m 142 #[.val (.int p0), .val (.int p1), .val (.int p2), .val (.int p3), .val (.int v1), .val (.int v2), .val (.int v5), .val (.int (1 : Int32)), .val (.int v6), .val (.int v7), .unset, .unset, .unset, .unset, .unset, .unset, .unset] [(.int (4 : Int32)), (.ref b8), (.ref b8)])) t
      refine XS.iload X17.here hx rfl (hb hby at_142) rfl ?_
      show Steps p.tables e below (T17.setTop (mkF m 144 #[.val (.int p0), .val (.int p1), .val (.int p2), .val (.int p3), .val (.int v1), .val (.int v2), .val (.int v5), .val (.int (1 : Int32)), .val (.int v6), .val (.int v7), .unset, .unset, .unset, .unset, .unset, .unset, .unset] [(.int v7), (.int (4 : Int32)), (.ref b8), (.ref b8)])) t
      refine st19 _ ?_
      show Steps p.tables e below (T19.setTop (mkF m 145 #[.val (.int p0), .val (.int p1), .val (.int p2), .val (.int p3), .val (.int v1), .val (.int v2), .val (.int v5), .val (.int (1 : Int32)), .val (.int v6), .val (.int v7), .unset, .unset, .unset, .unset, .unset, .unset, .unset] [(.ref b8)])) t
      refine XS.dup X19.here hx rfl (hb hby at_145) rfl rfl ?_
      show Steps p.tables e below (T19.setTop (mkF m 146 #[.val (.int p0), .val (.int p1), .val (.int p2), .val (.int p3), .val (.int v1), .val (.int v2), .val (.int v5), .val (.int (1 : Int32)), .val (.int v6), .val (.int v7), .unset, .unset, .unset, .unset, .unset, .unset, .unset] [(.ref b8), (.ref b8)])) t
      refine XS.iconst X19.here hx rfl (hb hby at_146) ?_
      show Steps p.tables e below (T19.setTop (mkF m 147 #[.val (.int p0), .val (.int p1), .val (.int p2), .val (.int p3), .val (.int v1), .val (.int v2), .val (.int v5), .val (.int (1 : Int32)), .val (.int v6), .val (.int v7), .unset, .unset, .unset, .unset, .unset, .unset, .unset] [(.int (5 : Int32)), (.ref b8), (.ref b8)])) t
      refine XS.iload X19.here hx rfl (hb hby at_147) rfl ?_
      show Steps p.tables e below (T19.setTop (mkF m 149 #[.val (.int p0), .val (.int p1), .val (.int p2), .val (.int p3), .val (.int v1), .val (.int v2), .val (.int v5), .val (.int (1 : Int32)), .val (.int v6), .val (.int v7), .unset, .unset, .unset, .unset, .unset, .unset, .unset] [(.int v7), (.int (5 : Int32)), (.ref b8), (.ref b8)])) t
      refine st21 _ ?_
      show Steps p.tables e below (T21.setTop (mkF m 150 #[.val (.int p0), .val (.int p1), .val (.int p2), .val (.int p3), .val (.int v1), .val (.int v2), .val (.int v5), .val (.int (1 : Int32)), .val (.int v6), .val (.int v7), .unset, .unset, .unset, .unset, .unset, .unset, .unset] [(.ref b8)])) t
      refine XS.dup X21.here hx rfl (hb hby at_150) rfl rfl ?_
      show Steps p.tables e below (T21.setTop (mkF m 151 #[.val (.int p0), .val (.int p1), .val (.int p2), .val (.int p3), .val (.int v1), .val (.int v2), .val (.int v5), .val (.int (1 : Int32)), .val (.int v6), .val (.int v7), .unset, .unset, .unset, .unset, .unset, .unset, .unset] [(.ref b8), (.ref b8)])) t
      refine XS.bipush X21.here hx rfl (hb hby at_151) ?_
      show Steps p.tables e below (T21.setTop (mkF m 153 #[.val (.int p0), .val (.int p1), .val (.int p2), .val (.int p3), .val (.int v1), .val (.int v2), .val (.int v5), .val (.int (1 : Int32)), .val (.int v6), .val (.int v7), .unset, .unset, .unset, .unset, .unset, .unset, .unset] [(.int (6 : Int32)), (.ref b8), (.ref b8)])) t
      refine XS.iload X21.here hx rfl (hb hby at_153) rfl ?_
      show Steps p.tables e below (T21.setTop (mkF m 155 #[.val (.int p0), .val (.int p1), .val (.int p2), .val (.int p3), .val (.int v1), .val (.int v2), .val (.int v5), .val (.int (1 : Int32)), .val (.int v6), .val (.int v7), .unset, .unset, .unset, .unset, .unset, .unset, .unset] [(.int v7), (.int (6 : Int32)), (.ref b8), (.ref b8)])) t
      refine st23 _ ?_
      show Steps p.tables e below (T23.setTop (mkF m 156 #[.val (.int p0), .val (.int p1), .val (.int p2), .val (.int p3), .val (.int v1), .val (.int v2), .val (.int v5), .val (.int (1 : Int32)), .val (.int v6), .val (.int v7), .unset, .unset, .unset, .unset, .unset, .unset, .unset] [(.ref b8)])) t
      refine XS.dup X23.here hx rfl (hb hby at_156) rfl rfl ?_
      show Steps p.tables e below (T23.setTop (mkF m 157 #[.val (.int p0), .val (.int p1), .val (.int p2), .val (.int p3), .val (.int v1), .val (.int v2), .val (.int v5), .val (.int (1 : Int32)), .val (.int v6), .val (.int v7), .unset, .unset, .unset, .unset, .unset, .unset, .unset] [(.ref b8), (.ref b8)])) t
      refine XS.bipush X23.here hx rfl (hb hby at_157) ?_
      show Steps p.tables e below (T23.setTop (mkF m 159 #[.val (.int p0), .val (.int p1), .val (.int p2), .val (.int p3), .val (.int v1), .val (.int v2), .val (.int v5), .val (.int (1 : Int32)), .val (.int v6), .val (.int v7), .unset, .unset, .unset, .unset, .unset, .unset, .unset] [(.int (7 : Int32)), (.ref b8), (.ref b8)])) t
      refine XS.iload X23.here hx rfl (hb hby at_159) rfl ?_
      show Steps p.tables e below (T23.setTop (mkF m 161 #[.val (.int p0), .val (.int p1), .val (.int p2), .val (.int p3), .val (.int v1), .val (.int v2), .val (.int v5), .val (.int (1 : Int32)), .val (.int v6), .val (.int v7), .unset, .unset, .unset, .unset, .unset, .unset, .unset] [(.int v7), (.int (7 : Int32)), (.ref b8), (.ref b8)])) t
      refine st25 _ ?_
      show Steps p.tables e below (T25.setTop (mkF m 162 #[.val (.int p0), .val (.int p1), .val (.int p2), .val (.int p3), .val (.int v1), .val (.int v2), .val (.int v5), .val (.int (1 : Int32)), .val (.int v6), .val (.int v7), .unset, .unset, .unset, .unset, .unset, .unset, .unset] [(.ref b8)])) t
      refine XS.astore X25.here hx rfl (hb hby at_162) rfl rfl (l' := #[.val (.int p0), .val (.int p1), .val (.int p2), .val (.int p3), .val (.int v1), .val (.int v2), .val (.int v5), .val (.int (1 : Int32)), .val (.int v6), .val (.int v7), .val (.ref b8), .unset, .unset, .unset, .unset, .unset, .unset]) rfl ?_
      show Steps p.tables e below (T25.setTop (mkF m 164 #[.val (.int p0), .val (.int p1), .val (.int p2), .val (.int p3), .val (.int v1), .val (.int v2), .val (.int v5), .val (.int (1 : Int32)), .val (.int v6), .val (.int v7), .val (.ref b8), .unset, .unset, .unset, .unset, .unset, .unset] [])) t
      refine XS.aload X25.here hx rfl (hb hby at_164) rfl rfl ?_
      show Steps p.tables e below (T25.setTop (mkF m 166 #[.val (.int p0), .val (.int p1), .val (.int p2), .val (.int p3), .val (.int v1), .val (.int v2), .val (.int v5), .val (.int (1 : Int32)), .val (.int v6), .val (.int v7), .val (.ref b8), .unset, .unset, .unset, .unset, .unset, .unset] [(.ref b8)])) t
      refine XS.iload X25.here hx rfl (hb hby at_166) rfl ?_
      show Steps p.tables e below (T25.setTop (mkF m 168 #[.val (.int p0), .val (.int p1), .val (.int p2), .val (.int p3), .val (.int v1), .val (.int v2), .val (.int v5), .val (.int (1 : Int32)), .val (.int v6), .val (.int v7), .val (.ref b8), .unset, .unset, .unset, .unset, .unset, .unset] [(.int v6), (.ref b8)])) t
      refine XS.iload X25.here hx rfl (hb hby at_168) rfl ?_
      show Steps p.tables e below (T25.setTop (mkF m 170 #[.val (.int p0), .val (.int p1), .val (.int p2), .val (.int p3), .val (.int v1), .val (.int v2), .val (.int v5), .val (.int (1 : Int32)), .val (.int v6), .val (.int v7), .val (.ref b8), .unset, .unset, .unset, .unset, .unset, .unset] [(.int v5), (.int v6), (.ref b8)])) t
      refine st26 _ ?_
      show Steps p.tables e below (T26.setTop (mkF m 173 #[.val (.int p0), .val (.int p1), .val (.int p2), .val (.int p3), .val (.int v1), .val (.int v2), .val (.int v5), .val (.int (1 : Int32)), .val (.int v6), .val (.int v7), .val (.ref b8), .unset, .unset, .unset, .unset, .unset, .unset] [(.int (v6 + (1 : Int32)))])) t
      refine Own.nmI hv27 ?_
      show Steps p.tables e below (T26.setTop (mkF m 173 #[.val (.int p0), .val (.int p1), .val (.int p2), .val (.int p3), .val (.int v1), .val (.int v2), .val (.int v5), .val (.int (1 : Int32)), .val (.int v6), .val (.int v7), .val (.ref b8), .unset, .unset, .unset, .unset, .unset, .unset] [(.int v27)])) t
      refine XS.istore X26.here hx rfl (hb hby at_173) rfl (l' := #[.val (.int p0), .val (.int p1), .val (.int p2), .val (.int p3), .val (.int v1), .val (.int v2), .val (.int v5), .val (.int (1 : Int32)), .val (.int v6), .val (.int v7), .val (.ref b8), .val (.int v27), .unset, .unset, .unset, .unset, .unset]) rfl ?_
      show Steps p.tables e below (T26.setTop (mkF m 175 #[.val (.int p0), .val (.int p1), .val (.int p2), .val (.int p3), .val (.int v1), .val (.int v2), .val (.int v5), .val (.int (1 : Int32)), .val (.int v6), .val (.int v7), .val (.ref b8), .val (.int v27), .unset, .unset, .unset, .unset, .unset] [])) t
      refine XS.iload X26.here hx rfl (hb hby at_175) rfl ?_
      show Steps p.tables e below (T26.setTop (mkF m 177 #[.val (.int p0), .val (.int p1), .val (.int p2), .val (.int p3), .val (.int v1), .val (.int v2), .val (.int v5), .val (.int (1 : Int32)), .val (.int v6), .val (.int v7), .val (.ref b8), .val (.int v27), .unset, .unset, .unset, .unset, .unset] [(.int v27)])) t
      refine XS.iload X26.here hx rfl (hb hby at_177) rfl ?_
      show Steps p.tables e below (T26.setTop (mkF m 179 #[.val (.int p0), .val (.int p1), .val (.int p2), .val (.int p3), .val (.int v1), .val (.int v2), .val (.int v5), .val (.int (1 : Int32)), .val (.int v6), .val (.int v7), .val (.ref b8), .val (.int v27), .unset, .unset, .unset, .unset, .unset] [(.int v6), (.int v27)])) t
      refine XS.iload X26.here hx rfl (hb hby at_179) rfl ?_
      show Steps p.tables e below (T26.setTop (mkF m 181 #[.val (.int p0), .val (.int p1), .val (.int p2), .val (.int p3), .val (.int v1), .val (.int v2), .val (.int v5), .val (.int (1 : Int32)), .val (.int v6), .val (.int v7), .val (.ref b8), .val (.int v27), .unset, .unset, .unset, .unset, .unset] [(.int (1 : Int32)), (.int v6), (.int v27)])) t
      refine XS.iadd X26.here hx rfl (hb hby at_181) rfl ?_
      show Steps p.tables e below (T26.setTop (mkF m 182 #[.val (.int p0), .val (.int p1), .val (.int p2), .val (.int p3), .val (.int v1), .val (.int v2), .val (.int v5), .val (.int (1 : Int32)), .val (.int v6), .val (.int v7), .val (.ref b8), .val (.int v27), .unset, .unset, .unset, .unset, .unset] [(.int (v6 + (1 : Int32))), (.int v27)])) t
      exact k
    have hc28 : v27 = (v6 + (1 : Int32)) := hv27
    obtain ⟨T29, _, L29, X29, ⟨rfl, Nq29, e29⟩, st29⟩ := Own.callS (y := (⟨"org/wireform/json/JsonStringPutUtf8PinLaw", "kept", "([BIIIB)Z"⟩ : MethodName)) (W := 0) (argsL := [(.ref b8), (.int (0 : Int32)), (.int v6), (.int (1 : Int32)), (.int v7)]) (rest := []) X26 hx hZ hown (hw _ (List.mem_of_getElem? (i := 6) rfl)) (hw _ (List.mem_of_getElem? (i := 7) rfl)) (hw _ (List.mem_of_getElem? (i := 8) rfl)) (hw _ (List.mem_of_getElem? (i := 9) rfl)) (by decide) rfl (rm5 l Z a0 hw [] b8 (0 : Int32) v6 (1 : Int32) v7 (own_put1 g v6 v5) T26.heap n0 (by decide) A26) (by decide) (by decide) (by decide) (by decide) (g := (mkF m 196 #[.val (.int p0), .val (.int p1), .val (.int p2), .val (.int p3), .val (.int v1), .val (.int v2), .val (.int v5), .val (.int (1 : Int32)), .val (.int v6), .val (.int v7), .val (.ref b8), .val (.int v27), .unset, .unset, .unset, .unset, .unset] [(.int v7), (.int (1 : Int32)), (.int v6), (.int (0 : Int32)), (.ref b8)])) rfl (by rw [hml]; rfl) (lenOf pd_1 rfl) rfl (by show 2 * 0 + _ ≤ _; exact Nat.le_of_eq rfl) (hb hby at_196)
    have N29 := Fr.app N26 Nq29
    refine hD _ (T29.setTop (mkF m 199 #[.val (.int p0), .val (.int p1), .val (.int p2), .val (.int p3), .val (.int v1), .val (.int v2), .val (.int v5), .val (.int (1 : Int32)), .val (.int v6), .val (.int v7), .val (.ref b8), .val (.int v27), .unset, .unset, .unset, .unset, .unset] [(.int (Own.b2i (own_kept (own_put1 g v6 v5) (0 : Int32) v6 (1 : Int32) v7)))])) (fun t k => ?_) ?_
    · show Steps p.tables e below (T26.setTop (mkF m 182 #[.val (.int p0), .val (.int p1), .val (.int p2), .val (.int p3), .val (.int v1), .val (.int v2), .val (.int v5), .val (.int (1 : Int32)), .val (.int v6), .val (.int v7), .val (.ref b8), .val (.int v27), .unset, .unset, .unset, .unset, .unset] [(.int (v6 + (1 : Int32))), (.int v27)])) t
      refine XS.icmpYes X26.here hx rfl (pc0 := 182) (pc' := 187) rfl (hb hby at_182) rfl (teq hc28).1 (by decide) (by decide) ?_
      show Steps p.tables e below (T26.setTop (mkF m 187 #[.val (.int p0), .val (.int p1), .val (.int p2), .val (.int p3), .val (.int v1), .val (.int v2), .val (.int v5), .val (.int (1 : Int32)), .val (.int v6), .val (.int v7), .val (.ref b8), .val (.int v27), .unset, .unset, .unset, .unset, .unset] [])) t
      refine XS.aload X26.here hx rfl (hb hby at_187) rfl rfl ?_
      show Steps p.tables e below (T26.setTop (mkF m 189 #[.val (.int p0), .val (.int p1), .val (.int p2), .val (.int p3), .val (.int v1), .val (.int v2), .val (.int v5), .val (.int (1 : Int32)), .val (.int v6), .val (.int v7), .val (.ref b8), .val (.int v27), .unset, .unset, .unset, .unset, .unset] [(.ref b8)])) t
      refine XS.iconst X26.here hx rfl (hb hby at_189) ?_
      show Steps p.tables e below (T26.setTop (mkF m 190 #[.val (.int p0), .val (.int p1), .val (.int p2), .val (.int p3), .val (.int v1), .val (.int v2), .val (.int v5), .val (.int (1 : Int32)), .val (.int v6), .val (.int v7), .val (.ref b8), .val (.int v27), .unset, .unset, .unset, .unset, .unset] [(.int (0 : Int32)), (.ref b8)])) t
      refine XS.iload X26.here hx rfl (hb hby at_190) rfl ?_
      show Steps p.tables e below (T26.setTop (mkF m 192 #[.val (.int p0), .val (.int p1), .val (.int p2), .val (.int p3), .val (.int v1), .val (.int v2), .val (.int v5), .val (.int (1 : Int32)), .val (.int v6), .val (.int v7), .val (.ref b8), .val (.int v27), .unset, .unset, .unset, .unset, .unset] [(.int v6), (.int (0 : Int32)), (.ref b8)])) t
      refine XS.iload X26.here hx rfl (hb hby at_192) rfl ?_
      show Steps p.tables e below (T26.setTop (mkF m 194 #[.val (.int p0), .val (.int p1), .val (.int p2), .val (.int p3), .val (.int v1), .val (.int v2), .val (.int v5), .val (.int (1 : Int32)), .val (.int v6), .val (.int v7), .val (.ref b8), .val (.int v27), .unset, .unset, .unset, .unset, .unset] [(.int (1 : Int32)), (.int v6), (.int (0 : Int32)), (.ref b8)])) t
      refine XS.iload X26.here hx rfl (hb hby at_194) rfl ?_
      show Steps p.tables e below (T26.setTop (mkF m 196 #[.val (.int p0), .val (.int p1), .val (.int p2), .val (.int p3), .val (.int v1), .val (.int v2), .val (.int v5), .val (.int (1 : Int32)), .val (.int v6), .val (.int v7), .val (.ref b8), .val (.int v27), .unset, .unset, .unset, .unset, .unset] [(.int v7), (.int (1 : Int32)), (.int v6), (.int (0 : Int32)), (.ref b8)])) t
      refine st29 _ ?_
      show Steps p.tables e below (T29.setTop (mkF m 199 #[.val (.int p0), .val (.int p1), .val (.int p2), .val (.int p3), .val (.int v1), .val (.int v2), .val (.int v5), .val (.int (1 : Int32)), .val (.int v6), .val (.int v7), .val (.ref b8), .val (.int v27), .unset, .unset, .unset, .unset, .unset] [(.int (Own.b2i (own_kept (own_put1 g v6 v5) (0 : Int32) v6 (1 : Int32) v7)))])) t
      exact k
    have hc30 : (own_kept (own_put1 g v6 v5) (0 : Int32) v6 (1 : Int32) v7) = true := own_st1 g hn (by decide) (hg 0 (by decide))
    obtain ⟨T31, _, L31, X31, ⟨rfl, Nq31, e31⟩, st31⟩ := Own.callS (y := (⟨"org/wireform/json/JsonStringPutUtf8PinLaw", "kept", "([BIIIB)Z"⟩ : MethodName)) (W := 0) (argsL := [(.ref b8), (.int (1 : Int32)), (.int v6), (.int (1 : Int32)), (.int v7)]) (rest := []) X29 hx hZ hown (hw _ (List.mem_of_getElem? (i := 6) rfl)) (hw _ (List.mem_of_getElem? (i := 7) rfl)) (hw _ (List.mem_of_getElem? (i := 8) rfl)) (hw _ (List.mem_of_getElem? (i := 9) rfl)) (by decide) e29 (rm5 l Z a0 hw [] b8 (1 : Int32) v6 (1 : Int32) v7 (own_put1 g v6 v5) T26.heap n0 (by decide) A26) (by decide) (by decide) (by decide) (by decide) (g := (mkF m 211 #[.val (.int p0), .val (.int p1), .val (.int p2), .val (.int p3), .val (.int v1), .val (.int v2), .val (.int v5), .val (.int (1 : Int32)), .val (.int v6), .val (.int v7), .val (.ref b8), .val (.int v27), .unset, .unset, .unset, .unset, .unset] [(.int v7), (.int (1 : Int32)), (.int v6), (.int (1 : Int32)), (.ref b8)])) rfl (by rw [hml]; rfl) (lenOf pd_1 rfl) rfl (by show 2 * 0 + _ ≤ _; exact Nat.le_of_eq rfl) (hb hby at_211)
    have N31 := Fr.app N29 Nq31
    refine hD _ (T31.setTop (mkF m 214 #[.val (.int p0), .val (.int p1), .val (.int p2), .val (.int p3), .val (.int v1), .val (.int v2), .val (.int v5), .val (.int (1 : Int32)), .val (.int v6), .val (.int v7), .val (.ref b8), .val (.int v27), .unset, .unset, .unset, .unset, .unset] [(.int (Own.b2i (own_kept (own_put1 g v6 v5) (1 : Int32) v6 (1 : Int32) v7)))])) (fun t k => ?_) ?_
    · show Steps p.tables e below (T29.setTop (mkF m 199 #[.val (.int p0), .val (.int p1), .val (.int p2), .val (.int p3), .val (.int v1), .val (.int v2), .val (.int v5), .val (.int (1 : Int32)), .val (.int v6), .val (.int v7), .val (.ref b8), .val (.int v27), .unset, .unset, .unset, .unset, .unset] [(.int (Own.b2i (own_kept (own_put1 g v6 v5) (0 : Int32) v6 (1 : Int32) v7)))])) t
      refine XS.ifNo X29.here hx rfl (hb hby at_199) rfl ((if0 _ _).trans (feq (fun q => Own.b2i_eq0.mp q hc30)).1) ?_
      show Steps p.tables e below (T29.setTop (mkF m 202 #[.val (.int p0), .val (.int p1), .val (.int p2), .val (.int p3), .val (.int v1), .val (.int v2), .val (.int v5), .val (.int (1 : Int32)), .val (.int v6), .val (.int v7), .val (.ref b8), .val (.int v27), .unset, .unset, .unset, .unset, .unset] [])) t
      refine XS.aload X29.here hx rfl (hb hby at_202) rfl rfl ?_
      show Steps p.tables e below (T29.setTop (mkF m 204 #[.val (.int p0), .val (.int p1), .val (.int p2), .val (.int p3), .val (.int v1), .val (.int v2), .val (.int v5), .val (.int (1 : Int32)), .val (.int v6), .val (.int v7), .val (.ref b8), .val (.int v27), .unset, .unset, .unset, .unset, .unset] [(.ref b8)])) t
      refine XS.iconst X29.here hx rfl (hb hby at_204) ?_
      show Steps p.tables e below (T29.setTop (mkF m 205 #[.val (.int p0), .val (.int p1), .val (.int p2), .val (.int p3), .val (.int v1), .val (.int v2), .val (.int v5), .val (.int (1 : Int32)), .val (.int v6), .val (.int v7), .val (.ref b8), .val (.int v27), .unset, .unset, .unset, .unset, .unset] [(.int (1 : Int32)), (.ref b8)])) t
      refine XS.iload X29.here hx rfl (hb hby at_205) rfl ?_
      show Steps p.tables e below (T29.setTop (mkF m 207 #[.val (.int p0), .val (.int p1), .val (.int p2), .val (.int p3), .val (.int v1), .val (.int v2), .val (.int v5), .val (.int (1 : Int32)), .val (.int v6), .val (.int v7), .val (.ref b8), .val (.int v27), .unset, .unset, .unset, .unset, .unset] [(.int v6), (.int (1 : Int32)), (.ref b8)])) t
      refine XS.iload X29.here hx rfl (hb hby at_207) rfl ?_
      show Steps p.tables e below (T29.setTop (mkF m 209 #[.val (.int p0), .val (.int p1), .val (.int p2), .val (.int p3), .val (.int v1), .val (.int v2), .val (.int v5), .val (.int (1 : Int32)), .val (.int v6), .val (.int v7), .val (.ref b8), .val (.int v27), .unset, .unset, .unset, .unset, .unset] [(.int (1 : Int32)), (.int v6), (.int (1 : Int32)), (.ref b8)])) t
      refine XS.iload X29.here hx rfl (hb hby at_209) rfl ?_
      show Steps p.tables e below (T29.setTop (mkF m 211 #[.val (.int p0), .val (.int p1), .val (.int p2), .val (.int p3), .val (.int v1), .val (.int v2), .val (.int v5), .val (.int (1 : Int32)), .val (.int v6), .val (.int v7), .val (.ref b8), .val (.int v27), .unset, .unset, .unset, .unset, .unset] [(.int v7), (.int (1 : Int32)), (.int v6), (.int (1 : Int32)), (.ref b8)])) t
      refine st31 _ ?_
      show Steps p.tables e below (T31.setTop (mkF m 214 #[.val (.int p0), .val (.int p1), .val (.int p2), .val (.int p3), .val (.int v1), .val (.int v2), .val (.int v5), .val (.int (1 : Int32)), .val (.int v6), .val (.int v7), .val (.ref b8), .val (.int v27), .unset, .unset, .unset, .unset, .unset] [(.int (Own.b2i (own_kept (own_put1 g v6 v5) (1 : Int32) v6 (1 : Int32) v7)))])) t
      exact k
    have hc32 : (own_kept (own_put1 g v6 v5) (1 : Int32) v6 (1 : Int32) v7) = true := own_st1 g hn (by decide) (hg 1 (by decide))
    obtain ⟨T33, _, L33, X33, ⟨rfl, Nq33, e33⟩, st33⟩ := Own.callS (y := (⟨"org/wireform/json/JsonStringPutUtf8PinLaw", "kept", "([BIIIB)Z"⟩ : MethodName)) (W := 0) (argsL := [(.ref b8), (.int (2 : Int32)), (.int v6), (.int (1 : Int32)), (.int v7)]) (rest := []) X31 hx hZ hown (hw _ (List.mem_of_getElem? (i := 6) rfl)) (hw _ (List.mem_of_getElem? (i := 7) rfl)) (hw _ (List.mem_of_getElem? (i := 8) rfl)) (hw _ (List.mem_of_getElem? (i := 9) rfl)) (by decide) e31 (rm5 l Z a0 hw [] b8 (2 : Int32) v6 (1 : Int32) v7 (own_put1 g v6 v5) T26.heap n0 (by decide) A26) (by decide) (by decide) (by decide) (by decide) (g := (mkF m 226 #[.val (.int p0), .val (.int p1), .val (.int p2), .val (.int p3), .val (.int v1), .val (.int v2), .val (.int v5), .val (.int (1 : Int32)), .val (.int v6), .val (.int v7), .val (.ref b8), .val (.int v27), .unset, .unset, .unset, .unset, .unset] [(.int v7), (.int (1 : Int32)), (.int v6), (.int (2 : Int32)), (.ref b8)])) rfl (by rw [hml]; rfl) (lenOf pd_1 rfl) rfl (by show 2 * 0 + _ ≤ _; exact Nat.le_of_eq rfl) (hb hby at_226)
    have N33 := Fr.app N31 Nq33
    refine hD _ (T33.setTop (mkF m 229 #[.val (.int p0), .val (.int p1), .val (.int p2), .val (.int p3), .val (.int v1), .val (.int v2), .val (.int v5), .val (.int (1 : Int32)), .val (.int v6), .val (.int v7), .val (.ref b8), .val (.int v27), .unset, .unset, .unset, .unset, .unset] [(.int (Own.b2i (own_kept (own_put1 g v6 v5) (2 : Int32) v6 (1 : Int32) v7)))])) (fun t k => ?_) ?_
    · show Steps p.tables e below (T31.setTop (mkF m 214 #[.val (.int p0), .val (.int p1), .val (.int p2), .val (.int p3), .val (.int v1), .val (.int v2), .val (.int v5), .val (.int (1 : Int32)), .val (.int v6), .val (.int v7), .val (.ref b8), .val (.int v27), .unset, .unset, .unset, .unset, .unset] [(.int (Own.b2i (own_kept (own_put1 g v6 v5) (1 : Int32) v6 (1 : Int32) v7)))])) t
      refine XS.ifNo X31.here hx rfl (hb hby at_214) rfl ((if0 _ _).trans (feq (fun q => Own.b2i_eq0.mp q hc32)).1) ?_
      show Steps p.tables e below (T31.setTop (mkF m 217 #[.val (.int p0), .val (.int p1), .val (.int p2), .val (.int p3), .val (.int v1), .val (.int v2), .val (.int v5), .val (.int (1 : Int32)), .val (.int v6), .val (.int v7), .val (.ref b8), .val (.int v27), .unset, .unset, .unset, .unset, .unset] [])) t
      refine XS.aload X31.here hx rfl (hb hby at_217) rfl rfl ?_
      show Steps p.tables e below (T31.setTop (mkF m 219 #[.val (.int p0), .val (.int p1), .val (.int p2), .val (.int p3), .val (.int v1), .val (.int v2), .val (.int v5), .val (.int (1 : Int32)), .val (.int v6), .val (.int v7), .val (.ref b8), .val (.int v27), .unset, .unset, .unset, .unset, .unset] [(.ref b8)])) t
      refine XS.iconst X31.here hx rfl (hb hby at_219) ?_
      show Steps p.tables e below (T31.setTop (mkF m 220 #[.val (.int p0), .val (.int p1), .val (.int p2), .val (.int p3), .val (.int v1), .val (.int v2), .val (.int v5), .val (.int (1 : Int32)), .val (.int v6), .val (.int v7), .val (.ref b8), .val (.int v27), .unset, .unset, .unset, .unset, .unset] [(.int (2 : Int32)), (.ref b8)])) t
      refine XS.iload X31.here hx rfl (hb hby at_220) rfl ?_
      show Steps p.tables e below (T31.setTop (mkF m 222 #[.val (.int p0), .val (.int p1), .val (.int p2), .val (.int p3), .val (.int v1), .val (.int v2), .val (.int v5), .val (.int (1 : Int32)), .val (.int v6), .val (.int v7), .val (.ref b8), .val (.int v27), .unset, .unset, .unset, .unset, .unset] [(.int v6), (.int (2 : Int32)), (.ref b8)])) t
      refine XS.iload X31.here hx rfl (hb hby at_222) rfl ?_
      show Steps p.tables e below (T31.setTop (mkF m 224 #[.val (.int p0), .val (.int p1), .val (.int p2), .val (.int p3), .val (.int v1), .val (.int v2), .val (.int v5), .val (.int (1 : Int32)), .val (.int v6), .val (.int v7), .val (.ref b8), .val (.int v27), .unset, .unset, .unset, .unset, .unset] [(.int (1 : Int32)), (.int v6), (.int (2 : Int32)), (.ref b8)])) t
      refine XS.iload X31.here hx rfl (hb hby at_224) rfl ?_
      show Steps p.tables e below (T31.setTop (mkF m 226 #[.val (.int p0), .val (.int p1), .val (.int p2), .val (.int p3), .val (.int v1), .val (.int v2), .val (.int v5), .val (.int (1 : Int32)), .val (.int v6), .val (.int v7), .val (.ref b8), .val (.int v27), .unset, .unset, .unset, .unset, .unset] [(.int v7), (.int (1 : Int32)), (.int v6), (.int (2 : Int32)), (.ref b8)])) t
      refine st33 _ ?_
      show Steps p.tables e below (T33.setTop (mkF m 229 #[.val (.int p0), .val (.int p1), .val (.int p2), .val (.int p3), .val (.int v1), .val (.int v2), .val (.int v5), .val (.int (1 : Int32)), .val (.int v6), .val (.int v7), .val (.ref b8), .val (.int v27), .unset, .unset, .unset, .unset, .unset] [(.int (Own.b2i (own_kept (own_put1 g v6 v5) (2 : Int32) v6 (1 : Int32) v7)))])) t
      exact k
    have hc34 : (own_kept (own_put1 g v6 v5) (2 : Int32) v6 (1 : Int32) v7) = true := own_st1 g hn (by decide) (hg 2 (by decide))
    obtain ⟨T35, _, L35, X35, ⟨rfl, Nq35, e35⟩, st35⟩ := Own.callS (y := (⟨"org/wireform/json/JsonStringPutUtf8PinLaw", "kept", "([BIIIB)Z"⟩ : MethodName)) (W := 0) (argsL := [(.ref b8), (.int (3 : Int32)), (.int v6), (.int (1 : Int32)), (.int v7)]) (rest := []) X33 hx hZ hown (hw _ (List.mem_of_getElem? (i := 6) rfl)) (hw _ (List.mem_of_getElem? (i := 7) rfl)) (hw _ (List.mem_of_getElem? (i := 8) rfl)) (hw _ (List.mem_of_getElem? (i := 9) rfl)) (by decide) e33 (rm5 l Z a0 hw [] b8 (3 : Int32) v6 (1 : Int32) v7 (own_put1 g v6 v5) T26.heap n0 (by decide) A26) (by decide) (by decide) (by decide) (by decide) (g := (mkF m 241 #[.val (.int p0), .val (.int p1), .val (.int p2), .val (.int p3), .val (.int v1), .val (.int v2), .val (.int v5), .val (.int (1 : Int32)), .val (.int v6), .val (.int v7), .val (.ref b8), .val (.int v27), .unset, .unset, .unset, .unset, .unset] [(.int v7), (.int (1 : Int32)), (.int v6), (.int (3 : Int32)), (.ref b8)])) rfl (by rw [hml]; rfl) (lenOf pd_1 rfl) rfl (by show 2 * 0 + _ ≤ _; exact Nat.le_of_eq rfl) (hb hby at_241)
    have N35 := Fr.app N33 Nq35
    refine hD _ (T35.setTop (mkF m 244 #[.val (.int p0), .val (.int p1), .val (.int p2), .val (.int p3), .val (.int v1), .val (.int v2), .val (.int v5), .val (.int (1 : Int32)), .val (.int v6), .val (.int v7), .val (.ref b8), .val (.int v27), .unset, .unset, .unset, .unset, .unset] [(.int (Own.b2i (own_kept (own_put1 g v6 v5) (3 : Int32) v6 (1 : Int32) v7)))])) (fun t k => ?_) ?_
    · show Steps p.tables e below (T33.setTop (mkF m 229 #[.val (.int p0), .val (.int p1), .val (.int p2), .val (.int p3), .val (.int v1), .val (.int v2), .val (.int v5), .val (.int (1 : Int32)), .val (.int v6), .val (.int v7), .val (.ref b8), .val (.int v27), .unset, .unset, .unset, .unset, .unset] [(.int (Own.b2i (own_kept (own_put1 g v6 v5) (2 : Int32) v6 (1 : Int32) v7)))])) t
      refine XS.ifNo X33.here hx rfl (hb hby at_229) rfl ((if0 _ _).trans (feq (fun q => Own.b2i_eq0.mp q hc34)).1) ?_
      show Steps p.tables e below (T33.setTop (mkF m 232 #[.val (.int p0), .val (.int p1), .val (.int p2), .val (.int p3), .val (.int v1), .val (.int v2), .val (.int v5), .val (.int (1 : Int32)), .val (.int v6), .val (.int v7), .val (.ref b8), .val (.int v27), .unset, .unset, .unset, .unset, .unset] [])) t
      refine XS.aload X33.here hx rfl (hb hby at_232) rfl rfl ?_
      show Steps p.tables e below (T33.setTop (mkF m 234 #[.val (.int p0), .val (.int p1), .val (.int p2), .val (.int p3), .val (.int v1), .val (.int v2), .val (.int v5), .val (.int (1 : Int32)), .val (.int v6), .val (.int v7), .val (.ref b8), .val (.int v27), .unset, .unset, .unset, .unset, .unset] [(.ref b8)])) t
      refine XS.iconst X33.here hx rfl (hb hby at_234) ?_
      show Steps p.tables e below (T33.setTop (mkF m 235 #[.val (.int p0), .val (.int p1), .val (.int p2), .val (.int p3), .val (.int v1), .val (.int v2), .val (.int v5), .val (.int (1 : Int32)), .val (.int v6), .val (.int v7), .val (.ref b8), .val (.int v27), .unset, .unset, .unset, .unset, .unset] [(.int (3 : Int32)), (.ref b8)])) t
      refine XS.iload X33.here hx rfl (hb hby at_235) rfl ?_
      show Steps p.tables e below (T33.setTop (mkF m 237 #[.val (.int p0), .val (.int p1), .val (.int p2), .val (.int p3), .val (.int v1), .val (.int v2), .val (.int v5), .val (.int (1 : Int32)), .val (.int v6), .val (.int v7), .val (.ref b8), .val (.int v27), .unset, .unset, .unset, .unset, .unset] [(.int v6), (.int (3 : Int32)), (.ref b8)])) t
      refine XS.iload X33.here hx rfl (hb hby at_237) rfl ?_
      show Steps p.tables e below (T33.setTop (mkF m 239 #[.val (.int p0), .val (.int p1), .val (.int p2), .val (.int p3), .val (.int v1), .val (.int v2), .val (.int v5), .val (.int (1 : Int32)), .val (.int v6), .val (.int v7), .val (.ref b8), .val (.int v27), .unset, .unset, .unset, .unset, .unset] [(.int (1 : Int32)), (.int v6), (.int (3 : Int32)), (.ref b8)])) t
      refine XS.iload X33.here hx rfl (hb hby at_239) rfl ?_
      show Steps p.tables e below (T33.setTop (mkF m 241 #[.val (.int p0), .val (.int p1), .val (.int p2), .val (.int p3), .val (.int v1), .val (.int v2), .val (.int v5), .val (.int (1 : Int32)), .val (.int v6), .val (.int v7), .val (.ref b8), .val (.int v27), .unset, .unset, .unset, .unset, .unset] [(.int v7), (.int (1 : Int32)), (.int v6), (.int (3 : Int32)), (.ref b8)])) t
      refine st35 _ ?_
      show Steps p.tables e below (T35.setTop (mkF m 244 #[.val (.int p0), .val (.int p1), .val (.int p2), .val (.int p3), .val (.int v1), .val (.int v2), .val (.int v5), .val (.int (1 : Int32)), .val (.int v6), .val (.int v7), .val (.ref b8), .val (.int v27), .unset, .unset, .unset, .unset, .unset] [(.int (Own.b2i (own_kept (own_put1 g v6 v5) (3 : Int32) v6 (1 : Int32) v7)))])) t
      exact k
    have hc36 : (own_kept (own_put1 g v6 v5) (3 : Int32) v6 (1 : Int32) v7) = true := own_st1 g hn (by decide) (hg 3 (by decide))
    obtain ⟨T37, _, L37, X37, ⟨rfl, Nq37, e37⟩, st37⟩ := Own.callS (y := (⟨"org/wireform/json/JsonStringPutUtf8PinLaw", "kept", "([BIIIB)Z"⟩ : MethodName)) (W := 0) (argsL := [(.ref b8), (.int (4 : Int32)), (.int v6), (.int (1 : Int32)), (.int v7)]) (rest := []) X35 hx hZ hown (hw _ (List.mem_of_getElem? (i := 6) rfl)) (hw _ (List.mem_of_getElem? (i := 7) rfl)) (hw _ (List.mem_of_getElem? (i := 8) rfl)) (hw _ (List.mem_of_getElem? (i := 9) rfl)) (by decide) e35 (rm5 l Z a0 hw [] b8 (4 : Int32) v6 (1 : Int32) v7 (own_put1 g v6 v5) T26.heap n0 (by decide) A26) (by decide) (by decide) (by decide) (by decide) (g := (mkF m 256 #[.val (.int p0), .val (.int p1), .val (.int p2), .val (.int p3), .val (.int v1), .val (.int v2), .val (.int v5), .val (.int (1 : Int32)), .val (.int v6), .val (.int v7), .val (.ref b8), .val (.int v27), .unset, .unset, .unset, .unset, .unset] [(.int v7), (.int (1 : Int32)), (.int v6), (.int (4 : Int32)), (.ref b8)])) rfl (by rw [hml]; rfl) (lenOf pd_1 rfl) rfl (by show 2 * 0 + _ ≤ _; exact Nat.le_of_eq rfl) (hb hby at_256)
    have N37 := Fr.app N35 Nq37
    refine hD _ (T37.setTop (mkF m 259 #[.val (.int p0), .val (.int p1), .val (.int p2), .val (.int p3), .val (.int v1), .val (.int v2), .val (.int v5), .val (.int (1 : Int32)), .val (.int v6), .val (.int v7), .val (.ref b8), .val (.int v27), .unset, .unset, .unset, .unset, .unset] [(.int (Own.b2i (own_kept (own_put1 g v6 v5) (4 : Int32) v6 (1 : Int32) v7)))])) (fun t k => ?_) ?_
    · show Steps p.tables e below (T35.setTop (mkF m 244 #[.val (.int p0), .val (.int p1), .val (.int p2), .val (.int p3), .val (.int v1), .val (.int v2), .val (.int v5), .val (.int (1 : Int32)), .val (.int v6), .val (.int v7), .val (.ref b8), .val (.int v27), .unset, .unset, .unset, .unset, .unset] [(.int (Own.b2i (own_kept (own_put1 g v6 v5) (3 : Int32) v6 (1 : Int32) v7)))])) t
      refine XS.ifNo X35.here hx rfl (hb hby at_244) rfl ((if0 _ _).trans (feq (fun q => Own.b2i_eq0.mp q hc36)).1) ?_
      show Steps p.tables e below (T35.setTop (mkF m 247 #[.val (.int p0), .val (.int p1), .val (.int p2), .val (.int p3), .val (.int v1), .val (.int v2), .val (.int v5), .val (.int (1 : Int32)), .val (.int v6), .val (.int v7), .val (.ref b8), .val (.int v27), .unset, .unset, .unset, .unset, .unset] [])) t
      refine XS.aload X35.here hx rfl (hb hby at_247) rfl rfl ?_
      show Steps p.tables e below (T35.setTop (mkF m 249 #[.val (.int p0), .val (.int p1), .val (.int p2), .val (.int p3), .val (.int v1), .val (.int v2), .val (.int v5), .val (.int (1 : Int32)), .val (.int v6), .val (.int v7), .val (.ref b8), .val (.int v27), .unset, .unset, .unset, .unset, .unset] [(.ref b8)])) t
      refine XS.iconst X35.here hx rfl (hb hby at_249) ?_
      show Steps p.tables e below (T35.setTop (mkF m 250 #[.val (.int p0), .val (.int p1), .val (.int p2), .val (.int p3), .val (.int v1), .val (.int v2), .val (.int v5), .val (.int (1 : Int32)), .val (.int v6), .val (.int v7), .val (.ref b8), .val (.int v27), .unset, .unset, .unset, .unset, .unset] [(.int (4 : Int32)), (.ref b8)])) t
      refine XS.iload X35.here hx rfl (hb hby at_250) rfl ?_
      show Steps p.tables e below (T35.setTop (mkF m 252 #[.val (.int p0), .val (.int p1), .val (.int p2), .val (.int p3), .val (.int v1), .val (.int v2), .val (.int v5), .val (.int (1 : Int32)), .val (.int v6), .val (.int v7), .val (.ref b8), .val (.int v27), .unset, .unset, .unset, .unset, .unset] [(.int v6), (.int (4 : Int32)), (.ref b8)])) t
      refine XS.iload X35.here hx rfl (hb hby at_252) rfl ?_
      show Steps p.tables e below (T35.setTop (mkF m 254 #[.val (.int p0), .val (.int p1), .val (.int p2), .val (.int p3), .val (.int v1), .val (.int v2), .val (.int v5), .val (.int (1 : Int32)), .val (.int v6), .val (.int v7), .val (.ref b8), .val (.int v27), .unset, .unset, .unset, .unset, .unset] [(.int (1 : Int32)), (.int v6), (.int (4 : Int32)), (.ref b8)])) t
      refine XS.iload X35.here hx rfl (hb hby at_254) rfl ?_
      show Steps p.tables e below (T35.setTop (mkF m 256 #[.val (.int p0), .val (.int p1), .val (.int p2), .val (.int p3), .val (.int v1), .val (.int v2), .val (.int v5), .val (.int (1 : Int32)), .val (.int v6), .val (.int v7), .val (.ref b8), .val (.int v27), .unset, .unset, .unset, .unset, .unset] [(.int v7), (.int (1 : Int32)), (.int v6), (.int (4 : Int32)), (.ref b8)])) t
      refine st37 _ ?_
      show Steps p.tables e below (T37.setTop (mkF m 259 #[.val (.int p0), .val (.int p1), .val (.int p2), .val (.int p3), .val (.int v1), .val (.int v2), .val (.int v5), .val (.int (1 : Int32)), .val (.int v6), .val (.int v7), .val (.ref b8), .val (.int v27), .unset, .unset, .unset, .unset, .unset] [(.int (Own.b2i (own_kept (own_put1 g v6 v5) (4 : Int32) v6 (1 : Int32) v7)))])) t
      exact k
    have hc38 : (own_kept (own_put1 g v6 v5) (4 : Int32) v6 (1 : Int32) v7) = true := own_st1 g hn (by decide) (hg 4 (by decide))
    obtain ⟨T39, _, L39, X39, ⟨rfl, Nq39, e39⟩, st39⟩ := Own.callS (y := (⟨"org/wireform/json/JsonStringPutUtf8PinLaw", "kept", "([BIIIB)Z"⟩ : MethodName)) (W := 0) (argsL := [(.ref b8), (.int (5 : Int32)), (.int v6), (.int (1 : Int32)), (.int v7)]) (rest := []) X37 hx hZ hown (hw _ (List.mem_of_getElem? (i := 6) rfl)) (hw _ (List.mem_of_getElem? (i := 7) rfl)) (hw _ (List.mem_of_getElem? (i := 8) rfl)) (hw _ (List.mem_of_getElem? (i := 9) rfl)) (by decide) e37 (rm5 l Z a0 hw [] b8 (5 : Int32) v6 (1 : Int32) v7 (own_put1 g v6 v5) T26.heap n0 (by decide) A26) (by decide) (by decide) (by decide) (by decide) (g := (mkF m 271 #[.val (.int p0), .val (.int p1), .val (.int p2), .val (.int p3), .val (.int v1), .val (.int v2), .val (.int v5), .val (.int (1 : Int32)), .val (.int v6), .val (.int v7), .val (.ref b8), .val (.int v27), .unset, .unset, .unset, .unset, .unset] [(.int v7), (.int (1 : Int32)), (.int v6), (.int (5 : Int32)), (.ref b8)])) rfl (by rw [hml]; rfl) (lenOf pd_1 rfl) rfl (by show 2 * 0 + _ ≤ _; exact Nat.le_of_eq rfl) (hb hby at_271)
    have N39 := Fr.app N37 Nq39
    refine hD _ (T39.setTop (mkF m 274 #[.val (.int p0), .val (.int p1), .val (.int p2), .val (.int p3), .val (.int v1), .val (.int v2), .val (.int v5), .val (.int (1 : Int32)), .val (.int v6), .val (.int v7), .val (.ref b8), .val (.int v27), .unset, .unset, .unset, .unset, .unset] [(.int (Own.b2i (own_kept (own_put1 g v6 v5) (5 : Int32) v6 (1 : Int32) v7)))])) (fun t k => ?_) ?_
    · show Steps p.tables e below (T37.setTop (mkF m 259 #[.val (.int p0), .val (.int p1), .val (.int p2), .val (.int p3), .val (.int v1), .val (.int v2), .val (.int v5), .val (.int (1 : Int32)), .val (.int v6), .val (.int v7), .val (.ref b8), .val (.int v27), .unset, .unset, .unset, .unset, .unset] [(.int (Own.b2i (own_kept (own_put1 g v6 v5) (4 : Int32) v6 (1 : Int32) v7)))])) t
      refine XS.ifNo X37.here hx rfl (hb hby at_259) rfl ((if0 _ _).trans (feq (fun q => Own.b2i_eq0.mp q hc38)).1) ?_
      show Steps p.tables e below (T37.setTop (mkF m 262 #[.val (.int p0), .val (.int p1), .val (.int p2), .val (.int p3), .val (.int v1), .val (.int v2), .val (.int v5), .val (.int (1 : Int32)), .val (.int v6), .val (.int v7), .val (.ref b8), .val (.int v27), .unset, .unset, .unset, .unset, .unset] [])) t
      refine XS.aload X37.here hx rfl (hb hby at_262) rfl rfl ?_
      show Steps p.tables e below (T37.setTop (mkF m 264 #[.val (.int p0), .val (.int p1), .val (.int p2), .val (.int p3), .val (.int v1), .val (.int v2), .val (.int v5), .val (.int (1 : Int32)), .val (.int v6), .val (.int v7), .val (.ref b8), .val (.int v27), .unset, .unset, .unset, .unset, .unset] [(.ref b8)])) t
      refine XS.iconst X37.here hx rfl (hb hby at_264) ?_
      show Steps p.tables e below (T37.setTop (mkF m 265 #[.val (.int p0), .val (.int p1), .val (.int p2), .val (.int p3), .val (.int v1), .val (.int v2), .val (.int v5), .val (.int (1 : Int32)), .val (.int v6), .val (.int v7), .val (.ref b8), .val (.int v27), .unset, .unset, .unset, .unset, .unset] [(.int (5 : Int32)), (.ref b8)])) t
      refine XS.iload X37.here hx rfl (hb hby at_265) rfl ?_
      show Steps p.tables e below (T37.setTop (mkF m 267 #[.val (.int p0), .val (.int p1), .val (.int p2), .val (.int p3), .val (.int v1), .val (.int v2), .val (.int v5), .val (.int (1 : Int32)), .val (.int v6), .val (.int v7), .val (.ref b8), .val (.int v27), .unset, .unset, .unset, .unset, .unset] [(.int v6), (.int (5 : Int32)), (.ref b8)])) t
      refine XS.iload X37.here hx rfl (hb hby at_267) rfl ?_
      show Steps p.tables e below (T37.setTop (mkF m 269 #[.val (.int p0), .val (.int p1), .val (.int p2), .val (.int p3), .val (.int v1), .val (.int v2), .val (.int v5), .val (.int (1 : Int32)), .val (.int v6), .val (.int v7), .val (.ref b8), .val (.int v27), .unset, .unset, .unset, .unset, .unset] [(.int (1 : Int32)), (.int v6), (.int (5 : Int32)), (.ref b8)])) t
      refine XS.iload X37.here hx rfl (hb hby at_269) rfl ?_
      show Steps p.tables e below (T37.setTop (mkF m 271 #[.val (.int p0), .val (.int p1), .val (.int p2), .val (.int p3), .val (.int v1), .val (.int v2), .val (.int v5), .val (.int (1 : Int32)), .val (.int v6), .val (.int v7), .val (.ref b8), .val (.int v27), .unset, .unset, .unset, .unset, .unset] [(.int v7), (.int (1 : Int32)), (.int v6), (.int (5 : Int32)), (.ref b8)])) t
      refine st39 _ ?_
      show Steps p.tables e below (T39.setTop (mkF m 274 #[.val (.int p0), .val (.int p1), .val (.int p2), .val (.int p3), .val (.int v1), .val (.int v2), .val (.int v5), .val (.int (1 : Int32)), .val (.int v6), .val (.int v7), .val (.ref b8), .val (.int v27), .unset, .unset, .unset, .unset, .unset] [(.int (Own.b2i (own_kept (own_put1 g v6 v5) (5 : Int32) v6 (1 : Int32) v7)))])) t
      exact k
    have hc40 : (own_kept (own_put1 g v6 v5) (5 : Int32) v6 (1 : Int32) v7) = true := own_st1 g hn (by decide) (hg 5 (by decide))
    obtain ⟨T41, _, L41, X41, ⟨rfl, Nq41, e41⟩, st41⟩ := Own.callS (y := (⟨"org/wireform/json/JsonStringPutUtf8PinLaw", "kept", "([BIIIB)Z"⟩ : MethodName)) (W := 0) (argsL := [(.ref b8), (.int (6 : Int32)), (.int v6), (.int (1 : Int32)), (.int v7)]) (rest := []) X39 hx hZ hown (hw _ (List.mem_of_getElem? (i := 6) rfl)) (hw _ (List.mem_of_getElem? (i := 7) rfl)) (hw _ (List.mem_of_getElem? (i := 8) rfl)) (hw _ (List.mem_of_getElem? (i := 9) rfl)) (by decide) e39 (rm5 l Z a0 hw [] b8 (6 : Int32) v6 (1 : Int32) v7 (own_put1 g v6 v5) T26.heap n0 (by decide) A26) (by decide) (by decide) (by decide) (by decide) (g := (mkF m 287 #[.val (.int p0), .val (.int p1), .val (.int p2), .val (.int p3), .val (.int v1), .val (.int v2), .val (.int v5), .val (.int (1 : Int32)), .val (.int v6), .val (.int v7), .val (.ref b8), .val (.int v27), .unset, .unset, .unset, .unset, .unset] [(.int v7), (.int (1 : Int32)), (.int v6), (.int (6 : Int32)), (.ref b8)])) rfl (by rw [hml]; rfl) (lenOf pd_1 rfl) rfl (by show 2 * 0 + _ ≤ _; exact Nat.le_of_eq rfl) (hb hby at_287)
    have N41 := Fr.app N39 Nq41
    refine hD _ (T41.setTop (mkF m 290 #[.val (.int p0), .val (.int p1), .val (.int p2), .val (.int p3), .val (.int v1), .val (.int v2), .val (.int v5), .val (.int (1 : Int32)), .val (.int v6), .val (.int v7), .val (.ref b8), .val (.int v27), .unset, .unset, .unset, .unset, .unset] [(.int (Own.b2i (own_kept (own_put1 g v6 v5) (6 : Int32) v6 (1 : Int32) v7)))])) (fun t k => ?_) ?_
    · show Steps p.tables e below (T39.setTop (mkF m 274 #[.val (.int p0), .val (.int p1), .val (.int p2), .val (.int p3), .val (.int v1), .val (.int v2), .val (.int v5), .val (.int (1 : Int32)), .val (.int v6), .val (.int v7), .val (.ref b8), .val (.int v27), .unset, .unset, .unset, .unset, .unset] [(.int (Own.b2i (own_kept (own_put1 g v6 v5) (5 : Int32) v6 (1 : Int32) v7)))])) t
      refine XS.ifNo X39.here hx rfl (hb hby at_274) rfl ((if0 _ _).trans (feq (fun q => Own.b2i_eq0.mp q hc40)).1) ?_
      show Steps p.tables e below (T39.setTop (mkF m 277 #[.val (.int p0), .val (.int p1), .val (.int p2), .val (.int p3), .val (.int v1), .val (.int v2), .val (.int v5), .val (.int (1 : Int32)), .val (.int v6), .val (.int v7), .val (.ref b8), .val (.int v27), .unset, .unset, .unset, .unset, .unset] [])) t
      refine XS.aload X39.here hx rfl (hb hby at_277) rfl rfl ?_
      show Steps p.tables e below (T39.setTop (mkF m 279 #[.val (.int p0), .val (.int p1), .val (.int p2), .val (.int p3), .val (.int v1), .val (.int v2), .val (.int v5), .val (.int (1 : Int32)), .val (.int v6), .val (.int v7), .val (.ref b8), .val (.int v27), .unset, .unset, .unset, .unset, .unset] [(.ref b8)])) t
      refine XS.bipush X39.here hx rfl (hb hby at_279) ?_
      show Steps p.tables e below (T39.setTop (mkF m 281 #[.val (.int p0), .val (.int p1), .val (.int p2), .val (.int p3), .val (.int v1), .val (.int v2), .val (.int v5), .val (.int (1 : Int32)), .val (.int v6), .val (.int v7), .val (.ref b8), .val (.int v27), .unset, .unset, .unset, .unset, .unset] [(.int (6 : Int32)), (.ref b8)])) t
      refine XS.iload X39.here hx rfl (hb hby at_281) rfl ?_
      show Steps p.tables e below (T39.setTop (mkF m 283 #[.val (.int p0), .val (.int p1), .val (.int p2), .val (.int p3), .val (.int v1), .val (.int v2), .val (.int v5), .val (.int (1 : Int32)), .val (.int v6), .val (.int v7), .val (.ref b8), .val (.int v27), .unset, .unset, .unset, .unset, .unset] [(.int v6), (.int (6 : Int32)), (.ref b8)])) t
      refine XS.iload X39.here hx rfl (hb hby at_283) rfl ?_
      show Steps p.tables e below (T39.setTop (mkF m 285 #[.val (.int p0), .val (.int p1), .val (.int p2), .val (.int p3), .val (.int v1), .val (.int v2), .val (.int v5), .val (.int (1 : Int32)), .val (.int v6), .val (.int v7), .val (.ref b8), .val (.int v27), .unset, .unset, .unset, .unset, .unset] [(.int (1 : Int32)), (.int v6), (.int (6 : Int32)), (.ref b8)])) t
      refine XS.iload X39.here hx rfl (hb hby at_285) rfl ?_
      show Steps p.tables e below (T39.setTop (mkF m 287 #[.val (.int p0), .val (.int p1), .val (.int p2), .val (.int p3), .val (.int v1), .val (.int v2), .val (.int v5), .val (.int (1 : Int32)), .val (.int v6), .val (.int v7), .val (.ref b8), .val (.int v27), .unset, .unset, .unset, .unset, .unset] [(.int v7), (.int (1 : Int32)), (.int v6), (.int (6 : Int32)), (.ref b8)])) t
      refine st41 _ ?_
      show Steps p.tables e below (T41.setTop (mkF m 290 #[.val (.int p0), .val (.int p1), .val (.int p2), .val (.int p3), .val (.int v1), .val (.int v2), .val (.int v5), .val (.int (1 : Int32)), .val (.int v6), .val (.int v7), .val (.ref b8), .val (.int v27), .unset, .unset, .unset, .unset, .unset] [(.int (Own.b2i (own_kept (own_put1 g v6 v5) (6 : Int32) v6 (1 : Int32) v7)))])) t
      exact k
    have hc42 : (own_kept (own_put1 g v6 v5) (6 : Int32) v6 (1 : Int32) v7) = true := own_st1 g hn (by decide) (hg 6 (by decide))
    obtain ⟨T43, _, L43, X43, ⟨rfl, Nq43, e43⟩, st43⟩ := Own.callS (y := (⟨"org/wireform/json/JsonStringPutUtf8PinLaw", "kept", "([BIIIB)Z"⟩ : MethodName)) (W := 0) (argsL := [(.ref b8), (.int (7 : Int32)), (.int v6), (.int (1 : Int32)), (.int v7)]) (rest := []) X41 hx hZ hown (hw _ (List.mem_of_getElem? (i := 6) rfl)) (hw _ (List.mem_of_getElem? (i := 7) rfl)) (hw _ (List.mem_of_getElem? (i := 8) rfl)) (hw _ (List.mem_of_getElem? (i := 9) rfl)) (by decide) e41 (rm5 l Z a0 hw [] b8 (7 : Int32) v6 (1 : Int32) v7 (own_put1 g v6 v5) T26.heap n0 (by decide) A26) (by decide) (by decide) (by decide) (by decide) (g := (mkF m 303 #[.val (.int p0), .val (.int p1), .val (.int p2), .val (.int p3), .val (.int v1), .val (.int v2), .val (.int v5), .val (.int (1 : Int32)), .val (.int v6), .val (.int v7), .val (.ref b8), .val (.int v27), .unset, .unset, .unset, .unset, .unset] [(.int v7), (.int (1 : Int32)), (.int v6), (.int (7 : Int32)), (.ref b8)])) rfl (by rw [hml]; rfl) (lenOf pd_1 rfl) rfl (by show 2 * 0 + _ ≤ _; exact Nat.le_of_eq rfl) (hb hby at_303)
    have N43 := Fr.app N41 Nq43
    refine hD _ (T43.setTop (mkF m 306 #[.val (.int p0), .val (.int p1), .val (.int p2), .val (.int p3), .val (.int v1), .val (.int v2), .val (.int v5), .val (.int (1 : Int32)), .val (.int v6), .val (.int v7), .val (.ref b8), .val (.int v27), .unset, .unset, .unset, .unset, .unset] [(.int (Own.b2i (own_kept (own_put1 g v6 v5) (7 : Int32) v6 (1 : Int32) v7)))])) (fun t k => ?_) ?_
    · show Steps p.tables e below (T41.setTop (mkF m 290 #[.val (.int p0), .val (.int p1), .val (.int p2), .val (.int p3), .val (.int v1), .val (.int v2), .val (.int v5), .val (.int (1 : Int32)), .val (.int v6), .val (.int v7), .val (.ref b8), .val (.int v27), .unset, .unset, .unset, .unset, .unset] [(.int (Own.b2i (own_kept (own_put1 g v6 v5) (6 : Int32) v6 (1 : Int32) v7)))])) t
      refine XS.ifNo X41.here hx rfl (hb hby at_290) rfl ((if0 _ _).trans (feq (fun q => Own.b2i_eq0.mp q hc42)).1) ?_
      show Steps p.tables e below (T41.setTop (mkF m 293 #[.val (.int p0), .val (.int p1), .val (.int p2), .val (.int p3), .val (.int v1), .val (.int v2), .val (.int v5), .val (.int (1 : Int32)), .val (.int v6), .val (.int v7), .val (.ref b8), .val (.int v27), .unset, .unset, .unset, .unset, .unset] [])) t
      refine XS.aload X41.here hx rfl (hb hby at_293) rfl rfl ?_
      show Steps p.tables e below (T41.setTop (mkF m 295 #[.val (.int p0), .val (.int p1), .val (.int p2), .val (.int p3), .val (.int v1), .val (.int v2), .val (.int v5), .val (.int (1 : Int32)), .val (.int v6), .val (.int v7), .val (.ref b8), .val (.int v27), .unset, .unset, .unset, .unset, .unset] [(.ref b8)])) t
      refine XS.bipush X41.here hx rfl (hb hby at_295) ?_
      show Steps p.tables e below (T41.setTop (mkF m 297 #[.val (.int p0), .val (.int p1), .val (.int p2), .val (.int p3), .val (.int v1), .val (.int v2), .val (.int v5), .val (.int (1 : Int32)), .val (.int v6), .val (.int v7), .val (.ref b8), .val (.int v27), .unset, .unset, .unset, .unset, .unset] [(.int (7 : Int32)), (.ref b8)])) t
      refine XS.iload X41.here hx rfl (hb hby at_297) rfl ?_
      show Steps p.tables e below (T41.setTop (mkF m 299 #[.val (.int p0), .val (.int p1), .val (.int p2), .val (.int p3), .val (.int v1), .val (.int v2), .val (.int v5), .val (.int (1 : Int32)), .val (.int v6), .val (.int v7), .val (.ref b8), .val (.int v27), .unset, .unset, .unset, .unset, .unset] [(.int v6), (.int (7 : Int32)), (.ref b8)])) t
      refine XS.iload X41.here hx rfl (hb hby at_299) rfl ?_
      show Steps p.tables e below (T41.setTop (mkF m 301 #[.val (.int p0), .val (.int p1), .val (.int p2), .val (.int p3), .val (.int v1), .val (.int v2), .val (.int v5), .val (.int (1 : Int32)), .val (.int v6), .val (.int v7), .val (.ref b8), .val (.int v27), .unset, .unset, .unset, .unset, .unset] [(.int (1 : Int32)), (.int v6), (.int (7 : Int32)), (.ref b8)])) t
      refine XS.iload X41.here hx rfl (hb hby at_301) rfl ?_
      show Steps p.tables e below (T41.setTop (mkF m 303 #[.val (.int p0), .val (.int p1), .val (.int p2), .val (.int p3), .val (.int v1), .val (.int v2), .val (.int v5), .val (.int (1 : Int32)), .val (.int v6), .val (.int v7), .val (.ref b8), .val (.int v27), .unset, .unset, .unset, .unset, .unset] [(.int v7), (.int (1 : Int32)), (.int v6), (.int (7 : Int32)), (.ref b8)])) t
      refine st43 _ ?_
      show Steps p.tables e below (T43.setTop (mkF m 306 #[.val (.int p0), .val (.int p1), .val (.int p2), .val (.int p3), .val (.int v1), .val (.int v2), .val (.int v5), .val (.int (1 : Int32)), .val (.int v6), .val (.int v7), .val (.ref b8), .val (.int v27), .unset, .unset, .unset, .unset, .unset] [(.int (Own.b2i (own_kept (own_put1 g v6 v5) (7 : Int32) v6 (1 : Int32) v7)))])) t
      exact k
    have hc44 : (own_kept (own_put1 g v6 v5) (7 : Int32) v6 (1 : Int32) v7) = true := own_st1 g hn (by decide) (hg 7 (by decide))
    have hj45 : 0 ≤ v6.toInt ∧ v6.toInt < (8 : Nat) := (by omega)
    obtain ⟨v46, hv46⟩ : ∃ z : Int32, z = (((own_put1 g v6 v5) v6.toInt.toNat) &&& (255 : Int32)) := ⟨_, rfl⟩
    have hj47 : 0 ≤ (v6 + (1 : Int32)).toInt ∧ (v6 + (1 : Int32)).toInt < (8 : Nat) := (by omega)
    obtain ⟨v48, hv48⟩ : ∃ z : Int32, z = (((own_put1 g v6 v5) (v6 + (1 : Int32)).toInt.toNat) &&& (255 : Int32)) := ⟨_, rfl⟩
    have hj49 : 0 ≤ (v6 + (2 : Int32)).toInt ∧ (v6 + (2 : Int32)).toInt < (8 : Nat) := (by omega)
    obtain ⟨v50, hv50⟩ : ∃ z : Int32, z = (((own_put1 g v6 v5) (v6 + (2 : Int32)).toInt.toNat) &&& (255 : Int32)) := ⟨_, rfl⟩
    have hj51 : 0 ≤ (v6 + (3 : Int32)).toInt ∧ (v6 + (3 : Int32)).toInt < (8 : Nat) := (by omega)
    obtain ⟨v52, hv52⟩ : ∃ z : Int32, z = (((own_put1 g v6 v5) (v6 + (3 : Int32)).toInt.toNat) &&& (255 : Int32)) := ⟨_, rfl⟩
    have hat := own_at1 g (c := v5) hn hcp
    have hb0 : v46 = v5 := by rw [hv46]; exact hat
    refine hD _ (T43.setTop (mkF m 383 #[.val (.int p0), .val (.int p1), .val (.int p2), .val (.int p3), .val (.int v1), .val (.int v2), .val (.int v5), .val (.int (1 : Int32)), .val (.int v6), .val (.int v7), .val (.ref b8), .val (.int v27), .val (.int (1 : Int32)), .val (.int v46), .val (.int v48), .val (.int v50), .val (.int v52)] [(.int v5), (.int v46)])) (fun t k => ?_) ?_
    · show Steps p.tables e below (T43.setTop (mkF m 306 #[.val (.int p0), .val (.int p1), .val (.int p2), .val (.int p3), .val (.int v1), .val (.int v2), .val (.int v5), .val (.int (1 : Int32)), .val (.int v6), .val (.int v7), .val (.ref b8), .val (.int v27), .unset, .unset, .unset, .unset, .unset] [(.int (Own.b2i (own_kept (own_put1 g v6 v5) (7 : Int32) v6 (1 : Int32) v7)))])) t
      refine XS.ifNo X43.here hx rfl (hb hby at_306) rfl ((if0 _ _).trans (feq (fun q => Own.b2i_eq0.mp q hc44)).1) ?_
      show Steps p.tables e below (T43.setTop (mkF m 309 #[.val (.int p0), .val (.int p1), .val (.int p2), .val (.int p3), .val (.int v1), .val (.int v2), .val (.int v5), .val (.int (1 : Int32)), .val (.int v6), .val (.int v7), .val (.ref b8), .val (.int v27), .unset, .unset, .unset, .unset, .unset] [])) t
      refine XS.iconst X43.here hx rfl (hb hby at_309) ?_
      show Steps p.tables e below (T43.setTop (mkF m 310 #[.val (.int p0), .val (.int p1), .val (.int p2), .val (.int p3), .val (.int v1), .val (.int v2), .val (.int v5), .val (.int (1 : Int32)), .val (.int v6), .val (.int v7), .val (.ref b8), .val (.int v27), .unset, .unset, .unset, .unset, .unset] [(.int (1 : Int32))])) t
      refine XS.goto X43.here hx rfl (pc0 := 310) (pc' := 314) rfl (hb hby at_310) (by decide) (by decide) ?_
      show Steps p.tables e below (T43.setTop (mkF m 314 #[.val (.int p0), .val (.int p1), .val (.int p2), .val (.int p3), .val (.int v1), .val (.int v2), .val (.int v5), .val (.int (1 : Int32)), .val (.int v6), .val (.int v7), .val (.ref b8), .val (.int v27), .unset, .unset, .unset, .unset, .unset] [(.int (1 : Int32))])) t
      refine XS.istore X43.here hx rfl (hb hby at_314) rfl (l' := #[.val (.int p0), .val (.int p1), .val (.int p2), .val (.int p3), .val (.int v1), .val (.int v2), .val (.int v5), .val (.int (1 : Int32)), .val (.int v6), .val (.int v7), .val (.ref b8), .val (.int v27), .val (.int (1 : Int32)), .unset, .unset, .unset, .unset]) rfl ?_
      show Steps p.tables e below (T43.setTop (mkF m 316 #[.val (.int p0), .val (.int p1), .val (.int p2), .val (.int p3), .val (.int v1), .val (.int v2), .val (.int v5), .val (.int (1 : Int32)), .val (.int v6), .val (.int v7), .val (.ref b8), .val (.int v27), .val (.int (1 : Int32)), .unset, .unset, .unset, .unset] [])) t
      refine XS.iload X43.here hx rfl (hb hby at_316) rfl ?_
      show Steps p.tables e below (T43.setTop (mkF m 318 #[.val (.int p0), .val (.int p1), .val (.int p2), .val (.int p3), .val (.int v1), .val (.int v2), .val (.int v5), .val (.int (1 : Int32)), .val (.int v6), .val (.int v7), .val (.ref b8), .val (.int v27), .val (.int (1 : Int32)), .unset, .unset, .unset, .unset] [(.int (1 : Int32))])) t
      refine XS.ifYes X43.here hx rfl (pc0 := 318) (pc' := 323) rfl (hb hby at_318) rfl (by decide) (by decide) (by decide) ?_
      show Steps p.tables e below (T43.setTop (mkF m 323 #[.val (.int p0), .val (.int p1), .val (.int p2), .val (.int p3), .val (.int v1), .val (.int v2), .val (.int v5), .val (.int (1 : Int32)), .val (.int v6), .val (.int v7), .val (.ref b8), .val (.int v27), .val (.int (1 : Int32)), .unset, .unset, .unset, .unset] [])) t
      refine XS.aload X43.here hx rfl (hb hby at_323) rfl rfl ?_
      show Steps p.tables e below (T43.setTop (mkF m 325 #[.val (.int p0), .val (.int p1), .val (.int p2), .val (.int p3), .val (.int v1), .val (.int v2), .val (.int v5), .val (.int (1 : Int32)), .val (.int v6), .val (.int v7), .val (.ref b8), .val (.int v27), .val (.int (1 : Int32)), .unset, .unset, .unset, .unset] [(.ref b8)])) t
      refine XS.iload X43.here hx rfl (hb hby at_325) rfl ?_
      show Steps p.tables e below (T43.setTop (mkF m 327 #[.val (.int p0), .val (.int p1), .val (.int p2), .val (.int p3), .val (.int v1), .val (.int v2), .val (.int v5), .val (.int (1 : Int32)), .val (.int v6), .val (.int v7), .val (.ref b8), .val (.int v27), .val (.int (1 : Int32)), .unset, .unset, .unset, .unset] [(.int v6), (.ref b8)])) t
      refine Own.ldB X43 hx hZ e43 A26 hj45 (g := (mkF m 327 #[.val (.int p0), .val (.int p1), .val (.int p2), .val (.int p3), .val (.int v1), .val (.int v2), .val (.int v5), .val (.int (1 : Int32)), .val (.int v6), .val (.int v7), .val (.ref b8), .val (.int v27), .val (.int (1 : Int32)), .unset, .unset, .unset, .unset] [(.int v6), (.ref b8)])) rfl rfl (hb hby at_327) _ ?_
      show Steps p.tables e below (T43.setTop (mkF m 328 #[.val (.int p0), .val (.int p1), .val (.int p2), .val (.int p3), .val (.int v1), .val (.int v2), .val (.int v5), .val (.int (1 : Int32)), .val (.int v6), .val (.int v7), .val (.ref b8), .val (.int v27), .val (.int (1 : Int32)), .unset, .unset, .unset, .unset] [(.int ((own_put1 g v6 v5) v6.toInt.toNat))])) t
      refine XS.sipush X43.here hx rfl (hb hby at_328) ?_
      show Steps p.tables e below (T43.setTop (mkF m 331 #[.val (.int p0), .val (.int p1), .val (.int p2), .val (.int p3), .val (.int v1), .val (.int v2), .val (.int v5), .val (.int (1 : Int32)), .val (.int v6), .val (.int v7), .val (.ref b8), .val (.int v27), .val (.int (1 : Int32)), .unset, .unset, .unset, .unset] [(.int (255 : Int32)), (.int ((own_put1 g v6 v5) v6.toInt.toNat))])) t
      refine XS.iand X43.here hx rfl (hb hby at_331) rfl ?_
      show Steps p.tables e below (T43.setTop (mkF m 332 #[.val (.int p0), .val (.int p1), .val (.int p2), .val (.int p3), .val (.int v1), .val (.int v2), .val (.int v5), .val (.int (1 : Int32)), .val (.int v6), .val (.int v7), .val (.ref b8), .val (.int v27), .val (.int (1 : Int32)), .unset, .unset, .unset, .unset] [(.int (((own_put1 g v6 v5) v6.toInt.toNat) &&& (255 : Int32)))])) t
      refine Own.nmI hv46 ?_
      show Steps p.tables e below (T43.setTop (mkF m 332 #[.val (.int p0), .val (.int p1), .val (.int p2), .val (.int p3), .val (.int v1), .val (.int v2), .val (.int v5), .val (.int (1 : Int32)), .val (.int v6), .val (.int v7), .val (.ref b8), .val (.int v27), .val (.int (1 : Int32)), .unset, .unset, .unset, .unset] [(.int v46)])) t
      refine XS.istore X43.here hx rfl (hb hby at_332) rfl (l' := #[.val (.int p0), .val (.int p1), .val (.int p2), .val (.int p3), .val (.int v1), .val (.int v2), .val (.int v5), .val (.int (1 : Int32)), .val (.int v6), .val (.int v7), .val (.ref b8), .val (.int v27), .val (.int (1 : Int32)), .val (.int v46), .unset, .unset, .unset]) rfl ?_
      show Steps p.tables e below (T43.setTop (mkF m 334 #[.val (.int p0), .val (.int p1), .val (.int p2), .val (.int p3), .val (.int v1), .val (.int v2), .val (.int v5), .val (.int (1 : Int32)), .val (.int v6), .val (.int v7), .val (.ref b8), .val (.int v27), .val (.int (1 : Int32)), .val (.int v46), .unset, .unset, .unset] [])) t
      refine XS.aload X43.here hx rfl (hb hby at_334) rfl rfl ?_
      show Steps p.tables e below (T43.setTop (mkF m 336 #[.val (.int p0), .val (.int p1), .val (.int p2), .val (.int p3), .val (.int v1), .val (.int v2), .val (.int v5), .val (.int (1 : Int32)), .val (.int v6), .val (.int v7), .val (.ref b8), .val (.int v27), .val (.int (1 : Int32)), .val (.int v46), .unset, .unset, .unset] [(.ref b8)])) t
      refine XS.iload X43.here hx rfl (hb hby at_336) rfl ?_
      show Steps p.tables e below (T43.setTop (mkF m 338 #[.val (.int p0), .val (.int p1), .val (.int p2), .val (.int p3), .val (.int v1), .val (.int v2), .val (.int v5), .val (.int (1 : Int32)), .val (.int v6), .val (.int v7), .val (.ref b8), .val (.int v27), .val (.int (1 : Int32)), .val (.int v46), .unset, .unset, .unset] [(.int v6), (.ref b8)])) t
      refine XS.iconst X43.here hx rfl (hb hby at_338) ?_
      show Steps p.tables e below (T43.setTop (mkF m 339 #[.val (.int p0), .val (.int p1), .val (.int p2), .val (.int p3), .val (.int v1), .val (.int v2), .val (.int v5), .val (.int (1 : Int32)), .val (.int v6), .val (.int v7), .val (.ref b8), .val (.int v27), .val (.int (1 : Int32)), .val (.int v46), .unset, .unset, .unset] [(.int (1 : Int32)), (.int v6), (.ref b8)])) t
      refine XS.iadd X43.here hx rfl (hb hby at_339) rfl ?_
      show Steps p.tables e below (T43.setTop (mkF m 340 #[.val (.int p0), .val (.int p1), .val (.int p2), .val (.int p3), .val (.int v1), .val (.int v2), .val (.int v5), .val (.int (1 : Int32)), .val (.int v6), .val (.int v7), .val (.ref b8), .val (.int v27), .val (.int (1 : Int32)), .val (.int v46), .unset, .unset, .unset] [(.int (v6 + (1 : Int32))), (.ref b8)])) t
      refine Own.ldB X43 hx hZ e43 A26 hj47 (g := (mkF m 340 #[.val (.int p0), .val (.int p1), .val (.int p2), .val (.int p3), .val (.int v1), .val (.int v2), .val (.int v5), .val (.int (1 : Int32)), .val (.int v6), .val (.int v7), .val (.ref b8), .val (.int v27), .val (.int (1 : Int32)), .val (.int v46), .unset, .unset, .unset] [(.int (v6 + (1 : Int32))), (.ref b8)])) rfl rfl (hb hby at_340) _ ?_
      show Steps p.tables e below (T43.setTop (mkF m 341 #[.val (.int p0), .val (.int p1), .val (.int p2), .val (.int p3), .val (.int v1), .val (.int v2), .val (.int v5), .val (.int (1 : Int32)), .val (.int v6), .val (.int v7), .val (.ref b8), .val (.int v27), .val (.int (1 : Int32)), .val (.int v46), .unset, .unset, .unset] [(.int ((own_put1 g v6 v5) (v6 + (1 : Int32)).toInt.toNat))])) t
      refine XS.sipush X43.here hx rfl (hb hby at_341) ?_
      show Steps p.tables e below (T43.setTop (mkF m 344 #[.val (.int p0), .val (.int p1), .val (.int p2), .val (.int p3), .val (.int v1), .val (.int v2), .val (.int v5), .val (.int (1 : Int32)), .val (.int v6), .val (.int v7), .val (.ref b8), .val (.int v27), .val (.int (1 : Int32)), .val (.int v46), .unset, .unset, .unset] [(.int (255 : Int32)), (.int ((own_put1 g v6 v5) (v6 + (1 : Int32)).toInt.toNat))])) t
      refine XS.iand X43.here hx rfl (hb hby at_344) rfl ?_
      show Steps p.tables e below (T43.setTop (mkF m 345 #[.val (.int p0), .val (.int p1), .val (.int p2), .val (.int p3), .val (.int v1), .val (.int v2), .val (.int v5), .val (.int (1 : Int32)), .val (.int v6), .val (.int v7), .val (.ref b8), .val (.int v27), .val (.int (1 : Int32)), .val (.int v46), .unset, .unset, .unset] [(.int (((own_put1 g v6 v5) (v6 + (1 : Int32)).toInt.toNat) &&& (255 : Int32)))])) t
      refine Own.nmI hv48 ?_
      show Steps p.tables e below (T43.setTop (mkF m 345 #[.val (.int p0), .val (.int p1), .val (.int p2), .val (.int p3), .val (.int v1), .val (.int v2), .val (.int v5), .val (.int (1 : Int32)), .val (.int v6), .val (.int v7), .val (.ref b8), .val (.int v27), .val (.int (1 : Int32)), .val (.int v46), .unset, .unset, .unset] [(.int v48)])) t
      refine XS.istore X43.here hx rfl (hb hby at_345) rfl (l' := #[.val (.int p0), .val (.int p1), .val (.int p2), .val (.int p3), .val (.int v1), .val (.int v2), .val (.int v5), .val (.int (1 : Int32)), .val (.int v6), .val (.int v7), .val (.ref b8), .val (.int v27), .val (.int (1 : Int32)), .val (.int v46), .val (.int v48), .unset, .unset]) rfl ?_
      show Steps p.tables e below (T43.setTop (mkF m 347 #[.val (.int p0), .val (.int p1), .val (.int p2), .val (.int p3), .val (.int v1), .val (.int v2), .val (.int v5), .val (.int (1 : Int32)), .val (.int v6), .val (.int v7), .val (.ref b8), .val (.int v27), .val (.int (1 : Int32)), .val (.int v46), .val (.int v48), .unset, .unset] [])) t
      refine XS.aload X43.here hx rfl (hb hby at_347) rfl rfl ?_
      show Steps p.tables e below (T43.setTop (mkF m 349 #[.val (.int p0), .val (.int p1), .val (.int p2), .val (.int p3), .val (.int v1), .val (.int v2), .val (.int v5), .val (.int (1 : Int32)), .val (.int v6), .val (.int v7), .val (.ref b8), .val (.int v27), .val (.int (1 : Int32)), .val (.int v46), .val (.int v48), .unset, .unset] [(.ref b8)])) t
      refine XS.iload X43.here hx rfl (hb hby at_349) rfl ?_
      show Steps p.tables e below (T43.setTop (mkF m 351 #[.val (.int p0), .val (.int p1), .val (.int p2), .val (.int p3), .val (.int v1), .val (.int v2), .val (.int v5), .val (.int (1 : Int32)), .val (.int v6), .val (.int v7), .val (.ref b8), .val (.int v27), .val (.int (1 : Int32)), .val (.int v46), .val (.int v48), .unset, .unset] [(.int v6), (.ref b8)])) t
      refine XS.iconst X43.here hx rfl (hb hby at_351) ?_
      show Steps p.tables e below (T43.setTop (mkF m 352 #[.val (.int p0), .val (.int p1), .val (.int p2), .val (.int p3), .val (.int v1), .val (.int v2), .val (.int v5), .val (.int (1 : Int32)), .val (.int v6), .val (.int v7), .val (.ref b8), .val (.int v27), .val (.int (1 : Int32)), .val (.int v46), .val (.int v48), .unset, .unset] [(.int (2 : Int32)), (.int v6), (.ref b8)])) t
      refine XS.iadd X43.here hx rfl (hb hby at_352) rfl ?_
      show Steps p.tables e below (T43.setTop (mkF m 353 #[.val (.int p0), .val (.int p1), .val (.int p2), .val (.int p3), .val (.int v1), .val (.int v2), .val (.int v5), .val (.int (1 : Int32)), .val (.int v6), .val (.int v7), .val (.ref b8), .val (.int v27), .val (.int (1 : Int32)), .val (.int v46), .val (.int v48), .unset, .unset] [(.int (v6 + (2 : Int32))), (.ref b8)])) t
      refine Own.ldB X43 hx hZ e43 A26 hj49 (g := (mkF m 353 #[.val (.int p0), .val (.int p1), .val (.int p2), .val (.int p3), .val (.int v1), .val (.int v2), .val (.int v5), .val (.int (1 : Int32)), .val (.int v6), .val (.int v7), .val (.ref b8), .val (.int v27), .val (.int (1 : Int32)), .val (.int v46), .val (.int v48), .unset, .unset] [(.int (v6 + (2 : Int32))), (.ref b8)])) rfl rfl (hb hby at_353) _ ?_
      show Steps p.tables e below (T43.setTop (mkF m 354 #[.val (.int p0), .val (.int p1), .val (.int p2), .val (.int p3), .val (.int v1), .val (.int v2), .val (.int v5), .val (.int (1 : Int32)), .val (.int v6), .val (.int v7), .val (.ref b8), .val (.int v27), .val (.int (1 : Int32)), .val (.int v46), .val (.int v48), .unset, .unset] [(.int ((own_put1 g v6 v5) (v6 + (2 : Int32)).toInt.toNat))])) t
      refine XS.sipush X43.here hx rfl (hb hby at_354) ?_
      show Steps p.tables e below (T43.setTop (mkF m 357 #[.val (.int p0), .val (.int p1), .val (.int p2), .val (.int p3), .val (.int v1), .val (.int v2), .val (.int v5), .val (.int (1 : Int32)), .val (.int v6), .val (.int v7), .val (.ref b8), .val (.int v27), .val (.int (1 : Int32)), .val (.int v46), .val (.int v48), .unset, .unset] [(.int (255 : Int32)), (.int ((own_put1 g v6 v5) (v6 + (2 : Int32)).toInt.toNat))])) t
      refine XS.iand X43.here hx rfl (hb hby at_357) rfl ?_
      show Steps p.tables e below (T43.setTop (mkF m 358 #[.val (.int p0), .val (.int p1), .val (.int p2), .val (.int p3), .val (.int v1), .val (.int v2), .val (.int v5), .val (.int (1 : Int32)), .val (.int v6), .val (.int v7), .val (.ref b8), .val (.int v27), .val (.int (1 : Int32)), .val (.int v46), .val (.int v48), .unset, .unset] [(.int (((own_put1 g v6 v5) (v6 + (2 : Int32)).toInt.toNat) &&& (255 : Int32)))])) t
      refine Own.nmI hv50 ?_
      show Steps p.tables e below (T43.setTop (mkF m 358 #[.val (.int p0), .val (.int p1), .val (.int p2), .val (.int p3), .val (.int v1), .val (.int v2), .val (.int v5), .val (.int (1 : Int32)), .val (.int v6), .val (.int v7), .val (.ref b8), .val (.int v27), .val (.int (1 : Int32)), .val (.int v46), .val (.int v48), .unset, .unset] [(.int v50)])) t
      refine XS.istore X43.here hx rfl (hb hby at_358) rfl (l' := #[.val (.int p0), .val (.int p1), .val (.int p2), .val (.int p3), .val (.int v1), .val (.int v2), .val (.int v5), .val (.int (1 : Int32)), .val (.int v6), .val (.int v7), .val (.ref b8), .val (.int v27), .val (.int (1 : Int32)), .val (.int v46), .val (.int v48), .val (.int v50), .unset]) rfl ?_
      show Steps p.tables e below (T43.setTop (mkF m 360 #[.val (.int p0), .val (.int p1), .val (.int p2), .val (.int p3), .val (.int v1), .val (.int v2), .val (.int v5), .val (.int (1 : Int32)), .val (.int v6), .val (.int v7), .val (.ref b8), .val (.int v27), .val (.int (1 : Int32)), .val (.int v46), .val (.int v48), .val (.int v50), .unset] [])) t
      refine XS.aload X43.here hx rfl (hb hby at_360) rfl rfl ?_
      show Steps p.tables e below (T43.setTop (mkF m 362 #[.val (.int p0), .val (.int p1), .val (.int p2), .val (.int p3), .val (.int v1), .val (.int v2), .val (.int v5), .val (.int (1 : Int32)), .val (.int v6), .val (.int v7), .val (.ref b8), .val (.int v27), .val (.int (1 : Int32)), .val (.int v46), .val (.int v48), .val (.int v50), .unset] [(.ref b8)])) t
      refine XS.iload X43.here hx rfl (hb hby at_362) rfl ?_
      show Steps p.tables e below (T43.setTop (mkF m 364 #[.val (.int p0), .val (.int p1), .val (.int p2), .val (.int p3), .val (.int v1), .val (.int v2), .val (.int v5), .val (.int (1 : Int32)), .val (.int v6), .val (.int v7), .val (.ref b8), .val (.int v27), .val (.int (1 : Int32)), .val (.int v46), .val (.int v48), .val (.int v50), .unset] [(.int v6), (.ref b8)])) t
      refine XS.iconst X43.here hx rfl (hb hby at_364) ?_
      show Steps p.tables e below (T43.setTop (mkF m 365 #[.val (.int p0), .val (.int p1), .val (.int p2), .val (.int p3), .val (.int v1), .val (.int v2), .val (.int v5), .val (.int (1 : Int32)), .val (.int v6), .val (.int v7), .val (.ref b8), .val (.int v27), .val (.int (1 : Int32)), .val (.int v46), .val (.int v48), .val (.int v50), .unset] [(.int (3 : Int32)), (.int v6), (.ref b8)])) t
      refine XS.iadd X43.here hx rfl (hb hby at_365) rfl ?_
      show Steps p.tables e below (T43.setTop (mkF m 366 #[.val (.int p0), .val (.int p1), .val (.int p2), .val (.int p3), .val (.int v1), .val (.int v2), .val (.int v5), .val (.int (1 : Int32)), .val (.int v6), .val (.int v7), .val (.ref b8), .val (.int v27), .val (.int (1 : Int32)), .val (.int v46), .val (.int v48), .val (.int v50), .unset] [(.int (v6 + (3 : Int32))), (.ref b8)])) t
      refine Own.ldB X43 hx hZ e43 A26 hj51 (g := (mkF m 366 #[.val (.int p0), .val (.int p1), .val (.int p2), .val (.int p3), .val (.int v1), .val (.int v2), .val (.int v5), .val (.int (1 : Int32)), .val (.int v6), .val (.int v7), .val (.ref b8), .val (.int v27), .val (.int (1 : Int32)), .val (.int v46), .val (.int v48), .val (.int v50), .unset] [(.int (v6 + (3 : Int32))), (.ref b8)])) rfl rfl (hb hby at_366) _ ?_
      show Steps p.tables e below (T43.setTop (mkF m 367 #[.val (.int p0), .val (.int p1), .val (.int p2), .val (.int p3), .val (.int v1), .val (.int v2), .val (.int v5), .val (.int (1 : Int32)), .val (.int v6), .val (.int v7), .val (.ref b8), .val (.int v27), .val (.int (1 : Int32)), .val (.int v46), .val (.int v48), .val (.int v50), .unset] [(.int ((own_put1 g v6 v5) (v6 + (3 : Int32)).toInt.toNat))])) t
      refine XS.sipush X43.here hx rfl (hb hby at_367) ?_
      show Steps p.tables e below (T43.setTop (mkF m 370 #[.val (.int p0), .val (.int p1), .val (.int p2), .val (.int p3), .val (.int v1), .val (.int v2), .val (.int v5), .val (.int (1 : Int32)), .val (.int v6), .val (.int v7), .val (.ref b8), .val (.int v27), .val (.int (1 : Int32)), .val (.int v46), .val (.int v48), .val (.int v50), .unset] [(.int (255 : Int32)), (.int ((own_put1 g v6 v5) (v6 + (3 : Int32)).toInt.toNat))])) t
      refine XS.iand X43.here hx rfl (hb hby at_370) rfl ?_
      show Steps p.tables e below (T43.setTop (mkF m 371 #[.val (.int p0), .val (.int p1), .val (.int p2), .val (.int p3), .val (.int v1), .val (.int v2), .val (.int v5), .val (.int (1 : Int32)), .val (.int v6), .val (.int v7), .val (.ref b8), .val (.int v27), .val (.int (1 : Int32)), .val (.int v46), .val (.int v48), .val (.int v50), .unset] [(.int (((own_put1 g v6 v5) (v6 + (3 : Int32)).toInt.toNat) &&& (255 : Int32)))])) t
      refine Own.nmI hv52 ?_
      show Steps p.tables e below (T43.setTop (mkF m 371 #[.val (.int p0), .val (.int p1), .val (.int p2), .val (.int p3), .val (.int v1), .val (.int v2), .val (.int v5), .val (.int (1 : Int32)), .val (.int v6), .val (.int v7), .val (.ref b8), .val (.int v27), .val (.int (1 : Int32)), .val (.int v46), .val (.int v48), .val (.int v50), .unset] [(.int v52)])) t
      refine XS.istore X43.here hx rfl (hb hby at_371) rfl (l' := #[.val (.int p0), .val (.int p1), .val (.int p2), .val (.int p3), .val (.int v1), .val (.int v2), .val (.int v5), .val (.int (1 : Int32)), .val (.int v6), .val (.int v7), .val (.ref b8), .val (.int v27), .val (.int (1 : Int32)), .val (.int v46), .val (.int v48), .val (.int v50), .val (.int v52)]) rfl ?_
      show Steps p.tables e below (T43.setTop (mkF m 373 #[.val (.int p0), .val (.int p1), .val (.int p2), .val (.int p3), .val (.int v1), .val (.int v2), .val (.int v5), .val (.int (1 : Int32)), .val (.int v6), .val (.int v7), .val (.ref b8), .val (.int v27), .val (.int (1 : Int32)), .val (.int v46), .val (.int v48), .val (.int v50), .val (.int v52)] [])) t
      refine XS.iload X43.here hx rfl (hb hby at_373) rfl ?_
      show Steps p.tables e below (T43.setTop (mkF m 375 #[.val (.int p0), .val (.int p1), .val (.int p2), .val (.int p3), .val (.int v1), .val (.int v2), .val (.int v5), .val (.int (1 : Int32)), .val (.int v6), .val (.int v7), .val (.ref b8), .val (.int v27), .val (.int (1 : Int32)), .val (.int v46), .val (.int v48), .val (.int v50), .val (.int v52)] [(.int (1 : Int32))])) t
      refine XS.iconst X43.here hx rfl (hb hby at_375) ?_
      show Steps p.tables e below (T43.setTop (mkF m 376 #[.val (.int p0), .val (.int p1), .val (.int p2), .val (.int p3), .val (.int v1), .val (.int v2), .val (.int v5), .val (.int (1 : Int32)), .val (.int v6), .val (.int v7), .val (.ref b8), .val (.int v27), .val (.int (1 : Int32)), .val (.int v46), .val (.int v48), .val (.int v50), .val (.int v52)] [(.int (1 : Int32)), (.int (1 : Int32))])) t
      refine XS.icmpNo X43.here hx rfl (hb hby at_376) rfl (by decide) ?_
      show Steps p.tables e below (T43.setTop (mkF m 379 #[.val (.int p0), .val (.int p1), .val (.int p2), .val (.int p3), .val (.int v1), .val (.int v2), .val (.int v5), .val (.int (1 : Int32)), .val (.int v6), .val (.int v7), .val (.ref b8), .val (.int v27), .val (.int (1 : Int32)), .val (.int v46), .val (.int v48), .val (.int v50), .val (.int v52)] [])) t
      refine XS.iload X43.here hx rfl (hb hby at_379) rfl ?_
      show Steps p.tables e below (T43.setTop (mkF m 381 #[.val (.int p0), .val (.int p1), .val (.int p2), .val (.int p3), .val (.int v1), .val (.int v2), .val (.int v5), .val (.int (1 : Int32)), .val (.int v6), .val (.int v7), .val (.ref b8), .val (.int v27), .val (.int (1 : Int32)), .val (.int v46), .val (.int v48), .val (.int v50), .val (.int v52)] [(.int v46)])) t
      refine XS.iload X43.here hx rfl (hb hby at_381) rfl ?_
      show Steps p.tables e below (T43.setTop (mkF m 383 #[.val (.int p0), .val (.int p1), .val (.int p2), .val (.int p3), .val (.int v1), .val (.int v2), .val (.int v5), .val (.int (1 : Int32)), .val (.int v6), .val (.int v7), .val (.ref b8), .val (.int v27), .val (.int (1 : Int32)), .val (.int v46), .val (.int v48), .val (.int v50), .val (.int v52)] [(.int v5), (.int v46)])) t
      exact k
    have hc53 : v46 = v5 := hb0
    refine hD _ (T43.setTop (mkF m 391 #[.val (.int p0), .val (.int p1), .val (.int p2), .val (.int p3), .val (.int v1), .val (.int v2), .val (.int v5), .val (.int (1 : Int32)), .val (.int v6), .val (.int v7), .val (.ref b8), .val (.int v27), .val (.int (1 : Int32)), .val (.int v46), .val (.int v48), .val (.int v50), .val (.int v52)] [(.int (1 : Int32))])) (fun t k => ?_) ?_
    · show Steps p.tables e below (T43.setTop (mkF m 383 #[.val (.int p0), .val (.int p1), .val (.int p2), .val (.int p3), .val (.int v1), .val (.int v2), .val (.int v5), .val (.int (1 : Int32)), .val (.int v6), .val (.int v7), .val (.ref b8), .val (.int v27), .val (.int (1 : Int32)), .val (.int v46), .val (.int v48), .val (.int v50), .val (.int v52)] [(.int v5), (.int v46)])) t
      refine XS.icmpNo X43.here hx rfl (hb hby at_383) rfl (teq hc53).2 ?_
      show Steps p.tables e below (T43.setTop (mkF m 386 #[.val (.int p0), .val (.int p1), .val (.int p2), .val (.int p3), .val (.int v1), .val (.int v2), .val (.int v5), .val (.int (1 : Int32)), .val (.int v6), .val (.int v7), .val (.ref b8), .val (.int v27), .val (.int (1 : Int32)), .val (.int v46), .val (.int v48), .val (.int v50), .val (.int v52)] [])) t
      refine XS.iconst X43.here hx rfl (hb hby at_386) ?_
      show Steps p.tables e below (T43.setTop (mkF m 387 #[.val (.int p0), .val (.int p1), .val (.int p2), .val (.int p3), .val (.int v1), .val (.int v2), .val (.int v5), .val (.int (1 : Int32)), .val (.int v6), .val (.int v7), .val (.ref b8), .val (.int v27), .val (.int (1 : Int32)), .val (.int v46), .val (.int v48), .val (.int v50), .val (.int v52)] [(.int (1 : Int32))])) t
      refine XS.goto X43.here hx rfl (pc0 := 387) (pc' := 391) rfl (hb hby at_387) (by decide) (by decide) ?_
      show Steps p.tables e below (T43.setTop (mkF m 391 #[.val (.int p0), .val (.int p1), .val (.int p2), .val (.int p3), .val (.int v1), .val (.int v2), .val (.int v5), .val (.int (1 : Int32)), .val (.int v6), .val (.int v7), .val (.ref b8), .val (.int v27), .val (.int (1 : Int32)), .val (.int v46), .val (.int v48), .val (.int v50), .val (.int v52)] [(.int (1 : Int32))])) t
      exact k
    exact Own.retN hR X43 hx (t := .boolean) hret (by simp) (hb hby at_391) (by decide) (by decide) (by decide) ⟨rfl, N43⟩
  · refine hD _ (s₁.setTop (mkF m 33 #[.val (.int p0), .val (.int p1), .val (.int p2), .val (.int p3), .val (.int v1), .val (.int v2), .unset, .unset, .unset, .unset, .unset, .unset, .unset, .unset, .unset, .unset, .unset] [(.int (1 : Int32)), (.int v1)])) (fun t k => ?_) ?_
    · show Steps p.tables e below (s₁.setTop (mkF m 13 #[.val (.int p0), .val (.int p1), .val (.int p2), .val (.int p3), .val (.int v1), .val (.int v2), .unset, .unset, .unset, .unset, .unset, .unset, .unset, .unset, .unset, .unset, .unset] [(.int v1)])) t
      refine XS.ifYes X0.here hx rfl (pc0 := 13) (pc' := 30) rfl (hb hby at_13) rfl ((if0 _ _).trans (feq hc3).2) (by decide) (by decide) ?_
      show Steps p.tables e below (s₁.setTop (mkF m 30 #[.val (.int p0), .val (.int p1), .val (.int p2), .val (.int p3), .val (.int v1), .val (.int v2), .unset, .unset, .unset, .unset, .unset, .unset, .unset, .unset, .unset, .unset, .unset] [])) t
      refine XS.iload X0.here hx rfl (hb hby at_30) rfl ?_
      show Steps p.tables e below (s₁.setTop (mkF m 32 #[.val (.int p0), .val (.int p1), .val (.int p2), .val (.int p3), .val (.int v1), .val (.int v2), .unset, .unset, .unset, .unset, .unset, .unset, .unset, .unset, .unset, .unset, .unset] [(.int v1)])) t
      refine XS.iconst X0.here hx rfl (hb hby at_32) ?_
      show Steps p.tables e below (s₁.setTop (mkF m 33 #[.val (.int p0), .val (.int p1), .val (.int p2), .val (.int p3), .val (.int v1), .val (.int v2), .unset, .unset, .unset, .unset, .unset, .unset, .unset, .unset, .unset, .unset, .unset] [(.int (1 : Int32)), (.int v1)])) t
      exact k
    by_cases hc54 : v1 = (1 : Int32)
    · have hnz55 : (1920 : Int32) ≠ 0 := by decide
      obtain ⟨v56, hv56⟩ : ∃ z : Int32, z = ((128 : Int32) + (v2 % (1920 : Int32))) := ⟨_, rfl⟩
      have hcp : 128 ≤ v56.toInt ∧ v56.toInt ≤ 2047 := by
        have q := own_rm (m := 1920) (M := 1920) hu (by decide) (by decide)
        have e := own_ad hv56 (by decide) (by omega)
        rw [own_l128] at e; omega
      obtain ⟨v57, hv57⟩ : ∃ z : Int32, z = (p2 &&& (3 : Int32)) := ⟨_, rfl⟩
      have hn := own_n hv57
      have hix := own_ix hn
      obtain ⟨v58, hv58⟩ : ∃ z : Int32, z = (p3.toInt8.toInt32) := ⟨_, rfl⟩
      obtain ⟨T59, h59, k59, X59, e59, E59, A59, st59⟩ := newP X0 hx hZ (hw _ (List.mem_of_getElem? (i := 1) rfl)) e0 (g := (mkF m 118 #[.val (.int p0), .val (.int p1), .val (.int p2), .val (.int p3), .val (.int v1), .val (.int v2), .val (.int v56), .val (.int (2 : Int32)), .val (.int v57), .val (.int v58), .unset, .unset, .unset, .unset, .unset, .unset, .unset] [(.int (8 : Int32))])) rfl (hb hby at_118) rfl (by decide) (cap := 8) (by decide) (by decide) (by decide) (by decide)
      obtain ⟨b59, g_b59⟩ : ∃ z : Nat, z = h0.size := ⟨_, rfl⟩
      rw [← g_b59] at A59 st59
      have g0_b59 : n0 ≤ b59 := by rw [g_b59]; exact Z0
      have f60 : Own.AvI Z h59 b59 .byte 8 (fun _ => 0) := Own.AvI.new A59 (by decide) rfl
      have Z59 : n0 ≤ h59.size := Nat.le_trans Z0 E59.1
      have hj61 : 0 ≤ (0 : Int32).toInt ∧ (0 : Int32).toInt < (8 : Nat) := ⟨by decide, by decide⟩
      obtain ⟨T62, h62, X62, e62, A62, W62, st62⟩ := Own.stoB X59 hx hZ e59 f60 hj61 (g := (mkF m 124 #[.val (.int p0), .val (.int p1), .val (.int p2), .val (.int p3), .val (.int v1), .val (.int v2), .val (.int v56), .val (.int (2 : Int32)), .val (.int v57), .val (.int v58), .unset, .unset, .unset, .unset, .unset, .unset, .unset] [(.int v58), (.int (0 : Int32)), (.ref b59), (.ref b59)])) rfl rfl (hb hby at_124)
      have N62 := Fr.snoc X62 N0 (show n0 ≤ b59 by omega)
      have Z62 : n0 ≤ h62.size := Nat.le_trans Z59 (Keep.of_wr W62).1
      have hj63 : 0 ≤ (1 : Int32).toInt ∧ (1 : Int32).toInt < (8 : Nat) := ⟨by decide, by decide⟩
      obtain ⟨T64, h64, X64, e64, A64, W64, st64⟩ := Own.stoB X62 hx hZ e62 A62 hj63 (g := (mkF m 129 #[.val (.int p0), .val (.int p1), .val (.int p2), .val (.int p3), .val (.int v1), .val (.int v2), .val (.int v56), .val (.int (2 : Int32)), .val (.int v57), .val (.int v58), .unset, .unset, .unset, .unset, .unset, .unset, .unset] [(.int v58), (.int (1 : Int32)), (.ref b59), (.ref b59)])) rfl rfl (hb hby at_129)
      have N64 := Fr.snoc X64 N62 (show n0 ≤ b59 by omega)
      have Z64 : n0 ≤ h64.size := Nat.le_trans Z62 (Keep.of_wr W64).1
      have hj65 : 0 ≤ (2 : Int32).toInt ∧ (2 : Int32).toInt < (8 : Nat) := ⟨by decide, by decide⟩
      obtain ⟨T66, h66, X66, e66, A66, W66, st66⟩ := Own.stoB X64 hx hZ e64 A64 hj65 (g := (mkF m 134 #[.val (.int p0), .val (.int p1), .val (.int p2), .val (.int p3), .val (.int v1), .val (.int v2), .val (.int v56), .val (.int (2 : Int32)), .val (.int v57), .val (.int v58), .unset, .unset, .unset, .unset, .unset, .unset, .unset] [(.int v58), (.int (2 : Int32)), (.ref b59), (.ref b59)])) rfl rfl (hb hby at_134)
      have N66 := Fr.snoc X66 N64 (show n0 ≤ b59 by omega)
      have Z66 : n0 ≤ h66.size := Nat.le_trans Z64 (Keep.of_wr W66).1
      have hj67 : 0 ≤ (3 : Int32).toInt ∧ (3 : Int32).toInt < (8 : Nat) := ⟨by decide, by decide⟩
      obtain ⟨T68, h68, X68, e68, A68, W68, st68⟩ := Own.stoB X66 hx hZ e66 A66 hj67 (g := (mkF m 139 #[.val (.int p0), .val (.int p1), .val (.int p2), .val (.int p3), .val (.int v1), .val (.int v2), .val (.int v56), .val (.int (2 : Int32)), .val (.int v57), .val (.int v58), .unset, .unset, .unset, .unset, .unset, .unset, .unset] [(.int v58), (.int (3 : Int32)), (.ref b59), (.ref b59)])) rfl rfl (hb hby at_139)
      have N68 := Fr.snoc X68 N66 (show n0 ≤ b59 by omega)
      have Z68 : n0 ≤ h68.size := Nat.le_trans Z66 (Keep.of_wr W68).1
      have hj69 : 0 ≤ (4 : Int32).toInt ∧ (4 : Int32).toInt < (8 : Nat) := ⟨by decide, by decide⟩
      obtain ⟨T70, h70, X70, e70, A70, W70, st70⟩ := Own.stoB X68 hx hZ e68 A68 hj69 (g := (mkF m 144 #[.val (.int p0), .val (.int p1), .val (.int p2), .val (.int p3), .val (.int v1), .val (.int v2), .val (.int v56), .val (.int (2 : Int32)), .val (.int v57), .val (.int v58), .unset, .unset, .unset, .unset, .unset, .unset, .unset] [(.int v58), (.int (4 : Int32)), (.ref b59), (.ref b59)])) rfl rfl (hb hby at_144)
      have N70 := Fr.snoc X70 N68 (show n0 ≤ b59 by omega)
      have Z70 : n0 ≤ h70.size := Nat.le_trans Z68 (Keep.of_wr W70).1
      have hj71 : 0 ≤ (5 : Int32).toInt ∧ (5 : Int32).toInt < (8 : Nat) := ⟨by decide, by decide⟩
      obtain ⟨T72, h72, X72, e72, A72, W72, st72⟩ := Own.stoB X70 hx hZ e70 A70 hj71 (g := (mkF m 149 #[.val (.int p0), .val (.int p1), .val (.int p2), .val (.int p3), .val (.int v1), .val (.int v2), .val (.int v56), .val (.int (2 : Int32)), .val (.int v57), .val (.int v58), .unset, .unset, .unset, .unset, .unset, .unset, .unset] [(.int v58), (.int (5 : Int32)), (.ref b59), (.ref b59)])) rfl rfl (hb hby at_149)
      have N72 := Fr.snoc X72 N70 (show n0 ≤ b59 by omega)
      have Z72 : n0 ≤ h72.size := Nat.le_trans Z70 (Keep.of_wr W72).1
      have hj73 : 0 ≤ (6 : Int32).toInt ∧ (6 : Int32).toInt < (8 : Nat) := ⟨by decide, by decide⟩
      obtain ⟨T74, h74, X74, e74, A74, W74, st74⟩ := Own.stoB X72 hx hZ e72 A72 hj73 (g := (mkF m 155 #[.val (.int p0), .val (.int p1), .val (.int p2), .val (.int p3), .val (.int v1), .val (.int v2), .val (.int v56), .val (.int (2 : Int32)), .val (.int v57), .val (.int v58), .unset, .unset, .unset, .unset, .unset, .unset, .unset] [(.int v58), (.int (6 : Int32)), (.ref b59), (.ref b59)])) rfl rfl (hb hby at_155)
      have N74 := Fr.snoc X74 N72 (show n0 ≤ b59 by omega)
      have Z74 : n0 ≤ h74.size := Nat.le_trans Z72 (Keep.of_wr W74).1
      have hj75 : 0 ≤ (7 : Int32).toInt ∧ (7 : Int32).toInt < (8 : Nat) := ⟨by decide, by decide⟩
      obtain ⟨T76, h76, X76, e76, A76, W76, st76⟩ := Own.stoB X74 hx hZ e74 A74 hj75 (g := (mkF m 161 #[.val (.int p0), .val (.int p1), .val (.int p2), .val (.int p3), .val (.int v1), .val (.int v2), .val (.int v56), .val (.int (2 : Int32)), .val (.int v57), .val (.int v58), .unset, .unset, .unset, .unset, .unset, .unset, .unset] [(.int v58), (.int (7 : Int32)), (.ref b59), (.ref b59)])) rfl rfl (hb hby at_161)
      have N76 := Fr.snoc X76 N74 (show n0 ≤ b59 by omega)
      have Z76 : n0 ≤ h76.size := Nat.le_trans Z74 (Keep.of_wr W76).1
      obtain ⟨g, Ag, hg⟩ : ∃ z : Nat → Int32, Own.AvI Z h76 b59 .byte 8 z ∧ ∀ i, i < 8 → z i = v58 := ⟨_, A76, fun i hi => by
        have q := own_nar hv58
        match i, hi with
        | 0, _ => exact q
        | 1, _ => exact q
        | 2, _ => exact q
        | 3, _ => exact q
        | 4, _ => exact q
        | 5, _ => exact q
        | 6, _ => exact q
        | 7, _ => exact q⟩
      obtain ⟨T77, _, L77, X77, ⟨rfl, Nq77, A77⟩, st77⟩ := Own.callS (y := (⟨"org/wireform/json/JsonString", "putUtf8", "([BII)I"⟩ : MethodName)) (W := 0) (argsL := [(.ref b59), (.int v57), (.int v56)]) (rest := []) X76 hx hZ hown (hw _ (List.mem_of_getElem? (i := 2) rfl)) (hw _ (List.mem_of_getElem? (i := 3) rfl)) (hw _ (List.mem_of_getElem? (i := 4) rfl)) (hw _ (List.mem_of_getElem? (i := 5) rfl)) (by decide) e76 (rm2 l Z a0 hw [] b59 v57 v56 g h76 n0 Z76 g0_b59 hn hcp Ag) (by decide) (by decide) (by decide) (by decide) (g := (mkF m 170 #[.val (.int p0), .val (.int p1), .val (.int p2), .val (.int p3), .val (.int v1), .val (.int v2), .val (.int v56), .val (.int (2 : Int32)), .val (.int v57), .val (.int v58), .val (.ref b59), .unset, .unset, .unset, .unset, .unset, .unset] [(.int v56), (.int v57), (.ref b59)])) rfl (by rw [hml]; rfl) (lenOf pd_0 rfl) rfl (by show 2 * 0 + _ ≤ _; exact Nat.le_of_eq rfl) (hb hby at_170)
      have N77 := Fr.app N76 Nq77
      obtain ⟨v78, hv78⟩ : ∃ z : Int32, z = (v57 + (2 : Int32)) := ⟨_, rfl⟩
      refine hD _ (T77.setTop (mkF m 182 #[.val (.int p0), .val (.int p1), .val (.int p2), .val (.int p3), .val (.int v1), .val (.int v2), .val (.int v56), .val (.int (2 : Int32)), .val (.int v57), .val (.int v58), .val (.ref b59), .val (.int v78), .unset, .unset, .unset, .unset, .unset] [(.int (v57 + (2 : Int32))), (.int v78)])) (fun t k => ?_) ?_
      · show Steps p.tables e below (s₁.setTop (mkF m 33 #[.val (.int p0), .val (.int p1), .val (.int p2), .val (.int p3), .val (.int v1), .val (.int v2), .unset, .unset, .unset, .unset, .unset, .unset, .unset, .unset, .unset, .unset, .unset] [(.int (1 : Int32)), (.int v1)])) t
        refine XS.icmpNo X0.here hx rfl (hb hby at_33) rfl (teq hc54).2 ?_
        show Steps p.tables e below (s₁.setTop (mkF m 36 #[.val (.int p0), .val (.int p1), .val (.int p2), .val (.int p3), .val (.int v1), .val (.int v2), .unset, .unset, .unset, .unset, .unset, .unset, .unset, .unset, .unset, .unset, .unset] [])) t
        refine XS.sipush X0.here hx rfl (hb hby at_36) ?_
        show Steps p.tables e below (s₁.setTop (mkF m 39 #[.val (.int p0), .val (.int p1), .val (.int p2), .val (.int p3), .val (.int v1), .val (.int v2), .unset, .unset, .unset, .unset, .unset, .unset, .unset, .unset, .unset, .unset, .unset] [(.int (128 : Int32))])) t
        refine XS.iload X0.here hx rfl (hb hby at_39) rfl ?_
        show Steps p.tables e below (s₁.setTop (mkF m 41 #[.val (.int p0), .val (.int p1), .val (.int p2), .val (.int p3), .val (.int v1), .val (.int v2), .unset, .unset, .unset, .unset, .unset, .unset, .unset, .unset, .unset, .unset, .unset] [(.int v2), (.int (128 : Int32))])) t
        refine XS.sipush X0.here hx rfl (hb hby at_41) ?_
        show Steps p.tables e below (s₁.setTop (mkF m 44 #[.val (.int p0), .val (.int p1), .val (.int p2), .val (.int p3), .val (.int v1), .val (.int v2), .unset, .unset, .unset, .unset, .unset, .unset, .unset, .unset, .unset, .unset, .unset] [(.int (1920 : Int32)), (.int v2), (.int (128 : Int32))])) t
        refine Jvm.RoadKit.iremM (g := (mkF m 44 #[.val (.int p0), .val (.int p1), .val (.int p2), .val (.int p3), .val (.int v1), .val (.int v2), .unset, .unset, .unset, .unset, .unset, .unset, .unset, .unset, .unset, .unset, .unset] [(.int (1920 : Int32)), (.int v2), (.int (128 : Int32))])) X0 hx rfl (hb hby at_44) rfl hnz55 ?_
        show Steps p.tables e below (s₁.setTop (mkF m 45 #[.val (.int p0), .val (.int p1), .val (.int p2), .val (.int p3), .val (.int v1), .val (.int v2), .unset, .unset, .unset, .unset, .unset, .unset, .unset, .unset, .unset, .unset, .unset] [(.int (v2 % (1920 : Int32))), (.int (128 : Int32))])) t
        refine XS.iadd X0.here hx rfl (hb hby at_45) rfl ?_
        show Steps p.tables e below (s₁.setTop (mkF m 46 #[.val (.int p0), .val (.int p1), .val (.int p2), .val (.int p3), .val (.int v1), .val (.int v2), .unset, .unset, .unset, .unset, .unset, .unset, .unset, .unset, .unset, .unset, .unset] [(.int ((128 : Int32) + (v2 % (1920 : Int32))))])) t
        refine Own.nmI hv56 ?_
        show Steps p.tables e below (s₁.setTop (mkF m 46 #[.val (.int p0), .val (.int p1), .val (.int p2), .val (.int p3), .val (.int v1), .val (.int v2), .unset, .unset, .unset, .unset, .unset, .unset, .unset, .unset, .unset, .unset, .unset] [(.int v56)])) t
        refine XS.istore X0.here hx rfl (hb hby at_46) rfl (l' := #[.val (.int p0), .val (.int p1), .val (.int p2), .val (.int p3), .val (.int v1), .val (.int v2), .val (.int v56), .unset, .unset, .unset, .unset, .unset, .unset, .unset, .unset, .unset, .unset]) rfl ?_
        show Steps p.tables e below (s₁.setTop (mkF m 48 #[.val (.int p0), .val (.int p1), .val (.int p2), .val (.int p3), .val (.int v1), .val (.int v2), .val (.int v56), .unset, .unset, .unset, .unset, .unset, .unset, .unset, .unset, .unset, .unset] [])) t
        refine XS.iconst X0.here hx rfl (hb hby at_48) ?_
        show Steps p.tables e below (s₁.setTop (mkF m 49 #[.val (.int p0), .val (.int p1), .val (.int p2), .val (.int p3), .val (.int v1), .val (.int v2), .val (.int v56), .unset, .unset, .unset, .unset, .unset, .unset, .unset, .unset, .unset, .unset] [(.int (2 : Int32))])) t
        refine XS.istore X0.here hx rfl (hb hby at_49) rfl (l' := #[.val (.int p0), .val (.int p1), .val (.int p2), .val (.int p3), .val (.int v1), .val (.int v2), .val (.int v56), .val (.int (2 : Int32)), .unset, .unset, .unset, .unset, .unset, .unset, .unset, .unset, .unset]) rfl ?_
        show Steps p.tables e below (s₁.setTop (mkF m 51 #[.val (.int p0), .val (.int p1), .val (.int p2), .val (.int p3), .val (.int v1), .val (.int v2), .val (.int v56), .val (.int (2 : Int32)), .unset, .unset, .unset, .unset, .unset, .unset, .unset, .unset, .unset] [])) t
        refine XS.goto X0.here hx rfl (pc0 := 51) (pc' := 107) rfl (hb hby at_51) (by decide) (by decide) ?_
        show Steps p.tables e below (s₁.setTop (mkF m 107 #[.val (.int p0), .val (.int p1), .val (.int p2), .val (.int p3), .val (.int v1), .val (.int v2), .val (.int v56), .val (.int (2 : Int32)), .unset, .unset, .unset, .unset, .unset, .unset, .unset, .unset, .unset] [])) t
        refine XS.iloadN X0.here hx rfl (hb hby at_107) rfl ?_
        show Steps p.tables e below (s₁.setTop (mkF m 108 #[.val (.int p0), .val (.int p1), .val (.int p2), .val (.int p3), .val (.int v1), .val (.int v2), .val (.int v56), .val (.int (2 : Int32)), .unset, .unset, .unset, .unset, .unset, .unset, .unset, .unset, .unset] [(.int p2)])) t
        refine XS.iconst X0.here hx rfl (hb hby at_108) ?_
        show Steps p.tables e below (s₁.setTop (mkF m 109 #[.val (.int p0), .val (.int p1), .val (.int p2), .val (.int p3), .val (.int v1), .val (.int v2), .val (.int v56), .val (.int (2 : Int32)), .unset, .unset, .unset, .unset, .unset, .unset, .unset, .unset, .unset] [(.int (3 : Int32)), (.int p2)])) t
        refine XS.iand X0.here hx rfl (hb hby at_109) rfl ?_
        show Steps p.tables e below (s₁.setTop (mkF m 110 #[.val (.int p0), .val (.int p1), .val (.int p2), .val (.int p3), .val (.int v1), .val (.int v2), .val (.int v56), .val (.int (2 : Int32)), .unset, .unset, .unset, .unset, .unset, .unset, .unset, .unset, .unset] [(.int (p2 &&& (3 : Int32)))])) t
        refine Own.nmI hv57 ?_
        show Steps p.tables e below (s₁.setTop (mkF m 110 #[.val (.int p0), .val (.int p1), .val (.int p2), .val (.int p3), .val (.int v1), .val (.int v2), .val (.int v56), .val (.int (2 : Int32)), .unset, .unset, .unset, .unset, .unset, .unset, .unset, .unset, .unset] [(.int v57)])) t
        refine XS.istore X0.here hx rfl (hb hby at_110) rfl (l' := #[.val (.int p0), .val (.int p1), .val (.int p2), .val (.int p3), .val (.int v1), .val (.int v2), .val (.int v56), .val (.int (2 : Int32)), .val (.int v57), .unset, .unset, .unset, .unset, .unset, .unset, .unset, .unset]) rfl ?_
        show Steps p.tables e below (s₁.setTop (mkF m 112 #[.val (.int p0), .val (.int p1), .val (.int p2), .val (.int p3), .val (.int v1), .val (.int v2), .val (.int v56), .val (.int (2 : Int32)), .val (.int v57), .unset, .unset, .unset, .unset, .unset, .unset, .unset, .unset] [])) t
        refine XS.iloadN X0.here hx rfl (hb hby at_112) rfl ?_
        show Steps p.tables e below (s₁.setTop (mkF m 113 #[.val (.int p0), .val (.int p1), .val (.int p2), .val (.int p3), .val (.int v1), .val (.int v2), .val (.int v56), .val (.int (2 : Int32)), .val (.int v57), .unset, .unset, .unset, .unset, .unset, .unset, .unset, .unset] [(.int p3)])) t
        refine XS.i2b X0.here hx rfl (hb hby at_113) rfl ?_
        show Steps p.tables e below (s₁.setTop (mkF m 114 #[.val (.int p0), .val (.int p1), .val (.int p2), .val (.int p3), .val (.int v1), .val (.int v2), .val (.int v56), .val (.int (2 : Int32)), .val (.int v57), .unset, .unset, .unset, .unset, .unset, .unset, .unset, .unset] [(.int (p3.toInt8.toInt32))])) t
        refine Own.nmI hv58 ?_
        show Steps p.tables e below (s₁.setTop (mkF m 114 #[.val (.int p0), .val (.int p1), .val (.int p2), .val (.int p3), .val (.int v1), .val (.int v2), .val (.int v56), .val (.int (2 : Int32)), .val (.int v57), .unset, .unset, .unset, .unset, .unset, .unset, .unset, .unset] [(.int v58)])) t
        refine XS.istore X0.here hx rfl (hb hby at_114) rfl (l' := #[.val (.int p0), .val (.int p1), .val (.int p2), .val (.int p3), .val (.int v1), .val (.int v2), .val (.int v56), .val (.int (2 : Int32)), .val (.int v57), .val (.int v58), .unset, .unset, .unset, .unset, .unset, .unset, .unset]) rfl ?_
        show Steps p.tables e below (s₁.setTop (mkF m 116 #[.val (.int p0), .val (.int p1), .val (.int p2), .val (.int p3), .val (.int v1), .val (.int v2), .val (.int v56), .val (.int (2 : Int32)), .val (.int v57), .val (.int v58), .unset, .unset, .unset, .unset, .unset, .unset, .unset] [])) t
        refine XS.bipush X0.here hx rfl (hb hby at_116) ?_
        show Steps p.tables e below (s₁.setTop (mkF m 118 #[.val (.int p0), .val (.int p1), .val (.int p2), .val (.int p3), .val (.int v1), .val (.int v2), .val (.int v56), .val (.int (2 : Int32)), .val (.int v57), .val (.int v58), .unset, .unset, .unset, .unset, .unset, .unset, .unset] [(.int (8 : Int32))])) t
        refine st59 _ ?_
        show Steps p.tables e below (T59.setTop (mkF m 120 #[.val (.int p0), .val (.int p1), .val (.int p2), .val (.int p3), .val (.int v1), .val (.int v2), .val (.int v56), .val (.int (2 : Int32)), .val (.int v57), .val (.int v58), .unset, .unset, .unset, .unset, .unset, .unset, .unset] [(.ref b59)])) t
        refine XS.dup X59.here hx rfl (hb hby at_120) rfl rfl ?_
        show Steps p.tables e below (T59.setTop (mkF m 121 #[.val (.int p0), .val (.int p1), .val (.int p2), .val (.int p3), .val (.int v1), .val (.int v2), .val (.int v56), .val (.int (2 : Int32)), .val (.int v57), .val (.int v58), .unset, .unset, .unset, .unset, .unset, .unset, .unset] [(.ref b59), (.ref b59)])) t
        refine XS.iconst X59.here hx rfl (hb hby at_121) ?_
        show Steps p.tables e below (T59.setTop (mkF m 122 #[.val (.int p0), .val (.int p1), .val (.int p2), .val (.int p3), .val (.int v1), .val (.int v2), .val (.int v56), .val (.int (2 : Int32)), .val (.int v57), .val (.int v58), .unset, .unset, .unset, .unset, .unset, .unset, .unset] [(.int (0 : Int32)), (.ref b59), (.ref b59)])) t
        refine XS.iload X59.here hx rfl (hb hby at_122) rfl ?_
        show Steps p.tables e below (T59.setTop (mkF m 124 #[.val (.int p0), .val (.int p1), .val (.int p2), .val (.int p3), .val (.int v1), .val (.int v2), .val (.int v56), .val (.int (2 : Int32)), .val (.int v57), .val (.int v58), .unset, .unset, .unset, .unset, .unset, .unset, .unset] [(.int v58), (.int (0 : Int32)), (.ref b59), (.ref b59)])) t
        refine st62 _ ?_
        show Steps p.tables e below (T62.setTop (mkF m 125 #[.val (.int p0), .val (.int p1), .val (.int p2), .val (.int p3), .val (.int v1), .val (.int v2), .val (.int v56), .val (.int (2 : Int32)), .val (.int v57), .val (.int v58), .unset, .unset, .unset, .unset, .unset, .unset, .unset] [(.ref b59)])) t
        refine XS.dup X62.here hx rfl (hb hby at_125) rfl rfl ?_
        show Steps p.tables e below (T62.setTop (mkF m 126 #[.val (.int p0), .val (.int p1), .val (.int p2), .val (.int p3), .val (.int v1), .val (.int v2), .val (.int v56), .val (.int (2 : Int32)), .val (.int v57), .val (.int v58), .unset, .unset, .unset, .unset, .unset, .unset, .unset] [(.ref b59), (.ref b59)])) t
        refine XS.iconst X62.here hx rfl (hb hby at_126) ?_
        show Steps p.tables e below (T62.setTop (mkF m 127 #[.val (.int p0), .val (.int p1), .val (.int p2), .val (.int p3), .val (.int v1), .val (.int v2), .val (.int v56), .val (.int (2 : Int32)), .val (.int v57), .val (.int v58), .unset, .unset, .unset, .unset, .unset, .unset, .unset] [(.int (1 : Int32)), (.ref b59), (.ref b59)])) t
        refine XS.iload X62.here hx rfl (hb hby at_127) rfl ?_
        show Steps p.tables e below (T62.setTop (mkF m 129 #[.val (.int p0), .val (.int p1), .val (.int p2), .val (.int p3), .val (.int v1), .val (.int v2), .val (.int v56), .val (.int (2 : Int32)), .val (.int v57), .val (.int v58), .unset, .unset, .unset, .unset, .unset, .unset, .unset] [(.int v58), (.int (1 : Int32)), (.ref b59), (.ref b59)])) t
        refine st64 _ ?_
        show Steps p.tables e below (T64.setTop (mkF m 130 #[.val (.int p0), .val (.int p1), .val (.int p2), .val (.int p3), .val (.int v1), .val (.int v2), .val (.int v56), .val (.int (2 : Int32)), .val (.int v57), .val (.int v58), .unset, .unset, .unset, .unset, .unset, .unset, .unset] [(.ref b59)])) t
        refine XS.dup X64.here hx rfl (hb hby at_130) rfl rfl ?_
        show Steps p.tables e below (T64.setTop (mkF m 131 #[.val (.int p0), .val (.int p1), .val (.int p2), .val (.int p3), .val (.int v1), .val (.int v2), .val (.int v56), .val (.int (2 : Int32)), .val (.int v57), .val (.int v58), .unset, .unset, .unset, .unset, .unset, .unset, .unset] [(.ref b59), (.ref b59)])) t
        refine XS.iconst X64.here hx rfl (hb hby at_131) ?_
        show Steps p.tables e below (T64.setTop (mkF m 132 #[.val (.int p0), .val (.int p1), .val (.int p2), .val (.int p3), .val (.int v1), .val (.int v2), .val (.int v56), .val (.int (2 : Int32)), .val (.int v57), .val (.int v58), .unset, .unset, .unset, .unset, .unset, .unset, .unset] [(.int (2 : Int32)), (.ref b59), (.ref b59)])) t
        refine XS.iload X64.here hx rfl (hb hby at_132) rfl ?_
        show Steps p.tables e below (T64.setTop (mkF m 134 #[.val (.int p0), .val (.int p1), .val (.int p2), .val (.int p3), .val (.int v1), .val (.int v2), .val (.int v56), .val (.int (2 : Int32)), .val (.int v57), .val (.int v58), .unset, .unset, .unset, .unset, .unset, .unset, .unset] [(.int v58), (.int (2 : Int32)), (.ref b59), (.ref b59)])) t
        refine st66 _ ?_
        show Steps p.tables e below (T66.setTop (mkF m 135 #[.val (.int p0), .val (.int p1), .val (.int p2), .val (.int p3), .val (.int v1), .val (.int v2), .val (.int v56), .val (.int (2 : Int32)), .val (.int v57), .val (.int v58), .unset, .unset, .unset, .unset, .unset, .unset, .unset] [(.ref b59)])) t
        refine XS.dup X66.here hx rfl (hb hby at_135) rfl rfl ?_
        show Steps p.tables e below (T66.setTop (mkF m 136 #[.val (.int p0), .val (.int p1), .val (.int p2), .val (.int p3), .val (.int v1), .val (.int v2), .val (.int v56), .val (.int (2 : Int32)), .val (.int v57), .val (.int v58), .unset, .unset, .unset, .unset, .unset, .unset, .unset] [(.ref b59), (.ref b59)])) t
        refine XS.iconst X66.here hx rfl (hb hby at_136) ?_
        show Steps p.tables e below (T66.setTop (mkF m 137 #[.val (.int p0), .val (.int p1), .val (.int p2), .val (.int p3), .val (.int v1), .val (.int v2), .val (.int v56), .val (.int (2 : Int32)), .val (.int v57), .val (.int v58), .unset, .unset, .unset, .unset, .unset, .unset, .unset] [(.int (3 : Int32)), (.ref b59), (.ref b59)])) t
        refine XS.iload X66.here hx rfl (hb hby at_137) rfl ?_
        show Steps p.tables e below (T66.setTop (mkF m 139 #[.val (.int p0), .val (.int p1), .val (.int p2), .val (.int p3), .val (.int v1), .val (.int v2), .val (.int v56), .val (.int (2 : Int32)), .val (.int v57), .val (.int v58), .unset, .unset, .unset, .unset, .unset, .unset, .unset] [(.int v58), (.int (3 : Int32)), (.ref b59), (.ref b59)])) t
        refine st68 _ ?_
        show Steps p.tables e below (T68.setTop (mkF m 140 #[.val (.int p0), .val (.int p1), .val (.int p2), .val (.int p3), .val (.int v1), .val (.int v2), .val (.int v56), .val (.int (2 : Int32)), .val (.int v57), .val (.int v58), .unset, .unset, .unset, .unset, .unset, .unset, .unset] [(.ref b59)])) t
        refine XS.dup X68.here hx rfl (hb hby at_140) rfl rfl ?_
        show Steps p.tables e below (T68.setTop (mkF m 141 #[.val (.int p0), .val (.int p1), .val (.int p2), .val (.int p3), .val (.int v1), .val (.int v2), .val (.int v56), .val (.int (2 : Int32)), .val (.int v57), .val (.int v58), .unset, .unset, .unset, .unset, .unset, .unset, .unset] [(.ref b59), (.ref b59)])) t
        refine XS.iconst X68.here hx rfl (hb hby at_141) ?_
        show Steps p.tables e below (T68.setTop (mkF m 142 #[.val (.int p0), .val (.int p1), .val (.int p2), .val (.int p3), .val (.int v1), .val (.int v2), .val (.int v56), .val (.int (2 : Int32)), .val (.int v57), .val (.int v58), .unset, .unset, .unset, .unset, .unset, .unset, .unset] [(.int (4 : Int32)), (.ref b59), (.ref b59)])) t
        refine XS.iload X68.here hx rfl (hb hby at_142) rfl ?_
        show Steps p.tables e below (T68.setTop (mkF m 144 #[.val (.int p0), .val (.int p1), .val (.int p2), .val (.int p3), .val (.int v1), .val (.int v2), .val (.int v56), .val (.int (2 : Int32)), .val (.int v57), .val (.int v58), .unset, .unset, .unset, .unset, .unset, .unset, .unset] [(.int v58), (.int (4 : Int32)), (.ref b59), (.ref b59)])) t
        refine st70 _ ?_
        show Steps p.tables e below (T70.setTop (mkF m 145 #[.val (.int p0), .val (.int p1), .val (.int p2), .val (.int p3), .val (.int v1), .val (.int v2), .val (.int v56), .val (.int (2 : Int32)), .val (.int v57), .val (.int v58), .unset, .unset, .unset, .unset, .unset, .unset, .unset] [(.ref b59)])) t
        refine XS.dup X70.here hx rfl (hb hby at_145) rfl rfl ?_
        show Steps p.tables e below (T70.setTop (mkF m 146 #[.val (.int p0), .val (.int p1), .val (.int p2), .val (.int p3), .val (.int v1), .val (.int v2), .val (.int v56), .val (.int (2 : Int32)), .val (.int v57), .val (.int v58), .unset, .unset, .unset, .unset, .unset, .unset, .unset] [(.ref b59), (.ref b59)])) t
        refine XS.iconst X70.here hx rfl (hb hby at_146) ?_
        show Steps p.tables e below (T70.setTop (mkF m 147 #[.val (.int p0), .val (.int p1), .val (.int p2), .val (.int p3), .val (.int v1), .val (.int v2), .val (.int v56), .val (.int (2 : Int32)), .val (.int v57), .val (.int v58), .unset, .unset, .unset, .unset, .unset, .unset, .unset] [(.int (5 : Int32)), (.ref b59), (.ref b59)])) t
        refine XS.iload X70.here hx rfl (hb hby at_147) rfl ?_
        show Steps p.tables e below (T70.setTop (mkF m 149 #[.val (.int p0), .val (.int p1), .val (.int p2), .val (.int p3), .val (.int v1), .val (.int v2), .val (.int v56), .val (.int (2 : Int32)), .val (.int v57), .val (.int v58), .unset, .unset, .unset, .unset, .unset, .unset, .unset] [(.int v58), (.int (5 : Int32)), (.ref b59), (.ref b59)])) t
        refine st72 _ ?_
        show Steps p.tables e below (T72.setTop (mkF m 150 #[.val (.int p0), .val (.int p1), .val (.int p2), .val (.int p3), .val (.int v1), .val (.int v2), .val (.int v56), .val (.int (2 : Int32)), .val (.int v57), .val (.int v58), .unset, .unset, .unset, .unset, .unset, .unset, .unset] [(.ref b59)])) t
        refine XS.dup X72.here hx rfl (hb hby at_150) rfl rfl ?_
        show Steps p.tables e below (T72.setTop (mkF m 151 #[.val (.int p0), .val (.int p1), .val (.int p2), .val (.int p3), .val (.int v1), .val (.int v2), .val (.int v56), .val (.int (2 : Int32)), .val (.int v57), .val (.int v58), .unset, .unset, .unset, .unset, .unset, .unset, .unset] [(.ref b59), (.ref b59)])) t
        refine XS.bipush X72.here hx rfl (hb hby at_151) ?_
        show Steps p.tables e below (T72.setTop (mkF m 153 #[.val (.int p0), .val (.int p1), .val (.int p2), .val (.int p3), .val (.int v1), .val (.int v2), .val (.int v56), .val (.int (2 : Int32)), .val (.int v57), .val (.int v58), .unset, .unset, .unset, .unset, .unset, .unset, .unset] [(.int (6 : Int32)), (.ref b59), (.ref b59)])) t
        refine XS.iload X72.here hx rfl (hb hby at_153) rfl ?_
        show Steps p.tables e below (T72.setTop (mkF m 155 #[.val (.int p0), .val (.int p1), .val (.int p2), .val (.int p3), .val (.int v1), .val (.int v2), .val (.int v56), .val (.int (2 : Int32)), .val (.int v57), .val (.int v58), .unset, .unset, .unset, .unset, .unset, .unset, .unset] [(.int v58), (.int (6 : Int32)), (.ref b59), (.ref b59)])) t
        refine st74 _ ?_
        show Steps p.tables e below (T74.setTop (mkF m 156 #[.val (.int p0), .val (.int p1), .val (.int p2), .val (.int p3), .val (.int v1), .val (.int v2), .val (.int v56), .val (.int (2 : Int32)), .val (.int v57), .val (.int v58), .unset, .unset, .unset, .unset, .unset, .unset, .unset] [(.ref b59)])) t
        refine XS.dup X74.here hx rfl (hb hby at_156) rfl rfl ?_
        show Steps p.tables e below (T74.setTop (mkF m 157 #[.val (.int p0), .val (.int p1), .val (.int p2), .val (.int p3), .val (.int v1), .val (.int v2), .val (.int v56), .val (.int (2 : Int32)), .val (.int v57), .val (.int v58), .unset, .unset, .unset, .unset, .unset, .unset, .unset] [(.ref b59), (.ref b59)])) t
        refine XS.bipush X74.here hx rfl (hb hby at_157) ?_
        show Steps p.tables e below (T74.setTop (mkF m 159 #[.val (.int p0), .val (.int p1), .val (.int p2), .val (.int p3), .val (.int v1), .val (.int v2), .val (.int v56), .val (.int (2 : Int32)), .val (.int v57), .val (.int v58), .unset, .unset, .unset, .unset, .unset, .unset, .unset] [(.int (7 : Int32)), (.ref b59), (.ref b59)])) t
        refine XS.iload X74.here hx rfl (hb hby at_159) rfl ?_
        show Steps p.tables e below (T74.setTop (mkF m 161 #[.val (.int p0), .val (.int p1), .val (.int p2), .val (.int p3), .val (.int v1), .val (.int v2), .val (.int v56), .val (.int (2 : Int32)), .val (.int v57), .val (.int v58), .unset, .unset, .unset, .unset, .unset, .unset, .unset] [(.int v58), (.int (7 : Int32)), (.ref b59), (.ref b59)])) t
        refine st76 _ ?_
        show Steps p.tables e below (T76.setTop (mkF m 162 #[.val (.int p0), .val (.int p1), .val (.int p2), .val (.int p3), .val (.int v1), .val (.int v2), .val (.int v56), .val (.int (2 : Int32)), .val (.int v57), .val (.int v58), .unset, .unset, .unset, .unset, .unset, .unset, .unset] [(.ref b59)])) t
        refine XS.astore X76.here hx rfl (hb hby at_162) rfl rfl (l' := #[.val (.int p0), .val (.int p1), .val (.int p2), .val (.int p3), .val (.int v1), .val (.int v2), .val (.int v56), .val (.int (2 : Int32)), .val (.int v57), .val (.int v58), .val (.ref b59), .unset, .unset, .unset, .unset, .unset, .unset]) rfl ?_
        show Steps p.tables e below (T76.setTop (mkF m 164 #[.val (.int p0), .val (.int p1), .val (.int p2), .val (.int p3), .val (.int v1), .val (.int v2), .val (.int v56), .val (.int (2 : Int32)), .val (.int v57), .val (.int v58), .val (.ref b59), .unset, .unset, .unset, .unset, .unset, .unset] [])) t
        refine XS.aload X76.here hx rfl (hb hby at_164) rfl rfl ?_
        show Steps p.tables e below (T76.setTop (mkF m 166 #[.val (.int p0), .val (.int p1), .val (.int p2), .val (.int p3), .val (.int v1), .val (.int v2), .val (.int v56), .val (.int (2 : Int32)), .val (.int v57), .val (.int v58), .val (.ref b59), .unset, .unset, .unset, .unset, .unset, .unset] [(.ref b59)])) t
        refine XS.iload X76.here hx rfl (hb hby at_166) rfl ?_
        show Steps p.tables e below (T76.setTop (mkF m 168 #[.val (.int p0), .val (.int p1), .val (.int p2), .val (.int p3), .val (.int v1), .val (.int v2), .val (.int v56), .val (.int (2 : Int32)), .val (.int v57), .val (.int v58), .val (.ref b59), .unset, .unset, .unset, .unset, .unset, .unset] [(.int v57), (.ref b59)])) t
        refine XS.iload X76.here hx rfl (hb hby at_168) rfl ?_
        show Steps p.tables e below (T76.setTop (mkF m 170 #[.val (.int p0), .val (.int p1), .val (.int p2), .val (.int p3), .val (.int v1), .val (.int v2), .val (.int v56), .val (.int (2 : Int32)), .val (.int v57), .val (.int v58), .val (.ref b59), .unset, .unset, .unset, .unset, .unset, .unset] [(.int v56), (.int v57), (.ref b59)])) t
        refine st77 _ ?_
        show Steps p.tables e below (T77.setTop (mkF m 173 #[.val (.int p0), .val (.int p1), .val (.int p2), .val (.int p3), .val (.int v1), .val (.int v2), .val (.int v56), .val (.int (2 : Int32)), .val (.int v57), .val (.int v58), .val (.ref b59), .unset, .unset, .unset, .unset, .unset, .unset] [(.int (v57 + (2 : Int32)))])) t
        refine Own.nmI hv78 ?_
        show Steps p.tables e below (T77.setTop (mkF m 173 #[.val (.int p0), .val (.int p1), .val (.int p2), .val (.int p3), .val (.int v1), .val (.int v2), .val (.int v56), .val (.int (2 : Int32)), .val (.int v57), .val (.int v58), .val (.ref b59), .unset, .unset, .unset, .unset, .unset, .unset] [(.int v78)])) t
        refine XS.istore X77.here hx rfl (hb hby at_173) rfl (l' := #[.val (.int p0), .val (.int p1), .val (.int p2), .val (.int p3), .val (.int v1), .val (.int v2), .val (.int v56), .val (.int (2 : Int32)), .val (.int v57), .val (.int v58), .val (.ref b59), .val (.int v78), .unset, .unset, .unset, .unset, .unset]) rfl ?_
        show Steps p.tables e below (T77.setTop (mkF m 175 #[.val (.int p0), .val (.int p1), .val (.int p2), .val (.int p3), .val (.int v1), .val (.int v2), .val (.int v56), .val (.int (2 : Int32)), .val (.int v57), .val (.int v58), .val (.ref b59), .val (.int v78), .unset, .unset, .unset, .unset, .unset] [])) t
        refine XS.iload X77.here hx rfl (hb hby at_175) rfl ?_
        show Steps p.tables e below (T77.setTop (mkF m 177 #[.val (.int p0), .val (.int p1), .val (.int p2), .val (.int p3), .val (.int v1), .val (.int v2), .val (.int v56), .val (.int (2 : Int32)), .val (.int v57), .val (.int v58), .val (.ref b59), .val (.int v78), .unset, .unset, .unset, .unset, .unset] [(.int v78)])) t
        refine XS.iload X77.here hx rfl (hb hby at_177) rfl ?_
        show Steps p.tables e below (T77.setTop (mkF m 179 #[.val (.int p0), .val (.int p1), .val (.int p2), .val (.int p3), .val (.int v1), .val (.int v2), .val (.int v56), .val (.int (2 : Int32)), .val (.int v57), .val (.int v58), .val (.ref b59), .val (.int v78), .unset, .unset, .unset, .unset, .unset] [(.int v57), (.int v78)])) t
        refine XS.iload X77.here hx rfl (hb hby at_179) rfl ?_
        show Steps p.tables e below (T77.setTop (mkF m 181 #[.val (.int p0), .val (.int p1), .val (.int p2), .val (.int p3), .val (.int v1), .val (.int v2), .val (.int v56), .val (.int (2 : Int32)), .val (.int v57), .val (.int v58), .val (.ref b59), .val (.int v78), .unset, .unset, .unset, .unset, .unset] [(.int (2 : Int32)), (.int v57), (.int v78)])) t
        refine XS.iadd X77.here hx rfl (hb hby at_181) rfl ?_
        show Steps p.tables e below (T77.setTop (mkF m 182 #[.val (.int p0), .val (.int p1), .val (.int p2), .val (.int p3), .val (.int v1), .val (.int v2), .val (.int v56), .val (.int (2 : Int32)), .val (.int v57), .val (.int v58), .val (.ref b59), .val (.int v78), .unset, .unset, .unset, .unset, .unset] [(.int (v57 + (2 : Int32))), (.int v78)])) t
        exact k
      have hc79 : v78 = (v57 + (2 : Int32)) := hv78
      obtain ⟨T80, _, L80, X80, ⟨rfl, Nq80, e80⟩, st80⟩ := Own.callS (y := (⟨"org/wireform/json/JsonStringPutUtf8PinLaw", "kept", "([BIIIB)Z"⟩ : MethodName)) (W := 0) (argsL := [(.ref b59), (.int (0 : Int32)), (.int v57), (.int (2 : Int32)), (.int v58)]) (rest := []) X77 hx hZ hown (hw _ (List.mem_of_getElem? (i := 6) rfl)) (hw _ (List.mem_of_getElem? (i := 7) rfl)) (hw _ (List.mem_of_getElem? (i := 8) rfl)) (hw _ (List.mem_of_getElem? (i := 9) rfl)) (by decide) rfl (rm5 l Z a0 hw [] b59 (0 : Int32) v57 (2 : Int32) v58 (own_put2 g v57 v56) T77.heap n0 (by decide) A77) (by decide) (by decide) (by decide) (by decide) (g := (mkF m 196 #[.val (.int p0), .val (.int p1), .val (.int p2), .val (.int p3), .val (.int v1), .val (.int v2), .val (.int v56), .val (.int (2 : Int32)), .val (.int v57), .val (.int v58), .val (.ref b59), .val (.int v78), .unset, .unset, .unset, .unset, .unset] [(.int v58), (.int (2 : Int32)), (.int v57), (.int (0 : Int32)), (.ref b59)])) rfl (by rw [hml]; rfl) (lenOf pd_1 rfl) rfl (by show 2 * 0 + _ ≤ _; exact Nat.le_of_eq rfl) (hb hby at_196)
      have N80 := Fr.app N77 Nq80
      refine hD _ (T80.setTop (mkF m 199 #[.val (.int p0), .val (.int p1), .val (.int p2), .val (.int p3), .val (.int v1), .val (.int v2), .val (.int v56), .val (.int (2 : Int32)), .val (.int v57), .val (.int v58), .val (.ref b59), .val (.int v78), .unset, .unset, .unset, .unset, .unset] [(.int (Own.b2i (own_kept (own_put2 g v57 v56) (0 : Int32) v57 (2 : Int32) v58)))])) (fun t k => ?_) ?_
      · show Steps p.tables e below (T77.setTop (mkF m 182 #[.val (.int p0), .val (.int p1), .val (.int p2), .val (.int p3), .val (.int v1), .val (.int v2), .val (.int v56), .val (.int (2 : Int32)), .val (.int v57), .val (.int v58), .val (.ref b59), .val (.int v78), .unset, .unset, .unset, .unset, .unset] [(.int (v57 + (2 : Int32))), (.int v78)])) t
        refine XS.icmpYes X77.here hx rfl (pc0 := 182) (pc' := 187) rfl (hb hby at_182) rfl (teq hc79).1 (by decide) (by decide) ?_
        show Steps p.tables e below (T77.setTop (mkF m 187 #[.val (.int p0), .val (.int p1), .val (.int p2), .val (.int p3), .val (.int v1), .val (.int v2), .val (.int v56), .val (.int (2 : Int32)), .val (.int v57), .val (.int v58), .val (.ref b59), .val (.int v78), .unset, .unset, .unset, .unset, .unset] [])) t
        refine XS.aload X77.here hx rfl (hb hby at_187) rfl rfl ?_
        show Steps p.tables e below (T77.setTop (mkF m 189 #[.val (.int p0), .val (.int p1), .val (.int p2), .val (.int p3), .val (.int v1), .val (.int v2), .val (.int v56), .val (.int (2 : Int32)), .val (.int v57), .val (.int v58), .val (.ref b59), .val (.int v78), .unset, .unset, .unset, .unset, .unset] [(.ref b59)])) t
        refine XS.iconst X77.here hx rfl (hb hby at_189) ?_
        show Steps p.tables e below (T77.setTop (mkF m 190 #[.val (.int p0), .val (.int p1), .val (.int p2), .val (.int p3), .val (.int v1), .val (.int v2), .val (.int v56), .val (.int (2 : Int32)), .val (.int v57), .val (.int v58), .val (.ref b59), .val (.int v78), .unset, .unset, .unset, .unset, .unset] [(.int (0 : Int32)), (.ref b59)])) t
        refine XS.iload X77.here hx rfl (hb hby at_190) rfl ?_
        show Steps p.tables e below (T77.setTop (mkF m 192 #[.val (.int p0), .val (.int p1), .val (.int p2), .val (.int p3), .val (.int v1), .val (.int v2), .val (.int v56), .val (.int (2 : Int32)), .val (.int v57), .val (.int v58), .val (.ref b59), .val (.int v78), .unset, .unset, .unset, .unset, .unset] [(.int v57), (.int (0 : Int32)), (.ref b59)])) t
        refine XS.iload X77.here hx rfl (hb hby at_192) rfl ?_
        show Steps p.tables e below (T77.setTop (mkF m 194 #[.val (.int p0), .val (.int p1), .val (.int p2), .val (.int p3), .val (.int v1), .val (.int v2), .val (.int v56), .val (.int (2 : Int32)), .val (.int v57), .val (.int v58), .val (.ref b59), .val (.int v78), .unset, .unset, .unset, .unset, .unset] [(.int (2 : Int32)), (.int v57), (.int (0 : Int32)), (.ref b59)])) t
        refine XS.iload X77.here hx rfl (hb hby at_194) rfl ?_
        show Steps p.tables e below (T77.setTop (mkF m 196 #[.val (.int p0), .val (.int p1), .val (.int p2), .val (.int p3), .val (.int v1), .val (.int v2), .val (.int v56), .val (.int (2 : Int32)), .val (.int v57), .val (.int v58), .val (.ref b59), .val (.int v78), .unset, .unset, .unset, .unset, .unset] [(.int v58), (.int (2 : Int32)), (.int v57), (.int (0 : Int32)), (.ref b59)])) t
        refine st80 _ ?_
        show Steps p.tables e below (T80.setTop (mkF m 199 #[.val (.int p0), .val (.int p1), .val (.int p2), .val (.int p3), .val (.int v1), .val (.int v2), .val (.int v56), .val (.int (2 : Int32)), .val (.int v57), .val (.int v58), .val (.ref b59), .val (.int v78), .unset, .unset, .unset, .unset, .unset] [(.int (Own.b2i (own_kept (own_put2 g v57 v56) (0 : Int32) v57 (2 : Int32) v58)))])) t
        exact k
      have hc81 : (own_kept (own_put2 g v57 v56) (0 : Int32) v57 (2 : Int32) v58) = true := own_st2 g hn (by decide) (hg 0 (by decide))
      obtain ⟨T82, _, L82, X82, ⟨rfl, Nq82, e82⟩, st82⟩ := Own.callS (y := (⟨"org/wireform/json/JsonStringPutUtf8PinLaw", "kept", "([BIIIB)Z"⟩ : MethodName)) (W := 0) (argsL := [(.ref b59), (.int (1 : Int32)), (.int v57), (.int (2 : Int32)), (.int v58)]) (rest := []) X80 hx hZ hown (hw _ (List.mem_of_getElem? (i := 6) rfl)) (hw _ (List.mem_of_getElem? (i := 7) rfl)) (hw _ (List.mem_of_getElem? (i := 8) rfl)) (hw _ (List.mem_of_getElem? (i := 9) rfl)) (by decide) e80 (rm5 l Z a0 hw [] b59 (1 : Int32) v57 (2 : Int32) v58 (own_put2 g v57 v56) T77.heap n0 (by decide) A77) (by decide) (by decide) (by decide) (by decide) (g := (mkF m 211 #[.val (.int p0), .val (.int p1), .val (.int p2), .val (.int p3), .val (.int v1), .val (.int v2), .val (.int v56), .val (.int (2 : Int32)), .val (.int v57), .val (.int v58), .val (.ref b59), .val (.int v78), .unset, .unset, .unset, .unset, .unset] [(.int v58), (.int (2 : Int32)), (.int v57), (.int (1 : Int32)), (.ref b59)])) rfl (by rw [hml]; rfl) (lenOf pd_1 rfl) rfl (by show 2 * 0 + _ ≤ _; exact Nat.le_of_eq rfl) (hb hby at_211)
      have N82 := Fr.app N80 Nq82
      refine hD _ (T82.setTop (mkF m 214 #[.val (.int p0), .val (.int p1), .val (.int p2), .val (.int p3), .val (.int v1), .val (.int v2), .val (.int v56), .val (.int (2 : Int32)), .val (.int v57), .val (.int v58), .val (.ref b59), .val (.int v78), .unset, .unset, .unset, .unset, .unset] [(.int (Own.b2i (own_kept (own_put2 g v57 v56) (1 : Int32) v57 (2 : Int32) v58)))])) (fun t k => ?_) ?_
      · show Steps p.tables e below (T80.setTop (mkF m 199 #[.val (.int p0), .val (.int p1), .val (.int p2), .val (.int p3), .val (.int v1), .val (.int v2), .val (.int v56), .val (.int (2 : Int32)), .val (.int v57), .val (.int v58), .val (.ref b59), .val (.int v78), .unset, .unset, .unset, .unset, .unset] [(.int (Own.b2i (own_kept (own_put2 g v57 v56) (0 : Int32) v57 (2 : Int32) v58)))])) t
        refine XS.ifNo X80.here hx rfl (hb hby at_199) rfl ((if0 _ _).trans (feq (fun q => Own.b2i_eq0.mp q hc81)).1) ?_
        show Steps p.tables e below (T80.setTop (mkF m 202 #[.val (.int p0), .val (.int p1), .val (.int p2), .val (.int p3), .val (.int v1), .val (.int v2), .val (.int v56), .val (.int (2 : Int32)), .val (.int v57), .val (.int v58), .val (.ref b59), .val (.int v78), .unset, .unset, .unset, .unset, .unset] [])) t
        refine XS.aload X80.here hx rfl (hb hby at_202) rfl rfl ?_
        show Steps p.tables e below (T80.setTop (mkF m 204 #[.val (.int p0), .val (.int p1), .val (.int p2), .val (.int p3), .val (.int v1), .val (.int v2), .val (.int v56), .val (.int (2 : Int32)), .val (.int v57), .val (.int v58), .val (.ref b59), .val (.int v78), .unset, .unset, .unset, .unset, .unset] [(.ref b59)])) t
        refine XS.iconst X80.here hx rfl (hb hby at_204) ?_
        show Steps p.tables e below (T80.setTop (mkF m 205 #[.val (.int p0), .val (.int p1), .val (.int p2), .val (.int p3), .val (.int v1), .val (.int v2), .val (.int v56), .val (.int (2 : Int32)), .val (.int v57), .val (.int v58), .val (.ref b59), .val (.int v78), .unset, .unset, .unset, .unset, .unset] [(.int (1 : Int32)), (.ref b59)])) t
        refine XS.iload X80.here hx rfl (hb hby at_205) rfl ?_
        show Steps p.tables e below (T80.setTop (mkF m 207 #[.val (.int p0), .val (.int p1), .val (.int p2), .val (.int p3), .val (.int v1), .val (.int v2), .val (.int v56), .val (.int (2 : Int32)), .val (.int v57), .val (.int v58), .val (.ref b59), .val (.int v78), .unset, .unset, .unset, .unset, .unset] [(.int v57), (.int (1 : Int32)), (.ref b59)])) t
        refine XS.iload X80.here hx rfl (hb hby at_207) rfl ?_
        show Steps p.tables e below (T80.setTop (mkF m 209 #[.val (.int p0), .val (.int p1), .val (.int p2), .val (.int p3), .val (.int v1), .val (.int v2), .val (.int v56), .val (.int (2 : Int32)), .val (.int v57), .val (.int v58), .val (.ref b59), .val (.int v78), .unset, .unset, .unset, .unset, .unset] [(.int (2 : Int32)), (.int v57), (.int (1 : Int32)), (.ref b59)])) t
        refine XS.iload X80.here hx rfl (hb hby at_209) rfl ?_
        show Steps p.tables e below (T80.setTop (mkF m 211 #[.val (.int p0), .val (.int p1), .val (.int p2), .val (.int p3), .val (.int v1), .val (.int v2), .val (.int v56), .val (.int (2 : Int32)), .val (.int v57), .val (.int v58), .val (.ref b59), .val (.int v78), .unset, .unset, .unset, .unset, .unset] [(.int v58), (.int (2 : Int32)), (.int v57), (.int (1 : Int32)), (.ref b59)])) t
        refine st82 _ ?_
        show Steps p.tables e below (T82.setTop (mkF m 214 #[.val (.int p0), .val (.int p1), .val (.int p2), .val (.int p3), .val (.int v1), .val (.int v2), .val (.int v56), .val (.int (2 : Int32)), .val (.int v57), .val (.int v58), .val (.ref b59), .val (.int v78), .unset, .unset, .unset, .unset, .unset] [(.int (Own.b2i (own_kept (own_put2 g v57 v56) (1 : Int32) v57 (2 : Int32) v58)))])) t
        exact k
      have hc83 : (own_kept (own_put2 g v57 v56) (1 : Int32) v57 (2 : Int32) v58) = true := own_st2 g hn (by decide) (hg 1 (by decide))
      obtain ⟨T84, _, L84, X84, ⟨rfl, Nq84, e84⟩, st84⟩ := Own.callS (y := (⟨"org/wireform/json/JsonStringPutUtf8PinLaw", "kept", "([BIIIB)Z"⟩ : MethodName)) (W := 0) (argsL := [(.ref b59), (.int (2 : Int32)), (.int v57), (.int (2 : Int32)), (.int v58)]) (rest := []) X82 hx hZ hown (hw _ (List.mem_of_getElem? (i := 6) rfl)) (hw _ (List.mem_of_getElem? (i := 7) rfl)) (hw _ (List.mem_of_getElem? (i := 8) rfl)) (hw _ (List.mem_of_getElem? (i := 9) rfl)) (by decide) e82 (rm5 l Z a0 hw [] b59 (2 : Int32) v57 (2 : Int32) v58 (own_put2 g v57 v56) T77.heap n0 (by decide) A77) (by decide) (by decide) (by decide) (by decide) (g := (mkF m 226 #[.val (.int p0), .val (.int p1), .val (.int p2), .val (.int p3), .val (.int v1), .val (.int v2), .val (.int v56), .val (.int (2 : Int32)), .val (.int v57), .val (.int v58), .val (.ref b59), .val (.int v78), .unset, .unset, .unset, .unset, .unset] [(.int v58), (.int (2 : Int32)), (.int v57), (.int (2 : Int32)), (.ref b59)])) rfl (by rw [hml]; rfl) (lenOf pd_1 rfl) rfl (by show 2 * 0 + _ ≤ _; exact Nat.le_of_eq rfl) (hb hby at_226)
      have N84 := Fr.app N82 Nq84
      refine hD _ (T84.setTop (mkF m 229 #[.val (.int p0), .val (.int p1), .val (.int p2), .val (.int p3), .val (.int v1), .val (.int v2), .val (.int v56), .val (.int (2 : Int32)), .val (.int v57), .val (.int v58), .val (.ref b59), .val (.int v78), .unset, .unset, .unset, .unset, .unset] [(.int (Own.b2i (own_kept (own_put2 g v57 v56) (2 : Int32) v57 (2 : Int32) v58)))])) (fun t k => ?_) ?_
      · show Steps p.tables e below (T82.setTop (mkF m 214 #[.val (.int p0), .val (.int p1), .val (.int p2), .val (.int p3), .val (.int v1), .val (.int v2), .val (.int v56), .val (.int (2 : Int32)), .val (.int v57), .val (.int v58), .val (.ref b59), .val (.int v78), .unset, .unset, .unset, .unset, .unset] [(.int (Own.b2i (own_kept (own_put2 g v57 v56) (1 : Int32) v57 (2 : Int32) v58)))])) t
        refine XS.ifNo X82.here hx rfl (hb hby at_214) rfl ((if0 _ _).trans (feq (fun q => Own.b2i_eq0.mp q hc83)).1) ?_
        show Steps p.tables e below (T82.setTop (mkF m 217 #[.val (.int p0), .val (.int p1), .val (.int p2), .val (.int p3), .val (.int v1), .val (.int v2), .val (.int v56), .val (.int (2 : Int32)), .val (.int v57), .val (.int v58), .val (.ref b59), .val (.int v78), .unset, .unset, .unset, .unset, .unset] [])) t
        refine XS.aload X82.here hx rfl (hb hby at_217) rfl rfl ?_
        show Steps p.tables e below (T82.setTop (mkF m 219 #[.val (.int p0), .val (.int p1), .val (.int p2), .val (.int p3), .val (.int v1), .val (.int v2), .val (.int v56), .val (.int (2 : Int32)), .val (.int v57), .val (.int v58), .val (.ref b59), .val (.int v78), .unset, .unset, .unset, .unset, .unset] [(.ref b59)])) t
        refine XS.iconst X82.here hx rfl (hb hby at_219) ?_
        show Steps p.tables e below (T82.setTop (mkF m 220 #[.val (.int p0), .val (.int p1), .val (.int p2), .val (.int p3), .val (.int v1), .val (.int v2), .val (.int v56), .val (.int (2 : Int32)), .val (.int v57), .val (.int v58), .val (.ref b59), .val (.int v78), .unset, .unset, .unset, .unset, .unset] [(.int (2 : Int32)), (.ref b59)])) t
        refine XS.iload X82.here hx rfl (hb hby at_220) rfl ?_
        show Steps p.tables e below (T82.setTop (mkF m 222 #[.val (.int p0), .val (.int p1), .val (.int p2), .val (.int p3), .val (.int v1), .val (.int v2), .val (.int v56), .val (.int (2 : Int32)), .val (.int v57), .val (.int v58), .val (.ref b59), .val (.int v78), .unset, .unset, .unset, .unset, .unset] [(.int v57), (.int (2 : Int32)), (.ref b59)])) t
        refine XS.iload X82.here hx rfl (hb hby at_222) rfl ?_
        show Steps p.tables e below (T82.setTop (mkF m 224 #[.val (.int p0), .val (.int p1), .val (.int p2), .val (.int p3), .val (.int v1), .val (.int v2), .val (.int v56), .val (.int (2 : Int32)), .val (.int v57), .val (.int v58), .val (.ref b59), .val (.int v78), .unset, .unset, .unset, .unset, .unset] [(.int (2 : Int32)), (.int v57), (.int (2 : Int32)), (.ref b59)])) t
        refine XS.iload X82.here hx rfl (hb hby at_224) rfl ?_
        show Steps p.tables e below (T82.setTop (mkF m 226 #[.val (.int p0), .val (.int p1), .val (.int p2), .val (.int p3), .val (.int v1), .val (.int v2), .val (.int v56), .val (.int (2 : Int32)), .val (.int v57), .val (.int v58), .val (.ref b59), .val (.int v78), .unset, .unset, .unset, .unset, .unset] [(.int v58), (.int (2 : Int32)), (.int v57), (.int (2 : Int32)), (.ref b59)])) t
        refine st84 _ ?_
        show Steps p.tables e below (T84.setTop (mkF m 229 #[.val (.int p0), .val (.int p1), .val (.int p2), .val (.int p3), .val (.int v1), .val (.int v2), .val (.int v56), .val (.int (2 : Int32)), .val (.int v57), .val (.int v58), .val (.ref b59), .val (.int v78), .unset, .unset, .unset, .unset, .unset] [(.int (Own.b2i (own_kept (own_put2 g v57 v56) (2 : Int32) v57 (2 : Int32) v58)))])) t
        exact k
      have hc85 : (own_kept (own_put2 g v57 v56) (2 : Int32) v57 (2 : Int32) v58) = true := own_st2 g hn (by decide) (hg 2 (by decide))
      obtain ⟨T86, _, L86, X86, ⟨rfl, Nq86, e86⟩, st86⟩ := Own.callS (y := (⟨"org/wireform/json/JsonStringPutUtf8PinLaw", "kept", "([BIIIB)Z"⟩ : MethodName)) (W := 0) (argsL := [(.ref b59), (.int (3 : Int32)), (.int v57), (.int (2 : Int32)), (.int v58)]) (rest := []) X84 hx hZ hown (hw _ (List.mem_of_getElem? (i := 6) rfl)) (hw _ (List.mem_of_getElem? (i := 7) rfl)) (hw _ (List.mem_of_getElem? (i := 8) rfl)) (hw _ (List.mem_of_getElem? (i := 9) rfl)) (by decide) e84 (rm5 l Z a0 hw [] b59 (3 : Int32) v57 (2 : Int32) v58 (own_put2 g v57 v56) T77.heap n0 (by decide) A77) (by decide) (by decide) (by decide) (by decide) (g := (mkF m 241 #[.val (.int p0), .val (.int p1), .val (.int p2), .val (.int p3), .val (.int v1), .val (.int v2), .val (.int v56), .val (.int (2 : Int32)), .val (.int v57), .val (.int v58), .val (.ref b59), .val (.int v78), .unset, .unset, .unset, .unset, .unset] [(.int v58), (.int (2 : Int32)), (.int v57), (.int (3 : Int32)), (.ref b59)])) rfl (by rw [hml]; rfl) (lenOf pd_1 rfl) rfl (by show 2 * 0 + _ ≤ _; exact Nat.le_of_eq rfl) (hb hby at_241)
      have N86 := Fr.app N84 Nq86
      refine hD _ (T86.setTop (mkF m 244 #[.val (.int p0), .val (.int p1), .val (.int p2), .val (.int p3), .val (.int v1), .val (.int v2), .val (.int v56), .val (.int (2 : Int32)), .val (.int v57), .val (.int v58), .val (.ref b59), .val (.int v78), .unset, .unset, .unset, .unset, .unset] [(.int (Own.b2i (own_kept (own_put2 g v57 v56) (3 : Int32) v57 (2 : Int32) v58)))])) (fun t k => ?_) ?_
      · show Steps p.tables e below (T84.setTop (mkF m 229 #[.val (.int p0), .val (.int p1), .val (.int p2), .val (.int p3), .val (.int v1), .val (.int v2), .val (.int v56), .val (.int (2 : Int32)), .val (.int v57), .val (.int v58), .val (.ref b59), .val (.int v78), .unset, .unset, .unset, .unset, .unset] [(.int (Own.b2i (own_kept (own_put2 g v57 v56) (2 : Int32) v57 (2 : Int32) v58)))])) t
        refine XS.ifNo X84.here hx rfl (hb hby at_229) rfl ((if0 _ _).trans (feq (fun q => Own.b2i_eq0.mp q hc85)).1) ?_
        show Steps p.tables e below (T84.setTop (mkF m 232 #[.val (.int p0), .val (.int p1), .val (.int p2), .val (.int p3), .val (.int v1), .val (.int v2), .val (.int v56), .val (.int (2 : Int32)), .val (.int v57), .val (.int v58), .val (.ref b59), .val (.int v78), .unset, .unset, .unset, .unset, .unset] [])) t
        refine XS.aload X84.here hx rfl (hb hby at_232) rfl rfl ?_
        show Steps p.tables e below (T84.setTop (mkF m 234 #[.val (.int p0), .val (.int p1), .val (.int p2), .val (.int p3), .val (.int v1), .val (.int v2), .val (.int v56), .val (.int (2 : Int32)), .val (.int v57), .val (.int v58), .val (.ref b59), .val (.int v78), .unset, .unset, .unset, .unset, .unset] [(.ref b59)])) t
        refine XS.iconst X84.here hx rfl (hb hby at_234) ?_
        show Steps p.tables e below (T84.setTop (mkF m 235 #[.val (.int p0), .val (.int p1), .val (.int p2), .val (.int p3), .val (.int v1), .val (.int v2), .val (.int v56), .val (.int (2 : Int32)), .val (.int v57), .val (.int v58), .val (.ref b59), .val (.int v78), .unset, .unset, .unset, .unset, .unset] [(.int (3 : Int32)), (.ref b59)])) t
        refine XS.iload X84.here hx rfl (hb hby at_235) rfl ?_
        show Steps p.tables e below (T84.setTop (mkF m 237 #[.val (.int p0), .val (.int p1), .val (.int p2), .val (.int p3), .val (.int v1), .val (.int v2), .val (.int v56), .val (.int (2 : Int32)), .val (.int v57), .val (.int v58), .val (.ref b59), .val (.int v78), .unset, .unset, .unset, .unset, .unset] [(.int v57), (.int (3 : Int32)), (.ref b59)])) t
        refine XS.iload X84.here hx rfl (hb hby at_237) rfl ?_
        show Steps p.tables e below (T84.setTop (mkF m 239 #[.val (.int p0), .val (.int p1), .val (.int p2), .val (.int p3), .val (.int v1), .val (.int v2), .val (.int v56), .val (.int (2 : Int32)), .val (.int v57), .val (.int v58), .val (.ref b59), .val (.int v78), .unset, .unset, .unset, .unset, .unset] [(.int (2 : Int32)), (.int v57), (.int (3 : Int32)), (.ref b59)])) t
        refine XS.iload X84.here hx rfl (hb hby at_239) rfl ?_
        show Steps p.tables e below (T84.setTop (mkF m 241 #[.val (.int p0), .val (.int p1), .val (.int p2), .val (.int p3), .val (.int v1), .val (.int v2), .val (.int v56), .val (.int (2 : Int32)), .val (.int v57), .val (.int v58), .val (.ref b59), .val (.int v78), .unset, .unset, .unset, .unset, .unset] [(.int v58), (.int (2 : Int32)), (.int v57), (.int (3 : Int32)), (.ref b59)])) t
        refine st86 _ ?_
        show Steps p.tables e below (T86.setTop (mkF m 244 #[.val (.int p0), .val (.int p1), .val (.int p2), .val (.int p3), .val (.int v1), .val (.int v2), .val (.int v56), .val (.int (2 : Int32)), .val (.int v57), .val (.int v58), .val (.ref b59), .val (.int v78), .unset, .unset, .unset, .unset, .unset] [(.int (Own.b2i (own_kept (own_put2 g v57 v56) (3 : Int32) v57 (2 : Int32) v58)))])) t
        exact k
      have hc87 : (own_kept (own_put2 g v57 v56) (3 : Int32) v57 (2 : Int32) v58) = true := own_st2 g hn (by decide) (hg 3 (by decide))
      obtain ⟨T88, _, L88, X88, ⟨rfl, Nq88, e88⟩, st88⟩ := Own.callS (y := (⟨"org/wireform/json/JsonStringPutUtf8PinLaw", "kept", "([BIIIB)Z"⟩ : MethodName)) (W := 0) (argsL := [(.ref b59), (.int (4 : Int32)), (.int v57), (.int (2 : Int32)), (.int v58)]) (rest := []) X86 hx hZ hown (hw _ (List.mem_of_getElem? (i := 6) rfl)) (hw _ (List.mem_of_getElem? (i := 7) rfl)) (hw _ (List.mem_of_getElem? (i := 8) rfl)) (hw _ (List.mem_of_getElem? (i := 9) rfl)) (by decide) e86 (rm5 l Z a0 hw [] b59 (4 : Int32) v57 (2 : Int32) v58 (own_put2 g v57 v56) T77.heap n0 (by decide) A77) (by decide) (by decide) (by decide) (by decide) (g := (mkF m 256 #[.val (.int p0), .val (.int p1), .val (.int p2), .val (.int p3), .val (.int v1), .val (.int v2), .val (.int v56), .val (.int (2 : Int32)), .val (.int v57), .val (.int v58), .val (.ref b59), .val (.int v78), .unset, .unset, .unset, .unset, .unset] [(.int v58), (.int (2 : Int32)), (.int v57), (.int (4 : Int32)), (.ref b59)])) rfl (by rw [hml]; rfl) (lenOf pd_1 rfl) rfl (by show 2 * 0 + _ ≤ _; exact Nat.le_of_eq rfl) (hb hby at_256)
      have N88 := Fr.app N86 Nq88
      refine hD _ (T88.setTop (mkF m 259 #[.val (.int p0), .val (.int p1), .val (.int p2), .val (.int p3), .val (.int v1), .val (.int v2), .val (.int v56), .val (.int (2 : Int32)), .val (.int v57), .val (.int v58), .val (.ref b59), .val (.int v78), .unset, .unset, .unset, .unset, .unset] [(.int (Own.b2i (own_kept (own_put2 g v57 v56) (4 : Int32) v57 (2 : Int32) v58)))])) (fun t k => ?_) ?_
      · show Steps p.tables e below (T86.setTop (mkF m 244 #[.val (.int p0), .val (.int p1), .val (.int p2), .val (.int p3), .val (.int v1), .val (.int v2), .val (.int v56), .val (.int (2 : Int32)), .val (.int v57), .val (.int v58), .val (.ref b59), .val (.int v78), .unset, .unset, .unset, .unset, .unset] [(.int (Own.b2i (own_kept (own_put2 g v57 v56) (3 : Int32) v57 (2 : Int32) v58)))])) t
        refine XS.ifNo X86.here hx rfl (hb hby at_244) rfl ((if0 _ _).trans (feq (fun q => Own.b2i_eq0.mp q hc87)).1) ?_
        show Steps p.tables e below (T86.setTop (mkF m 247 #[.val (.int p0), .val (.int p1), .val (.int p2), .val (.int p3), .val (.int v1), .val (.int v2), .val (.int v56), .val (.int (2 : Int32)), .val (.int v57), .val (.int v58), .val (.ref b59), .val (.int v78), .unset, .unset, .unset, .unset, .unset] [])) t
        refine XS.aload X86.here hx rfl (hb hby at_247) rfl rfl ?_
        show Steps p.tables e below (T86.setTop (mkF m 249 #[.val (.int p0), .val (.int p1), .val (.int p2), .val (.int p3), .val (.int v1), .val (.int v2), .val (.int v56), .val (.int (2 : Int32)), .val (.int v57), .val (.int v58), .val (.ref b59), .val (.int v78), .unset, .unset, .unset, .unset, .unset] [(.ref b59)])) t
        refine XS.iconst X86.here hx rfl (hb hby at_249) ?_
        show Steps p.tables e below (T86.setTop (mkF m 250 #[.val (.int p0), .val (.int p1), .val (.int p2), .val (.int p3), .val (.int v1), .val (.int v2), .val (.int v56), .val (.int (2 : Int32)), .val (.int v57), .val (.int v58), .val (.ref b59), .val (.int v78), .unset, .unset, .unset, .unset, .unset] [(.int (4 : Int32)), (.ref b59)])) t
        refine XS.iload X86.here hx rfl (hb hby at_250) rfl ?_
        show Steps p.tables e below (T86.setTop (mkF m 252 #[.val (.int p0), .val (.int p1), .val (.int p2), .val (.int p3), .val (.int v1), .val (.int v2), .val (.int v56), .val (.int (2 : Int32)), .val (.int v57), .val (.int v58), .val (.ref b59), .val (.int v78), .unset, .unset, .unset, .unset, .unset] [(.int v57), (.int (4 : Int32)), (.ref b59)])) t
        refine XS.iload X86.here hx rfl (hb hby at_252) rfl ?_
        show Steps p.tables e below (T86.setTop (mkF m 254 #[.val (.int p0), .val (.int p1), .val (.int p2), .val (.int p3), .val (.int v1), .val (.int v2), .val (.int v56), .val (.int (2 : Int32)), .val (.int v57), .val (.int v58), .val (.ref b59), .val (.int v78), .unset, .unset, .unset, .unset, .unset] [(.int (2 : Int32)), (.int v57), (.int (4 : Int32)), (.ref b59)])) t
        refine XS.iload X86.here hx rfl (hb hby at_254) rfl ?_
        show Steps p.tables e below (T86.setTop (mkF m 256 #[.val (.int p0), .val (.int p1), .val (.int p2), .val (.int p3), .val (.int v1), .val (.int v2), .val (.int v56), .val (.int (2 : Int32)), .val (.int v57), .val (.int v58), .val (.ref b59), .val (.int v78), .unset, .unset, .unset, .unset, .unset] [(.int v58), (.int (2 : Int32)), (.int v57), (.int (4 : Int32)), (.ref b59)])) t
        refine st88 _ ?_
        show Steps p.tables e below (T88.setTop (mkF m 259 #[.val (.int p0), .val (.int p1), .val (.int p2), .val (.int p3), .val (.int v1), .val (.int v2), .val (.int v56), .val (.int (2 : Int32)), .val (.int v57), .val (.int v58), .val (.ref b59), .val (.int v78), .unset, .unset, .unset, .unset, .unset] [(.int (Own.b2i (own_kept (own_put2 g v57 v56) (4 : Int32) v57 (2 : Int32) v58)))])) t
        exact k
      have hc89 : (own_kept (own_put2 g v57 v56) (4 : Int32) v57 (2 : Int32) v58) = true := own_st2 g hn (by decide) (hg 4 (by decide))
      obtain ⟨T90, _, L90, X90, ⟨rfl, Nq90, e90⟩, st90⟩ := Own.callS (y := (⟨"org/wireform/json/JsonStringPutUtf8PinLaw", "kept", "([BIIIB)Z"⟩ : MethodName)) (W := 0) (argsL := [(.ref b59), (.int (5 : Int32)), (.int v57), (.int (2 : Int32)), (.int v58)]) (rest := []) X88 hx hZ hown (hw _ (List.mem_of_getElem? (i := 6) rfl)) (hw _ (List.mem_of_getElem? (i := 7) rfl)) (hw _ (List.mem_of_getElem? (i := 8) rfl)) (hw _ (List.mem_of_getElem? (i := 9) rfl)) (by decide) e88 (rm5 l Z a0 hw [] b59 (5 : Int32) v57 (2 : Int32) v58 (own_put2 g v57 v56) T77.heap n0 (by decide) A77) (by decide) (by decide) (by decide) (by decide) (g := (mkF m 271 #[.val (.int p0), .val (.int p1), .val (.int p2), .val (.int p3), .val (.int v1), .val (.int v2), .val (.int v56), .val (.int (2 : Int32)), .val (.int v57), .val (.int v58), .val (.ref b59), .val (.int v78), .unset, .unset, .unset, .unset, .unset] [(.int v58), (.int (2 : Int32)), (.int v57), (.int (5 : Int32)), (.ref b59)])) rfl (by rw [hml]; rfl) (lenOf pd_1 rfl) rfl (by show 2 * 0 + _ ≤ _; exact Nat.le_of_eq rfl) (hb hby at_271)
      have N90 := Fr.app N88 Nq90
      refine hD _ (T90.setTop (mkF m 274 #[.val (.int p0), .val (.int p1), .val (.int p2), .val (.int p3), .val (.int v1), .val (.int v2), .val (.int v56), .val (.int (2 : Int32)), .val (.int v57), .val (.int v58), .val (.ref b59), .val (.int v78), .unset, .unset, .unset, .unset, .unset] [(.int (Own.b2i (own_kept (own_put2 g v57 v56) (5 : Int32) v57 (2 : Int32) v58)))])) (fun t k => ?_) ?_
      · show Steps p.tables e below (T88.setTop (mkF m 259 #[.val (.int p0), .val (.int p1), .val (.int p2), .val (.int p3), .val (.int v1), .val (.int v2), .val (.int v56), .val (.int (2 : Int32)), .val (.int v57), .val (.int v58), .val (.ref b59), .val (.int v78), .unset, .unset, .unset, .unset, .unset] [(.int (Own.b2i (own_kept (own_put2 g v57 v56) (4 : Int32) v57 (2 : Int32) v58)))])) t
        refine XS.ifNo X88.here hx rfl (hb hby at_259) rfl ((if0 _ _).trans (feq (fun q => Own.b2i_eq0.mp q hc89)).1) ?_
        show Steps p.tables e below (T88.setTop (mkF m 262 #[.val (.int p0), .val (.int p1), .val (.int p2), .val (.int p3), .val (.int v1), .val (.int v2), .val (.int v56), .val (.int (2 : Int32)), .val (.int v57), .val (.int v58), .val (.ref b59), .val (.int v78), .unset, .unset, .unset, .unset, .unset] [])) t
        refine XS.aload X88.here hx rfl (hb hby at_262) rfl rfl ?_
        show Steps p.tables e below (T88.setTop (mkF m 264 #[.val (.int p0), .val (.int p1), .val (.int p2), .val (.int p3), .val (.int v1), .val (.int v2), .val (.int v56), .val (.int (2 : Int32)), .val (.int v57), .val (.int v58), .val (.ref b59), .val (.int v78), .unset, .unset, .unset, .unset, .unset] [(.ref b59)])) t
        refine XS.iconst X88.here hx rfl (hb hby at_264) ?_
        show Steps p.tables e below (T88.setTop (mkF m 265 #[.val (.int p0), .val (.int p1), .val (.int p2), .val (.int p3), .val (.int v1), .val (.int v2), .val (.int v56), .val (.int (2 : Int32)), .val (.int v57), .val (.int v58), .val (.ref b59), .val (.int v78), .unset, .unset, .unset, .unset, .unset] [(.int (5 : Int32)), (.ref b59)])) t
        refine XS.iload X88.here hx rfl (hb hby at_265) rfl ?_
        show Steps p.tables e below (T88.setTop (mkF m 267 #[.val (.int p0), .val (.int p1), .val (.int p2), .val (.int p3), .val (.int v1), .val (.int v2), .val (.int v56), .val (.int (2 : Int32)), .val (.int v57), .val (.int v58), .val (.ref b59), .val (.int v78), .unset, .unset, .unset, .unset, .unset] [(.int v57), (.int (5 : Int32)), (.ref b59)])) t
        refine XS.iload X88.here hx rfl (hb hby at_267) rfl ?_
        show Steps p.tables e below (T88.setTop (mkF m 269 #[.val (.int p0), .val (.int p1), .val (.int p2), .val (.int p3), .val (.int v1), .val (.int v2), .val (.int v56), .val (.int (2 : Int32)), .val (.int v57), .val (.int v58), .val (.ref b59), .val (.int v78), .unset, .unset, .unset, .unset, .unset] [(.int (2 : Int32)), (.int v57), (.int (5 : Int32)), (.ref b59)])) t
        refine XS.iload X88.here hx rfl (hb hby at_269) rfl ?_
        show Steps p.tables e below (T88.setTop (mkF m 271 #[.val (.int p0), .val (.int p1), .val (.int p2), .val (.int p3), .val (.int v1), .val (.int v2), .val (.int v56), .val (.int (2 : Int32)), .val (.int v57), .val (.int v58), .val (.ref b59), .val (.int v78), .unset, .unset, .unset, .unset, .unset] [(.int v58), (.int (2 : Int32)), (.int v57), (.int (5 : Int32)), (.ref b59)])) t
        refine st90 _ ?_
        show Steps p.tables e below (T90.setTop (mkF m 274 #[.val (.int p0), .val (.int p1), .val (.int p2), .val (.int p3), .val (.int v1), .val (.int v2), .val (.int v56), .val (.int (2 : Int32)), .val (.int v57), .val (.int v58), .val (.ref b59), .val (.int v78), .unset, .unset, .unset, .unset, .unset] [(.int (Own.b2i (own_kept (own_put2 g v57 v56) (5 : Int32) v57 (2 : Int32) v58)))])) t
        exact k
      have hc91 : (own_kept (own_put2 g v57 v56) (5 : Int32) v57 (2 : Int32) v58) = true := own_st2 g hn (by decide) (hg 5 (by decide))
      obtain ⟨T92, _, L92, X92, ⟨rfl, Nq92, e92⟩, st92⟩ := Own.callS (y := (⟨"org/wireform/json/JsonStringPutUtf8PinLaw", "kept", "([BIIIB)Z"⟩ : MethodName)) (W := 0) (argsL := [(.ref b59), (.int (6 : Int32)), (.int v57), (.int (2 : Int32)), (.int v58)]) (rest := []) X90 hx hZ hown (hw _ (List.mem_of_getElem? (i := 6) rfl)) (hw _ (List.mem_of_getElem? (i := 7) rfl)) (hw _ (List.mem_of_getElem? (i := 8) rfl)) (hw _ (List.mem_of_getElem? (i := 9) rfl)) (by decide) e90 (rm5 l Z a0 hw [] b59 (6 : Int32) v57 (2 : Int32) v58 (own_put2 g v57 v56) T77.heap n0 (by decide) A77) (by decide) (by decide) (by decide) (by decide) (g := (mkF m 287 #[.val (.int p0), .val (.int p1), .val (.int p2), .val (.int p3), .val (.int v1), .val (.int v2), .val (.int v56), .val (.int (2 : Int32)), .val (.int v57), .val (.int v58), .val (.ref b59), .val (.int v78), .unset, .unset, .unset, .unset, .unset] [(.int v58), (.int (2 : Int32)), (.int v57), (.int (6 : Int32)), (.ref b59)])) rfl (by rw [hml]; rfl) (lenOf pd_1 rfl) rfl (by show 2 * 0 + _ ≤ _; exact Nat.le_of_eq rfl) (hb hby at_287)
      have N92 := Fr.app N90 Nq92
      refine hD _ (T92.setTop (mkF m 290 #[.val (.int p0), .val (.int p1), .val (.int p2), .val (.int p3), .val (.int v1), .val (.int v2), .val (.int v56), .val (.int (2 : Int32)), .val (.int v57), .val (.int v58), .val (.ref b59), .val (.int v78), .unset, .unset, .unset, .unset, .unset] [(.int (Own.b2i (own_kept (own_put2 g v57 v56) (6 : Int32) v57 (2 : Int32) v58)))])) (fun t k => ?_) ?_
      · show Steps p.tables e below (T90.setTop (mkF m 274 #[.val (.int p0), .val (.int p1), .val (.int p2), .val (.int p3), .val (.int v1), .val (.int v2), .val (.int v56), .val (.int (2 : Int32)), .val (.int v57), .val (.int v58), .val (.ref b59), .val (.int v78), .unset, .unset, .unset, .unset, .unset] [(.int (Own.b2i (own_kept (own_put2 g v57 v56) (5 : Int32) v57 (2 : Int32) v58)))])) t
        refine XS.ifNo X90.here hx rfl (hb hby at_274) rfl ((if0 _ _).trans (feq (fun q => Own.b2i_eq0.mp q hc91)).1) ?_
        show Steps p.tables e below (T90.setTop (mkF m 277 #[.val (.int p0), .val (.int p1), .val (.int p2), .val (.int p3), .val (.int v1), .val (.int v2), .val (.int v56), .val (.int (2 : Int32)), .val (.int v57), .val (.int v58), .val (.ref b59), .val (.int v78), .unset, .unset, .unset, .unset, .unset] [])) t
        refine XS.aload X90.here hx rfl (hb hby at_277) rfl rfl ?_
        show Steps p.tables e below (T90.setTop (mkF m 279 #[.val (.int p0), .val (.int p1), .val (.int p2), .val (.int p3), .val (.int v1), .val (.int v2), .val (.int v56), .val (.int (2 : Int32)), .val (.int v57), .val (.int v58), .val (.ref b59), .val (.int v78), .unset, .unset, .unset, .unset, .unset] [(.ref b59)])) t
        refine XS.bipush X90.here hx rfl (hb hby at_279) ?_
        show Steps p.tables e below (T90.setTop (mkF m 281 #[.val (.int p0), .val (.int p1), .val (.int p2), .val (.int p3), .val (.int v1), .val (.int v2), .val (.int v56), .val (.int (2 : Int32)), .val (.int v57), .val (.int v58), .val (.ref b59), .val (.int v78), .unset, .unset, .unset, .unset, .unset] [(.int (6 : Int32)), (.ref b59)])) t
        refine XS.iload X90.here hx rfl (hb hby at_281) rfl ?_
        show Steps p.tables e below (T90.setTop (mkF m 283 #[.val (.int p0), .val (.int p1), .val (.int p2), .val (.int p3), .val (.int v1), .val (.int v2), .val (.int v56), .val (.int (2 : Int32)), .val (.int v57), .val (.int v58), .val (.ref b59), .val (.int v78), .unset, .unset, .unset, .unset, .unset] [(.int v57), (.int (6 : Int32)), (.ref b59)])) t
        refine XS.iload X90.here hx rfl (hb hby at_283) rfl ?_
        show Steps p.tables e below (T90.setTop (mkF m 285 #[.val (.int p0), .val (.int p1), .val (.int p2), .val (.int p3), .val (.int v1), .val (.int v2), .val (.int v56), .val (.int (2 : Int32)), .val (.int v57), .val (.int v58), .val (.ref b59), .val (.int v78), .unset, .unset, .unset, .unset, .unset] [(.int (2 : Int32)), (.int v57), (.int (6 : Int32)), (.ref b59)])) t
        refine XS.iload X90.here hx rfl (hb hby at_285) rfl ?_
        show Steps p.tables e below (T90.setTop (mkF m 287 #[.val (.int p0), .val (.int p1), .val (.int p2), .val (.int p3), .val (.int v1), .val (.int v2), .val (.int v56), .val (.int (2 : Int32)), .val (.int v57), .val (.int v58), .val (.ref b59), .val (.int v78), .unset, .unset, .unset, .unset, .unset] [(.int v58), (.int (2 : Int32)), (.int v57), (.int (6 : Int32)), (.ref b59)])) t
        refine st92 _ ?_
        show Steps p.tables e below (T92.setTop (mkF m 290 #[.val (.int p0), .val (.int p1), .val (.int p2), .val (.int p3), .val (.int v1), .val (.int v2), .val (.int v56), .val (.int (2 : Int32)), .val (.int v57), .val (.int v58), .val (.ref b59), .val (.int v78), .unset, .unset, .unset, .unset, .unset] [(.int (Own.b2i (own_kept (own_put2 g v57 v56) (6 : Int32) v57 (2 : Int32) v58)))])) t
        exact k
      have hc93 : (own_kept (own_put2 g v57 v56) (6 : Int32) v57 (2 : Int32) v58) = true := own_st2 g hn (by decide) (hg 6 (by decide))
      obtain ⟨T94, _, L94, X94, ⟨rfl, Nq94, e94⟩, st94⟩ := Own.callS (y := (⟨"org/wireform/json/JsonStringPutUtf8PinLaw", "kept", "([BIIIB)Z"⟩ : MethodName)) (W := 0) (argsL := [(.ref b59), (.int (7 : Int32)), (.int v57), (.int (2 : Int32)), (.int v58)]) (rest := []) X92 hx hZ hown (hw _ (List.mem_of_getElem? (i := 6) rfl)) (hw _ (List.mem_of_getElem? (i := 7) rfl)) (hw _ (List.mem_of_getElem? (i := 8) rfl)) (hw _ (List.mem_of_getElem? (i := 9) rfl)) (by decide) e92 (rm5 l Z a0 hw [] b59 (7 : Int32) v57 (2 : Int32) v58 (own_put2 g v57 v56) T77.heap n0 (by decide) A77) (by decide) (by decide) (by decide) (by decide) (g := (mkF m 303 #[.val (.int p0), .val (.int p1), .val (.int p2), .val (.int p3), .val (.int v1), .val (.int v2), .val (.int v56), .val (.int (2 : Int32)), .val (.int v57), .val (.int v58), .val (.ref b59), .val (.int v78), .unset, .unset, .unset, .unset, .unset] [(.int v58), (.int (2 : Int32)), (.int v57), (.int (7 : Int32)), (.ref b59)])) rfl (by rw [hml]; rfl) (lenOf pd_1 rfl) rfl (by show 2 * 0 + _ ≤ _; exact Nat.le_of_eq rfl) (hb hby at_303)
      have N94 := Fr.app N92 Nq94
      refine hD _ (T94.setTop (mkF m 306 #[.val (.int p0), .val (.int p1), .val (.int p2), .val (.int p3), .val (.int v1), .val (.int v2), .val (.int v56), .val (.int (2 : Int32)), .val (.int v57), .val (.int v58), .val (.ref b59), .val (.int v78), .unset, .unset, .unset, .unset, .unset] [(.int (Own.b2i (own_kept (own_put2 g v57 v56) (7 : Int32) v57 (2 : Int32) v58)))])) (fun t k => ?_) ?_
      · show Steps p.tables e below (T92.setTop (mkF m 290 #[.val (.int p0), .val (.int p1), .val (.int p2), .val (.int p3), .val (.int v1), .val (.int v2), .val (.int v56), .val (.int (2 : Int32)), .val (.int v57), .val (.int v58), .val (.ref b59), .val (.int v78), .unset, .unset, .unset, .unset, .unset] [(.int (Own.b2i (own_kept (own_put2 g v57 v56) (6 : Int32) v57 (2 : Int32) v58)))])) t
        refine XS.ifNo X92.here hx rfl (hb hby at_290) rfl ((if0 _ _).trans (feq (fun q => Own.b2i_eq0.mp q hc93)).1) ?_
        show Steps p.tables e below (T92.setTop (mkF m 293 #[.val (.int p0), .val (.int p1), .val (.int p2), .val (.int p3), .val (.int v1), .val (.int v2), .val (.int v56), .val (.int (2 : Int32)), .val (.int v57), .val (.int v58), .val (.ref b59), .val (.int v78), .unset, .unset, .unset, .unset, .unset] [])) t
        refine XS.aload X92.here hx rfl (hb hby at_293) rfl rfl ?_
        show Steps p.tables e below (T92.setTop (mkF m 295 #[.val (.int p0), .val (.int p1), .val (.int p2), .val (.int p3), .val (.int v1), .val (.int v2), .val (.int v56), .val (.int (2 : Int32)), .val (.int v57), .val (.int v58), .val (.ref b59), .val (.int v78), .unset, .unset, .unset, .unset, .unset] [(.ref b59)])) t
        refine XS.bipush X92.here hx rfl (hb hby at_295) ?_
        show Steps p.tables e below (T92.setTop (mkF m 297 #[.val (.int p0), .val (.int p1), .val (.int p2), .val (.int p3), .val (.int v1), .val (.int v2), .val (.int v56), .val (.int (2 : Int32)), .val (.int v57), .val (.int v58), .val (.ref b59), .val (.int v78), .unset, .unset, .unset, .unset, .unset] [(.int (7 : Int32)), (.ref b59)])) t
        refine XS.iload X92.here hx rfl (hb hby at_297) rfl ?_
        show Steps p.tables e below (T92.setTop (mkF m 299 #[.val (.int p0), .val (.int p1), .val (.int p2), .val (.int p3), .val (.int v1), .val (.int v2), .val (.int v56), .val (.int (2 : Int32)), .val (.int v57), .val (.int v58), .val (.ref b59), .val (.int v78), .unset, .unset, .unset, .unset, .unset] [(.int v57), (.int (7 : Int32)), (.ref b59)])) t
        refine XS.iload X92.here hx rfl (hb hby at_299) rfl ?_
        show Steps p.tables e below (T92.setTop (mkF m 301 #[.val (.int p0), .val (.int p1), .val (.int p2), .val (.int p3), .val (.int v1), .val (.int v2), .val (.int v56), .val (.int (2 : Int32)), .val (.int v57), .val (.int v58), .val (.ref b59), .val (.int v78), .unset, .unset, .unset, .unset, .unset] [(.int (2 : Int32)), (.int v57), (.int (7 : Int32)), (.ref b59)])) t
        refine XS.iload X92.here hx rfl (hb hby at_301) rfl ?_
        show Steps p.tables e below (T92.setTop (mkF m 303 #[.val (.int p0), .val (.int p1), .val (.int p2), .val (.int p3), .val (.int v1), .val (.int v2), .val (.int v56), .val (.int (2 : Int32)), .val (.int v57), .val (.int v58), .val (.ref b59), .val (.int v78), .unset, .unset, .unset, .unset, .unset] [(.int v58), (.int (2 : Int32)), (.int v57), (.int (7 : Int32)), (.ref b59)])) t
        refine st94 _ ?_
        show Steps p.tables e below (T94.setTop (mkF m 306 #[.val (.int p0), .val (.int p1), .val (.int p2), .val (.int p3), .val (.int v1), .val (.int v2), .val (.int v56), .val (.int (2 : Int32)), .val (.int v57), .val (.int v58), .val (.ref b59), .val (.int v78), .unset, .unset, .unset, .unset, .unset] [(.int (Own.b2i (own_kept (own_put2 g v57 v56) (7 : Int32) v57 (2 : Int32) v58)))])) t
        exact k
      have hc95 : (own_kept (own_put2 g v57 v56) (7 : Int32) v57 (2 : Int32) v58) = true := own_st2 g hn (by decide) (hg 7 (by decide))
      have hj96 : 0 ≤ v57.toInt ∧ v57.toInt < (8 : Nat) := (by omega)
      obtain ⟨v97, hv97⟩ : ∃ z : Int32, z = (((own_put2 g v57 v56) v57.toInt.toNat) &&& (255 : Int32)) := ⟨_, rfl⟩
      have hj98 : 0 ≤ (v57 + (1 : Int32)).toInt ∧ (v57 + (1 : Int32)).toInt < (8 : Nat) := (by omega)
      obtain ⟨v99, hv99⟩ : ∃ z : Int32, z = (((own_put2 g v57 v56) (v57 + (1 : Int32)).toInt.toNat) &&& (255 : Int32)) := ⟨_, rfl⟩
      have hj100 : 0 ≤ (v57 + (2 : Int32)).toInt ∧ (v57 + (2 : Int32)).toInt < (8 : Nat) := (by omega)
      obtain ⟨v101, hv101⟩ : ∃ z : Int32, z = (((own_put2 g v57 v56) (v57 + (2 : Int32)).toInt.toNat) &&& (255 : Int32)) := ⟨_, rfl⟩
      have hj102 : 0 ≤ (v57 + (3 : Int32)).toInt ∧ (v57 + (3 : Int32)).toInt < (8 : Nat) := (by omega)
      obtain ⟨v103, hv103⟩ : ∃ z : Int32, z = (((own_put2 g v57 v56) (v57 + (3 : Int32)).toInt.toNat) &&& (255 : Int32)) := ⟨_, rfl⟩
      have hat := own_at2 g (c := v56) hn hcp
      have hb0 : v97.toInt = 192 + v56.toInt / 64 := by rw [hv97, hat.1, own_192 (by omega)]
      have hh0 := own_hi (u := v97) (by omega)
      have hb1 : v99.toInt = 128 + v56.toInt % 64 := by rw [hv99, hat.2, own_128 _]
      have hh1 := own_hi (u := v99) (by omega)
      refine hD _ (T94.setTop (mkF m 407 #[.val (.int p0), .val (.int p1), .val (.int p2), .val (.int p3), .val (.int v1), .val (.int v2), .val (.int v56), .val (.int (2 : Int32)), .val (.int v57), .val (.int v58), .val (.ref b59), .val (.int v78), .val (.int (1 : Int32)), .val (.int v97), .val (.int v99), .val (.int v101), .val (.int v103)] [(.int (192 : Int32)), (.int (v97 &&& (224 : Int32)))])) (fun t k => ?_) ?_
      · show Steps p.tables e below (T94.setTop (mkF m 306 #[.val (.int p0), .val (.int p1), .val (.int p2), .val (.int p3), .val (.int v1), .val (.int v2), .val (.int v56), .val (.int (2 : Int32)), .val (.int v57), .val (.int v58), .val (.ref b59), .val (.int v78), .unset, .unset, .unset, .unset, .unset] [(.int (Own.b2i (own_kept (own_put2 g v57 v56) (7 : Int32) v57 (2 : Int32) v58)))])) t
        refine XS.ifNo X94.here hx rfl (hb hby at_306) rfl ((if0 _ _).trans (feq (fun q => Own.b2i_eq0.mp q hc95)).1) ?_
        show Steps p.tables e below (T94.setTop (mkF m 309 #[.val (.int p0), .val (.int p1), .val (.int p2), .val (.int p3), .val (.int v1), .val (.int v2), .val (.int v56), .val (.int (2 : Int32)), .val (.int v57), .val (.int v58), .val (.ref b59), .val (.int v78), .unset, .unset, .unset, .unset, .unset] [])) t
        refine XS.iconst X94.here hx rfl (hb hby at_309) ?_
        show Steps p.tables e below (T94.setTop (mkF m 310 #[.val (.int p0), .val (.int p1), .val (.int p2), .val (.int p3), .val (.int v1), .val (.int v2), .val (.int v56), .val (.int (2 : Int32)), .val (.int v57), .val (.int v58), .val (.ref b59), .val (.int v78), .unset, .unset, .unset, .unset, .unset] [(.int (1 : Int32))])) t
        refine XS.goto X94.here hx rfl (pc0 := 310) (pc' := 314) rfl (hb hby at_310) (by decide) (by decide) ?_
        show Steps p.tables e below (T94.setTop (mkF m 314 #[.val (.int p0), .val (.int p1), .val (.int p2), .val (.int p3), .val (.int v1), .val (.int v2), .val (.int v56), .val (.int (2 : Int32)), .val (.int v57), .val (.int v58), .val (.ref b59), .val (.int v78), .unset, .unset, .unset, .unset, .unset] [(.int (1 : Int32))])) t
        refine XS.istore X94.here hx rfl (hb hby at_314) rfl (l' := #[.val (.int p0), .val (.int p1), .val (.int p2), .val (.int p3), .val (.int v1), .val (.int v2), .val (.int v56), .val (.int (2 : Int32)), .val (.int v57), .val (.int v58), .val (.ref b59), .val (.int v78), .val (.int (1 : Int32)), .unset, .unset, .unset, .unset]) rfl ?_
        show Steps p.tables e below (T94.setTop (mkF m 316 #[.val (.int p0), .val (.int p1), .val (.int p2), .val (.int p3), .val (.int v1), .val (.int v2), .val (.int v56), .val (.int (2 : Int32)), .val (.int v57), .val (.int v58), .val (.ref b59), .val (.int v78), .val (.int (1 : Int32)), .unset, .unset, .unset, .unset] [])) t
        refine XS.iload X94.here hx rfl (hb hby at_316) rfl ?_
        show Steps p.tables e below (T94.setTop (mkF m 318 #[.val (.int p0), .val (.int p1), .val (.int p2), .val (.int p3), .val (.int v1), .val (.int v2), .val (.int v56), .val (.int (2 : Int32)), .val (.int v57), .val (.int v58), .val (.ref b59), .val (.int v78), .val (.int (1 : Int32)), .unset, .unset, .unset, .unset] [(.int (1 : Int32))])) t
        refine XS.ifYes X94.here hx rfl (pc0 := 318) (pc' := 323) rfl (hb hby at_318) rfl (by decide) (by decide) (by decide) ?_
        show Steps p.tables e below (T94.setTop (mkF m 323 #[.val (.int p0), .val (.int p1), .val (.int p2), .val (.int p3), .val (.int v1), .val (.int v2), .val (.int v56), .val (.int (2 : Int32)), .val (.int v57), .val (.int v58), .val (.ref b59), .val (.int v78), .val (.int (1 : Int32)), .unset, .unset, .unset, .unset] [])) t
        refine XS.aload X94.here hx rfl (hb hby at_323) rfl rfl ?_
        show Steps p.tables e below (T94.setTop (mkF m 325 #[.val (.int p0), .val (.int p1), .val (.int p2), .val (.int p3), .val (.int v1), .val (.int v2), .val (.int v56), .val (.int (2 : Int32)), .val (.int v57), .val (.int v58), .val (.ref b59), .val (.int v78), .val (.int (1 : Int32)), .unset, .unset, .unset, .unset] [(.ref b59)])) t
        refine XS.iload X94.here hx rfl (hb hby at_325) rfl ?_
        show Steps p.tables e below (T94.setTop (mkF m 327 #[.val (.int p0), .val (.int p1), .val (.int p2), .val (.int p3), .val (.int v1), .val (.int v2), .val (.int v56), .val (.int (2 : Int32)), .val (.int v57), .val (.int v58), .val (.ref b59), .val (.int v78), .val (.int (1 : Int32)), .unset, .unset, .unset, .unset] [(.int v57), (.ref b59)])) t
        refine Own.ldB X94 hx hZ e94 A77 hj96 (g := (mkF m 327 #[.val (.int p0), .val (.int p1), .val (.int p2), .val (.int p3), .val (.int v1), .val (.int v2), .val (.int v56), .val (.int (2 : Int32)), .val (.int v57), .val (.int v58), .val (.ref b59), .val (.int v78), .val (.int (1 : Int32)), .unset, .unset, .unset, .unset] [(.int v57), (.ref b59)])) rfl rfl (hb hby at_327) _ ?_
        show Steps p.tables e below (T94.setTop (mkF m 328 #[.val (.int p0), .val (.int p1), .val (.int p2), .val (.int p3), .val (.int v1), .val (.int v2), .val (.int v56), .val (.int (2 : Int32)), .val (.int v57), .val (.int v58), .val (.ref b59), .val (.int v78), .val (.int (1 : Int32)), .unset, .unset, .unset, .unset] [(.int ((own_put2 g v57 v56) v57.toInt.toNat))])) t
        refine XS.sipush X94.here hx rfl (hb hby at_328) ?_
        show Steps p.tables e below (T94.setTop (mkF m 331 #[.val (.int p0), .val (.int p1), .val (.int p2), .val (.int p3), .val (.int v1), .val (.int v2), .val (.int v56), .val (.int (2 : Int32)), .val (.int v57), .val (.int v58), .val (.ref b59), .val (.int v78), .val (.int (1 : Int32)), .unset, .unset, .unset, .unset] [(.int (255 : Int32)), (.int ((own_put2 g v57 v56) v57.toInt.toNat))])) t
        refine XS.iand X94.here hx rfl (hb hby at_331) rfl ?_
        show Steps p.tables e below (T94.setTop (mkF m 332 #[.val (.int p0), .val (.int p1), .val (.int p2), .val (.int p3), .val (.int v1), .val (.int v2), .val (.int v56), .val (.int (2 : Int32)), .val (.int v57), .val (.int v58), .val (.ref b59), .val (.int v78), .val (.int (1 : Int32)), .unset, .unset, .unset, .unset] [(.int (((own_put2 g v57 v56) v57.toInt.toNat) &&& (255 : Int32)))])) t
        refine Own.nmI hv97 ?_
        show Steps p.tables e below (T94.setTop (mkF m 332 #[.val (.int p0), .val (.int p1), .val (.int p2), .val (.int p3), .val (.int v1), .val (.int v2), .val (.int v56), .val (.int (2 : Int32)), .val (.int v57), .val (.int v58), .val (.ref b59), .val (.int v78), .val (.int (1 : Int32)), .unset, .unset, .unset, .unset] [(.int v97)])) t
        refine XS.istore X94.here hx rfl (hb hby at_332) rfl (l' := #[.val (.int p0), .val (.int p1), .val (.int p2), .val (.int p3), .val (.int v1), .val (.int v2), .val (.int v56), .val (.int (2 : Int32)), .val (.int v57), .val (.int v58), .val (.ref b59), .val (.int v78), .val (.int (1 : Int32)), .val (.int v97), .unset, .unset, .unset]) rfl ?_
        show Steps p.tables e below (T94.setTop (mkF m 334 #[.val (.int p0), .val (.int p1), .val (.int p2), .val (.int p3), .val (.int v1), .val (.int v2), .val (.int v56), .val (.int (2 : Int32)), .val (.int v57), .val (.int v58), .val (.ref b59), .val (.int v78), .val (.int (1 : Int32)), .val (.int v97), .unset, .unset, .unset] [])) t
        refine XS.aload X94.here hx rfl (hb hby at_334) rfl rfl ?_
        show Steps p.tables e below (T94.setTop (mkF m 336 #[.val (.int p0), .val (.int p1), .val (.int p2), .val (.int p3), .val (.int v1), .val (.int v2), .val (.int v56), .val (.int (2 : Int32)), .val (.int v57), .val (.int v58), .val (.ref b59), .val (.int v78), .val (.int (1 : Int32)), .val (.int v97), .unset, .unset, .unset] [(.ref b59)])) t
        refine XS.iload X94.here hx rfl (hb hby at_336) rfl ?_
        show Steps p.tables e below (T94.setTop (mkF m 338 #[.val (.int p0), .val (.int p1), .val (.int p2), .val (.int p3), .val (.int v1), .val (.int v2), .val (.int v56), .val (.int (2 : Int32)), .val (.int v57), .val (.int v58), .val (.ref b59), .val (.int v78), .val (.int (1 : Int32)), .val (.int v97), .unset, .unset, .unset] [(.int v57), (.ref b59)])) t
        refine XS.iconst X94.here hx rfl (hb hby at_338) ?_
        show Steps p.tables e below (T94.setTop (mkF m 339 #[.val (.int p0), .val (.int p1), .val (.int p2), .val (.int p3), .val (.int v1), .val (.int v2), .val (.int v56), .val (.int (2 : Int32)), .val (.int v57), .val (.int v58), .val (.ref b59), .val (.int v78), .val (.int (1 : Int32)), .val (.int v97), .unset, .unset, .unset] [(.int (1 : Int32)), (.int v57), (.ref b59)])) t
        refine XS.iadd X94.here hx rfl (hb hby at_339) rfl ?_
        show Steps p.tables e below (T94.setTop (mkF m 340 #[.val (.int p0), .val (.int p1), .val (.int p2), .val (.int p3), .val (.int v1), .val (.int v2), .val (.int v56), .val (.int (2 : Int32)), .val (.int v57), .val (.int v58), .val (.ref b59), .val (.int v78), .val (.int (1 : Int32)), .val (.int v97), .unset, .unset, .unset] [(.int (v57 + (1 : Int32))), (.ref b59)])) t
        refine Own.ldB X94 hx hZ e94 A77 hj98 (g := (mkF m 340 #[.val (.int p0), .val (.int p1), .val (.int p2), .val (.int p3), .val (.int v1), .val (.int v2), .val (.int v56), .val (.int (2 : Int32)), .val (.int v57), .val (.int v58), .val (.ref b59), .val (.int v78), .val (.int (1 : Int32)), .val (.int v97), .unset, .unset, .unset] [(.int (v57 + (1 : Int32))), (.ref b59)])) rfl rfl (hb hby at_340) _ ?_
        show Steps p.tables e below (T94.setTop (mkF m 341 #[.val (.int p0), .val (.int p1), .val (.int p2), .val (.int p3), .val (.int v1), .val (.int v2), .val (.int v56), .val (.int (2 : Int32)), .val (.int v57), .val (.int v58), .val (.ref b59), .val (.int v78), .val (.int (1 : Int32)), .val (.int v97), .unset, .unset, .unset] [(.int ((own_put2 g v57 v56) (v57 + (1 : Int32)).toInt.toNat))])) t
        refine XS.sipush X94.here hx rfl (hb hby at_341) ?_
        show Steps p.tables e below (T94.setTop (mkF m 344 #[.val (.int p0), .val (.int p1), .val (.int p2), .val (.int p3), .val (.int v1), .val (.int v2), .val (.int v56), .val (.int (2 : Int32)), .val (.int v57), .val (.int v58), .val (.ref b59), .val (.int v78), .val (.int (1 : Int32)), .val (.int v97), .unset, .unset, .unset] [(.int (255 : Int32)), (.int ((own_put2 g v57 v56) (v57 + (1 : Int32)).toInt.toNat))])) t
        refine XS.iand X94.here hx rfl (hb hby at_344) rfl ?_
        show Steps p.tables e below (T94.setTop (mkF m 345 #[.val (.int p0), .val (.int p1), .val (.int p2), .val (.int p3), .val (.int v1), .val (.int v2), .val (.int v56), .val (.int (2 : Int32)), .val (.int v57), .val (.int v58), .val (.ref b59), .val (.int v78), .val (.int (1 : Int32)), .val (.int v97), .unset, .unset, .unset] [(.int (((own_put2 g v57 v56) (v57 + (1 : Int32)).toInt.toNat) &&& (255 : Int32)))])) t
        refine Own.nmI hv99 ?_
        show Steps p.tables e below (T94.setTop (mkF m 345 #[.val (.int p0), .val (.int p1), .val (.int p2), .val (.int p3), .val (.int v1), .val (.int v2), .val (.int v56), .val (.int (2 : Int32)), .val (.int v57), .val (.int v58), .val (.ref b59), .val (.int v78), .val (.int (1 : Int32)), .val (.int v97), .unset, .unset, .unset] [(.int v99)])) t
        refine XS.istore X94.here hx rfl (hb hby at_345) rfl (l' := #[.val (.int p0), .val (.int p1), .val (.int p2), .val (.int p3), .val (.int v1), .val (.int v2), .val (.int v56), .val (.int (2 : Int32)), .val (.int v57), .val (.int v58), .val (.ref b59), .val (.int v78), .val (.int (1 : Int32)), .val (.int v97), .val (.int v99), .unset, .unset]) rfl ?_
        show Steps p.tables e below (T94.setTop (mkF m 347 #[.val (.int p0), .val (.int p1), .val (.int p2), .val (.int p3), .val (.int v1), .val (.int v2), .val (.int v56), .val (.int (2 : Int32)), .val (.int v57), .val (.int v58), .val (.ref b59), .val (.int v78), .val (.int (1 : Int32)), .val (.int v97), .val (.int v99), .unset, .unset] [])) t
        refine XS.aload X94.here hx rfl (hb hby at_347) rfl rfl ?_
        show Steps p.tables e below (T94.setTop (mkF m 349 #[.val (.int p0), .val (.int p1), .val (.int p2), .val (.int p3), .val (.int v1), .val (.int v2), .val (.int v56), .val (.int (2 : Int32)), .val (.int v57), .val (.int v58), .val (.ref b59), .val (.int v78), .val (.int (1 : Int32)), .val (.int v97), .val (.int v99), .unset, .unset] [(.ref b59)])) t
        refine XS.iload X94.here hx rfl (hb hby at_349) rfl ?_
        show Steps p.tables e below (T94.setTop (mkF m 351 #[.val (.int p0), .val (.int p1), .val (.int p2), .val (.int p3), .val (.int v1), .val (.int v2), .val (.int v56), .val (.int (2 : Int32)), .val (.int v57), .val (.int v58), .val (.ref b59), .val (.int v78), .val (.int (1 : Int32)), .val (.int v97), .val (.int v99), .unset, .unset] [(.int v57), (.ref b59)])) t
        refine XS.iconst X94.here hx rfl (hb hby at_351) ?_
        show Steps p.tables e below (T94.setTop (mkF m 352 #[.val (.int p0), .val (.int p1), .val (.int p2), .val (.int p3), .val (.int v1), .val (.int v2), .val (.int v56), .val (.int (2 : Int32)), .val (.int v57), .val (.int v58), .val (.ref b59), .val (.int v78), .val (.int (1 : Int32)), .val (.int v97), .val (.int v99), .unset, .unset] [(.int (2 : Int32)), (.int v57), (.ref b59)])) t
        refine XS.iadd X94.here hx rfl (hb hby at_352) rfl ?_
        show Steps p.tables e below (T94.setTop (mkF m 353 #[.val (.int p0), .val (.int p1), .val (.int p2), .val (.int p3), .val (.int v1), .val (.int v2), .val (.int v56), .val (.int (2 : Int32)), .val (.int v57), .val (.int v58), .val (.ref b59), .val (.int v78), .val (.int (1 : Int32)), .val (.int v97), .val (.int v99), .unset, .unset] [(.int (v57 + (2 : Int32))), (.ref b59)])) t
        refine Own.ldB X94 hx hZ e94 A77 hj100 (g := (mkF m 353 #[.val (.int p0), .val (.int p1), .val (.int p2), .val (.int p3), .val (.int v1), .val (.int v2), .val (.int v56), .val (.int (2 : Int32)), .val (.int v57), .val (.int v58), .val (.ref b59), .val (.int v78), .val (.int (1 : Int32)), .val (.int v97), .val (.int v99), .unset, .unset] [(.int (v57 + (2 : Int32))), (.ref b59)])) rfl rfl (hb hby at_353) _ ?_
        show Steps p.tables e below (T94.setTop (mkF m 354 #[.val (.int p0), .val (.int p1), .val (.int p2), .val (.int p3), .val (.int v1), .val (.int v2), .val (.int v56), .val (.int (2 : Int32)), .val (.int v57), .val (.int v58), .val (.ref b59), .val (.int v78), .val (.int (1 : Int32)), .val (.int v97), .val (.int v99), .unset, .unset] [(.int ((own_put2 g v57 v56) (v57 + (2 : Int32)).toInt.toNat))])) t
        refine XS.sipush X94.here hx rfl (hb hby at_354) ?_
        show Steps p.tables e below (T94.setTop (mkF m 357 #[.val (.int p0), .val (.int p1), .val (.int p2), .val (.int p3), .val (.int v1), .val (.int v2), .val (.int v56), .val (.int (2 : Int32)), .val (.int v57), .val (.int v58), .val (.ref b59), .val (.int v78), .val (.int (1 : Int32)), .val (.int v97), .val (.int v99), .unset, .unset] [(.int (255 : Int32)), (.int ((own_put2 g v57 v56) (v57 + (2 : Int32)).toInt.toNat))])) t
        refine XS.iand X94.here hx rfl (hb hby at_357) rfl ?_
        show Steps p.tables e below (T94.setTop (mkF m 358 #[.val (.int p0), .val (.int p1), .val (.int p2), .val (.int p3), .val (.int v1), .val (.int v2), .val (.int v56), .val (.int (2 : Int32)), .val (.int v57), .val (.int v58), .val (.ref b59), .val (.int v78), .val (.int (1 : Int32)), .val (.int v97), .val (.int v99), .unset, .unset] [(.int (((own_put2 g v57 v56) (v57 + (2 : Int32)).toInt.toNat) &&& (255 : Int32)))])) t
        refine Own.nmI hv101 ?_
        show Steps p.tables e below (T94.setTop (mkF m 358 #[.val (.int p0), .val (.int p1), .val (.int p2), .val (.int p3), .val (.int v1), .val (.int v2), .val (.int v56), .val (.int (2 : Int32)), .val (.int v57), .val (.int v58), .val (.ref b59), .val (.int v78), .val (.int (1 : Int32)), .val (.int v97), .val (.int v99), .unset, .unset] [(.int v101)])) t
        refine XS.istore X94.here hx rfl (hb hby at_358) rfl (l' := #[.val (.int p0), .val (.int p1), .val (.int p2), .val (.int p3), .val (.int v1), .val (.int v2), .val (.int v56), .val (.int (2 : Int32)), .val (.int v57), .val (.int v58), .val (.ref b59), .val (.int v78), .val (.int (1 : Int32)), .val (.int v97), .val (.int v99), .val (.int v101), .unset]) rfl ?_
        show Steps p.tables e below (T94.setTop (mkF m 360 #[.val (.int p0), .val (.int p1), .val (.int p2), .val (.int p3), .val (.int v1), .val (.int v2), .val (.int v56), .val (.int (2 : Int32)), .val (.int v57), .val (.int v58), .val (.ref b59), .val (.int v78), .val (.int (1 : Int32)), .val (.int v97), .val (.int v99), .val (.int v101), .unset] [])) t
        refine XS.aload X94.here hx rfl (hb hby at_360) rfl rfl ?_
        show Steps p.tables e below (T94.setTop (mkF m 362 #[.val (.int p0), .val (.int p1), .val (.int p2), .val (.int p3), .val (.int v1), .val (.int v2), .val (.int v56), .val (.int (2 : Int32)), .val (.int v57), .val (.int v58), .val (.ref b59), .val (.int v78), .val (.int (1 : Int32)), .val (.int v97), .val (.int v99), .val (.int v101), .unset] [(.ref b59)])) t
        refine XS.iload X94.here hx rfl (hb hby at_362) rfl ?_
        show Steps p.tables e below (T94.setTop (mkF m 364 #[.val (.int p0), .val (.int p1), .val (.int p2), .val (.int p3), .val (.int v1), .val (.int v2), .val (.int v56), .val (.int (2 : Int32)), .val (.int v57), .val (.int v58), .val (.ref b59), .val (.int v78), .val (.int (1 : Int32)), .val (.int v97), .val (.int v99), .val (.int v101), .unset] [(.int v57), (.ref b59)])) t
        refine XS.iconst X94.here hx rfl (hb hby at_364) ?_
        show Steps p.tables e below (T94.setTop (mkF m 365 #[.val (.int p0), .val (.int p1), .val (.int p2), .val (.int p3), .val (.int v1), .val (.int v2), .val (.int v56), .val (.int (2 : Int32)), .val (.int v57), .val (.int v58), .val (.ref b59), .val (.int v78), .val (.int (1 : Int32)), .val (.int v97), .val (.int v99), .val (.int v101), .unset] [(.int (3 : Int32)), (.int v57), (.ref b59)])) t
        refine XS.iadd X94.here hx rfl (hb hby at_365) rfl ?_
        show Steps p.tables e below (T94.setTop (mkF m 366 #[.val (.int p0), .val (.int p1), .val (.int p2), .val (.int p3), .val (.int v1), .val (.int v2), .val (.int v56), .val (.int (2 : Int32)), .val (.int v57), .val (.int v58), .val (.ref b59), .val (.int v78), .val (.int (1 : Int32)), .val (.int v97), .val (.int v99), .val (.int v101), .unset] [(.int (v57 + (3 : Int32))), (.ref b59)])) t
        refine Own.ldB X94 hx hZ e94 A77 hj102 (g := (mkF m 366 #[.val (.int p0), .val (.int p1), .val (.int p2), .val (.int p3), .val (.int v1), .val (.int v2), .val (.int v56), .val (.int (2 : Int32)), .val (.int v57), .val (.int v58), .val (.ref b59), .val (.int v78), .val (.int (1 : Int32)), .val (.int v97), .val (.int v99), .val (.int v101), .unset] [(.int (v57 + (3 : Int32))), (.ref b59)])) rfl rfl (hb hby at_366) _ ?_
        show Steps p.tables e below (T94.setTop (mkF m 367 #[.val (.int p0), .val (.int p1), .val (.int p2), .val (.int p3), .val (.int v1), .val (.int v2), .val (.int v56), .val (.int (2 : Int32)), .val (.int v57), .val (.int v58), .val (.ref b59), .val (.int v78), .val (.int (1 : Int32)), .val (.int v97), .val (.int v99), .val (.int v101), .unset] [(.int ((own_put2 g v57 v56) (v57 + (3 : Int32)).toInt.toNat))])) t
        refine XS.sipush X94.here hx rfl (hb hby at_367) ?_
        show Steps p.tables e below (T94.setTop (mkF m 370 #[.val (.int p0), .val (.int p1), .val (.int p2), .val (.int p3), .val (.int v1), .val (.int v2), .val (.int v56), .val (.int (2 : Int32)), .val (.int v57), .val (.int v58), .val (.ref b59), .val (.int v78), .val (.int (1 : Int32)), .val (.int v97), .val (.int v99), .val (.int v101), .unset] [(.int (255 : Int32)), (.int ((own_put2 g v57 v56) (v57 + (3 : Int32)).toInt.toNat))])) t
        refine XS.iand X94.here hx rfl (hb hby at_370) rfl ?_
        show Steps p.tables e below (T94.setTop (mkF m 371 #[.val (.int p0), .val (.int p1), .val (.int p2), .val (.int p3), .val (.int v1), .val (.int v2), .val (.int v56), .val (.int (2 : Int32)), .val (.int v57), .val (.int v58), .val (.ref b59), .val (.int v78), .val (.int (1 : Int32)), .val (.int v97), .val (.int v99), .val (.int v101), .unset] [(.int (((own_put2 g v57 v56) (v57 + (3 : Int32)).toInt.toNat) &&& (255 : Int32)))])) t
        refine Own.nmI hv103 ?_
        show Steps p.tables e below (T94.setTop (mkF m 371 #[.val (.int p0), .val (.int p1), .val (.int p2), .val (.int p3), .val (.int v1), .val (.int v2), .val (.int v56), .val (.int (2 : Int32)), .val (.int v57), .val (.int v58), .val (.ref b59), .val (.int v78), .val (.int (1 : Int32)), .val (.int v97), .val (.int v99), .val (.int v101), .unset] [(.int v103)])) t
        refine XS.istore X94.here hx rfl (hb hby at_371) rfl (l' := #[.val (.int p0), .val (.int p1), .val (.int p2), .val (.int p3), .val (.int v1), .val (.int v2), .val (.int v56), .val (.int (2 : Int32)), .val (.int v57), .val (.int v58), .val (.ref b59), .val (.int v78), .val (.int (1 : Int32)), .val (.int v97), .val (.int v99), .val (.int v101), .val (.int v103)]) rfl ?_
        show Steps p.tables e below (T94.setTop (mkF m 373 #[.val (.int p0), .val (.int p1), .val (.int p2), .val (.int p3), .val (.int v1), .val (.int v2), .val (.int v56), .val (.int (2 : Int32)), .val (.int v57), .val (.int v58), .val (.ref b59), .val (.int v78), .val (.int (1 : Int32)), .val (.int v97), .val (.int v99), .val (.int v101), .val (.int v103)] [])) t
        refine XS.iload X94.here hx rfl (hb hby at_373) rfl ?_
        show Steps p.tables e below (T94.setTop (mkF m 375 #[.val (.int p0), .val (.int p1), .val (.int p2), .val (.int p3), .val (.int v1), .val (.int v2), .val (.int v56), .val (.int (2 : Int32)), .val (.int v57), .val (.int v58), .val (.ref b59), .val (.int v78), .val (.int (1 : Int32)), .val (.int v97), .val (.int v99), .val (.int v101), .val (.int v103)] [(.int (2 : Int32))])) t
        refine XS.iconst X94.here hx rfl (hb hby at_375) ?_
        show Steps p.tables e below (T94.setTop (mkF m 376 #[.val (.int p0), .val (.int p1), .val (.int p2), .val (.int p3), .val (.int v1), .val (.int v2), .val (.int v56), .val (.int (2 : Int32)), .val (.int v57), .val (.int v58), .val (.ref b59), .val (.int v78), .val (.int (1 : Int32)), .val (.int v97), .val (.int v99), .val (.int v101), .val (.int v103)] [(.int (1 : Int32)), (.int (2 : Int32))])) t
        refine XS.icmpYes X94.here hx rfl (pc0 := 376) (pc' := 392) rfl (hb hby at_376) rfl (by decide) (by decide) (by decide) ?_
        show Steps p.tables e below (T94.setTop (mkF m 392 #[.val (.int p0), .val (.int p1), .val (.int p2), .val (.int p3), .val (.int v1), .val (.int v2), .val (.int v56), .val (.int (2 : Int32)), .val (.int v57), .val (.int v58), .val (.ref b59), .val (.int v78), .val (.int (1 : Int32)), .val (.int v97), .val (.int v99), .val (.int v101), .val (.int v103)] [])) t
        refine XS.iload X94.here hx rfl (hb hby at_392) rfl ?_
        show Steps p.tables e below (T94.setTop (mkF m 394 #[.val (.int p0), .val (.int p1), .val (.int p2), .val (.int p3), .val (.int v1), .val (.int v2), .val (.int v56), .val (.int (2 : Int32)), .val (.int v57), .val (.int v58), .val (.ref b59), .val (.int v78), .val (.int (1 : Int32)), .val (.int v97), .val (.int v99), .val (.int v101), .val (.int v103)] [(.int (2 : Int32))])) t
        refine XS.iconst X94.here hx rfl (hb hby at_394) ?_
        show Steps p.tables e below (T94.setTop (mkF m 395 #[.val (.int p0), .val (.int p1), .val (.int p2), .val (.int p3), .val (.int v1), .val (.int v2), .val (.int v56), .val (.int (2 : Int32)), .val (.int v57), .val (.int v58), .val (.ref b59), .val (.int v78), .val (.int (1 : Int32)), .val (.int v97), .val (.int v99), .val (.int v101), .val (.int v103)] [(.int (2 : Int32)), (.int (2 : Int32))])) t
        refine XS.icmpNo X94.here hx rfl (hb hby at_395) rfl (by decide) ?_
        show Steps p.tables e below (T94.setTop (mkF m 398 #[.val (.int p0), .val (.int p1), .val (.int p2), .val (.int p3), .val (.int v1), .val (.int v2), .val (.int v56), .val (.int (2 : Int32)), .val (.int v57), .val (.int v58), .val (.ref b59), .val (.int v78), .val (.int (1 : Int32)), .val (.int v97), .val (.int v99), .val (.int v101), .val (.int v103)] [])) t
        refine XS.iload X94.here hx rfl (hb hby at_398) rfl ?_
        show Steps p.tables e below (T94.setTop (mkF m 400 #[.val (.int p0), .val (.int p1), .val (.int p2), .val (.int p3), .val (.int v1), .val (.int v2), .val (.int v56), .val (.int (2 : Int32)), .val (.int v57), .val (.int v58), .val (.ref b59), .val (.int v78), .val (.int (1 : Int32)), .val (.int v97), .val (.int v99), .val (.int v101), .val (.int v103)] [(.int v97)])) t
        refine XS.sipush X94.here hx rfl (hb hby at_400) ?_
        show Steps p.tables e below (T94.setTop (mkF m 403 #[.val (.int p0), .val (.int p1), .val (.int p2), .val (.int p3), .val (.int v1), .val (.int v2), .val (.int v56), .val (.int (2 : Int32)), .val (.int v57), .val (.int v58), .val (.ref b59), .val (.int v78), .val (.int (1 : Int32)), .val (.int v97), .val (.int v99), .val (.int v101), .val (.int v103)] [(.int (224 : Int32)), (.int v97)])) t
        refine XS.iand X94.here hx rfl (hb hby at_403) rfl ?_
        show Steps p.tables e below (T94.setTop (mkF m 404 #[.val (.int p0), .val (.int p1), .val (.int p2), .val (.int p3), .val (.int v1), .val (.int v2), .val (.int v56), .val (.int (2 : Int32)), .val (.int v57), .val (.int v58), .val (.ref b59), .val (.int v78), .val (.int (1 : Int32)), .val (.int v97), .val (.int v99), .val (.int v101), .val (.int v103)] [(.int (v97 &&& (224 : Int32)))])) t
        refine XS.sipush X94.here hx rfl (hb hby at_404) ?_
        show Steps p.tables e below (T94.setTop (mkF m 407 #[.val (.int p0), .val (.int p1), .val (.int p2), .val (.int p3), .val (.int v1), .val (.int v2), .val (.int v56), .val (.int (2 : Int32)), .val (.int v57), .val (.int v58), .val (.ref b59), .val (.int v78), .val (.int (1 : Int32)), .val (.int v97), .val (.int v99), .val (.int v101), .val (.int v103)] [(.int (192 : Int32)), (.int (v97 &&& (224 : Int32)))])) t
        exact k
      have hc104 : (v97 &&& (224 : Int32)) = (192 : Int32) := hh0.1 (by omega)
      refine hD _ (T94.setTop (mkF m 419 #[.val (.int p0), .val (.int p1), .val (.int p2), .val (.int p3), .val (.int v1), .val (.int v2), .val (.int v56), .val (.int (2 : Int32)), .val (.int v57), .val (.int v58), .val (.ref b59), .val (.int v78), .val (.int (1 : Int32)), .val (.int v97), .val (.int v99), .val (.int v101), .val (.int v103)] [(.int (128 : Int32)), (.int (v99 &&& (192 : Int32)))])) (fun t k => ?_) ?_
      · show Steps p.tables e below (T94.setTop (mkF m 407 #[.val (.int p0), .val (.int p1), .val (.int p2), .val (.int p3), .val (.int v1), .val (.int v2), .val (.int v56), .val (.int (2 : Int32)), .val (.int v57), .val (.int v58), .val (.ref b59), .val (.int v78), .val (.int (1 : Int32)), .val (.int v97), .val (.int v99), .val (.int v101), .val (.int v103)] [(.int (192 : Int32)), (.int (v97 &&& (224 : Int32)))])) t
        refine XS.icmpNo X94.here hx rfl (hb hby at_407) rfl (teq hc104).2 ?_
        show Steps p.tables e below (T94.setTop (mkF m 410 #[.val (.int p0), .val (.int p1), .val (.int p2), .val (.int p3), .val (.int v1), .val (.int v2), .val (.int v56), .val (.int (2 : Int32)), .val (.int v57), .val (.int v58), .val (.ref b59), .val (.int v78), .val (.int (1 : Int32)), .val (.int v97), .val (.int v99), .val (.int v101), .val (.int v103)] [])) t
        refine XS.iload X94.here hx rfl (hb hby at_410) rfl ?_
        show Steps p.tables e below (T94.setTop (mkF m 412 #[.val (.int p0), .val (.int p1), .val (.int p2), .val (.int p3), .val (.int v1), .val (.int v2), .val (.int v56), .val (.int (2 : Int32)), .val (.int v57), .val (.int v58), .val (.ref b59), .val (.int v78), .val (.int (1 : Int32)), .val (.int v97), .val (.int v99), .val (.int v101), .val (.int v103)] [(.int v99)])) t
        refine XS.sipush X94.here hx rfl (hb hby at_412) ?_
        show Steps p.tables e below (T94.setTop (mkF m 415 #[.val (.int p0), .val (.int p1), .val (.int p2), .val (.int p3), .val (.int v1), .val (.int v2), .val (.int v56), .val (.int (2 : Int32)), .val (.int v57), .val (.int v58), .val (.ref b59), .val (.int v78), .val (.int (1 : Int32)), .val (.int v97), .val (.int v99), .val (.int v101), .val (.int v103)] [(.int (192 : Int32)), (.int v99)])) t
        refine XS.iand X94.here hx rfl (hb hby at_415) rfl ?_
        show Steps p.tables e below (T94.setTop (mkF m 416 #[.val (.int p0), .val (.int p1), .val (.int p2), .val (.int p3), .val (.int v1), .val (.int v2), .val (.int v56), .val (.int (2 : Int32)), .val (.int v57), .val (.int v58), .val (.ref b59), .val (.int v78), .val (.int (1 : Int32)), .val (.int v97), .val (.int v99), .val (.int v101), .val (.int v103)] [(.int (v99 &&& (192 : Int32)))])) t
        refine XS.sipush X94.here hx rfl (hb hby at_416) ?_
        show Steps p.tables e below (T94.setTop (mkF m 419 #[.val (.int p0), .val (.int p1), .val (.int p2), .val (.int p3), .val (.int v1), .val (.int v2), .val (.int v56), .val (.int (2 : Int32)), .val (.int v57), .val (.int v58), .val (.ref b59), .val (.int v78), .val (.int (1 : Int32)), .val (.int v97), .val (.int v99), .val (.int v101), .val (.int v103)] [(.int (128 : Int32)), (.int (v99 &&& (192 : Int32)))])) t
        exact k
      have hc105 : (v99 &&& (192 : Int32)) = (128 : Int32) := hh1.2.2.2 (by omega)
      refine hD _ (T94.setTop (mkF m 438 #[.val (.int p0), .val (.int p1), .val (.int p2), .val (.int p3), .val (.int v1), .val (.int v2), .val (.int v56), .val (.int (2 : Int32)), .val (.int v57), .val (.int v58), .val (.ref b59), .val (.int v78), .val (.int (1 : Int32)), .val (.int v97), .val (.int v99), .val (.int v101), .val (.int v103)] [(.int v56), (.int (((v97 &&& (31 : Int32)) <<< ((6 : Int32) &&& 31)) ||| (v99 &&& (63 : Int32))))])) (fun t k => ?_) ?_
      · show Steps p.tables e below (T94.setTop (mkF m 419 #[.val (.int p0), .val (.int p1), .val (.int p2), .val (.int p3), .val (.int v1), .val (.int v2), .val (.int v56), .val (.int (2 : Int32)), .val (.int v57), .val (.int v58), .val (.ref b59), .val (.int v78), .val (.int (1 : Int32)), .val (.int v97), .val (.int v99), .val (.int v101), .val (.int v103)] [(.int (128 : Int32)), (.int (v99 &&& (192 : Int32)))])) t
        refine XS.icmpNo X94.here hx rfl (hb hby at_419) rfl (teq hc105).2 ?_
        show Steps p.tables e below (T94.setTop (mkF m 422 #[.val (.int p0), .val (.int p1), .val (.int p2), .val (.int p3), .val (.int v1), .val (.int v2), .val (.int v56), .val (.int (2 : Int32)), .val (.int v57), .val (.int v58), .val (.ref b59), .val (.int v78), .val (.int (1 : Int32)), .val (.int v97), .val (.int v99), .val (.int v101), .val (.int v103)] [])) t
        refine XS.iload X94.here hx rfl (hb hby at_422) rfl ?_
        show Steps p.tables e below (T94.setTop (mkF m 424 #[.val (.int p0), .val (.int p1), .val (.int p2), .val (.int p3), .val (.int v1), .val (.int v2), .val (.int v56), .val (.int (2 : Int32)), .val (.int v57), .val (.int v58), .val (.ref b59), .val (.int v78), .val (.int (1 : Int32)), .val (.int v97), .val (.int v99), .val (.int v101), .val (.int v103)] [(.int v97)])) t
        refine XS.bipush X94.here hx rfl (hb hby at_424) ?_
        show Steps p.tables e below (T94.setTop (mkF m 426 #[.val (.int p0), .val (.int p1), .val (.int p2), .val (.int p3), .val (.int v1), .val (.int v2), .val (.int v56), .val (.int (2 : Int32)), .val (.int v57), .val (.int v58), .val (.ref b59), .val (.int v78), .val (.int (1 : Int32)), .val (.int v97), .val (.int v99), .val (.int v101), .val (.int v103)] [(.int (31 : Int32)), (.int v97)])) t
        refine XS.iand X94.here hx rfl (hb hby at_426) rfl ?_
        show Steps p.tables e below (T94.setTop (mkF m 427 #[.val (.int p0), .val (.int p1), .val (.int p2), .val (.int p3), .val (.int v1), .val (.int v2), .val (.int v56), .val (.int (2 : Int32)), .val (.int v57), .val (.int v58), .val (.ref b59), .val (.int v78), .val (.int (1 : Int32)), .val (.int v97), .val (.int v99), .val (.int v101), .val (.int v103)] [(.int (v97 &&& (31 : Int32)))])) t
        refine XS.bipush X94.here hx rfl (hb hby at_427) ?_
        show Steps p.tables e below (T94.setTop (mkF m 429 #[.val (.int p0), .val (.int p1), .val (.int p2), .val (.int p3), .val (.int v1), .val (.int v2), .val (.int v56), .val (.int (2 : Int32)), .val (.int v57), .val (.int v58), .val (.ref b59), .val (.int v78), .val (.int (1 : Int32)), .val (.int v97), .val (.int v99), .val (.int v101), .val (.int v103)] [(.int (6 : Int32)), (.int (v97 &&& (31 : Int32)))])) t
        refine XS.ishl X94.here hx rfl (hb hby at_429) rfl ?_
        show Steps p.tables e below (T94.setTop (mkF m 430 #[.val (.int p0), .val (.int p1), .val (.int p2), .val (.int p3), .val (.int v1), .val (.int v2), .val (.int v56), .val (.int (2 : Int32)), .val (.int v57), .val (.int v58), .val (.ref b59), .val (.int v78), .val (.int (1 : Int32)), .val (.int v97), .val (.int v99), .val (.int v101), .val (.int v103)] [(.int ((v97 &&& (31 : Int32)) <<< ((6 : Int32) &&& 31)))])) t
        refine XS.iload X94.here hx rfl (hb hby at_430) rfl ?_
        show Steps p.tables e below (T94.setTop (mkF m 432 #[.val (.int p0), .val (.int p1), .val (.int p2), .val (.int p3), .val (.int v1), .val (.int v2), .val (.int v56), .val (.int (2 : Int32)), .val (.int v57), .val (.int v58), .val (.ref b59), .val (.int v78), .val (.int (1 : Int32)), .val (.int v97), .val (.int v99), .val (.int v101), .val (.int v103)] [(.int v99), (.int ((v97 &&& (31 : Int32)) <<< ((6 : Int32) &&& 31)))])) t
        refine XS.bipush X94.here hx rfl (hb hby at_432) ?_
        show Steps p.tables e below (T94.setTop (mkF m 434 #[.val (.int p0), .val (.int p1), .val (.int p2), .val (.int p3), .val (.int v1), .val (.int v2), .val (.int v56), .val (.int (2 : Int32)), .val (.int v57), .val (.int v58), .val (.ref b59), .val (.int v78), .val (.int (1 : Int32)), .val (.int v97), .val (.int v99), .val (.int v101), .val (.int v103)] [(.int (63 : Int32)), (.int v99), (.int ((v97 &&& (31 : Int32)) <<< ((6 : Int32) &&& 31)))])) t
        refine XS.iand X94.here hx rfl (hb hby at_434) rfl ?_
        show Steps p.tables e below (T94.setTop (mkF m 435 #[.val (.int p0), .val (.int p1), .val (.int p2), .val (.int p3), .val (.int v1), .val (.int v2), .val (.int v56), .val (.int (2 : Int32)), .val (.int v57), .val (.int v58), .val (.ref b59), .val (.int v78), .val (.int (1 : Int32)), .val (.int v97), .val (.int v99), .val (.int v101), .val (.int v103)] [(.int (v99 &&& (63 : Int32))), (.int ((v97 &&& (31 : Int32)) <<< ((6 : Int32) &&& 31)))])) t
        refine XS.ior X94.here hx rfl (hb hby at_435) rfl ?_
        show Steps p.tables e below (T94.setTop (mkF m 436 #[.val (.int p0), .val (.int p1), .val (.int p2), .val (.int p3), .val (.int v1), .val (.int v2), .val (.int v56), .val (.int (2 : Int32)), .val (.int v57), .val (.int v58), .val (.ref b59), .val (.int v78), .val (.int (1 : Int32)), .val (.int v97), .val (.int v99), .val (.int v101), .val (.int v103)] [(.int (((v97 &&& (31 : Int32)) <<< ((6 : Int32) &&& 31)) ||| (v99 &&& (63 : Int32))))])) t
        refine XS.iload X94.here hx rfl (hb hby at_436) rfl ?_
        show Steps p.tables e below (T94.setTop (mkF m 438 #[.val (.int p0), .val (.int p1), .val (.int p2), .val (.int p3), .val (.int v1), .val (.int v2), .val (.int v56), .val (.int (2 : Int32)), .val (.int v57), .val (.int v58), .val (.ref b59), .val (.int v78), .val (.int (1 : Int32)), .val (.int v97), .val (.int v99), .val (.int v101), .val (.int v103)] [(.int v56), (.int (((v97 &&& (31 : Int32)) <<< ((6 : Int32) &&& 31)) ||| (v99 &&& (63 : Int32))))])) t
        exact k
      have hc106 : (((v97 &&& (31 : Int32)) <<< ((6 : Int32) &&& 31)) ||| (v99 &&& (63 : Int32))) = v56 := own_c2 hcp hb0 hb1
      refine hD _ (T94.setTop (mkF m 446 #[.val (.int p0), .val (.int p1), .val (.int p2), .val (.int p3), .val (.int v1), .val (.int v2), .val (.int v56), .val (.int (2 : Int32)), .val (.int v57), .val (.int v58), .val (.ref b59), .val (.int v78), .val (.int (1 : Int32)), .val (.int v97), .val (.int v99), .val (.int v101), .val (.int v103)] [(.int (1 : Int32))])) (fun t k => ?_) ?_
      · show Steps p.tables e below (T94.setTop (mkF m 438 #[.val (.int p0), .val (.int p1), .val (.int p2), .val (.int p3), .val (.int v1), .val (.int v2), .val (.int v56), .val (.int (2 : Int32)), .val (.int v57), .val (.int v58), .val (.ref b59), .val (.int v78), .val (.int (1 : Int32)), .val (.int v97), .val (.int v99), .val (.int v101), .val (.int v103)] [(.int v56), (.int (((v97 &&& (31 : Int32)) <<< ((6 : Int32) &&& 31)) ||| (v99 &&& (63 : Int32))))])) t
        refine XS.icmpNo X94.here hx rfl (hb hby at_438) rfl (teq hc106).2 ?_
        show Steps p.tables e below (T94.setTop (mkF m 441 #[.val (.int p0), .val (.int p1), .val (.int p2), .val (.int p3), .val (.int v1), .val (.int v2), .val (.int v56), .val (.int (2 : Int32)), .val (.int v57), .val (.int v58), .val (.ref b59), .val (.int v78), .val (.int (1 : Int32)), .val (.int v97), .val (.int v99), .val (.int v101), .val (.int v103)] [])) t
        refine XS.iconst X94.here hx rfl (hb hby at_441) ?_
        show Steps p.tables e below (T94.setTop (mkF m 442 #[.val (.int p0), .val (.int p1), .val (.int p2), .val (.int p3), .val (.int v1), .val (.int v2), .val (.int v56), .val (.int (2 : Int32)), .val (.int v57), .val (.int v58), .val (.ref b59), .val (.int v78), .val (.int (1 : Int32)), .val (.int v97), .val (.int v99), .val (.int v101), .val (.int v103)] [(.int (1 : Int32))])) t
        refine XS.goto X94.here hx rfl (pc0 := 442) (pc' := 446) rfl (hb hby at_442) (by decide) (by decide) ?_
        show Steps p.tables e below (T94.setTop (mkF m 446 #[.val (.int p0), .val (.int p1), .val (.int p2), .val (.int p3), .val (.int v1), .val (.int v2), .val (.int v56), .val (.int (2 : Int32)), .val (.int v57), .val (.int v58), .val (.ref b59), .val (.int v78), .val (.int (1 : Int32)), .val (.int v97), .val (.int v99), .val (.int v101), .val (.int v103)] [(.int (1 : Int32))])) t
        exact k
      exact Own.retN hR X94 hx (t := .boolean) hret (by simp) (hb hby at_446) (by decide) (by decide) (by decide) ⟨rfl, N94⟩
    · refine hD _ (s₁.setTop (mkF m 57 #[.val (.int p0), .val (.int p1), .val (.int p2), .val (.int p3), .val (.int v1), .val (.int v2), .unset, .unset, .unset, .unset, .unset, .unset, .unset, .unset, .unset, .unset, .unset] [(.int (2 : Int32)), (.int v1)])) (fun t k => ?_) ?_
      · show Steps p.tables e below (s₁.setTop (mkF m 33 #[.val (.int p0), .val (.int p1), .val (.int p2), .val (.int p3), .val (.int v1), .val (.int v2), .unset, .unset, .unset, .unset, .unset, .unset, .unset, .unset, .unset, .unset, .unset] [(.int (1 : Int32)), (.int v1)])) t
        refine XS.icmpYes X0.here hx rfl (pc0 := 33) (pc' := 54) rfl (hb hby at_33) rfl (feq hc54).2 (by decide) (by decide) ?_
        show Steps p.tables e below (s₁.setTop (mkF m 54 #[.val (.int p0), .val (.int p1), .val (.int p2), .val (.int p3), .val (.int v1), .val (.int v2), .unset, .unset, .unset, .unset, .unset, .unset, .unset, .unset, .unset, .unset, .unset] [])) t
        refine XS.iload X0.here hx rfl (hb hby at_54) rfl ?_
        show Steps p.tables e below (s₁.setTop (mkF m 56 #[.val (.int p0), .val (.int p1), .val (.int p2), .val (.int p3), .val (.int v1), .val (.int v2), .unset, .unset, .unset, .unset, .unset, .unset, .unset, .unset, .unset, .unset, .unset] [(.int v1)])) t
        refine XS.iconst X0.here hx rfl (hb hby at_56) ?_
        show Steps p.tables e below (s₁.setTop (mkF m 57 #[.val (.int p0), .val (.int p1), .val (.int p2), .val (.int p3), .val (.int v1), .val (.int v2), .unset, .unset, .unset, .unset, .unset, .unset, .unset, .unset, .unset, .unset, .unset] [(.int (2 : Int32)), (.int v1)])) t
        exact k
      by_cases hc107 : v1 = (2 : Int32)
      · have hnz108 : (61440 : Int32) ≠ 0 := by decide
        obtain ⟨v109, hv109⟩ : ∃ z : Int32, z = ((2048 : Int32) + (v2 % (61440 : Int32))) := ⟨_, rfl⟩
        have hrm := own_rm (m := 61440) (M := 61440) hu (by decide) (by decide)
        have hv8 := own_ad hv109 (by decide) (by omega)
        rw [own_l2048] at hv8
        refine hD _ (s₁.setTop (mkF m 71 #[.val (.int p0), .val (.int p1), .val (.int p2), .val (.int p3), .val (.int v1), .val (.int v2), .unset, .unset, .val (.int v109), .unset, .unset, .unset, .unset, .unset, .unset, .unset, .unset] [])) (fun t k => ?_) ?_
        · show Steps p.tables e below (s₁.setTop (mkF m 57 #[.val (.int p0), .val (.int p1), .val (.int p2), .val (.int p3), .val (.int v1), .val (.int v2), .unset, .unset, .unset, .unset, .unset, .unset, .unset, .unset, .unset, .unset, .unset] [(.int (2 : Int32)), (.int v1)])) t
          refine XS.icmpNo X0.here hx rfl (hb hby at_57) rfl (teq hc107).2 ?_
          show Steps p.tables e below (s₁.setTop (mkF m 60 #[.val (.int p0), .val (.int p1), .val (.int p2), .val (.int p3), .val (.int v1), .val (.int v2), .unset, .unset, .unset, .unset, .unset, .unset, .unset, .unset, .unset, .unset, .unset] [])) t
          refine XS.sipush X0.here hx rfl (hb hby at_60) ?_
          show Steps p.tables e below (s₁.setTop (mkF m 63 #[.val (.int p0), .val (.int p1), .val (.int p2), .val (.int p3), .val (.int v1), .val (.int v2), .unset, .unset, .unset, .unset, .unset, .unset, .unset, .unset, .unset, .unset, .unset] [(.int (2048 : Int32))])) t
          refine XS.iload X0.here hx rfl (hb hby at_63) rfl ?_
          show Steps p.tables e below (s₁.setTop (mkF m 65 #[.val (.int p0), .val (.int p1), .val (.int p2), .val (.int p3), .val (.int v1), .val (.int v2), .unset, .unset, .unset, .unset, .unset, .unset, .unset, .unset, .unset, .unset, .unset] [(.int v2), (.int (2048 : Int32))])) t
          refine X0.ldcInt hx hown (mvT hZ (hw _ (List.mem_of_getElem? (i := 13) rfl))) (g := (mkF m 65 #[.val (.int p0), .val (.int p1), .val (.int p2), .val (.int p3), .val (.int v1), .val (.int v2), .unset, .unset, .unset, .unset, .unset, .unset, .unset, .unset, .unset, .unset, .unset] [(.int v2), (.int (2048 : Int32))])) rfl (hb hby at_65) _ ?_
          show Steps p.tables e below (s₁.setTop (mkF m 67 #[.val (.int p0), .val (.int p1), .val (.int p2), .val (.int p3), .val (.int v1), .val (.int v2), .unset, .unset, .unset, .unset, .unset, .unset, .unset, .unset, .unset, .unset, .unset] [(.int (61440 : Int32)), (.int v2), (.int (2048 : Int32))])) t
          refine Jvm.RoadKit.iremM (g := (mkF m 67 #[.val (.int p0), .val (.int p1), .val (.int p2), .val (.int p3), .val (.int v1), .val (.int v2), .unset, .unset, .unset, .unset, .unset, .unset, .unset, .unset, .unset, .unset, .unset] [(.int (61440 : Int32)), (.int v2), (.int (2048 : Int32))])) X0 hx rfl (hb hby at_67) rfl hnz108 ?_
          show Steps p.tables e below (s₁.setTop (mkF m 68 #[.val (.int p0), .val (.int p1), .val (.int p2), .val (.int p3), .val (.int v1), .val (.int v2), .unset, .unset, .unset, .unset, .unset, .unset, .unset, .unset, .unset, .unset, .unset] [(.int (v2 % (61440 : Int32))), (.int (2048 : Int32))])) t
          refine XS.iadd X0.here hx rfl (hb hby at_68) rfl ?_
          show Steps p.tables e below (s₁.setTop (mkF m 69 #[.val (.int p0), .val (.int p1), .val (.int p2), .val (.int p3), .val (.int v1), .val (.int v2), .unset, .unset, .unset, .unset, .unset, .unset, .unset, .unset, .unset, .unset, .unset] [(.int ((2048 : Int32) + (v2 % (61440 : Int32))))])) t
          refine Own.nmI hv109 ?_
          show Steps p.tables e below (s₁.setTop (mkF m 69 #[.val (.int p0), .val (.int p1), .val (.int p2), .val (.int p3), .val (.int v1), .val (.int v2), .unset, .unset, .unset, .unset, .unset, .unset, .unset, .unset, .unset, .unset, .unset] [(.int v109)])) t
          refine XS.istore X0.here hx rfl (hb hby at_69) rfl (l' := #[.val (.int p0), .val (.int p1), .val (.int p2), .val (.int p3), .val (.int v1), .val (.int v2), .unset, .unset, .val (.int v109), .unset, .unset, .unset, .unset, .unset, .unset, .unset, .unset]) rfl ?_
          show Steps p.tables e below (s₁.setTop (mkF m 71 #[.val (.int p0), .val (.int p1), .val (.int p2), .val (.int p3), .val (.int v1), .val (.int v2), .unset, .unset, .val (.int v109), .unset, .unset, .unset, .unset, .unset, .unset, .unset, .unset] [])) t
          exact k
        have J84 : ∀ (T110 : State) (locs110 : List Loc) (y : Int32), Stand p l e room_1 s m #[(.int p0), (.int p1), (.int p2), (.int p3)] below meth c T110 locs110 0 0 → T110.heap = h0 → Fr n0 locs110 → 2048 ≤ y.toInt ∧ y.toInt ≤ 65535 → D (T110.setTop (mkF m 84 #[.val (.int p0), .val (.int p1), .val (.int p2), .val (.int p3), .val (.int v1), .val (.int v2), .unset, .unset, .val (.int y), .unset, .unset, .unset, .unset, .unset, .unset, .unset, .unset] [])) := by
          intro T110 locs110 y X110 e110 N110 hcp
          obtain ⟨v111, hv111⟩ : ∃ z : Int32, z = (p2 &&& (3 : Int32)) := ⟨_, rfl⟩
          have hn := own_n hv111
          have hix := own_ix hn
          obtain ⟨v112, hv112⟩ : ∃ z : Int32, z = (p3.toInt8.toInt32) := ⟨_, rfl⟩
          obtain ⟨T113, h113, k113, X113, e113, E113, A113, st113⟩ := newP X110 hx hZ (hw _ (List.mem_of_getElem? (i := 1) rfl)) e110 (g := (mkF m 118 #[.val (.int p0), .val (.int p1), .val (.int p2), .val (.int p3), .val (.int v1), .val (.int v2), .val (.int y), .val (.int (3 : Int32)), .val (.int v111), .val (.int v112), .unset, .unset, .unset, .unset, .unset, .unset, .unset] [(.int (8 : Int32))])) rfl (hb hby at_118) rfl (by decide) (cap := 8) (by decide) (by decide) (by decide) (by decide)
          obtain ⟨b113, g_b113⟩ : ∃ z : Nat, z = h0.size := ⟨_, rfl⟩
          rw [← g_b113] at A113 st113
          have g0_b113 : n0 ≤ b113 := by rw [g_b113]; exact Z0
          have f114 : Own.AvI Z h113 b113 .byte 8 (fun _ => 0) := Own.AvI.new A113 (by decide) rfl
          have Z113 : n0 ≤ h113.size := Nat.le_trans Z0 E113.1
          have hj115 : 0 ≤ (0 : Int32).toInt ∧ (0 : Int32).toInt < (8 : Nat) := ⟨by decide, by decide⟩
          obtain ⟨T116, h116, X116, e116, A116, W116, st116⟩ := Own.stoB X113 hx hZ e113 f114 hj115 (g := (mkF m 124 #[.val (.int p0), .val (.int p1), .val (.int p2), .val (.int p3), .val (.int v1), .val (.int v2), .val (.int y), .val (.int (3 : Int32)), .val (.int v111), .val (.int v112), .unset, .unset, .unset, .unset, .unset, .unset, .unset] [(.int v112), (.int (0 : Int32)), (.ref b113), (.ref b113)])) rfl rfl (hb hby at_124)
          have N116 := Fr.snoc X116 N110 (show n0 ≤ b113 by omega)
          have Z116 : n0 ≤ h116.size := Nat.le_trans Z113 (Keep.of_wr W116).1
          have hj117 : 0 ≤ (1 : Int32).toInt ∧ (1 : Int32).toInt < (8 : Nat) := ⟨by decide, by decide⟩
          obtain ⟨T118, h118, X118, e118, A118, W118, st118⟩ := Own.stoB X116 hx hZ e116 A116 hj117 (g := (mkF m 129 #[.val (.int p0), .val (.int p1), .val (.int p2), .val (.int p3), .val (.int v1), .val (.int v2), .val (.int y), .val (.int (3 : Int32)), .val (.int v111), .val (.int v112), .unset, .unset, .unset, .unset, .unset, .unset, .unset] [(.int v112), (.int (1 : Int32)), (.ref b113), (.ref b113)])) rfl rfl (hb hby at_129)
          have N118 := Fr.snoc X118 N116 (show n0 ≤ b113 by omega)
          have Z118 : n0 ≤ h118.size := Nat.le_trans Z116 (Keep.of_wr W118).1
          have hj119 : 0 ≤ (2 : Int32).toInt ∧ (2 : Int32).toInt < (8 : Nat) := ⟨by decide, by decide⟩
          obtain ⟨T120, h120, X120, e120, A120, W120, st120⟩ := Own.stoB X118 hx hZ e118 A118 hj119 (g := (mkF m 134 #[.val (.int p0), .val (.int p1), .val (.int p2), .val (.int p3), .val (.int v1), .val (.int v2), .val (.int y), .val (.int (3 : Int32)), .val (.int v111), .val (.int v112), .unset, .unset, .unset, .unset, .unset, .unset, .unset] [(.int v112), (.int (2 : Int32)), (.ref b113), (.ref b113)])) rfl rfl (hb hby at_134)
          have N120 := Fr.snoc X120 N118 (show n0 ≤ b113 by omega)
          have Z120 : n0 ≤ h120.size := Nat.le_trans Z118 (Keep.of_wr W120).1
          have hj121 : 0 ≤ (3 : Int32).toInt ∧ (3 : Int32).toInt < (8 : Nat) := ⟨by decide, by decide⟩
          obtain ⟨T122, h122, X122, e122, A122, W122, st122⟩ := Own.stoB X120 hx hZ e120 A120 hj121 (g := (mkF m 139 #[.val (.int p0), .val (.int p1), .val (.int p2), .val (.int p3), .val (.int v1), .val (.int v2), .val (.int y), .val (.int (3 : Int32)), .val (.int v111), .val (.int v112), .unset, .unset, .unset, .unset, .unset, .unset, .unset] [(.int v112), (.int (3 : Int32)), (.ref b113), (.ref b113)])) rfl rfl (hb hby at_139)
          have N122 := Fr.snoc X122 N120 (show n0 ≤ b113 by omega)
          have Z122 : n0 ≤ h122.size := Nat.le_trans Z120 (Keep.of_wr W122).1
          have hj123 : 0 ≤ (4 : Int32).toInt ∧ (4 : Int32).toInt < (8 : Nat) := ⟨by decide, by decide⟩
          obtain ⟨T124, h124, X124, e124, A124, W124, st124⟩ := Own.stoB X122 hx hZ e122 A122 hj123 (g := (mkF m 144 #[.val (.int p0), .val (.int p1), .val (.int p2), .val (.int p3), .val (.int v1), .val (.int v2), .val (.int y), .val (.int (3 : Int32)), .val (.int v111), .val (.int v112), .unset, .unset, .unset, .unset, .unset, .unset, .unset] [(.int v112), (.int (4 : Int32)), (.ref b113), (.ref b113)])) rfl rfl (hb hby at_144)
          have N124 := Fr.snoc X124 N122 (show n0 ≤ b113 by omega)
          have Z124 : n0 ≤ h124.size := Nat.le_trans Z122 (Keep.of_wr W124).1
          have hj125 : 0 ≤ (5 : Int32).toInt ∧ (5 : Int32).toInt < (8 : Nat) := ⟨by decide, by decide⟩
          obtain ⟨T126, h126, X126, e126, A126, W126, st126⟩ := Own.stoB X124 hx hZ e124 A124 hj125 (g := (mkF m 149 #[.val (.int p0), .val (.int p1), .val (.int p2), .val (.int p3), .val (.int v1), .val (.int v2), .val (.int y), .val (.int (3 : Int32)), .val (.int v111), .val (.int v112), .unset, .unset, .unset, .unset, .unset, .unset, .unset] [(.int v112), (.int (5 : Int32)), (.ref b113), (.ref b113)])) rfl rfl (hb hby at_149)
          have N126 := Fr.snoc X126 N124 (show n0 ≤ b113 by omega)
          have Z126 : n0 ≤ h126.size := Nat.le_trans Z124 (Keep.of_wr W126).1
          have hj127 : 0 ≤ (6 : Int32).toInt ∧ (6 : Int32).toInt < (8 : Nat) := ⟨by decide, by decide⟩
          obtain ⟨T128, h128, X128, e128, A128, W128, st128⟩ := Own.stoB X126 hx hZ e126 A126 hj127 (g := (mkF m 155 #[.val (.int p0), .val (.int p1), .val (.int p2), .val (.int p3), .val (.int v1), .val (.int v2), .val (.int y), .val (.int (3 : Int32)), .val (.int v111), .val (.int v112), .unset, .unset, .unset, .unset, .unset, .unset, .unset] [(.int v112), (.int (6 : Int32)), (.ref b113), (.ref b113)])) rfl rfl (hb hby at_155)
          have N128 := Fr.snoc X128 N126 (show n0 ≤ b113 by omega)
          have Z128 : n0 ≤ h128.size := Nat.le_trans Z126 (Keep.of_wr W128).1
          have hj129 : 0 ≤ (7 : Int32).toInt ∧ (7 : Int32).toInt < (8 : Nat) := ⟨by decide, by decide⟩
          obtain ⟨T130, h130, X130, e130, A130, W130, st130⟩ := Own.stoB X128 hx hZ e128 A128 hj129 (g := (mkF m 161 #[.val (.int p0), .val (.int p1), .val (.int p2), .val (.int p3), .val (.int v1), .val (.int v2), .val (.int y), .val (.int (3 : Int32)), .val (.int v111), .val (.int v112), .unset, .unset, .unset, .unset, .unset, .unset, .unset] [(.int v112), (.int (7 : Int32)), (.ref b113), (.ref b113)])) rfl rfl (hb hby at_161)
          have N130 := Fr.snoc X130 N128 (show n0 ≤ b113 by omega)
          have Z130 : n0 ≤ h130.size := Nat.le_trans Z128 (Keep.of_wr W130).1
          obtain ⟨g, Ag, hg⟩ : ∃ z : Nat → Int32, Own.AvI Z h130 b113 .byte 8 z ∧ ∀ i, i < 8 → z i = v112 := ⟨_, A130, fun i hi => by
            have q := own_nar hv112
            match i, hi with
            | 0, _ => exact q
            | 1, _ => exact q
            | 2, _ => exact q
            | 3, _ => exact q
            | 4, _ => exact q
            | 5, _ => exact q
            | 6, _ => exact q
            | 7, _ => exact q⟩
          obtain ⟨T131, _, L131, X131, ⟨rfl, Nq131, A131⟩, st131⟩ := Own.callS (y := (⟨"org/wireform/json/JsonString", "putUtf8", "([BII)I"⟩ : MethodName)) (W := 0) (argsL := [(.ref b113), (.int v111), (.int y)]) (rest := []) X130 hx hZ hown (hw _ (List.mem_of_getElem? (i := 2) rfl)) (hw _ (List.mem_of_getElem? (i := 3) rfl)) (hw _ (List.mem_of_getElem? (i := 4) rfl)) (hw _ (List.mem_of_getElem? (i := 5) rfl)) (by decide) e130 (rm3 l Z a0 hw [] b113 v111 y g h130 n0 Z130 g0_b113 hn hcp Ag) (by decide) (by decide) (by decide) (by decide) (g := (mkF m 170 #[.val (.int p0), .val (.int p1), .val (.int p2), .val (.int p3), .val (.int v1), .val (.int v2), .val (.int y), .val (.int (3 : Int32)), .val (.int v111), .val (.int v112), .val (.ref b113), .unset, .unset, .unset, .unset, .unset, .unset] [(.int y), (.int v111), (.ref b113)])) rfl (by rw [hml]; rfl) (lenOf pd_0 rfl) rfl (by show 2 * 0 + _ ≤ _; exact Nat.le_of_eq rfl) (hb hby at_170)
          have N131 := Fr.app N130 Nq131
          obtain ⟨v132, hv132⟩ : ∃ z : Int32, z = (v111 + (3 : Int32)) := ⟨_, rfl⟩
          refine hD _ (T131.setTop (mkF m 182 #[.val (.int p0), .val (.int p1), .val (.int p2), .val (.int p3), .val (.int v1), .val (.int v2), .val (.int y), .val (.int (3 : Int32)), .val (.int v111), .val (.int v112), .val (.ref b113), .val (.int v132), .unset, .unset, .unset, .unset, .unset] [(.int (v111 + (3 : Int32))), (.int v132)])) (fun t k => ?_) ?_
          · show Steps p.tables e below (T110.setTop (mkF m 84 #[.val (.int p0), .val (.int p1), .val (.int p2), .val (.int p3), .val (.int v1), .val (.int v2), .unset, .unset, .val (.int y), .unset, .unset, .unset, .unset, .unset, .unset, .unset, .unset] [])) t
            refine XS.iload X110.here hx rfl (hb hby at_84) rfl ?_
            show Steps p.tables e below (T110.setTop (mkF m 86 #[.val (.int p0), .val (.int p1), .val (.int p2), .val (.int p3), .val (.int v1), .val (.int v2), .unset, .unset, .val (.int y), .unset, .unset, .unset, .unset, .unset, .unset, .unset, .unset] [(.int y)])) t
            refine XS.istore X110.here hx rfl (hb hby at_86) rfl (l' := #[.val (.int p0), .val (.int p1), .val (.int p2), .val (.int p3), .val (.int v1), .val (.int v2), .val (.int y), .unset, .val (.int y), .unset, .unset, .unset, .unset, .unset, .unset, .unset, .unset]) rfl ?_
            show Steps p.tables e below (T110.setTop (mkF m 88 #[.val (.int p0), .val (.int p1), .val (.int p2), .val (.int p3), .val (.int v1), .val (.int v2), .val (.int y), .unset, .val (.int y), .unset, .unset, .unset, .unset, .unset, .unset, .unset, .unset] [])) t
            refine XS.iconst X110.here hx rfl (hb hby at_88) ?_
            show Steps p.tables e below (T110.setTop (mkF m 89 #[.val (.int p0), .val (.int p1), .val (.int p2), .val (.int p3), .val (.int v1), .val (.int v2), .val (.int y), .unset, .val (.int y), .unset, .unset, .unset, .unset, .unset, .unset, .unset, .unset] [(.int (3 : Int32))])) t
            refine XS.istore X110.here hx rfl (hb hby at_89) rfl (l' := #[.val (.int p0), .val (.int p1), .val (.int p2), .val (.int p3), .val (.int v1), .val (.int v2), .val (.int y), .val (.int (3 : Int32)), .val (.int y), .unset, .unset, .unset, .unset, .unset, .unset, .unset, .unset]) rfl ?_
            show Steps p.tables e below (T110.setTop (mkF m 91 #[.val (.int p0), .val (.int p1), .val (.int p2), .val (.int p3), .val (.int v1), .val (.int v2), .val (.int y), .val (.int (3 : Int32)), .val (.int y), .unset, .unset, .unset, .unset, .unset, .unset, .unset, .unset] [])) t
            refine XS.goto X110.here hx rfl (pc0 := 91) (pc' := 107) rfl (hb hby at_91) (by decide) (by decide) ?_
            show Steps p.tables e below (T110.setTop (mkF m 107 #[.val (.int p0), .val (.int p1), .val (.int p2), .val (.int p3), .val (.int v1), .val (.int v2), .val (.int y), .val (.int (3 : Int32)), .val (.int y), .unset, .unset, .unset, .unset, .unset, .unset, .unset, .unset] [])) t
            refine XS.iloadN X110.here hx rfl (hb hby at_107) rfl ?_
            show Steps p.tables e below (T110.setTop (mkF m 108 #[.val (.int p0), .val (.int p1), .val (.int p2), .val (.int p3), .val (.int v1), .val (.int v2), .val (.int y), .val (.int (3 : Int32)), .val (.int y), .unset, .unset, .unset, .unset, .unset, .unset, .unset, .unset] [(.int p2)])) t
            refine XS.iconst X110.here hx rfl (hb hby at_108) ?_
            show Steps p.tables e below (T110.setTop (mkF m 109 #[.val (.int p0), .val (.int p1), .val (.int p2), .val (.int p3), .val (.int v1), .val (.int v2), .val (.int y), .val (.int (3 : Int32)), .val (.int y), .unset, .unset, .unset, .unset, .unset, .unset, .unset, .unset] [(.int (3 : Int32)), (.int p2)])) t
            refine XS.iand X110.here hx rfl (hb hby at_109) rfl ?_
            show Steps p.tables e below (T110.setTop (mkF m 110 #[.val (.int p0), .val (.int p1), .val (.int p2), .val (.int p3), .val (.int v1), .val (.int v2), .val (.int y), .val (.int (3 : Int32)), .val (.int y), .unset, .unset, .unset, .unset, .unset, .unset, .unset, .unset] [(.int (p2 &&& (3 : Int32)))])) t
            refine Own.nmI hv111 ?_
            show Steps p.tables e below (T110.setTop (mkF m 110 #[.val (.int p0), .val (.int p1), .val (.int p2), .val (.int p3), .val (.int v1), .val (.int v2), .val (.int y), .val (.int (3 : Int32)), .val (.int y), .unset, .unset, .unset, .unset, .unset, .unset, .unset, .unset] [(.int v111)])) t
            refine XS.istore X110.here hx rfl (hb hby at_110) rfl (l' := #[.val (.int p0), .val (.int p1), .val (.int p2), .val (.int p3), .val (.int v1), .val (.int v2), .val (.int y), .val (.int (3 : Int32)), .val (.int v111), .unset, .unset, .unset, .unset, .unset, .unset, .unset, .unset]) rfl ?_
            show Steps p.tables e below (T110.setTop (mkF m 112 #[.val (.int p0), .val (.int p1), .val (.int p2), .val (.int p3), .val (.int v1), .val (.int v2), .val (.int y), .val (.int (3 : Int32)), .val (.int v111), .unset, .unset, .unset, .unset, .unset, .unset, .unset, .unset] [])) t
            refine XS.iloadN X110.here hx rfl (hb hby at_112) rfl ?_
            show Steps p.tables e below (T110.setTop (mkF m 113 #[.val (.int p0), .val (.int p1), .val (.int p2), .val (.int p3), .val (.int v1), .val (.int v2), .val (.int y), .val (.int (3 : Int32)), .val (.int v111), .unset, .unset, .unset, .unset, .unset, .unset, .unset, .unset] [(.int p3)])) t
            refine XS.i2b X110.here hx rfl (hb hby at_113) rfl ?_
            show Steps p.tables e below (T110.setTop (mkF m 114 #[.val (.int p0), .val (.int p1), .val (.int p2), .val (.int p3), .val (.int v1), .val (.int v2), .val (.int y), .val (.int (3 : Int32)), .val (.int v111), .unset, .unset, .unset, .unset, .unset, .unset, .unset, .unset] [(.int (p3.toInt8.toInt32))])) t
            refine Own.nmI hv112 ?_
            show Steps p.tables e below (T110.setTop (mkF m 114 #[.val (.int p0), .val (.int p1), .val (.int p2), .val (.int p3), .val (.int v1), .val (.int v2), .val (.int y), .val (.int (3 : Int32)), .val (.int v111), .unset, .unset, .unset, .unset, .unset, .unset, .unset, .unset] [(.int v112)])) t
            refine XS.istore X110.here hx rfl (hb hby at_114) rfl (l' := #[.val (.int p0), .val (.int p1), .val (.int p2), .val (.int p3), .val (.int v1), .val (.int v2), .val (.int y), .val (.int (3 : Int32)), .val (.int v111), .val (.int v112), .unset, .unset, .unset, .unset, .unset, .unset, .unset]) rfl ?_
            show Steps p.tables e below (T110.setTop (mkF m 116 #[.val (.int p0), .val (.int p1), .val (.int p2), .val (.int p3), .val (.int v1), .val (.int v2), .val (.int y), .val (.int (3 : Int32)), .val (.int v111), .val (.int v112), .unset, .unset, .unset, .unset, .unset, .unset, .unset] [])) t
            refine XS.bipush X110.here hx rfl (hb hby at_116) ?_
            show Steps p.tables e below (T110.setTop (mkF m 118 #[.val (.int p0), .val (.int p1), .val (.int p2), .val (.int p3), .val (.int v1), .val (.int v2), .val (.int y), .val (.int (3 : Int32)), .val (.int v111), .val (.int v112), .unset, .unset, .unset, .unset, .unset, .unset, .unset] [(.int (8 : Int32))])) t
            refine st113 _ ?_
            show Steps p.tables e below (T113.setTop (mkF m 120 #[.val (.int p0), .val (.int p1), .val (.int p2), .val (.int p3), .val (.int v1), .val (.int v2), .val (.int y), .val (.int (3 : Int32)), .val (.int v111), .val (.int v112), .unset, .unset, .unset, .unset, .unset, .unset, .unset] [(.ref b113)])) t
            refine XS.dup X113.here hx rfl (hb hby at_120) rfl rfl ?_
            show Steps p.tables e below (T113.setTop (mkF m 121 #[.val (.int p0), .val (.int p1), .val (.int p2), .val (.int p3), .val (.int v1), .val (.int v2), .val (.int y), .val (.int (3 : Int32)), .val (.int v111), .val (.int v112), .unset, .unset, .unset, .unset, .unset, .unset, .unset] [(.ref b113), (.ref b113)])) t
            refine XS.iconst X113.here hx rfl (hb hby at_121) ?_
            show Steps p.tables e below (T113.setTop (mkF m 122 #[.val (.int p0), .val (.int p1), .val (.int p2), .val (.int p3), .val (.int v1), .val (.int v2), .val (.int y), .val (.int (3 : Int32)), .val (.int v111), .val (.int v112), .unset, .unset, .unset, .unset, .unset, .unset, .unset] [(.int (0 : Int32)), (.ref b113), (.ref b113)])) t
            refine XS.iload X113.here hx rfl (hb hby at_122) rfl ?_
            show Steps p.tables e below (T113.setTop (mkF m 124 #[.val (.int p0), .val (.int p1), .val (.int p2), .val (.int p3), .val (.int v1), .val (.int v2), .val (.int y), .val (.int (3 : Int32)), .val (.int v111), .val (.int v112), .unset, .unset, .unset, .unset, .unset, .unset, .unset] [(.int v112), (.int (0 : Int32)), (.ref b113), (.ref b113)])) t
            refine st116 _ ?_
            show Steps p.tables e below (T116.setTop (mkF m 125 #[.val (.int p0), .val (.int p1), .val (.int p2), .val (.int p3), .val (.int v1), .val (.int v2), .val (.int y), .val (.int (3 : Int32)), .val (.int v111), .val (.int v112), .unset, .unset, .unset, .unset, .unset, .unset, .unset] [(.ref b113)])) t
            refine XS.dup X116.here hx rfl (hb hby at_125) rfl rfl ?_
            show Steps p.tables e below (T116.setTop (mkF m 126 #[.val (.int p0), .val (.int p1), .val (.int p2), .val (.int p3), .val (.int v1), .val (.int v2), .val (.int y), .val (.int (3 : Int32)), .val (.int v111), .val (.int v112), .unset, .unset, .unset, .unset, .unset, .unset, .unset] [(.ref b113), (.ref b113)])) t
            refine XS.iconst X116.here hx rfl (hb hby at_126) ?_
            show Steps p.tables e below (T116.setTop (mkF m 127 #[.val (.int p0), .val (.int p1), .val (.int p2), .val (.int p3), .val (.int v1), .val (.int v2), .val (.int y), .val (.int (3 : Int32)), .val (.int v111), .val (.int v112), .unset, .unset, .unset, .unset, .unset, .unset, .unset] [(.int (1 : Int32)), (.ref b113), (.ref b113)])) t
            refine XS.iload X116.here hx rfl (hb hby at_127) rfl ?_
            show Steps p.tables e below (T116.setTop (mkF m 129 #[.val (.int p0), .val (.int p1), .val (.int p2), .val (.int p3), .val (.int v1), .val (.int v2), .val (.int y), .val (.int (3 : Int32)), .val (.int v111), .val (.int v112), .unset, .unset, .unset, .unset, .unset, .unset, .unset] [(.int v112), (.int (1 : Int32)), (.ref b113), (.ref b113)])) t
            refine st118 _ ?_
            show Steps p.tables e below (T118.setTop (mkF m 130 #[.val (.int p0), .val (.int p1), .val (.int p2), .val (.int p3), .val (.int v1), .val (.int v2), .val (.int y), .val (.int (3 : Int32)), .val (.int v111), .val (.int v112), .unset, .unset, .unset, .unset, .unset, .unset, .unset] [(.ref b113)])) t
            refine XS.dup X118.here hx rfl (hb hby at_130) rfl rfl ?_
            show Steps p.tables e below (T118.setTop (mkF m 131 #[.val (.int p0), .val (.int p1), .val (.int p2), .val (.int p3), .val (.int v1), .val (.int v2), .val (.int y), .val (.int (3 : Int32)), .val (.int v111), .val (.int v112), .unset, .unset, .unset, .unset, .unset, .unset, .unset] [(.ref b113), (.ref b113)])) t
            refine XS.iconst X118.here hx rfl (hb hby at_131) ?_
            show Steps p.tables e below (T118.setTop (mkF m 132 #[.val (.int p0), .val (.int p1), .val (.int p2), .val (.int p3), .val (.int v1), .val (.int v2), .val (.int y), .val (.int (3 : Int32)), .val (.int v111), .val (.int v112), .unset, .unset, .unset, .unset, .unset, .unset, .unset] [(.int (2 : Int32)), (.ref b113), (.ref b113)])) t
            refine XS.iload X118.here hx rfl (hb hby at_132) rfl ?_
            show Steps p.tables e below (T118.setTop (mkF m 134 #[.val (.int p0), .val (.int p1), .val (.int p2), .val (.int p3), .val (.int v1), .val (.int v2), .val (.int y), .val (.int (3 : Int32)), .val (.int v111), .val (.int v112), .unset, .unset, .unset, .unset, .unset, .unset, .unset] [(.int v112), (.int (2 : Int32)), (.ref b113), (.ref b113)])) t
            refine st120 _ ?_
            show Steps p.tables e below (T120.setTop (mkF m 135 #[.val (.int p0), .val (.int p1), .val (.int p2), .val (.int p3), .val (.int v1), .val (.int v2), .val (.int y), .val (.int (3 : Int32)), .val (.int v111), .val (.int v112), .unset, .unset, .unset, .unset, .unset, .unset, .unset] [(.ref b113)])) t
            refine XS.dup X120.here hx rfl (hb hby at_135) rfl rfl ?_
            show Steps p.tables e below (T120.setTop (mkF m 136 #[.val (.int p0), .val (.int p1), .val (.int p2), .val (.int p3), .val (.int v1), .val (.int v2), .val (.int y), .val (.int (3 : Int32)), .val (.int v111), .val (.int v112), .unset, .unset, .unset, .unset, .unset, .unset, .unset] [(.ref b113), (.ref b113)])) t
            refine XS.iconst X120.here hx rfl (hb hby at_136) ?_
            show Steps p.tables e below (T120.setTop (mkF m 137 #[.val (.int p0), .val (.int p1), .val (.int p2), .val (.int p3), .val (.int v1), .val (.int v2), .val (.int y), .val (.int (3 : Int32)), .val (.int v111), .val (.int v112), .unset, .unset, .unset, .unset, .unset, .unset, .unset] [(.int (3 : Int32)), (.ref b113), (.ref b113)])) t
            refine XS.iload X120.here hx rfl (hb hby at_137) rfl ?_
            show Steps p.tables e below (T120.setTop (mkF m 139 #[.val (.int p0), .val (.int p1), .val (.int p2), .val (.int p3), .val (.int v1), .val (.int v2), .val (.int y), .val (.int (3 : Int32)), .val (.int v111), .val (.int v112), .unset, .unset, .unset, .unset, .unset, .unset, .unset] [(.int v112), (.int (3 : Int32)), (.ref b113), (.ref b113)])) t
            refine st122 _ ?_
            show Steps p.tables e below (T122.setTop (mkF m 140 #[.val (.int p0), .val (.int p1), .val (.int p2), .val (.int p3), .val (.int v1), .val (.int v2), .val (.int y), .val (.int (3 : Int32)), .val (.int v111), .val (.int v112), .unset, .unset, .unset, .unset, .unset, .unset, .unset] [(.ref b113)])) t
            refine XS.dup X122.here hx rfl (hb hby at_140) rfl rfl ?_
            show Steps p.tables e below (T122.setTop (mkF m 141 #[.val (.int p0), .val (.int p1), .val (.int p2), .val (.int p3), .val (.int v1), .val (.int v2), .val (.int y), .val (.int (3 : Int32)), .val (.int v111), .val (.int v112), .unset, .unset, .unset, .unset, .unset, .unset, .unset] [(.ref b113), (.ref b113)])) t
            refine XS.iconst X122.here hx rfl (hb hby at_141) ?_
            show Steps p.tables e below (T122.setTop (mkF m 142 #[.val (.int p0), .val (.int p1), .val (.int p2), .val (.int p3), .val (.int v1), .val (.int v2), .val (.int y), .val (.int (3 : Int32)), .val (.int v111), .val (.int v112), .unset, .unset, .unset, .unset, .unset, .unset, .unset] [(.int (4 : Int32)), (.ref b113), (.ref b113)])) t
            refine XS.iload X122.here hx rfl (hb hby at_142) rfl ?_
            show Steps p.tables e below (T122.setTop (mkF m 144 #[.val (.int p0), .val (.int p1), .val (.int p2), .val (.int p3), .val (.int v1), .val (.int v2), .val (.int y), .val (.int (3 : Int32)), .val (.int v111), .val (.int v112), .unset, .unset, .unset, .unset, .unset, .unset, .unset] [(.int v112), (.int (4 : Int32)), (.ref b113), (.ref b113)])) t
            refine st124 _ ?_
            show Steps p.tables e below (T124.setTop (mkF m 145 #[.val (.int p0), .val (.int p1), .val (.int p2), .val (.int p3), .val (.int v1), .val (.int v2), .val (.int y), .val (.int (3 : Int32)), .val (.int v111), .val (.int v112), .unset, .unset, .unset, .unset, .unset, .unset, .unset] [(.ref b113)])) t
            refine XS.dup X124.here hx rfl (hb hby at_145) rfl rfl ?_
            show Steps p.tables e below (T124.setTop (mkF m 146 #[.val (.int p0), .val (.int p1), .val (.int p2), .val (.int p3), .val (.int v1), .val (.int v2), .val (.int y), .val (.int (3 : Int32)), .val (.int v111), .val (.int v112), .unset, .unset, .unset, .unset, .unset, .unset, .unset] [(.ref b113), (.ref b113)])) t
            refine XS.iconst X124.here hx rfl (hb hby at_146) ?_
            show Steps p.tables e below (T124.setTop (mkF m 147 #[.val (.int p0), .val (.int p1), .val (.int p2), .val (.int p3), .val (.int v1), .val (.int v2), .val (.int y), .val (.int (3 : Int32)), .val (.int v111), .val (.int v112), .unset, .unset, .unset, .unset, .unset, .unset, .unset] [(.int (5 : Int32)), (.ref b113), (.ref b113)])) t
            refine XS.iload X124.here hx rfl (hb hby at_147) rfl ?_
            show Steps p.tables e below (T124.setTop (mkF m 149 #[.val (.int p0), .val (.int p1), .val (.int p2), .val (.int p3), .val (.int v1), .val (.int v2), .val (.int y), .val (.int (3 : Int32)), .val (.int v111), .val (.int v112), .unset, .unset, .unset, .unset, .unset, .unset, .unset] [(.int v112), (.int (5 : Int32)), (.ref b113), (.ref b113)])) t
            refine st126 _ ?_
            show Steps p.tables e below (T126.setTop (mkF m 150 #[.val (.int p0), .val (.int p1), .val (.int p2), .val (.int p3), .val (.int v1), .val (.int v2), .val (.int y), .val (.int (3 : Int32)), .val (.int v111), .val (.int v112), .unset, .unset, .unset, .unset, .unset, .unset, .unset] [(.ref b113)])) t
            refine XS.dup X126.here hx rfl (hb hby at_150) rfl rfl ?_
            show Steps p.tables e below (T126.setTop (mkF m 151 #[.val (.int p0), .val (.int p1), .val (.int p2), .val (.int p3), .val (.int v1), .val (.int v2), .val (.int y), .val (.int (3 : Int32)), .val (.int v111), .val (.int v112), .unset, .unset, .unset, .unset, .unset, .unset, .unset] [(.ref b113), (.ref b113)])) t
            refine XS.bipush X126.here hx rfl (hb hby at_151) ?_
            show Steps p.tables e below (T126.setTop (mkF m 153 #[.val (.int p0), .val (.int p1), .val (.int p2), .val (.int p3), .val (.int v1), .val (.int v2), .val (.int y), .val (.int (3 : Int32)), .val (.int v111), .val (.int v112), .unset, .unset, .unset, .unset, .unset, .unset, .unset] [(.int (6 : Int32)), (.ref b113), (.ref b113)])) t
            refine XS.iload X126.here hx rfl (hb hby at_153) rfl ?_
            show Steps p.tables e below (T126.setTop (mkF m 155 #[.val (.int p0), .val (.int p1), .val (.int p2), .val (.int p3), .val (.int v1), .val (.int v2), .val (.int y), .val (.int (3 : Int32)), .val (.int v111), .val (.int v112), .unset, .unset, .unset, .unset, .unset, .unset, .unset] [(.int v112), (.int (6 : Int32)), (.ref b113), (.ref b113)])) t
            refine st128 _ ?_
            show Steps p.tables e below (T128.setTop (mkF m 156 #[.val (.int p0), .val (.int p1), .val (.int p2), .val (.int p3), .val (.int v1), .val (.int v2), .val (.int y), .val (.int (3 : Int32)), .val (.int v111), .val (.int v112), .unset, .unset, .unset, .unset, .unset, .unset, .unset] [(.ref b113)])) t
            refine XS.dup X128.here hx rfl (hb hby at_156) rfl rfl ?_
            show Steps p.tables e below (T128.setTop (mkF m 157 #[.val (.int p0), .val (.int p1), .val (.int p2), .val (.int p3), .val (.int v1), .val (.int v2), .val (.int y), .val (.int (3 : Int32)), .val (.int v111), .val (.int v112), .unset, .unset, .unset, .unset, .unset, .unset, .unset] [(.ref b113), (.ref b113)])) t
            refine XS.bipush X128.here hx rfl (hb hby at_157) ?_
            show Steps p.tables e below (T128.setTop (mkF m 159 #[.val (.int p0), .val (.int p1), .val (.int p2), .val (.int p3), .val (.int v1), .val (.int v2), .val (.int y), .val (.int (3 : Int32)), .val (.int v111), .val (.int v112), .unset, .unset, .unset, .unset, .unset, .unset, .unset] [(.int (7 : Int32)), (.ref b113), (.ref b113)])) t
            refine XS.iload X128.here hx rfl (hb hby at_159) rfl ?_
            show Steps p.tables e below (T128.setTop (mkF m 161 #[.val (.int p0), .val (.int p1), .val (.int p2), .val (.int p3), .val (.int v1), .val (.int v2), .val (.int y), .val (.int (3 : Int32)), .val (.int v111), .val (.int v112), .unset, .unset, .unset, .unset, .unset, .unset, .unset] [(.int v112), (.int (7 : Int32)), (.ref b113), (.ref b113)])) t
            refine st130 _ ?_
            show Steps p.tables e below (T130.setTop (mkF m 162 #[.val (.int p0), .val (.int p1), .val (.int p2), .val (.int p3), .val (.int v1), .val (.int v2), .val (.int y), .val (.int (3 : Int32)), .val (.int v111), .val (.int v112), .unset, .unset, .unset, .unset, .unset, .unset, .unset] [(.ref b113)])) t
            refine XS.astore X130.here hx rfl (hb hby at_162) rfl rfl (l' := #[.val (.int p0), .val (.int p1), .val (.int p2), .val (.int p3), .val (.int v1), .val (.int v2), .val (.int y), .val (.int (3 : Int32)), .val (.int v111), .val (.int v112), .val (.ref b113), .unset, .unset, .unset, .unset, .unset, .unset]) rfl ?_
            show Steps p.tables e below (T130.setTop (mkF m 164 #[.val (.int p0), .val (.int p1), .val (.int p2), .val (.int p3), .val (.int v1), .val (.int v2), .val (.int y), .val (.int (3 : Int32)), .val (.int v111), .val (.int v112), .val (.ref b113), .unset, .unset, .unset, .unset, .unset, .unset] [])) t
            refine XS.aload X130.here hx rfl (hb hby at_164) rfl rfl ?_
            show Steps p.tables e below (T130.setTop (mkF m 166 #[.val (.int p0), .val (.int p1), .val (.int p2), .val (.int p3), .val (.int v1), .val (.int v2), .val (.int y), .val (.int (3 : Int32)), .val (.int v111), .val (.int v112), .val (.ref b113), .unset, .unset, .unset, .unset, .unset, .unset] [(.ref b113)])) t
            refine XS.iload X130.here hx rfl (hb hby at_166) rfl ?_
            show Steps p.tables e below (T130.setTop (mkF m 168 #[.val (.int p0), .val (.int p1), .val (.int p2), .val (.int p3), .val (.int v1), .val (.int v2), .val (.int y), .val (.int (3 : Int32)), .val (.int v111), .val (.int v112), .val (.ref b113), .unset, .unset, .unset, .unset, .unset, .unset] [(.int v111), (.ref b113)])) t
            refine XS.iload X130.here hx rfl (hb hby at_168) rfl ?_
            show Steps p.tables e below (T130.setTop (mkF m 170 #[.val (.int p0), .val (.int p1), .val (.int p2), .val (.int p3), .val (.int v1), .val (.int v2), .val (.int y), .val (.int (3 : Int32)), .val (.int v111), .val (.int v112), .val (.ref b113), .unset, .unset, .unset, .unset, .unset, .unset] [(.int y), (.int v111), (.ref b113)])) t
            refine st131 _ ?_
            show Steps p.tables e below (T131.setTop (mkF m 173 #[.val (.int p0), .val (.int p1), .val (.int p2), .val (.int p3), .val (.int v1), .val (.int v2), .val (.int y), .val (.int (3 : Int32)), .val (.int v111), .val (.int v112), .val (.ref b113), .unset, .unset, .unset, .unset, .unset, .unset] [(.int (v111 + (3 : Int32)))])) t
            refine Own.nmI hv132 ?_
            show Steps p.tables e below (T131.setTop (mkF m 173 #[.val (.int p0), .val (.int p1), .val (.int p2), .val (.int p3), .val (.int v1), .val (.int v2), .val (.int y), .val (.int (3 : Int32)), .val (.int v111), .val (.int v112), .val (.ref b113), .unset, .unset, .unset, .unset, .unset, .unset] [(.int v132)])) t
            refine XS.istore X131.here hx rfl (hb hby at_173) rfl (l' := #[.val (.int p0), .val (.int p1), .val (.int p2), .val (.int p3), .val (.int v1), .val (.int v2), .val (.int y), .val (.int (3 : Int32)), .val (.int v111), .val (.int v112), .val (.ref b113), .val (.int v132), .unset, .unset, .unset, .unset, .unset]) rfl ?_
            show Steps p.tables e below (T131.setTop (mkF m 175 #[.val (.int p0), .val (.int p1), .val (.int p2), .val (.int p3), .val (.int v1), .val (.int v2), .val (.int y), .val (.int (3 : Int32)), .val (.int v111), .val (.int v112), .val (.ref b113), .val (.int v132), .unset, .unset, .unset, .unset, .unset] [])) t
            refine XS.iload X131.here hx rfl (hb hby at_175) rfl ?_
            show Steps p.tables e below (T131.setTop (mkF m 177 #[.val (.int p0), .val (.int p1), .val (.int p2), .val (.int p3), .val (.int v1), .val (.int v2), .val (.int y), .val (.int (3 : Int32)), .val (.int v111), .val (.int v112), .val (.ref b113), .val (.int v132), .unset, .unset, .unset, .unset, .unset] [(.int v132)])) t
            refine XS.iload X131.here hx rfl (hb hby at_177) rfl ?_
            show Steps p.tables e below (T131.setTop (mkF m 179 #[.val (.int p0), .val (.int p1), .val (.int p2), .val (.int p3), .val (.int v1), .val (.int v2), .val (.int y), .val (.int (3 : Int32)), .val (.int v111), .val (.int v112), .val (.ref b113), .val (.int v132), .unset, .unset, .unset, .unset, .unset] [(.int v111), (.int v132)])) t
            refine XS.iload X131.here hx rfl (hb hby at_179) rfl ?_
            show Steps p.tables e below (T131.setTop (mkF m 181 #[.val (.int p0), .val (.int p1), .val (.int p2), .val (.int p3), .val (.int v1), .val (.int v2), .val (.int y), .val (.int (3 : Int32)), .val (.int v111), .val (.int v112), .val (.ref b113), .val (.int v132), .unset, .unset, .unset, .unset, .unset] [(.int (3 : Int32)), (.int v111), (.int v132)])) t
            refine XS.iadd X131.here hx rfl (hb hby at_181) rfl ?_
            show Steps p.tables e below (T131.setTop (mkF m 182 #[.val (.int p0), .val (.int p1), .val (.int p2), .val (.int p3), .val (.int v1), .val (.int v2), .val (.int y), .val (.int (3 : Int32)), .val (.int v111), .val (.int v112), .val (.ref b113), .val (.int v132), .unset, .unset, .unset, .unset, .unset] [(.int (v111 + (3 : Int32))), (.int v132)])) t
            exact k
          have hc133 : v132 = (v111 + (3 : Int32)) := hv132
          obtain ⟨T134, _, L134, X134, ⟨rfl, Nq134, e134⟩, st134⟩ := Own.callS (y := (⟨"org/wireform/json/JsonStringPutUtf8PinLaw", "kept", "([BIIIB)Z"⟩ : MethodName)) (W := 0) (argsL := [(.ref b113), (.int (0 : Int32)), (.int v111), (.int (3 : Int32)), (.int v112)]) (rest := []) X131 hx hZ hown (hw _ (List.mem_of_getElem? (i := 6) rfl)) (hw _ (List.mem_of_getElem? (i := 7) rfl)) (hw _ (List.mem_of_getElem? (i := 8) rfl)) (hw _ (List.mem_of_getElem? (i := 9) rfl)) (by decide) rfl (rm5 l Z a0 hw [] b113 (0 : Int32) v111 (3 : Int32) v112 (own_put3 g v111 y) T131.heap n0 (by decide) A131) (by decide) (by decide) (by decide) (by decide) (g := (mkF m 196 #[.val (.int p0), .val (.int p1), .val (.int p2), .val (.int p3), .val (.int v1), .val (.int v2), .val (.int y), .val (.int (3 : Int32)), .val (.int v111), .val (.int v112), .val (.ref b113), .val (.int v132), .unset, .unset, .unset, .unset, .unset] [(.int v112), (.int (3 : Int32)), (.int v111), (.int (0 : Int32)), (.ref b113)])) rfl (by rw [hml]; rfl) (lenOf pd_1 rfl) rfl (by show 2 * 0 + _ ≤ _; exact Nat.le_of_eq rfl) (hb hby at_196)
          have N134 := Fr.app N131 Nq134
          refine hD _ (T134.setTop (mkF m 199 #[.val (.int p0), .val (.int p1), .val (.int p2), .val (.int p3), .val (.int v1), .val (.int v2), .val (.int y), .val (.int (3 : Int32)), .val (.int v111), .val (.int v112), .val (.ref b113), .val (.int v132), .unset, .unset, .unset, .unset, .unset] [(.int (Own.b2i (own_kept (own_put3 g v111 y) (0 : Int32) v111 (3 : Int32) v112)))])) (fun t k => ?_) ?_
          · show Steps p.tables e below (T131.setTop (mkF m 182 #[.val (.int p0), .val (.int p1), .val (.int p2), .val (.int p3), .val (.int v1), .val (.int v2), .val (.int y), .val (.int (3 : Int32)), .val (.int v111), .val (.int v112), .val (.ref b113), .val (.int v132), .unset, .unset, .unset, .unset, .unset] [(.int (v111 + (3 : Int32))), (.int v132)])) t
            refine XS.icmpYes X131.here hx rfl (pc0 := 182) (pc' := 187) rfl (hb hby at_182) rfl (teq hc133).1 (by decide) (by decide) ?_
            show Steps p.tables e below (T131.setTop (mkF m 187 #[.val (.int p0), .val (.int p1), .val (.int p2), .val (.int p3), .val (.int v1), .val (.int v2), .val (.int y), .val (.int (3 : Int32)), .val (.int v111), .val (.int v112), .val (.ref b113), .val (.int v132), .unset, .unset, .unset, .unset, .unset] [])) t
            refine XS.aload X131.here hx rfl (hb hby at_187) rfl rfl ?_
            show Steps p.tables e below (T131.setTop (mkF m 189 #[.val (.int p0), .val (.int p1), .val (.int p2), .val (.int p3), .val (.int v1), .val (.int v2), .val (.int y), .val (.int (3 : Int32)), .val (.int v111), .val (.int v112), .val (.ref b113), .val (.int v132), .unset, .unset, .unset, .unset, .unset] [(.ref b113)])) t
            refine XS.iconst X131.here hx rfl (hb hby at_189) ?_
            show Steps p.tables e below (T131.setTop (mkF m 190 #[.val (.int p0), .val (.int p1), .val (.int p2), .val (.int p3), .val (.int v1), .val (.int v2), .val (.int y), .val (.int (3 : Int32)), .val (.int v111), .val (.int v112), .val (.ref b113), .val (.int v132), .unset, .unset, .unset, .unset, .unset] [(.int (0 : Int32)), (.ref b113)])) t
            refine XS.iload X131.here hx rfl (hb hby at_190) rfl ?_
            show Steps p.tables e below (T131.setTop (mkF m 192 #[.val (.int p0), .val (.int p1), .val (.int p2), .val (.int p3), .val (.int v1), .val (.int v2), .val (.int y), .val (.int (3 : Int32)), .val (.int v111), .val (.int v112), .val (.ref b113), .val (.int v132), .unset, .unset, .unset, .unset, .unset] [(.int v111), (.int (0 : Int32)), (.ref b113)])) t
            refine XS.iload X131.here hx rfl (hb hby at_192) rfl ?_
            show Steps p.tables e below (T131.setTop (mkF m 194 #[.val (.int p0), .val (.int p1), .val (.int p2), .val (.int p3), .val (.int v1), .val (.int v2), .val (.int y), .val (.int (3 : Int32)), .val (.int v111), .val (.int v112), .val (.ref b113), .val (.int v132), .unset, .unset, .unset, .unset, .unset] [(.int (3 : Int32)), (.int v111), (.int (0 : Int32)), (.ref b113)])) t
            refine XS.iload X131.here hx rfl (hb hby at_194) rfl ?_
            show Steps p.tables e below (T131.setTop (mkF m 196 #[.val (.int p0), .val (.int p1), .val (.int p2), .val (.int p3), .val (.int v1), .val (.int v2), .val (.int y), .val (.int (3 : Int32)), .val (.int v111), .val (.int v112), .val (.ref b113), .val (.int v132), .unset, .unset, .unset, .unset, .unset] [(.int v112), (.int (3 : Int32)), (.int v111), (.int (0 : Int32)), (.ref b113)])) t
            refine st134 _ ?_
            show Steps p.tables e below (T134.setTop (mkF m 199 #[.val (.int p0), .val (.int p1), .val (.int p2), .val (.int p3), .val (.int v1), .val (.int v2), .val (.int y), .val (.int (3 : Int32)), .val (.int v111), .val (.int v112), .val (.ref b113), .val (.int v132), .unset, .unset, .unset, .unset, .unset] [(.int (Own.b2i (own_kept (own_put3 g v111 y) (0 : Int32) v111 (3 : Int32) v112)))])) t
            exact k
          have hc135 : (own_kept (own_put3 g v111 y) (0 : Int32) v111 (3 : Int32) v112) = true := own_st3 g hn (by decide) (hg 0 (by decide))
          obtain ⟨T136, _, L136, X136, ⟨rfl, Nq136, e136⟩, st136⟩ := Own.callS (y := (⟨"org/wireform/json/JsonStringPutUtf8PinLaw", "kept", "([BIIIB)Z"⟩ : MethodName)) (W := 0) (argsL := [(.ref b113), (.int (1 : Int32)), (.int v111), (.int (3 : Int32)), (.int v112)]) (rest := []) X134 hx hZ hown (hw _ (List.mem_of_getElem? (i := 6) rfl)) (hw _ (List.mem_of_getElem? (i := 7) rfl)) (hw _ (List.mem_of_getElem? (i := 8) rfl)) (hw _ (List.mem_of_getElem? (i := 9) rfl)) (by decide) e134 (rm5 l Z a0 hw [] b113 (1 : Int32) v111 (3 : Int32) v112 (own_put3 g v111 y) T131.heap n0 (by decide) A131) (by decide) (by decide) (by decide) (by decide) (g := (mkF m 211 #[.val (.int p0), .val (.int p1), .val (.int p2), .val (.int p3), .val (.int v1), .val (.int v2), .val (.int y), .val (.int (3 : Int32)), .val (.int v111), .val (.int v112), .val (.ref b113), .val (.int v132), .unset, .unset, .unset, .unset, .unset] [(.int v112), (.int (3 : Int32)), (.int v111), (.int (1 : Int32)), (.ref b113)])) rfl (by rw [hml]; rfl) (lenOf pd_1 rfl) rfl (by show 2 * 0 + _ ≤ _; exact Nat.le_of_eq rfl) (hb hby at_211)
          have N136 := Fr.app N134 Nq136
          refine hD _ (T136.setTop (mkF m 214 #[.val (.int p0), .val (.int p1), .val (.int p2), .val (.int p3), .val (.int v1), .val (.int v2), .val (.int y), .val (.int (3 : Int32)), .val (.int v111), .val (.int v112), .val (.ref b113), .val (.int v132), .unset, .unset, .unset, .unset, .unset] [(.int (Own.b2i (own_kept (own_put3 g v111 y) (1 : Int32) v111 (3 : Int32) v112)))])) (fun t k => ?_) ?_
          · show Steps p.tables e below (T134.setTop (mkF m 199 #[.val (.int p0), .val (.int p1), .val (.int p2), .val (.int p3), .val (.int v1), .val (.int v2), .val (.int y), .val (.int (3 : Int32)), .val (.int v111), .val (.int v112), .val (.ref b113), .val (.int v132), .unset, .unset, .unset, .unset, .unset] [(.int (Own.b2i (own_kept (own_put3 g v111 y) (0 : Int32) v111 (3 : Int32) v112)))])) t
            refine XS.ifNo X134.here hx rfl (hb hby at_199) rfl ((if0 _ _).trans (feq (fun q => Own.b2i_eq0.mp q hc135)).1) ?_
            show Steps p.tables e below (T134.setTop (mkF m 202 #[.val (.int p0), .val (.int p1), .val (.int p2), .val (.int p3), .val (.int v1), .val (.int v2), .val (.int y), .val (.int (3 : Int32)), .val (.int v111), .val (.int v112), .val (.ref b113), .val (.int v132), .unset, .unset, .unset, .unset, .unset] [])) t
            refine XS.aload X134.here hx rfl (hb hby at_202) rfl rfl ?_
            show Steps p.tables e below (T134.setTop (mkF m 204 #[.val (.int p0), .val (.int p1), .val (.int p2), .val (.int p3), .val (.int v1), .val (.int v2), .val (.int y), .val (.int (3 : Int32)), .val (.int v111), .val (.int v112), .val (.ref b113), .val (.int v132), .unset, .unset, .unset, .unset, .unset] [(.ref b113)])) t
            refine XS.iconst X134.here hx rfl (hb hby at_204) ?_
            show Steps p.tables e below (T134.setTop (mkF m 205 #[.val (.int p0), .val (.int p1), .val (.int p2), .val (.int p3), .val (.int v1), .val (.int v2), .val (.int y), .val (.int (3 : Int32)), .val (.int v111), .val (.int v112), .val (.ref b113), .val (.int v132), .unset, .unset, .unset, .unset, .unset] [(.int (1 : Int32)), (.ref b113)])) t
            refine XS.iload X134.here hx rfl (hb hby at_205) rfl ?_
            show Steps p.tables e below (T134.setTop (mkF m 207 #[.val (.int p0), .val (.int p1), .val (.int p2), .val (.int p3), .val (.int v1), .val (.int v2), .val (.int y), .val (.int (3 : Int32)), .val (.int v111), .val (.int v112), .val (.ref b113), .val (.int v132), .unset, .unset, .unset, .unset, .unset] [(.int v111), (.int (1 : Int32)), (.ref b113)])) t
            refine XS.iload X134.here hx rfl (hb hby at_207) rfl ?_
            show Steps p.tables e below (T134.setTop (mkF m 209 #[.val (.int p0), .val (.int p1), .val (.int p2), .val (.int p3), .val (.int v1), .val (.int v2), .val (.int y), .val (.int (3 : Int32)), .val (.int v111), .val (.int v112), .val (.ref b113), .val (.int v132), .unset, .unset, .unset, .unset, .unset] [(.int (3 : Int32)), (.int v111), (.int (1 : Int32)), (.ref b113)])) t
            refine XS.iload X134.here hx rfl (hb hby at_209) rfl ?_
            show Steps p.tables e below (T134.setTop (mkF m 211 #[.val (.int p0), .val (.int p1), .val (.int p2), .val (.int p3), .val (.int v1), .val (.int v2), .val (.int y), .val (.int (3 : Int32)), .val (.int v111), .val (.int v112), .val (.ref b113), .val (.int v132), .unset, .unset, .unset, .unset, .unset] [(.int v112), (.int (3 : Int32)), (.int v111), (.int (1 : Int32)), (.ref b113)])) t
            refine st136 _ ?_
            show Steps p.tables e below (T136.setTop (mkF m 214 #[.val (.int p0), .val (.int p1), .val (.int p2), .val (.int p3), .val (.int v1), .val (.int v2), .val (.int y), .val (.int (3 : Int32)), .val (.int v111), .val (.int v112), .val (.ref b113), .val (.int v132), .unset, .unset, .unset, .unset, .unset] [(.int (Own.b2i (own_kept (own_put3 g v111 y) (1 : Int32) v111 (3 : Int32) v112)))])) t
            exact k
          have hc137 : (own_kept (own_put3 g v111 y) (1 : Int32) v111 (3 : Int32) v112) = true := own_st3 g hn (by decide) (hg 1 (by decide))
          obtain ⟨T138, _, L138, X138, ⟨rfl, Nq138, e138⟩, st138⟩ := Own.callS (y := (⟨"org/wireform/json/JsonStringPutUtf8PinLaw", "kept", "([BIIIB)Z"⟩ : MethodName)) (W := 0) (argsL := [(.ref b113), (.int (2 : Int32)), (.int v111), (.int (3 : Int32)), (.int v112)]) (rest := []) X136 hx hZ hown (hw _ (List.mem_of_getElem? (i := 6) rfl)) (hw _ (List.mem_of_getElem? (i := 7) rfl)) (hw _ (List.mem_of_getElem? (i := 8) rfl)) (hw _ (List.mem_of_getElem? (i := 9) rfl)) (by decide) e136 (rm5 l Z a0 hw [] b113 (2 : Int32) v111 (3 : Int32) v112 (own_put3 g v111 y) T131.heap n0 (by decide) A131) (by decide) (by decide) (by decide) (by decide) (g := (mkF m 226 #[.val (.int p0), .val (.int p1), .val (.int p2), .val (.int p3), .val (.int v1), .val (.int v2), .val (.int y), .val (.int (3 : Int32)), .val (.int v111), .val (.int v112), .val (.ref b113), .val (.int v132), .unset, .unset, .unset, .unset, .unset] [(.int v112), (.int (3 : Int32)), (.int v111), (.int (2 : Int32)), (.ref b113)])) rfl (by rw [hml]; rfl) (lenOf pd_1 rfl) rfl (by show 2 * 0 + _ ≤ _; exact Nat.le_of_eq rfl) (hb hby at_226)
          have N138 := Fr.app N136 Nq138
          refine hD _ (T138.setTop (mkF m 229 #[.val (.int p0), .val (.int p1), .val (.int p2), .val (.int p3), .val (.int v1), .val (.int v2), .val (.int y), .val (.int (3 : Int32)), .val (.int v111), .val (.int v112), .val (.ref b113), .val (.int v132), .unset, .unset, .unset, .unset, .unset] [(.int (Own.b2i (own_kept (own_put3 g v111 y) (2 : Int32) v111 (3 : Int32) v112)))])) (fun t k => ?_) ?_
          · show Steps p.tables e below (T136.setTop (mkF m 214 #[.val (.int p0), .val (.int p1), .val (.int p2), .val (.int p3), .val (.int v1), .val (.int v2), .val (.int y), .val (.int (3 : Int32)), .val (.int v111), .val (.int v112), .val (.ref b113), .val (.int v132), .unset, .unset, .unset, .unset, .unset] [(.int (Own.b2i (own_kept (own_put3 g v111 y) (1 : Int32) v111 (3 : Int32) v112)))])) t
            refine XS.ifNo X136.here hx rfl (hb hby at_214) rfl ((if0 _ _).trans (feq (fun q => Own.b2i_eq0.mp q hc137)).1) ?_
            show Steps p.tables e below (T136.setTop (mkF m 217 #[.val (.int p0), .val (.int p1), .val (.int p2), .val (.int p3), .val (.int v1), .val (.int v2), .val (.int y), .val (.int (3 : Int32)), .val (.int v111), .val (.int v112), .val (.ref b113), .val (.int v132), .unset, .unset, .unset, .unset, .unset] [])) t
            refine XS.aload X136.here hx rfl (hb hby at_217) rfl rfl ?_
            show Steps p.tables e below (T136.setTop (mkF m 219 #[.val (.int p0), .val (.int p1), .val (.int p2), .val (.int p3), .val (.int v1), .val (.int v2), .val (.int y), .val (.int (3 : Int32)), .val (.int v111), .val (.int v112), .val (.ref b113), .val (.int v132), .unset, .unset, .unset, .unset, .unset] [(.ref b113)])) t
            refine XS.iconst X136.here hx rfl (hb hby at_219) ?_
            show Steps p.tables e below (T136.setTop (mkF m 220 #[.val (.int p0), .val (.int p1), .val (.int p2), .val (.int p3), .val (.int v1), .val (.int v2), .val (.int y), .val (.int (3 : Int32)), .val (.int v111), .val (.int v112), .val (.ref b113), .val (.int v132), .unset, .unset, .unset, .unset, .unset] [(.int (2 : Int32)), (.ref b113)])) t
            refine XS.iload X136.here hx rfl (hb hby at_220) rfl ?_
            show Steps p.tables e below (T136.setTop (mkF m 222 #[.val (.int p0), .val (.int p1), .val (.int p2), .val (.int p3), .val (.int v1), .val (.int v2), .val (.int y), .val (.int (3 : Int32)), .val (.int v111), .val (.int v112), .val (.ref b113), .val (.int v132), .unset, .unset, .unset, .unset, .unset] [(.int v111), (.int (2 : Int32)), (.ref b113)])) t
            refine XS.iload X136.here hx rfl (hb hby at_222) rfl ?_
            show Steps p.tables e below (T136.setTop (mkF m 224 #[.val (.int p0), .val (.int p1), .val (.int p2), .val (.int p3), .val (.int v1), .val (.int v2), .val (.int y), .val (.int (3 : Int32)), .val (.int v111), .val (.int v112), .val (.ref b113), .val (.int v132), .unset, .unset, .unset, .unset, .unset] [(.int (3 : Int32)), (.int v111), (.int (2 : Int32)), (.ref b113)])) t
            refine XS.iload X136.here hx rfl (hb hby at_224) rfl ?_
            show Steps p.tables e below (T136.setTop (mkF m 226 #[.val (.int p0), .val (.int p1), .val (.int p2), .val (.int p3), .val (.int v1), .val (.int v2), .val (.int y), .val (.int (3 : Int32)), .val (.int v111), .val (.int v112), .val (.ref b113), .val (.int v132), .unset, .unset, .unset, .unset, .unset] [(.int v112), (.int (3 : Int32)), (.int v111), (.int (2 : Int32)), (.ref b113)])) t
            refine st138 _ ?_
            show Steps p.tables e below (T138.setTop (mkF m 229 #[.val (.int p0), .val (.int p1), .val (.int p2), .val (.int p3), .val (.int v1), .val (.int v2), .val (.int y), .val (.int (3 : Int32)), .val (.int v111), .val (.int v112), .val (.ref b113), .val (.int v132), .unset, .unset, .unset, .unset, .unset] [(.int (Own.b2i (own_kept (own_put3 g v111 y) (2 : Int32) v111 (3 : Int32) v112)))])) t
            exact k
          have hc139 : (own_kept (own_put3 g v111 y) (2 : Int32) v111 (3 : Int32) v112) = true := own_st3 g hn (by decide) (hg 2 (by decide))
          obtain ⟨T140, _, L140, X140, ⟨rfl, Nq140, e140⟩, st140⟩ := Own.callS (y := (⟨"org/wireform/json/JsonStringPutUtf8PinLaw", "kept", "([BIIIB)Z"⟩ : MethodName)) (W := 0) (argsL := [(.ref b113), (.int (3 : Int32)), (.int v111), (.int (3 : Int32)), (.int v112)]) (rest := []) X138 hx hZ hown (hw _ (List.mem_of_getElem? (i := 6) rfl)) (hw _ (List.mem_of_getElem? (i := 7) rfl)) (hw _ (List.mem_of_getElem? (i := 8) rfl)) (hw _ (List.mem_of_getElem? (i := 9) rfl)) (by decide) e138 (rm5 l Z a0 hw [] b113 (3 : Int32) v111 (3 : Int32) v112 (own_put3 g v111 y) T131.heap n0 (by decide) A131) (by decide) (by decide) (by decide) (by decide) (g := (mkF m 241 #[.val (.int p0), .val (.int p1), .val (.int p2), .val (.int p3), .val (.int v1), .val (.int v2), .val (.int y), .val (.int (3 : Int32)), .val (.int v111), .val (.int v112), .val (.ref b113), .val (.int v132), .unset, .unset, .unset, .unset, .unset] [(.int v112), (.int (3 : Int32)), (.int v111), (.int (3 : Int32)), (.ref b113)])) rfl (by rw [hml]; rfl) (lenOf pd_1 rfl) rfl (by show 2 * 0 + _ ≤ _; exact Nat.le_of_eq rfl) (hb hby at_241)
          have N140 := Fr.app N138 Nq140
          refine hD _ (T140.setTop (mkF m 244 #[.val (.int p0), .val (.int p1), .val (.int p2), .val (.int p3), .val (.int v1), .val (.int v2), .val (.int y), .val (.int (3 : Int32)), .val (.int v111), .val (.int v112), .val (.ref b113), .val (.int v132), .unset, .unset, .unset, .unset, .unset] [(.int (Own.b2i (own_kept (own_put3 g v111 y) (3 : Int32) v111 (3 : Int32) v112)))])) (fun t k => ?_) ?_
          · show Steps p.tables e below (T138.setTop (mkF m 229 #[.val (.int p0), .val (.int p1), .val (.int p2), .val (.int p3), .val (.int v1), .val (.int v2), .val (.int y), .val (.int (3 : Int32)), .val (.int v111), .val (.int v112), .val (.ref b113), .val (.int v132), .unset, .unset, .unset, .unset, .unset] [(.int (Own.b2i (own_kept (own_put3 g v111 y) (2 : Int32) v111 (3 : Int32) v112)))])) t
            refine XS.ifNo X138.here hx rfl (hb hby at_229) rfl ((if0 _ _).trans (feq (fun q => Own.b2i_eq0.mp q hc139)).1) ?_
            show Steps p.tables e below (T138.setTop (mkF m 232 #[.val (.int p0), .val (.int p1), .val (.int p2), .val (.int p3), .val (.int v1), .val (.int v2), .val (.int y), .val (.int (3 : Int32)), .val (.int v111), .val (.int v112), .val (.ref b113), .val (.int v132), .unset, .unset, .unset, .unset, .unset] [])) t
            refine XS.aload X138.here hx rfl (hb hby at_232) rfl rfl ?_
            show Steps p.tables e below (T138.setTop (mkF m 234 #[.val (.int p0), .val (.int p1), .val (.int p2), .val (.int p3), .val (.int v1), .val (.int v2), .val (.int y), .val (.int (3 : Int32)), .val (.int v111), .val (.int v112), .val (.ref b113), .val (.int v132), .unset, .unset, .unset, .unset, .unset] [(.ref b113)])) t
            refine XS.iconst X138.here hx rfl (hb hby at_234) ?_
            show Steps p.tables e below (T138.setTop (mkF m 235 #[.val (.int p0), .val (.int p1), .val (.int p2), .val (.int p3), .val (.int v1), .val (.int v2), .val (.int y), .val (.int (3 : Int32)), .val (.int v111), .val (.int v112), .val (.ref b113), .val (.int v132), .unset, .unset, .unset, .unset, .unset] [(.int (3 : Int32)), (.ref b113)])) t
            refine XS.iload X138.here hx rfl (hb hby at_235) rfl ?_
            show Steps p.tables e below (T138.setTop (mkF m 237 #[.val (.int p0), .val (.int p1), .val (.int p2), .val (.int p3), .val (.int v1), .val (.int v2), .val (.int y), .val (.int (3 : Int32)), .val (.int v111), .val (.int v112), .val (.ref b113), .val (.int v132), .unset, .unset, .unset, .unset, .unset] [(.int v111), (.int (3 : Int32)), (.ref b113)])) t
            refine XS.iload X138.here hx rfl (hb hby at_237) rfl ?_
            show Steps p.tables e below (T138.setTop (mkF m 239 #[.val (.int p0), .val (.int p1), .val (.int p2), .val (.int p3), .val (.int v1), .val (.int v2), .val (.int y), .val (.int (3 : Int32)), .val (.int v111), .val (.int v112), .val (.ref b113), .val (.int v132), .unset, .unset, .unset, .unset, .unset] [(.int (3 : Int32)), (.int v111), (.int (3 : Int32)), (.ref b113)])) t
            refine XS.iload X138.here hx rfl (hb hby at_239) rfl ?_
            show Steps p.tables e below (T138.setTop (mkF m 241 #[.val (.int p0), .val (.int p1), .val (.int p2), .val (.int p3), .val (.int v1), .val (.int v2), .val (.int y), .val (.int (3 : Int32)), .val (.int v111), .val (.int v112), .val (.ref b113), .val (.int v132), .unset, .unset, .unset, .unset, .unset] [(.int v112), (.int (3 : Int32)), (.int v111), (.int (3 : Int32)), (.ref b113)])) t
            refine st140 _ ?_
            show Steps p.tables e below (T140.setTop (mkF m 244 #[.val (.int p0), .val (.int p1), .val (.int p2), .val (.int p3), .val (.int v1), .val (.int v2), .val (.int y), .val (.int (3 : Int32)), .val (.int v111), .val (.int v112), .val (.ref b113), .val (.int v132), .unset, .unset, .unset, .unset, .unset] [(.int (Own.b2i (own_kept (own_put3 g v111 y) (3 : Int32) v111 (3 : Int32) v112)))])) t
            exact k
          have hc141 : (own_kept (own_put3 g v111 y) (3 : Int32) v111 (3 : Int32) v112) = true := own_st3 g hn (by decide) (hg 3 (by decide))
          obtain ⟨T142, _, L142, X142, ⟨rfl, Nq142, e142⟩, st142⟩ := Own.callS (y := (⟨"org/wireform/json/JsonStringPutUtf8PinLaw", "kept", "([BIIIB)Z"⟩ : MethodName)) (W := 0) (argsL := [(.ref b113), (.int (4 : Int32)), (.int v111), (.int (3 : Int32)), (.int v112)]) (rest := []) X140 hx hZ hown (hw _ (List.mem_of_getElem? (i := 6) rfl)) (hw _ (List.mem_of_getElem? (i := 7) rfl)) (hw _ (List.mem_of_getElem? (i := 8) rfl)) (hw _ (List.mem_of_getElem? (i := 9) rfl)) (by decide) e140 (rm5 l Z a0 hw [] b113 (4 : Int32) v111 (3 : Int32) v112 (own_put3 g v111 y) T131.heap n0 (by decide) A131) (by decide) (by decide) (by decide) (by decide) (g := (mkF m 256 #[.val (.int p0), .val (.int p1), .val (.int p2), .val (.int p3), .val (.int v1), .val (.int v2), .val (.int y), .val (.int (3 : Int32)), .val (.int v111), .val (.int v112), .val (.ref b113), .val (.int v132), .unset, .unset, .unset, .unset, .unset] [(.int v112), (.int (3 : Int32)), (.int v111), (.int (4 : Int32)), (.ref b113)])) rfl (by rw [hml]; rfl) (lenOf pd_1 rfl) rfl (by show 2 * 0 + _ ≤ _; exact Nat.le_of_eq rfl) (hb hby at_256)
          have N142 := Fr.app N140 Nq142
          refine hD _ (T142.setTop (mkF m 259 #[.val (.int p0), .val (.int p1), .val (.int p2), .val (.int p3), .val (.int v1), .val (.int v2), .val (.int y), .val (.int (3 : Int32)), .val (.int v111), .val (.int v112), .val (.ref b113), .val (.int v132), .unset, .unset, .unset, .unset, .unset] [(.int (Own.b2i (own_kept (own_put3 g v111 y) (4 : Int32) v111 (3 : Int32) v112)))])) (fun t k => ?_) ?_
          · show Steps p.tables e below (T140.setTop (mkF m 244 #[.val (.int p0), .val (.int p1), .val (.int p2), .val (.int p3), .val (.int v1), .val (.int v2), .val (.int y), .val (.int (3 : Int32)), .val (.int v111), .val (.int v112), .val (.ref b113), .val (.int v132), .unset, .unset, .unset, .unset, .unset] [(.int (Own.b2i (own_kept (own_put3 g v111 y) (3 : Int32) v111 (3 : Int32) v112)))])) t
            refine XS.ifNo X140.here hx rfl (hb hby at_244) rfl ((if0 _ _).trans (feq (fun q => Own.b2i_eq0.mp q hc141)).1) ?_
            show Steps p.tables e below (T140.setTop (mkF m 247 #[.val (.int p0), .val (.int p1), .val (.int p2), .val (.int p3), .val (.int v1), .val (.int v2), .val (.int y), .val (.int (3 : Int32)), .val (.int v111), .val (.int v112), .val (.ref b113), .val (.int v132), .unset, .unset, .unset, .unset, .unset] [])) t
            refine XS.aload X140.here hx rfl (hb hby at_247) rfl rfl ?_
            show Steps p.tables e below (T140.setTop (mkF m 249 #[.val (.int p0), .val (.int p1), .val (.int p2), .val (.int p3), .val (.int v1), .val (.int v2), .val (.int y), .val (.int (3 : Int32)), .val (.int v111), .val (.int v112), .val (.ref b113), .val (.int v132), .unset, .unset, .unset, .unset, .unset] [(.ref b113)])) t
            refine XS.iconst X140.here hx rfl (hb hby at_249) ?_
            show Steps p.tables e below (T140.setTop (mkF m 250 #[.val (.int p0), .val (.int p1), .val (.int p2), .val (.int p3), .val (.int v1), .val (.int v2), .val (.int y), .val (.int (3 : Int32)), .val (.int v111), .val (.int v112), .val (.ref b113), .val (.int v132), .unset, .unset, .unset, .unset, .unset] [(.int (4 : Int32)), (.ref b113)])) t
            refine XS.iload X140.here hx rfl (hb hby at_250) rfl ?_
            show Steps p.tables e below (T140.setTop (mkF m 252 #[.val (.int p0), .val (.int p1), .val (.int p2), .val (.int p3), .val (.int v1), .val (.int v2), .val (.int y), .val (.int (3 : Int32)), .val (.int v111), .val (.int v112), .val (.ref b113), .val (.int v132), .unset, .unset, .unset, .unset, .unset] [(.int v111), (.int (4 : Int32)), (.ref b113)])) t
            refine XS.iload X140.here hx rfl (hb hby at_252) rfl ?_
            show Steps p.tables e below (T140.setTop (mkF m 254 #[.val (.int p0), .val (.int p1), .val (.int p2), .val (.int p3), .val (.int v1), .val (.int v2), .val (.int y), .val (.int (3 : Int32)), .val (.int v111), .val (.int v112), .val (.ref b113), .val (.int v132), .unset, .unset, .unset, .unset, .unset] [(.int (3 : Int32)), (.int v111), (.int (4 : Int32)), (.ref b113)])) t
            refine XS.iload X140.here hx rfl (hb hby at_254) rfl ?_
            show Steps p.tables e below (T140.setTop (mkF m 256 #[.val (.int p0), .val (.int p1), .val (.int p2), .val (.int p3), .val (.int v1), .val (.int v2), .val (.int y), .val (.int (3 : Int32)), .val (.int v111), .val (.int v112), .val (.ref b113), .val (.int v132), .unset, .unset, .unset, .unset, .unset] [(.int v112), (.int (3 : Int32)), (.int v111), (.int (4 : Int32)), (.ref b113)])) t
            refine st142 _ ?_
            show Steps p.tables e below (T142.setTop (mkF m 259 #[.val (.int p0), .val (.int p1), .val (.int p2), .val (.int p3), .val (.int v1), .val (.int v2), .val (.int y), .val (.int (3 : Int32)), .val (.int v111), .val (.int v112), .val (.ref b113), .val (.int v132), .unset, .unset, .unset, .unset, .unset] [(.int (Own.b2i (own_kept (own_put3 g v111 y) (4 : Int32) v111 (3 : Int32) v112)))])) t
            exact k
          have hc143 : (own_kept (own_put3 g v111 y) (4 : Int32) v111 (3 : Int32) v112) = true := own_st3 g hn (by decide) (hg 4 (by decide))
          obtain ⟨T144, _, L144, X144, ⟨rfl, Nq144, e144⟩, st144⟩ := Own.callS (y := (⟨"org/wireform/json/JsonStringPutUtf8PinLaw", "kept", "([BIIIB)Z"⟩ : MethodName)) (W := 0) (argsL := [(.ref b113), (.int (5 : Int32)), (.int v111), (.int (3 : Int32)), (.int v112)]) (rest := []) X142 hx hZ hown (hw _ (List.mem_of_getElem? (i := 6) rfl)) (hw _ (List.mem_of_getElem? (i := 7) rfl)) (hw _ (List.mem_of_getElem? (i := 8) rfl)) (hw _ (List.mem_of_getElem? (i := 9) rfl)) (by decide) e142 (rm5 l Z a0 hw [] b113 (5 : Int32) v111 (3 : Int32) v112 (own_put3 g v111 y) T131.heap n0 (by decide) A131) (by decide) (by decide) (by decide) (by decide) (g := (mkF m 271 #[.val (.int p0), .val (.int p1), .val (.int p2), .val (.int p3), .val (.int v1), .val (.int v2), .val (.int y), .val (.int (3 : Int32)), .val (.int v111), .val (.int v112), .val (.ref b113), .val (.int v132), .unset, .unset, .unset, .unset, .unset] [(.int v112), (.int (3 : Int32)), (.int v111), (.int (5 : Int32)), (.ref b113)])) rfl (by rw [hml]; rfl) (lenOf pd_1 rfl) rfl (by show 2 * 0 + _ ≤ _; exact Nat.le_of_eq rfl) (hb hby at_271)
          have N144 := Fr.app N142 Nq144
          refine hD _ (T144.setTop (mkF m 274 #[.val (.int p0), .val (.int p1), .val (.int p2), .val (.int p3), .val (.int v1), .val (.int v2), .val (.int y), .val (.int (3 : Int32)), .val (.int v111), .val (.int v112), .val (.ref b113), .val (.int v132), .unset, .unset, .unset, .unset, .unset] [(.int (Own.b2i (own_kept (own_put3 g v111 y) (5 : Int32) v111 (3 : Int32) v112)))])) (fun t k => ?_) ?_
          · show Steps p.tables e below (T142.setTop (mkF m 259 #[.val (.int p0), .val (.int p1), .val (.int p2), .val (.int p3), .val (.int v1), .val (.int v2), .val (.int y), .val (.int (3 : Int32)), .val (.int v111), .val (.int v112), .val (.ref b113), .val (.int v132), .unset, .unset, .unset, .unset, .unset] [(.int (Own.b2i (own_kept (own_put3 g v111 y) (4 : Int32) v111 (3 : Int32) v112)))])) t
            refine XS.ifNo X142.here hx rfl (hb hby at_259) rfl ((if0 _ _).trans (feq (fun q => Own.b2i_eq0.mp q hc143)).1) ?_
            show Steps p.tables e below (T142.setTop (mkF m 262 #[.val (.int p0), .val (.int p1), .val (.int p2), .val (.int p3), .val (.int v1), .val (.int v2), .val (.int y), .val (.int (3 : Int32)), .val (.int v111), .val (.int v112), .val (.ref b113), .val (.int v132), .unset, .unset, .unset, .unset, .unset] [])) t
            refine XS.aload X142.here hx rfl (hb hby at_262) rfl rfl ?_
            show Steps p.tables e below (T142.setTop (mkF m 264 #[.val (.int p0), .val (.int p1), .val (.int p2), .val (.int p3), .val (.int v1), .val (.int v2), .val (.int y), .val (.int (3 : Int32)), .val (.int v111), .val (.int v112), .val (.ref b113), .val (.int v132), .unset, .unset, .unset, .unset, .unset] [(.ref b113)])) t
            refine XS.iconst X142.here hx rfl (hb hby at_264) ?_
            show Steps p.tables e below (T142.setTop (mkF m 265 #[.val (.int p0), .val (.int p1), .val (.int p2), .val (.int p3), .val (.int v1), .val (.int v2), .val (.int y), .val (.int (3 : Int32)), .val (.int v111), .val (.int v112), .val (.ref b113), .val (.int v132), .unset, .unset, .unset, .unset, .unset] [(.int (5 : Int32)), (.ref b113)])) t
            refine XS.iload X142.here hx rfl (hb hby at_265) rfl ?_
            show Steps p.tables e below (T142.setTop (mkF m 267 #[.val (.int p0), .val (.int p1), .val (.int p2), .val (.int p3), .val (.int v1), .val (.int v2), .val (.int y), .val (.int (3 : Int32)), .val (.int v111), .val (.int v112), .val (.ref b113), .val (.int v132), .unset, .unset, .unset, .unset, .unset] [(.int v111), (.int (5 : Int32)), (.ref b113)])) t
            refine XS.iload X142.here hx rfl (hb hby at_267) rfl ?_
            show Steps p.tables e below (T142.setTop (mkF m 269 #[.val (.int p0), .val (.int p1), .val (.int p2), .val (.int p3), .val (.int v1), .val (.int v2), .val (.int y), .val (.int (3 : Int32)), .val (.int v111), .val (.int v112), .val (.ref b113), .val (.int v132), .unset, .unset, .unset, .unset, .unset] [(.int (3 : Int32)), (.int v111), (.int (5 : Int32)), (.ref b113)])) t
            refine XS.iload X142.here hx rfl (hb hby at_269) rfl ?_
            show Steps p.tables e below (T142.setTop (mkF m 271 #[.val (.int p0), .val (.int p1), .val (.int p2), .val (.int p3), .val (.int v1), .val (.int v2), .val (.int y), .val (.int (3 : Int32)), .val (.int v111), .val (.int v112), .val (.ref b113), .val (.int v132), .unset, .unset, .unset, .unset, .unset] [(.int v112), (.int (3 : Int32)), (.int v111), (.int (5 : Int32)), (.ref b113)])) t
            refine st144 _ ?_
            show Steps p.tables e below (T144.setTop (mkF m 274 #[.val (.int p0), .val (.int p1), .val (.int p2), .val (.int p3), .val (.int v1), .val (.int v2), .val (.int y), .val (.int (3 : Int32)), .val (.int v111), .val (.int v112), .val (.ref b113), .val (.int v132), .unset, .unset, .unset, .unset, .unset] [(.int (Own.b2i (own_kept (own_put3 g v111 y) (5 : Int32) v111 (3 : Int32) v112)))])) t
            exact k
          have hc145 : (own_kept (own_put3 g v111 y) (5 : Int32) v111 (3 : Int32) v112) = true := own_st3 g hn (by decide) (hg 5 (by decide))
          obtain ⟨T146, _, L146, X146, ⟨rfl, Nq146, e146⟩, st146⟩ := Own.callS (y := (⟨"org/wireform/json/JsonStringPutUtf8PinLaw", "kept", "([BIIIB)Z"⟩ : MethodName)) (W := 0) (argsL := [(.ref b113), (.int (6 : Int32)), (.int v111), (.int (3 : Int32)), (.int v112)]) (rest := []) X144 hx hZ hown (hw _ (List.mem_of_getElem? (i := 6) rfl)) (hw _ (List.mem_of_getElem? (i := 7) rfl)) (hw _ (List.mem_of_getElem? (i := 8) rfl)) (hw _ (List.mem_of_getElem? (i := 9) rfl)) (by decide) e144 (rm5 l Z a0 hw [] b113 (6 : Int32) v111 (3 : Int32) v112 (own_put3 g v111 y) T131.heap n0 (by decide) A131) (by decide) (by decide) (by decide) (by decide) (g := (mkF m 287 #[.val (.int p0), .val (.int p1), .val (.int p2), .val (.int p3), .val (.int v1), .val (.int v2), .val (.int y), .val (.int (3 : Int32)), .val (.int v111), .val (.int v112), .val (.ref b113), .val (.int v132), .unset, .unset, .unset, .unset, .unset] [(.int v112), (.int (3 : Int32)), (.int v111), (.int (6 : Int32)), (.ref b113)])) rfl (by rw [hml]; rfl) (lenOf pd_1 rfl) rfl (by show 2 * 0 + _ ≤ _; exact Nat.le_of_eq rfl) (hb hby at_287)
          have N146 := Fr.app N144 Nq146
          refine hD _ (T146.setTop (mkF m 290 #[.val (.int p0), .val (.int p1), .val (.int p2), .val (.int p3), .val (.int v1), .val (.int v2), .val (.int y), .val (.int (3 : Int32)), .val (.int v111), .val (.int v112), .val (.ref b113), .val (.int v132), .unset, .unset, .unset, .unset, .unset] [(.int (Own.b2i (own_kept (own_put3 g v111 y) (6 : Int32) v111 (3 : Int32) v112)))])) (fun t k => ?_) ?_
          · show Steps p.tables e below (T144.setTop (mkF m 274 #[.val (.int p0), .val (.int p1), .val (.int p2), .val (.int p3), .val (.int v1), .val (.int v2), .val (.int y), .val (.int (3 : Int32)), .val (.int v111), .val (.int v112), .val (.ref b113), .val (.int v132), .unset, .unset, .unset, .unset, .unset] [(.int (Own.b2i (own_kept (own_put3 g v111 y) (5 : Int32) v111 (3 : Int32) v112)))])) t
            refine XS.ifNo X144.here hx rfl (hb hby at_274) rfl ((if0 _ _).trans (feq (fun q => Own.b2i_eq0.mp q hc145)).1) ?_
            show Steps p.tables e below (T144.setTop (mkF m 277 #[.val (.int p0), .val (.int p1), .val (.int p2), .val (.int p3), .val (.int v1), .val (.int v2), .val (.int y), .val (.int (3 : Int32)), .val (.int v111), .val (.int v112), .val (.ref b113), .val (.int v132), .unset, .unset, .unset, .unset, .unset] [])) t
            refine XS.aload X144.here hx rfl (hb hby at_277) rfl rfl ?_
            show Steps p.tables e below (T144.setTop (mkF m 279 #[.val (.int p0), .val (.int p1), .val (.int p2), .val (.int p3), .val (.int v1), .val (.int v2), .val (.int y), .val (.int (3 : Int32)), .val (.int v111), .val (.int v112), .val (.ref b113), .val (.int v132), .unset, .unset, .unset, .unset, .unset] [(.ref b113)])) t
            refine XS.bipush X144.here hx rfl (hb hby at_279) ?_
            show Steps p.tables e below (T144.setTop (mkF m 281 #[.val (.int p0), .val (.int p1), .val (.int p2), .val (.int p3), .val (.int v1), .val (.int v2), .val (.int y), .val (.int (3 : Int32)), .val (.int v111), .val (.int v112), .val (.ref b113), .val (.int v132), .unset, .unset, .unset, .unset, .unset] [(.int (6 : Int32)), (.ref b113)])) t
            refine XS.iload X144.here hx rfl (hb hby at_281) rfl ?_
            show Steps p.tables e below (T144.setTop (mkF m 283 #[.val (.int p0), .val (.int p1), .val (.int p2), .val (.int p3), .val (.int v1), .val (.int v2), .val (.int y), .val (.int (3 : Int32)), .val (.int v111), .val (.int v112), .val (.ref b113), .val (.int v132), .unset, .unset, .unset, .unset, .unset] [(.int v111), (.int (6 : Int32)), (.ref b113)])) t
            refine XS.iload X144.here hx rfl (hb hby at_283) rfl ?_
            show Steps p.tables e below (T144.setTop (mkF m 285 #[.val (.int p0), .val (.int p1), .val (.int p2), .val (.int p3), .val (.int v1), .val (.int v2), .val (.int y), .val (.int (3 : Int32)), .val (.int v111), .val (.int v112), .val (.ref b113), .val (.int v132), .unset, .unset, .unset, .unset, .unset] [(.int (3 : Int32)), (.int v111), (.int (6 : Int32)), (.ref b113)])) t
            refine XS.iload X144.here hx rfl (hb hby at_285) rfl ?_
            show Steps p.tables e below (T144.setTop (mkF m 287 #[.val (.int p0), .val (.int p1), .val (.int p2), .val (.int p3), .val (.int v1), .val (.int v2), .val (.int y), .val (.int (3 : Int32)), .val (.int v111), .val (.int v112), .val (.ref b113), .val (.int v132), .unset, .unset, .unset, .unset, .unset] [(.int v112), (.int (3 : Int32)), (.int v111), (.int (6 : Int32)), (.ref b113)])) t
            refine st146 _ ?_
            show Steps p.tables e below (T146.setTop (mkF m 290 #[.val (.int p0), .val (.int p1), .val (.int p2), .val (.int p3), .val (.int v1), .val (.int v2), .val (.int y), .val (.int (3 : Int32)), .val (.int v111), .val (.int v112), .val (.ref b113), .val (.int v132), .unset, .unset, .unset, .unset, .unset] [(.int (Own.b2i (own_kept (own_put3 g v111 y) (6 : Int32) v111 (3 : Int32) v112)))])) t
            exact k
          have hc147 : (own_kept (own_put3 g v111 y) (6 : Int32) v111 (3 : Int32) v112) = true := own_st3 g hn (by decide) (hg 6 (by decide))
          obtain ⟨T148, _, L148, X148, ⟨rfl, Nq148, e148⟩, st148⟩ := Own.callS (y := (⟨"org/wireform/json/JsonStringPutUtf8PinLaw", "kept", "([BIIIB)Z"⟩ : MethodName)) (W := 0) (argsL := [(.ref b113), (.int (7 : Int32)), (.int v111), (.int (3 : Int32)), (.int v112)]) (rest := []) X146 hx hZ hown (hw _ (List.mem_of_getElem? (i := 6) rfl)) (hw _ (List.mem_of_getElem? (i := 7) rfl)) (hw _ (List.mem_of_getElem? (i := 8) rfl)) (hw _ (List.mem_of_getElem? (i := 9) rfl)) (by decide) e146 (rm5 l Z a0 hw [] b113 (7 : Int32) v111 (3 : Int32) v112 (own_put3 g v111 y) T131.heap n0 (by decide) A131) (by decide) (by decide) (by decide) (by decide) (g := (mkF m 303 #[.val (.int p0), .val (.int p1), .val (.int p2), .val (.int p3), .val (.int v1), .val (.int v2), .val (.int y), .val (.int (3 : Int32)), .val (.int v111), .val (.int v112), .val (.ref b113), .val (.int v132), .unset, .unset, .unset, .unset, .unset] [(.int v112), (.int (3 : Int32)), (.int v111), (.int (7 : Int32)), (.ref b113)])) rfl (by rw [hml]; rfl) (lenOf pd_1 rfl) rfl (by show 2 * 0 + _ ≤ _; exact Nat.le_of_eq rfl) (hb hby at_303)
          have N148 := Fr.app N146 Nq148
          refine hD _ (T148.setTop (mkF m 306 #[.val (.int p0), .val (.int p1), .val (.int p2), .val (.int p3), .val (.int v1), .val (.int v2), .val (.int y), .val (.int (3 : Int32)), .val (.int v111), .val (.int v112), .val (.ref b113), .val (.int v132), .unset, .unset, .unset, .unset, .unset] [(.int (Own.b2i (own_kept (own_put3 g v111 y) (7 : Int32) v111 (3 : Int32) v112)))])) (fun t k => ?_) ?_
          · show Steps p.tables e below (T146.setTop (mkF m 290 #[.val (.int p0), .val (.int p1), .val (.int p2), .val (.int p3), .val (.int v1), .val (.int v2), .val (.int y), .val (.int (3 : Int32)), .val (.int v111), .val (.int v112), .val (.ref b113), .val (.int v132), .unset, .unset, .unset, .unset, .unset] [(.int (Own.b2i (own_kept (own_put3 g v111 y) (6 : Int32) v111 (3 : Int32) v112)))])) t
            refine XS.ifNo X146.here hx rfl (hb hby at_290) rfl ((if0 _ _).trans (feq (fun q => Own.b2i_eq0.mp q hc147)).1) ?_
            show Steps p.tables e below (T146.setTop (mkF m 293 #[.val (.int p0), .val (.int p1), .val (.int p2), .val (.int p3), .val (.int v1), .val (.int v2), .val (.int y), .val (.int (3 : Int32)), .val (.int v111), .val (.int v112), .val (.ref b113), .val (.int v132), .unset, .unset, .unset, .unset, .unset] [])) t
            refine XS.aload X146.here hx rfl (hb hby at_293) rfl rfl ?_
            show Steps p.tables e below (T146.setTop (mkF m 295 #[.val (.int p0), .val (.int p1), .val (.int p2), .val (.int p3), .val (.int v1), .val (.int v2), .val (.int y), .val (.int (3 : Int32)), .val (.int v111), .val (.int v112), .val (.ref b113), .val (.int v132), .unset, .unset, .unset, .unset, .unset] [(.ref b113)])) t
            refine XS.bipush X146.here hx rfl (hb hby at_295) ?_
            show Steps p.tables e below (T146.setTop (mkF m 297 #[.val (.int p0), .val (.int p1), .val (.int p2), .val (.int p3), .val (.int v1), .val (.int v2), .val (.int y), .val (.int (3 : Int32)), .val (.int v111), .val (.int v112), .val (.ref b113), .val (.int v132), .unset, .unset, .unset, .unset, .unset] [(.int (7 : Int32)), (.ref b113)])) t
            refine XS.iload X146.here hx rfl (hb hby at_297) rfl ?_
            show Steps p.tables e below (T146.setTop (mkF m 299 #[.val (.int p0), .val (.int p1), .val (.int p2), .val (.int p3), .val (.int v1), .val (.int v2), .val (.int y), .val (.int (3 : Int32)), .val (.int v111), .val (.int v112), .val (.ref b113), .val (.int v132), .unset, .unset, .unset, .unset, .unset] [(.int v111), (.int (7 : Int32)), (.ref b113)])) t
            refine XS.iload X146.here hx rfl (hb hby at_299) rfl ?_
            show Steps p.tables e below (T146.setTop (mkF m 301 #[.val (.int p0), .val (.int p1), .val (.int p2), .val (.int p3), .val (.int v1), .val (.int v2), .val (.int y), .val (.int (3 : Int32)), .val (.int v111), .val (.int v112), .val (.ref b113), .val (.int v132), .unset, .unset, .unset, .unset, .unset] [(.int (3 : Int32)), (.int v111), (.int (7 : Int32)), (.ref b113)])) t
            refine XS.iload X146.here hx rfl (hb hby at_301) rfl ?_
            show Steps p.tables e below (T146.setTop (mkF m 303 #[.val (.int p0), .val (.int p1), .val (.int p2), .val (.int p3), .val (.int v1), .val (.int v2), .val (.int y), .val (.int (3 : Int32)), .val (.int v111), .val (.int v112), .val (.ref b113), .val (.int v132), .unset, .unset, .unset, .unset, .unset] [(.int v112), (.int (3 : Int32)), (.int v111), (.int (7 : Int32)), (.ref b113)])) t
            refine st148 _ ?_
            show Steps p.tables e below (T148.setTop (mkF m 306 #[.val (.int p0), .val (.int p1), .val (.int p2), .val (.int p3), .val (.int v1), .val (.int v2), .val (.int y), .val (.int (3 : Int32)), .val (.int v111), .val (.int v112), .val (.ref b113), .val (.int v132), .unset, .unset, .unset, .unset, .unset] [(.int (Own.b2i (own_kept (own_put3 g v111 y) (7 : Int32) v111 (3 : Int32) v112)))])) t
            exact k
          have hc149 : (own_kept (own_put3 g v111 y) (7 : Int32) v111 (3 : Int32) v112) = true := own_st3 g hn (by decide) (hg 7 (by decide))
          have hj150 : 0 ≤ v111.toInt ∧ v111.toInt < (8 : Nat) := (by omega)
          obtain ⟨v151, hv151⟩ : ∃ z : Int32, z = (((own_put3 g v111 y) v111.toInt.toNat) &&& (255 : Int32)) := ⟨_, rfl⟩
          have hj152 : 0 ≤ (v111 + (1 : Int32)).toInt ∧ (v111 + (1 : Int32)).toInt < (8 : Nat) := (by omega)
          obtain ⟨v153, hv153⟩ : ∃ z : Int32, z = (((own_put3 g v111 y) (v111 + (1 : Int32)).toInt.toNat) &&& (255 : Int32)) := ⟨_, rfl⟩
          have hj154 : 0 ≤ (v111 + (2 : Int32)).toInt ∧ (v111 + (2 : Int32)).toInt < (8 : Nat) := (by omega)
          obtain ⟨v155, hv155⟩ : ∃ z : Int32, z = (((own_put3 g v111 y) (v111 + (2 : Int32)).toInt.toNat) &&& (255 : Int32)) := ⟨_, rfl⟩
          have hj156 : 0 ≤ (v111 + (3 : Int32)).toInt ∧ (v111 + (3 : Int32)).toInt < (8 : Nat) := (by omega)
          obtain ⟨v157, hv157⟩ : ∃ z : Int32, z = (((own_put3 g v111 y) (v111 + (3 : Int32)).toInt.toNat) &&& (255 : Int32)) := ⟨_, rfl⟩
          have hat := own_at3 g (c := y) hn hcp
          have hb0 : v151.toInt = 224 + y.toInt / 4096 := by rw [hv151, hat.1, own_224 (by omega)]
          have hh0 := own_hi (u := v151) (by omega)
          have hb1 : v153.toInt = 128 + y.toInt / 64 % 64 := by rw [hv153, hat.2.1, own_128 _, own_shr6]
          have hh1 := own_hi (u := v153) (by omega)
          have hb2 : v155.toInt = 128 + y.toInt % 64 := by rw [hv155, hat.2.2, own_128 _]
          have hh2 := own_hi (u := v155) (by omega)
          refine hD _ (T148.setTop (mkF m 462 #[.val (.int p0), .val (.int p1), .val (.int p2), .val (.int p3), .val (.int v1), .val (.int v2), .val (.int y), .val (.int (3 : Int32)), .val (.int v111), .val (.int v112), .val (.ref b113), .val (.int v132), .val (.int (1 : Int32)), .val (.int v151), .val (.int v153), .val (.int v155), .val (.int v157)] [(.int (224 : Int32)), (.int (v151 &&& (240 : Int32)))])) (fun t k => ?_) ?_
          · show Steps p.tables e below (T148.setTop (mkF m 306 #[.val (.int p0), .val (.int p1), .val (.int p2), .val (.int p3), .val (.int v1), .val (.int v2), .val (.int y), .val (.int (3 : Int32)), .val (.int v111), .val (.int v112), .val (.ref b113), .val (.int v132), .unset, .unset, .unset, .unset, .unset] [(.int (Own.b2i (own_kept (own_put3 g v111 y) (7 : Int32) v111 (3 : Int32) v112)))])) t
            refine XS.ifNo X148.here hx rfl (hb hby at_306) rfl ((if0 _ _).trans (feq (fun q => Own.b2i_eq0.mp q hc149)).1) ?_
            show Steps p.tables e below (T148.setTop (mkF m 309 #[.val (.int p0), .val (.int p1), .val (.int p2), .val (.int p3), .val (.int v1), .val (.int v2), .val (.int y), .val (.int (3 : Int32)), .val (.int v111), .val (.int v112), .val (.ref b113), .val (.int v132), .unset, .unset, .unset, .unset, .unset] [])) t
            refine XS.iconst X148.here hx rfl (hb hby at_309) ?_
            show Steps p.tables e below (T148.setTop (mkF m 310 #[.val (.int p0), .val (.int p1), .val (.int p2), .val (.int p3), .val (.int v1), .val (.int v2), .val (.int y), .val (.int (3 : Int32)), .val (.int v111), .val (.int v112), .val (.ref b113), .val (.int v132), .unset, .unset, .unset, .unset, .unset] [(.int (1 : Int32))])) t
            refine XS.goto X148.here hx rfl (pc0 := 310) (pc' := 314) rfl (hb hby at_310) (by decide) (by decide) ?_
            show Steps p.tables e below (T148.setTop (mkF m 314 #[.val (.int p0), .val (.int p1), .val (.int p2), .val (.int p3), .val (.int v1), .val (.int v2), .val (.int y), .val (.int (3 : Int32)), .val (.int v111), .val (.int v112), .val (.ref b113), .val (.int v132), .unset, .unset, .unset, .unset, .unset] [(.int (1 : Int32))])) t
            refine XS.istore X148.here hx rfl (hb hby at_314) rfl (l' := #[.val (.int p0), .val (.int p1), .val (.int p2), .val (.int p3), .val (.int v1), .val (.int v2), .val (.int y), .val (.int (3 : Int32)), .val (.int v111), .val (.int v112), .val (.ref b113), .val (.int v132), .val (.int (1 : Int32)), .unset, .unset, .unset, .unset]) rfl ?_
            show Steps p.tables e below (T148.setTop (mkF m 316 #[.val (.int p0), .val (.int p1), .val (.int p2), .val (.int p3), .val (.int v1), .val (.int v2), .val (.int y), .val (.int (3 : Int32)), .val (.int v111), .val (.int v112), .val (.ref b113), .val (.int v132), .val (.int (1 : Int32)), .unset, .unset, .unset, .unset] [])) t
            refine XS.iload X148.here hx rfl (hb hby at_316) rfl ?_
            show Steps p.tables e below (T148.setTop (mkF m 318 #[.val (.int p0), .val (.int p1), .val (.int p2), .val (.int p3), .val (.int v1), .val (.int v2), .val (.int y), .val (.int (3 : Int32)), .val (.int v111), .val (.int v112), .val (.ref b113), .val (.int v132), .val (.int (1 : Int32)), .unset, .unset, .unset, .unset] [(.int (1 : Int32))])) t
            refine XS.ifYes X148.here hx rfl (pc0 := 318) (pc' := 323) rfl (hb hby at_318) rfl (by decide) (by decide) (by decide) ?_
            show Steps p.tables e below (T148.setTop (mkF m 323 #[.val (.int p0), .val (.int p1), .val (.int p2), .val (.int p3), .val (.int v1), .val (.int v2), .val (.int y), .val (.int (3 : Int32)), .val (.int v111), .val (.int v112), .val (.ref b113), .val (.int v132), .val (.int (1 : Int32)), .unset, .unset, .unset, .unset] [])) t
            refine XS.aload X148.here hx rfl (hb hby at_323) rfl rfl ?_
            show Steps p.tables e below (T148.setTop (mkF m 325 #[.val (.int p0), .val (.int p1), .val (.int p2), .val (.int p3), .val (.int v1), .val (.int v2), .val (.int y), .val (.int (3 : Int32)), .val (.int v111), .val (.int v112), .val (.ref b113), .val (.int v132), .val (.int (1 : Int32)), .unset, .unset, .unset, .unset] [(.ref b113)])) t
            refine XS.iload X148.here hx rfl (hb hby at_325) rfl ?_
            show Steps p.tables e below (T148.setTop (mkF m 327 #[.val (.int p0), .val (.int p1), .val (.int p2), .val (.int p3), .val (.int v1), .val (.int v2), .val (.int y), .val (.int (3 : Int32)), .val (.int v111), .val (.int v112), .val (.ref b113), .val (.int v132), .val (.int (1 : Int32)), .unset, .unset, .unset, .unset] [(.int v111), (.ref b113)])) t
            refine Own.ldB X148 hx hZ e148 A131 hj150 (g := (mkF m 327 #[.val (.int p0), .val (.int p1), .val (.int p2), .val (.int p3), .val (.int v1), .val (.int v2), .val (.int y), .val (.int (3 : Int32)), .val (.int v111), .val (.int v112), .val (.ref b113), .val (.int v132), .val (.int (1 : Int32)), .unset, .unset, .unset, .unset] [(.int v111), (.ref b113)])) rfl rfl (hb hby at_327) _ ?_
            show Steps p.tables e below (T148.setTop (mkF m 328 #[.val (.int p0), .val (.int p1), .val (.int p2), .val (.int p3), .val (.int v1), .val (.int v2), .val (.int y), .val (.int (3 : Int32)), .val (.int v111), .val (.int v112), .val (.ref b113), .val (.int v132), .val (.int (1 : Int32)), .unset, .unset, .unset, .unset] [(.int ((own_put3 g v111 y) v111.toInt.toNat))])) t
            refine XS.sipush X148.here hx rfl (hb hby at_328) ?_
            show Steps p.tables e below (T148.setTop (mkF m 331 #[.val (.int p0), .val (.int p1), .val (.int p2), .val (.int p3), .val (.int v1), .val (.int v2), .val (.int y), .val (.int (3 : Int32)), .val (.int v111), .val (.int v112), .val (.ref b113), .val (.int v132), .val (.int (1 : Int32)), .unset, .unset, .unset, .unset] [(.int (255 : Int32)), (.int ((own_put3 g v111 y) v111.toInt.toNat))])) t
            refine XS.iand X148.here hx rfl (hb hby at_331) rfl ?_
            show Steps p.tables e below (T148.setTop (mkF m 332 #[.val (.int p0), .val (.int p1), .val (.int p2), .val (.int p3), .val (.int v1), .val (.int v2), .val (.int y), .val (.int (3 : Int32)), .val (.int v111), .val (.int v112), .val (.ref b113), .val (.int v132), .val (.int (1 : Int32)), .unset, .unset, .unset, .unset] [(.int (((own_put3 g v111 y) v111.toInt.toNat) &&& (255 : Int32)))])) t
            refine Own.nmI hv151 ?_
            show Steps p.tables e below (T148.setTop (mkF m 332 #[.val (.int p0), .val (.int p1), .val (.int p2), .val (.int p3), .val (.int v1), .val (.int v2), .val (.int y), .val (.int (3 : Int32)), .val (.int v111), .val (.int v112), .val (.ref b113), .val (.int v132), .val (.int (1 : Int32)), .unset, .unset, .unset, .unset] [(.int v151)])) t
            refine XS.istore X148.here hx rfl (hb hby at_332) rfl (l' := #[.val (.int p0), .val (.int p1), .val (.int p2), .val (.int p3), .val (.int v1), .val (.int v2), .val (.int y), .val (.int (3 : Int32)), .val (.int v111), .val (.int v112), .val (.ref b113), .val (.int v132), .val (.int (1 : Int32)), .val (.int v151), .unset, .unset, .unset]) rfl ?_
            show Steps p.tables e below (T148.setTop (mkF m 334 #[.val (.int p0), .val (.int p1), .val (.int p2), .val (.int p3), .val (.int v1), .val (.int v2), .val (.int y), .val (.int (3 : Int32)), .val (.int v111), .val (.int v112), .val (.ref b113), .val (.int v132), .val (.int (1 : Int32)), .val (.int v151), .unset, .unset, .unset] [])) t
            refine XS.aload X148.here hx rfl (hb hby at_334) rfl rfl ?_
            show Steps p.tables e below (T148.setTop (mkF m 336 #[.val (.int p0), .val (.int p1), .val (.int p2), .val (.int p3), .val (.int v1), .val (.int v2), .val (.int y), .val (.int (3 : Int32)), .val (.int v111), .val (.int v112), .val (.ref b113), .val (.int v132), .val (.int (1 : Int32)), .val (.int v151), .unset, .unset, .unset] [(.ref b113)])) t
            refine XS.iload X148.here hx rfl (hb hby at_336) rfl ?_
            show Steps p.tables e below (T148.setTop (mkF m 338 #[.val (.int p0), .val (.int p1), .val (.int p2), .val (.int p3), .val (.int v1), .val (.int v2), .val (.int y), .val (.int (3 : Int32)), .val (.int v111), .val (.int v112), .val (.ref b113), .val (.int v132), .val (.int (1 : Int32)), .val (.int v151), .unset, .unset, .unset] [(.int v111), (.ref b113)])) t
            refine XS.iconst X148.here hx rfl (hb hby at_338) ?_
            show Steps p.tables e below (T148.setTop (mkF m 339 #[.val (.int p0), .val (.int p1), .val (.int p2), .val (.int p3), .val (.int v1), .val (.int v2), .val (.int y), .val (.int (3 : Int32)), .val (.int v111), .val (.int v112), .val (.ref b113), .val (.int v132), .val (.int (1 : Int32)), .val (.int v151), .unset, .unset, .unset] [(.int (1 : Int32)), (.int v111), (.ref b113)])) t
            refine XS.iadd X148.here hx rfl (hb hby at_339) rfl ?_
            show Steps p.tables e below (T148.setTop (mkF m 340 #[.val (.int p0), .val (.int p1), .val (.int p2), .val (.int p3), .val (.int v1), .val (.int v2), .val (.int y), .val (.int (3 : Int32)), .val (.int v111), .val (.int v112), .val (.ref b113), .val (.int v132), .val (.int (1 : Int32)), .val (.int v151), .unset, .unset, .unset] [(.int (v111 + (1 : Int32))), (.ref b113)])) t
            refine Own.ldB X148 hx hZ e148 A131 hj152 (g := (mkF m 340 #[.val (.int p0), .val (.int p1), .val (.int p2), .val (.int p3), .val (.int v1), .val (.int v2), .val (.int y), .val (.int (3 : Int32)), .val (.int v111), .val (.int v112), .val (.ref b113), .val (.int v132), .val (.int (1 : Int32)), .val (.int v151), .unset, .unset, .unset] [(.int (v111 + (1 : Int32))), (.ref b113)])) rfl rfl (hb hby at_340) _ ?_
            show Steps p.tables e below (T148.setTop (mkF m 341 #[.val (.int p0), .val (.int p1), .val (.int p2), .val (.int p3), .val (.int v1), .val (.int v2), .val (.int y), .val (.int (3 : Int32)), .val (.int v111), .val (.int v112), .val (.ref b113), .val (.int v132), .val (.int (1 : Int32)), .val (.int v151), .unset, .unset, .unset] [(.int ((own_put3 g v111 y) (v111 + (1 : Int32)).toInt.toNat))])) t
            refine XS.sipush X148.here hx rfl (hb hby at_341) ?_
            show Steps p.tables e below (T148.setTop (mkF m 344 #[.val (.int p0), .val (.int p1), .val (.int p2), .val (.int p3), .val (.int v1), .val (.int v2), .val (.int y), .val (.int (3 : Int32)), .val (.int v111), .val (.int v112), .val (.ref b113), .val (.int v132), .val (.int (1 : Int32)), .val (.int v151), .unset, .unset, .unset] [(.int (255 : Int32)), (.int ((own_put3 g v111 y) (v111 + (1 : Int32)).toInt.toNat))])) t
            refine XS.iand X148.here hx rfl (hb hby at_344) rfl ?_
            show Steps p.tables e below (T148.setTop (mkF m 345 #[.val (.int p0), .val (.int p1), .val (.int p2), .val (.int p3), .val (.int v1), .val (.int v2), .val (.int y), .val (.int (3 : Int32)), .val (.int v111), .val (.int v112), .val (.ref b113), .val (.int v132), .val (.int (1 : Int32)), .val (.int v151), .unset, .unset, .unset] [(.int (((own_put3 g v111 y) (v111 + (1 : Int32)).toInt.toNat) &&& (255 : Int32)))])) t
            refine Own.nmI hv153 ?_
            show Steps p.tables e below (T148.setTop (mkF m 345 #[.val (.int p0), .val (.int p1), .val (.int p2), .val (.int p3), .val (.int v1), .val (.int v2), .val (.int y), .val (.int (3 : Int32)), .val (.int v111), .val (.int v112), .val (.ref b113), .val (.int v132), .val (.int (1 : Int32)), .val (.int v151), .unset, .unset, .unset] [(.int v153)])) t
            refine XS.istore X148.here hx rfl (hb hby at_345) rfl (l' := #[.val (.int p0), .val (.int p1), .val (.int p2), .val (.int p3), .val (.int v1), .val (.int v2), .val (.int y), .val (.int (3 : Int32)), .val (.int v111), .val (.int v112), .val (.ref b113), .val (.int v132), .val (.int (1 : Int32)), .val (.int v151), .val (.int v153), .unset, .unset]) rfl ?_
            show Steps p.tables e below (T148.setTop (mkF m 347 #[.val (.int p0), .val (.int p1), .val (.int p2), .val (.int p3), .val (.int v1), .val (.int v2), .val (.int y), .val (.int (3 : Int32)), .val (.int v111), .val (.int v112), .val (.ref b113), .val (.int v132), .val (.int (1 : Int32)), .val (.int v151), .val (.int v153), .unset, .unset] [])) t
            refine XS.aload X148.here hx rfl (hb hby at_347) rfl rfl ?_
            show Steps p.tables e below (T148.setTop (mkF m 349 #[.val (.int p0), .val (.int p1), .val (.int p2), .val (.int p3), .val (.int v1), .val (.int v2), .val (.int y), .val (.int (3 : Int32)), .val (.int v111), .val (.int v112), .val (.ref b113), .val (.int v132), .val (.int (1 : Int32)), .val (.int v151), .val (.int v153), .unset, .unset] [(.ref b113)])) t
            refine XS.iload X148.here hx rfl (hb hby at_349) rfl ?_
            show Steps p.tables e below (T148.setTop (mkF m 351 #[.val (.int p0), .val (.int p1), .val (.int p2), .val (.int p3), .val (.int v1), .val (.int v2), .val (.int y), .val (.int (3 : Int32)), .val (.int v111), .val (.int v112), .val (.ref b113), .val (.int v132), .val (.int (1 : Int32)), .val (.int v151), .val (.int v153), .unset, .unset] [(.int v111), (.ref b113)])) t
            refine XS.iconst X148.here hx rfl (hb hby at_351) ?_
            show Steps p.tables e below (T148.setTop (mkF m 352 #[.val (.int p0), .val (.int p1), .val (.int p2), .val (.int p3), .val (.int v1), .val (.int v2), .val (.int y), .val (.int (3 : Int32)), .val (.int v111), .val (.int v112), .val (.ref b113), .val (.int v132), .val (.int (1 : Int32)), .val (.int v151), .val (.int v153), .unset, .unset] [(.int (2 : Int32)), (.int v111), (.ref b113)])) t
            refine XS.iadd X148.here hx rfl (hb hby at_352) rfl ?_
            show Steps p.tables e below (T148.setTop (mkF m 353 #[.val (.int p0), .val (.int p1), .val (.int p2), .val (.int p3), .val (.int v1), .val (.int v2), .val (.int y), .val (.int (3 : Int32)), .val (.int v111), .val (.int v112), .val (.ref b113), .val (.int v132), .val (.int (1 : Int32)), .val (.int v151), .val (.int v153), .unset, .unset] [(.int (v111 + (2 : Int32))), (.ref b113)])) t
            refine Own.ldB X148 hx hZ e148 A131 hj154 (g := (mkF m 353 #[.val (.int p0), .val (.int p1), .val (.int p2), .val (.int p3), .val (.int v1), .val (.int v2), .val (.int y), .val (.int (3 : Int32)), .val (.int v111), .val (.int v112), .val (.ref b113), .val (.int v132), .val (.int (1 : Int32)), .val (.int v151), .val (.int v153), .unset, .unset] [(.int (v111 + (2 : Int32))), (.ref b113)])) rfl rfl (hb hby at_353) _ ?_
            show Steps p.tables e below (T148.setTop (mkF m 354 #[.val (.int p0), .val (.int p1), .val (.int p2), .val (.int p3), .val (.int v1), .val (.int v2), .val (.int y), .val (.int (3 : Int32)), .val (.int v111), .val (.int v112), .val (.ref b113), .val (.int v132), .val (.int (1 : Int32)), .val (.int v151), .val (.int v153), .unset, .unset] [(.int ((own_put3 g v111 y) (v111 + (2 : Int32)).toInt.toNat))])) t
            refine XS.sipush X148.here hx rfl (hb hby at_354) ?_
            show Steps p.tables e below (T148.setTop (mkF m 357 #[.val (.int p0), .val (.int p1), .val (.int p2), .val (.int p3), .val (.int v1), .val (.int v2), .val (.int y), .val (.int (3 : Int32)), .val (.int v111), .val (.int v112), .val (.ref b113), .val (.int v132), .val (.int (1 : Int32)), .val (.int v151), .val (.int v153), .unset, .unset] [(.int (255 : Int32)), (.int ((own_put3 g v111 y) (v111 + (2 : Int32)).toInt.toNat))])) t
            refine XS.iand X148.here hx rfl (hb hby at_357) rfl ?_
            show Steps p.tables e below (T148.setTop (mkF m 358 #[.val (.int p0), .val (.int p1), .val (.int p2), .val (.int p3), .val (.int v1), .val (.int v2), .val (.int y), .val (.int (3 : Int32)), .val (.int v111), .val (.int v112), .val (.ref b113), .val (.int v132), .val (.int (1 : Int32)), .val (.int v151), .val (.int v153), .unset, .unset] [(.int (((own_put3 g v111 y) (v111 + (2 : Int32)).toInt.toNat) &&& (255 : Int32)))])) t
            refine Own.nmI hv155 ?_
            show Steps p.tables e below (T148.setTop (mkF m 358 #[.val (.int p0), .val (.int p1), .val (.int p2), .val (.int p3), .val (.int v1), .val (.int v2), .val (.int y), .val (.int (3 : Int32)), .val (.int v111), .val (.int v112), .val (.ref b113), .val (.int v132), .val (.int (1 : Int32)), .val (.int v151), .val (.int v153), .unset, .unset] [(.int v155)])) t
            refine XS.istore X148.here hx rfl (hb hby at_358) rfl (l' := #[.val (.int p0), .val (.int p1), .val (.int p2), .val (.int p3), .val (.int v1), .val (.int v2), .val (.int y), .val (.int (3 : Int32)), .val (.int v111), .val (.int v112), .val (.ref b113), .val (.int v132), .val (.int (1 : Int32)), .val (.int v151), .val (.int v153), .val (.int v155), .unset]) rfl ?_
            show Steps p.tables e below (T148.setTop (mkF m 360 #[.val (.int p0), .val (.int p1), .val (.int p2), .val (.int p3), .val (.int v1), .val (.int v2), .val (.int y), .val (.int (3 : Int32)), .val (.int v111), .val (.int v112), .val (.ref b113), .val (.int v132), .val (.int (1 : Int32)), .val (.int v151), .val (.int v153), .val (.int v155), .unset] [])) t
            refine XS.aload X148.here hx rfl (hb hby at_360) rfl rfl ?_
            show Steps p.tables e below (T148.setTop (mkF m 362 #[.val (.int p0), .val (.int p1), .val (.int p2), .val (.int p3), .val (.int v1), .val (.int v2), .val (.int y), .val (.int (3 : Int32)), .val (.int v111), .val (.int v112), .val (.ref b113), .val (.int v132), .val (.int (1 : Int32)), .val (.int v151), .val (.int v153), .val (.int v155), .unset] [(.ref b113)])) t
            refine XS.iload X148.here hx rfl (hb hby at_362) rfl ?_
            show Steps p.tables e below (T148.setTop (mkF m 364 #[.val (.int p0), .val (.int p1), .val (.int p2), .val (.int p3), .val (.int v1), .val (.int v2), .val (.int y), .val (.int (3 : Int32)), .val (.int v111), .val (.int v112), .val (.ref b113), .val (.int v132), .val (.int (1 : Int32)), .val (.int v151), .val (.int v153), .val (.int v155), .unset] [(.int v111), (.ref b113)])) t
            refine XS.iconst X148.here hx rfl (hb hby at_364) ?_
            show Steps p.tables e below (T148.setTop (mkF m 365 #[.val (.int p0), .val (.int p1), .val (.int p2), .val (.int p3), .val (.int v1), .val (.int v2), .val (.int y), .val (.int (3 : Int32)), .val (.int v111), .val (.int v112), .val (.ref b113), .val (.int v132), .val (.int (1 : Int32)), .val (.int v151), .val (.int v153), .val (.int v155), .unset] [(.int (3 : Int32)), (.int v111), (.ref b113)])) t
            refine XS.iadd X148.here hx rfl (hb hby at_365) rfl ?_
            show Steps p.tables e below (T148.setTop (mkF m 366 #[.val (.int p0), .val (.int p1), .val (.int p2), .val (.int p3), .val (.int v1), .val (.int v2), .val (.int y), .val (.int (3 : Int32)), .val (.int v111), .val (.int v112), .val (.ref b113), .val (.int v132), .val (.int (1 : Int32)), .val (.int v151), .val (.int v153), .val (.int v155), .unset] [(.int (v111 + (3 : Int32))), (.ref b113)])) t
            refine Own.ldB X148 hx hZ e148 A131 hj156 (g := (mkF m 366 #[.val (.int p0), .val (.int p1), .val (.int p2), .val (.int p3), .val (.int v1), .val (.int v2), .val (.int y), .val (.int (3 : Int32)), .val (.int v111), .val (.int v112), .val (.ref b113), .val (.int v132), .val (.int (1 : Int32)), .val (.int v151), .val (.int v153), .val (.int v155), .unset] [(.int (v111 + (3 : Int32))), (.ref b113)])) rfl rfl (hb hby at_366) _ ?_
            show Steps p.tables e below (T148.setTop (mkF m 367 #[.val (.int p0), .val (.int p1), .val (.int p2), .val (.int p3), .val (.int v1), .val (.int v2), .val (.int y), .val (.int (3 : Int32)), .val (.int v111), .val (.int v112), .val (.ref b113), .val (.int v132), .val (.int (1 : Int32)), .val (.int v151), .val (.int v153), .val (.int v155), .unset] [(.int ((own_put3 g v111 y) (v111 + (3 : Int32)).toInt.toNat))])) t
            refine XS.sipush X148.here hx rfl (hb hby at_367) ?_
            show Steps p.tables e below (T148.setTop (mkF m 370 #[.val (.int p0), .val (.int p1), .val (.int p2), .val (.int p3), .val (.int v1), .val (.int v2), .val (.int y), .val (.int (3 : Int32)), .val (.int v111), .val (.int v112), .val (.ref b113), .val (.int v132), .val (.int (1 : Int32)), .val (.int v151), .val (.int v153), .val (.int v155), .unset] [(.int (255 : Int32)), (.int ((own_put3 g v111 y) (v111 + (3 : Int32)).toInt.toNat))])) t
            refine XS.iand X148.here hx rfl (hb hby at_370) rfl ?_
            show Steps p.tables e below (T148.setTop (mkF m 371 #[.val (.int p0), .val (.int p1), .val (.int p2), .val (.int p3), .val (.int v1), .val (.int v2), .val (.int y), .val (.int (3 : Int32)), .val (.int v111), .val (.int v112), .val (.ref b113), .val (.int v132), .val (.int (1 : Int32)), .val (.int v151), .val (.int v153), .val (.int v155), .unset] [(.int (((own_put3 g v111 y) (v111 + (3 : Int32)).toInt.toNat) &&& (255 : Int32)))])) t
            refine Own.nmI hv157 ?_
            show Steps p.tables e below (T148.setTop (mkF m 371 #[.val (.int p0), .val (.int p1), .val (.int p2), .val (.int p3), .val (.int v1), .val (.int v2), .val (.int y), .val (.int (3 : Int32)), .val (.int v111), .val (.int v112), .val (.ref b113), .val (.int v132), .val (.int (1 : Int32)), .val (.int v151), .val (.int v153), .val (.int v155), .unset] [(.int v157)])) t
            refine XS.istore X148.here hx rfl (hb hby at_371) rfl (l' := #[.val (.int p0), .val (.int p1), .val (.int p2), .val (.int p3), .val (.int v1), .val (.int v2), .val (.int y), .val (.int (3 : Int32)), .val (.int v111), .val (.int v112), .val (.ref b113), .val (.int v132), .val (.int (1 : Int32)), .val (.int v151), .val (.int v153), .val (.int v155), .val (.int v157)]) rfl ?_
            show Steps p.tables e below (T148.setTop (mkF m 373 #[.val (.int p0), .val (.int p1), .val (.int p2), .val (.int p3), .val (.int v1), .val (.int v2), .val (.int y), .val (.int (3 : Int32)), .val (.int v111), .val (.int v112), .val (.ref b113), .val (.int v132), .val (.int (1 : Int32)), .val (.int v151), .val (.int v153), .val (.int v155), .val (.int v157)] [])) t
            refine XS.iload X148.here hx rfl (hb hby at_373) rfl ?_
            show Steps p.tables e below (T148.setTop (mkF m 375 #[.val (.int p0), .val (.int p1), .val (.int p2), .val (.int p3), .val (.int v1), .val (.int v2), .val (.int y), .val (.int (3 : Int32)), .val (.int v111), .val (.int v112), .val (.ref b113), .val (.int v132), .val (.int (1 : Int32)), .val (.int v151), .val (.int v153), .val (.int v155), .val (.int v157)] [(.int (3 : Int32))])) t
            refine XS.iconst X148.here hx rfl (hb hby at_375) ?_
            show Steps p.tables e below (T148.setTop (mkF m 376 #[.val (.int p0), .val (.int p1), .val (.int p2), .val (.int p3), .val (.int v1), .val (.int v2), .val (.int y), .val (.int (3 : Int32)), .val (.int v111), .val (.int v112), .val (.ref b113), .val (.int v132), .val (.int (1 : Int32)), .val (.int v151), .val (.int v153), .val (.int v155), .val (.int v157)] [(.int (1 : Int32)), (.int (3 : Int32))])) t
            refine XS.icmpYes X148.here hx rfl (pc0 := 376) (pc' := 392) rfl (hb hby at_376) rfl (by decide) (by decide) (by decide) ?_
            show Steps p.tables e below (T148.setTop (mkF m 392 #[.val (.int p0), .val (.int p1), .val (.int p2), .val (.int p3), .val (.int v1), .val (.int v2), .val (.int y), .val (.int (3 : Int32)), .val (.int v111), .val (.int v112), .val (.ref b113), .val (.int v132), .val (.int (1 : Int32)), .val (.int v151), .val (.int v153), .val (.int v155), .val (.int v157)] [])) t
            refine XS.iload X148.here hx rfl (hb hby at_392) rfl ?_
            show Steps p.tables e below (T148.setTop (mkF m 394 #[.val (.int p0), .val (.int p1), .val (.int p2), .val (.int p3), .val (.int v1), .val (.int v2), .val (.int y), .val (.int (3 : Int32)), .val (.int v111), .val (.int v112), .val (.ref b113), .val (.int v132), .val (.int (1 : Int32)), .val (.int v151), .val (.int v153), .val (.int v155), .val (.int v157)] [(.int (3 : Int32))])) t
            refine XS.iconst X148.here hx rfl (hb hby at_394) ?_
            show Steps p.tables e below (T148.setTop (mkF m 395 #[.val (.int p0), .val (.int p1), .val (.int p2), .val (.int p3), .val (.int v1), .val (.int v2), .val (.int y), .val (.int (3 : Int32)), .val (.int v111), .val (.int v112), .val (.ref b113), .val (.int v132), .val (.int (1 : Int32)), .val (.int v151), .val (.int v153), .val (.int v155), .val (.int v157)] [(.int (2 : Int32)), (.int (3 : Int32))])) t
            refine XS.icmpYes X148.here hx rfl (pc0 := 395) (pc' := 447) rfl (hb hby at_395) rfl (by decide) (by decide) (by decide) ?_
            show Steps p.tables e below (T148.setTop (mkF m 447 #[.val (.int p0), .val (.int p1), .val (.int p2), .val (.int p3), .val (.int v1), .val (.int v2), .val (.int y), .val (.int (3 : Int32)), .val (.int v111), .val (.int v112), .val (.ref b113), .val (.int v132), .val (.int (1 : Int32)), .val (.int v151), .val (.int v153), .val (.int v155), .val (.int v157)] [])) t
            refine XS.iload X148.here hx rfl (hb hby at_447) rfl ?_
            show Steps p.tables e below (T148.setTop (mkF m 449 #[.val (.int p0), .val (.int p1), .val (.int p2), .val (.int p3), .val (.int v1), .val (.int v2), .val (.int y), .val (.int (3 : Int32)), .val (.int v111), .val (.int v112), .val (.ref b113), .val (.int v132), .val (.int (1 : Int32)), .val (.int v151), .val (.int v153), .val (.int v155), .val (.int v157)] [(.int (3 : Int32))])) t
            refine XS.iconst X148.here hx rfl (hb hby at_449) ?_
            show Steps p.tables e below (T148.setTop (mkF m 450 #[.val (.int p0), .val (.int p1), .val (.int p2), .val (.int p3), .val (.int v1), .val (.int v2), .val (.int y), .val (.int (3 : Int32)), .val (.int v111), .val (.int v112), .val (.ref b113), .val (.int v132), .val (.int (1 : Int32)), .val (.int v151), .val (.int v153), .val (.int v155), .val (.int v157)] [(.int (3 : Int32)), (.int (3 : Int32))])) t
            refine XS.icmpNo X148.here hx rfl (hb hby at_450) rfl (by decide) ?_
            show Steps p.tables e below (T148.setTop (mkF m 453 #[.val (.int p0), .val (.int p1), .val (.int p2), .val (.int p3), .val (.int v1), .val (.int v2), .val (.int y), .val (.int (3 : Int32)), .val (.int v111), .val (.int v112), .val (.ref b113), .val (.int v132), .val (.int (1 : Int32)), .val (.int v151), .val (.int v153), .val (.int v155), .val (.int v157)] [])) t
            refine XS.iload X148.here hx rfl (hb hby at_453) rfl ?_
            show Steps p.tables e below (T148.setTop (mkF m 455 #[.val (.int p0), .val (.int p1), .val (.int p2), .val (.int p3), .val (.int v1), .val (.int v2), .val (.int y), .val (.int (3 : Int32)), .val (.int v111), .val (.int v112), .val (.ref b113), .val (.int v132), .val (.int (1 : Int32)), .val (.int v151), .val (.int v153), .val (.int v155), .val (.int v157)] [(.int v151)])) t
            refine XS.sipush X148.here hx rfl (hb hby at_455) ?_
            show Steps p.tables e below (T148.setTop (mkF m 458 #[.val (.int p0), .val (.int p1), .val (.int p2), .val (.int p3), .val (.int v1), .val (.int v2), .val (.int y), .val (.int (3 : Int32)), .val (.int v111), .val (.int v112), .val (.ref b113), .val (.int v132), .val (.int (1 : Int32)), .val (.int v151), .val (.int v153), .val (.int v155), .val (.int v157)] [(.int (240 : Int32)), (.int v151)])) t
            refine XS.iand X148.here hx rfl (hb hby at_458) rfl ?_
            show Steps p.tables e below (T148.setTop (mkF m 459 #[.val (.int p0), .val (.int p1), .val (.int p2), .val (.int p3), .val (.int v1), .val (.int v2), .val (.int y), .val (.int (3 : Int32)), .val (.int v111), .val (.int v112), .val (.ref b113), .val (.int v132), .val (.int (1 : Int32)), .val (.int v151), .val (.int v153), .val (.int v155), .val (.int v157)] [(.int (v151 &&& (240 : Int32)))])) t
            refine XS.sipush X148.here hx rfl (hb hby at_459) ?_
            show Steps p.tables e below (T148.setTop (mkF m 462 #[.val (.int p0), .val (.int p1), .val (.int p2), .val (.int p3), .val (.int v1), .val (.int v2), .val (.int y), .val (.int (3 : Int32)), .val (.int v111), .val (.int v112), .val (.ref b113), .val (.int v132), .val (.int (1 : Int32)), .val (.int v151), .val (.int v153), .val (.int v155), .val (.int v157)] [(.int (224 : Int32)), (.int (v151 &&& (240 : Int32)))])) t
            exact k
          have hc158 : (v151 &&& (240 : Int32)) = (224 : Int32) := hh0.2.1 (by omega)
          refine hD _ (T148.setTop (mkF m 474 #[.val (.int p0), .val (.int p1), .val (.int p2), .val (.int p3), .val (.int v1), .val (.int v2), .val (.int y), .val (.int (3 : Int32)), .val (.int v111), .val (.int v112), .val (.ref b113), .val (.int v132), .val (.int (1 : Int32)), .val (.int v151), .val (.int v153), .val (.int v155), .val (.int v157)] [(.int (128 : Int32)), (.int (v153 &&& (192 : Int32)))])) (fun t k => ?_) ?_
          · show Steps p.tables e below (T148.setTop (mkF m 462 #[.val (.int p0), .val (.int p1), .val (.int p2), .val (.int p3), .val (.int v1), .val (.int v2), .val (.int y), .val (.int (3 : Int32)), .val (.int v111), .val (.int v112), .val (.ref b113), .val (.int v132), .val (.int (1 : Int32)), .val (.int v151), .val (.int v153), .val (.int v155), .val (.int v157)] [(.int (224 : Int32)), (.int (v151 &&& (240 : Int32)))])) t
            refine XS.icmpNo X148.here hx rfl (hb hby at_462) rfl (teq hc158).2 ?_
            show Steps p.tables e below (T148.setTop (mkF m 465 #[.val (.int p0), .val (.int p1), .val (.int p2), .val (.int p3), .val (.int v1), .val (.int v2), .val (.int y), .val (.int (3 : Int32)), .val (.int v111), .val (.int v112), .val (.ref b113), .val (.int v132), .val (.int (1 : Int32)), .val (.int v151), .val (.int v153), .val (.int v155), .val (.int v157)] [])) t
            refine XS.iload X148.here hx rfl (hb hby at_465) rfl ?_
            show Steps p.tables e below (T148.setTop (mkF m 467 #[.val (.int p0), .val (.int p1), .val (.int p2), .val (.int p3), .val (.int v1), .val (.int v2), .val (.int y), .val (.int (3 : Int32)), .val (.int v111), .val (.int v112), .val (.ref b113), .val (.int v132), .val (.int (1 : Int32)), .val (.int v151), .val (.int v153), .val (.int v155), .val (.int v157)] [(.int v153)])) t
            refine XS.sipush X148.here hx rfl (hb hby at_467) ?_
            show Steps p.tables e below (T148.setTop (mkF m 470 #[.val (.int p0), .val (.int p1), .val (.int p2), .val (.int p3), .val (.int v1), .val (.int v2), .val (.int y), .val (.int (3 : Int32)), .val (.int v111), .val (.int v112), .val (.ref b113), .val (.int v132), .val (.int (1 : Int32)), .val (.int v151), .val (.int v153), .val (.int v155), .val (.int v157)] [(.int (192 : Int32)), (.int v153)])) t
            refine XS.iand X148.here hx rfl (hb hby at_470) rfl ?_
            show Steps p.tables e below (T148.setTop (mkF m 471 #[.val (.int p0), .val (.int p1), .val (.int p2), .val (.int p3), .val (.int v1), .val (.int v2), .val (.int y), .val (.int (3 : Int32)), .val (.int v111), .val (.int v112), .val (.ref b113), .val (.int v132), .val (.int (1 : Int32)), .val (.int v151), .val (.int v153), .val (.int v155), .val (.int v157)] [(.int (v153 &&& (192 : Int32)))])) t
            refine XS.sipush X148.here hx rfl (hb hby at_471) ?_
            show Steps p.tables e below (T148.setTop (mkF m 474 #[.val (.int p0), .val (.int p1), .val (.int p2), .val (.int p3), .val (.int v1), .val (.int v2), .val (.int y), .val (.int (3 : Int32)), .val (.int v111), .val (.int v112), .val (.ref b113), .val (.int v132), .val (.int (1 : Int32)), .val (.int v151), .val (.int v153), .val (.int v155), .val (.int v157)] [(.int (128 : Int32)), (.int (v153 &&& (192 : Int32)))])) t
            exact k
          have hc159 : (v153 &&& (192 : Int32)) = (128 : Int32) := hh1.2.2.2 (by omega)
          refine hD _ (T148.setTop (mkF m 486 #[.val (.int p0), .val (.int p1), .val (.int p2), .val (.int p3), .val (.int v1), .val (.int v2), .val (.int y), .val (.int (3 : Int32)), .val (.int v111), .val (.int v112), .val (.ref b113), .val (.int v132), .val (.int (1 : Int32)), .val (.int v151), .val (.int v153), .val (.int v155), .val (.int v157)] [(.int (128 : Int32)), (.int (v155 &&& (192 : Int32)))])) (fun t k => ?_) ?_
          · show Steps p.tables e below (T148.setTop (mkF m 474 #[.val (.int p0), .val (.int p1), .val (.int p2), .val (.int p3), .val (.int v1), .val (.int v2), .val (.int y), .val (.int (3 : Int32)), .val (.int v111), .val (.int v112), .val (.ref b113), .val (.int v132), .val (.int (1 : Int32)), .val (.int v151), .val (.int v153), .val (.int v155), .val (.int v157)] [(.int (128 : Int32)), (.int (v153 &&& (192 : Int32)))])) t
            refine XS.icmpNo X148.here hx rfl (hb hby at_474) rfl (teq hc159).2 ?_
            show Steps p.tables e below (T148.setTop (mkF m 477 #[.val (.int p0), .val (.int p1), .val (.int p2), .val (.int p3), .val (.int v1), .val (.int v2), .val (.int y), .val (.int (3 : Int32)), .val (.int v111), .val (.int v112), .val (.ref b113), .val (.int v132), .val (.int (1 : Int32)), .val (.int v151), .val (.int v153), .val (.int v155), .val (.int v157)] [])) t
            refine XS.iload X148.here hx rfl (hb hby at_477) rfl ?_
            show Steps p.tables e below (T148.setTop (mkF m 479 #[.val (.int p0), .val (.int p1), .val (.int p2), .val (.int p3), .val (.int v1), .val (.int v2), .val (.int y), .val (.int (3 : Int32)), .val (.int v111), .val (.int v112), .val (.ref b113), .val (.int v132), .val (.int (1 : Int32)), .val (.int v151), .val (.int v153), .val (.int v155), .val (.int v157)] [(.int v155)])) t
            refine XS.sipush X148.here hx rfl (hb hby at_479) ?_
            show Steps p.tables e below (T148.setTop (mkF m 482 #[.val (.int p0), .val (.int p1), .val (.int p2), .val (.int p3), .val (.int v1), .val (.int v2), .val (.int y), .val (.int (3 : Int32)), .val (.int v111), .val (.int v112), .val (.ref b113), .val (.int v132), .val (.int (1 : Int32)), .val (.int v151), .val (.int v153), .val (.int v155), .val (.int v157)] [(.int (192 : Int32)), (.int v155)])) t
            refine XS.iand X148.here hx rfl (hb hby at_482) rfl ?_
            show Steps p.tables e below (T148.setTop (mkF m 483 #[.val (.int p0), .val (.int p1), .val (.int p2), .val (.int p3), .val (.int v1), .val (.int v2), .val (.int y), .val (.int (3 : Int32)), .val (.int v111), .val (.int v112), .val (.ref b113), .val (.int v132), .val (.int (1 : Int32)), .val (.int v151), .val (.int v153), .val (.int v155), .val (.int v157)] [(.int (v155 &&& (192 : Int32)))])) t
            refine XS.sipush X148.here hx rfl (hb hby at_483) ?_
            show Steps p.tables e below (T148.setTop (mkF m 486 #[.val (.int p0), .val (.int p1), .val (.int p2), .val (.int p3), .val (.int v1), .val (.int v2), .val (.int y), .val (.int (3 : Int32)), .val (.int v111), .val (.int v112), .val (.ref b113), .val (.int v132), .val (.int (1 : Int32)), .val (.int v151), .val (.int v153), .val (.int v155), .val (.int v157)] [(.int (128 : Int32)), (.int (v155 &&& (192 : Int32)))])) t
            exact k
          have hc160 : (v155 &&& (192 : Int32)) = (128 : Int32) := hh2.2.2.2 (by omega)
          refine hD _ (T148.setTop (mkF m 514 #[.val (.int p0), .val (.int p1), .val (.int p2), .val (.int p3), .val (.int v1), .val (.int v2), .val (.int y), .val (.int (3 : Int32)), .val (.int v111), .val (.int v112), .val (.ref b113), .val (.int v132), .val (.int (1 : Int32)), .val (.int v151), .val (.int v153), .val (.int v155), .val (.int v157)] [(.int y), (.int ((((v151 &&& (15 : Int32)) <<< ((12 : Int32) &&& 31)) ||| ((v153 &&& (63 : Int32)) <<< ((6 : Int32) &&& 31))) ||| (v155 &&& (63 : Int32))))])) (fun t k => ?_) ?_
          · show Steps p.tables e below (T148.setTop (mkF m 486 #[.val (.int p0), .val (.int p1), .val (.int p2), .val (.int p3), .val (.int v1), .val (.int v2), .val (.int y), .val (.int (3 : Int32)), .val (.int v111), .val (.int v112), .val (.ref b113), .val (.int v132), .val (.int (1 : Int32)), .val (.int v151), .val (.int v153), .val (.int v155), .val (.int v157)] [(.int (128 : Int32)), (.int (v155 &&& (192 : Int32)))])) t
            refine XS.icmpNo X148.here hx rfl (hb hby at_486) rfl (teq hc160).2 ?_
            show Steps p.tables e below (T148.setTop (mkF m 489 #[.val (.int p0), .val (.int p1), .val (.int p2), .val (.int p3), .val (.int v1), .val (.int v2), .val (.int y), .val (.int (3 : Int32)), .val (.int v111), .val (.int v112), .val (.ref b113), .val (.int v132), .val (.int (1 : Int32)), .val (.int v151), .val (.int v153), .val (.int v155), .val (.int v157)] [])) t
            refine XS.iload X148.here hx rfl (hb hby at_489) rfl ?_
            show Steps p.tables e below (T148.setTop (mkF m 491 #[.val (.int p0), .val (.int p1), .val (.int p2), .val (.int p3), .val (.int v1), .val (.int v2), .val (.int y), .val (.int (3 : Int32)), .val (.int v111), .val (.int v112), .val (.ref b113), .val (.int v132), .val (.int (1 : Int32)), .val (.int v151), .val (.int v153), .val (.int v155), .val (.int v157)] [(.int v151)])) t
            refine XS.bipush X148.here hx rfl (hb hby at_491) ?_
            show Steps p.tables e below (T148.setTop (mkF m 493 #[.val (.int p0), .val (.int p1), .val (.int p2), .val (.int p3), .val (.int v1), .val (.int v2), .val (.int y), .val (.int (3 : Int32)), .val (.int v111), .val (.int v112), .val (.ref b113), .val (.int v132), .val (.int (1 : Int32)), .val (.int v151), .val (.int v153), .val (.int v155), .val (.int v157)] [(.int (15 : Int32)), (.int v151)])) t
            refine XS.iand X148.here hx rfl (hb hby at_493) rfl ?_
            show Steps p.tables e below (T148.setTop (mkF m 494 #[.val (.int p0), .val (.int p1), .val (.int p2), .val (.int p3), .val (.int v1), .val (.int v2), .val (.int y), .val (.int (3 : Int32)), .val (.int v111), .val (.int v112), .val (.ref b113), .val (.int v132), .val (.int (1 : Int32)), .val (.int v151), .val (.int v153), .val (.int v155), .val (.int v157)] [(.int (v151 &&& (15 : Int32)))])) t
            refine XS.bipush X148.here hx rfl (hb hby at_494) ?_
            show Steps p.tables e below (T148.setTop (mkF m 496 #[.val (.int p0), .val (.int p1), .val (.int p2), .val (.int p3), .val (.int v1), .val (.int v2), .val (.int y), .val (.int (3 : Int32)), .val (.int v111), .val (.int v112), .val (.ref b113), .val (.int v132), .val (.int (1 : Int32)), .val (.int v151), .val (.int v153), .val (.int v155), .val (.int v157)] [(.int (12 : Int32)), (.int (v151 &&& (15 : Int32)))])) t
            refine XS.ishl X148.here hx rfl (hb hby at_496) rfl ?_
            show Steps p.tables e below (T148.setTop (mkF m 497 #[.val (.int p0), .val (.int p1), .val (.int p2), .val (.int p3), .val (.int v1), .val (.int v2), .val (.int y), .val (.int (3 : Int32)), .val (.int v111), .val (.int v112), .val (.ref b113), .val (.int v132), .val (.int (1 : Int32)), .val (.int v151), .val (.int v153), .val (.int v155), .val (.int v157)] [(.int ((v151 &&& (15 : Int32)) <<< ((12 : Int32) &&& 31)))])) t
            refine XS.iload X148.here hx rfl (hb hby at_497) rfl ?_
            show Steps p.tables e below (T148.setTop (mkF m 499 #[.val (.int p0), .val (.int p1), .val (.int p2), .val (.int p3), .val (.int v1), .val (.int v2), .val (.int y), .val (.int (3 : Int32)), .val (.int v111), .val (.int v112), .val (.ref b113), .val (.int v132), .val (.int (1 : Int32)), .val (.int v151), .val (.int v153), .val (.int v155), .val (.int v157)] [(.int v153), (.int ((v151 &&& (15 : Int32)) <<< ((12 : Int32) &&& 31)))])) t
            refine XS.bipush X148.here hx rfl (hb hby at_499) ?_
            show Steps p.tables e below (T148.setTop (mkF m 501 #[.val (.int p0), .val (.int p1), .val (.int p2), .val (.int p3), .val (.int v1), .val (.int v2), .val (.int y), .val (.int (3 : Int32)), .val (.int v111), .val (.int v112), .val (.ref b113), .val (.int v132), .val (.int (1 : Int32)), .val (.int v151), .val (.int v153), .val (.int v155), .val (.int v157)] [(.int (63 : Int32)), (.int v153), (.int ((v151 &&& (15 : Int32)) <<< ((12 : Int32) &&& 31)))])) t
            refine XS.iand X148.here hx rfl (hb hby at_501) rfl ?_
            show Steps p.tables e below (T148.setTop (mkF m 502 #[.val (.int p0), .val (.int p1), .val (.int p2), .val (.int p3), .val (.int v1), .val (.int v2), .val (.int y), .val (.int (3 : Int32)), .val (.int v111), .val (.int v112), .val (.ref b113), .val (.int v132), .val (.int (1 : Int32)), .val (.int v151), .val (.int v153), .val (.int v155), .val (.int v157)] [(.int (v153 &&& (63 : Int32))), (.int ((v151 &&& (15 : Int32)) <<< ((12 : Int32) &&& 31)))])) t
            refine XS.bipush X148.here hx rfl (hb hby at_502) ?_
            show Steps p.tables e below (T148.setTop (mkF m 504 #[.val (.int p0), .val (.int p1), .val (.int p2), .val (.int p3), .val (.int v1), .val (.int v2), .val (.int y), .val (.int (3 : Int32)), .val (.int v111), .val (.int v112), .val (.ref b113), .val (.int v132), .val (.int (1 : Int32)), .val (.int v151), .val (.int v153), .val (.int v155), .val (.int v157)] [(.int (6 : Int32)), (.int (v153 &&& (63 : Int32))), (.int ((v151 &&& (15 : Int32)) <<< ((12 : Int32) &&& 31)))])) t
            refine XS.ishl X148.here hx rfl (hb hby at_504) rfl ?_
            show Steps p.tables e below (T148.setTop (mkF m 505 #[.val (.int p0), .val (.int p1), .val (.int p2), .val (.int p3), .val (.int v1), .val (.int v2), .val (.int y), .val (.int (3 : Int32)), .val (.int v111), .val (.int v112), .val (.ref b113), .val (.int v132), .val (.int (1 : Int32)), .val (.int v151), .val (.int v153), .val (.int v155), .val (.int v157)] [(.int ((v153 &&& (63 : Int32)) <<< ((6 : Int32) &&& 31))), (.int ((v151 &&& (15 : Int32)) <<< ((12 : Int32) &&& 31)))])) t
            refine XS.ior X148.here hx rfl (hb hby at_505) rfl ?_
            show Steps p.tables e below (T148.setTop (mkF m 506 #[.val (.int p0), .val (.int p1), .val (.int p2), .val (.int p3), .val (.int v1), .val (.int v2), .val (.int y), .val (.int (3 : Int32)), .val (.int v111), .val (.int v112), .val (.ref b113), .val (.int v132), .val (.int (1 : Int32)), .val (.int v151), .val (.int v153), .val (.int v155), .val (.int v157)] [(.int (((v151 &&& (15 : Int32)) <<< ((12 : Int32) &&& 31)) ||| ((v153 &&& (63 : Int32)) <<< ((6 : Int32) &&& 31))))])) t
            refine XS.iload X148.here hx rfl (hb hby at_506) rfl ?_
            show Steps p.tables e below (T148.setTop (mkF m 508 #[.val (.int p0), .val (.int p1), .val (.int p2), .val (.int p3), .val (.int v1), .val (.int v2), .val (.int y), .val (.int (3 : Int32)), .val (.int v111), .val (.int v112), .val (.ref b113), .val (.int v132), .val (.int (1 : Int32)), .val (.int v151), .val (.int v153), .val (.int v155), .val (.int v157)] [(.int v155), (.int (((v151 &&& (15 : Int32)) <<< ((12 : Int32) &&& 31)) ||| ((v153 &&& (63 : Int32)) <<< ((6 : Int32) &&& 31))))])) t
            refine XS.bipush X148.here hx rfl (hb hby at_508) ?_
            show Steps p.tables e below (T148.setTop (mkF m 510 #[.val (.int p0), .val (.int p1), .val (.int p2), .val (.int p3), .val (.int v1), .val (.int v2), .val (.int y), .val (.int (3 : Int32)), .val (.int v111), .val (.int v112), .val (.ref b113), .val (.int v132), .val (.int (1 : Int32)), .val (.int v151), .val (.int v153), .val (.int v155), .val (.int v157)] [(.int (63 : Int32)), (.int v155), (.int (((v151 &&& (15 : Int32)) <<< ((12 : Int32) &&& 31)) ||| ((v153 &&& (63 : Int32)) <<< ((6 : Int32) &&& 31))))])) t
            refine XS.iand X148.here hx rfl (hb hby at_510) rfl ?_
            show Steps p.tables e below (T148.setTop (mkF m 511 #[.val (.int p0), .val (.int p1), .val (.int p2), .val (.int p3), .val (.int v1), .val (.int v2), .val (.int y), .val (.int (3 : Int32)), .val (.int v111), .val (.int v112), .val (.ref b113), .val (.int v132), .val (.int (1 : Int32)), .val (.int v151), .val (.int v153), .val (.int v155), .val (.int v157)] [(.int (v155 &&& (63 : Int32))), (.int (((v151 &&& (15 : Int32)) <<< ((12 : Int32) &&& 31)) ||| ((v153 &&& (63 : Int32)) <<< ((6 : Int32) &&& 31))))])) t
            refine XS.ior X148.here hx rfl (hb hby at_511) rfl ?_
            show Steps p.tables e below (T148.setTop (mkF m 512 #[.val (.int p0), .val (.int p1), .val (.int p2), .val (.int p3), .val (.int v1), .val (.int v2), .val (.int y), .val (.int (3 : Int32)), .val (.int v111), .val (.int v112), .val (.ref b113), .val (.int v132), .val (.int (1 : Int32)), .val (.int v151), .val (.int v153), .val (.int v155), .val (.int v157)] [(.int ((((v151 &&& (15 : Int32)) <<< ((12 : Int32) &&& 31)) ||| ((v153 &&& (63 : Int32)) <<< ((6 : Int32) &&& 31))) ||| (v155 &&& (63 : Int32))))])) t
            refine XS.iload X148.here hx rfl (hb hby at_512) rfl ?_
            show Steps p.tables e below (T148.setTop (mkF m 514 #[.val (.int p0), .val (.int p1), .val (.int p2), .val (.int p3), .val (.int v1), .val (.int v2), .val (.int y), .val (.int (3 : Int32)), .val (.int v111), .val (.int v112), .val (.ref b113), .val (.int v132), .val (.int (1 : Int32)), .val (.int v151), .val (.int v153), .val (.int v155), .val (.int v157)] [(.int y), (.int ((((v151 &&& (15 : Int32)) <<< ((12 : Int32) &&& 31)) ||| ((v153 &&& (63 : Int32)) <<< ((6 : Int32) &&& 31))) ||| (v155 &&& (63 : Int32))))])) t
            exact k
          have hc161 : ((((v151 &&& (15 : Int32)) <<< ((12 : Int32) &&& 31)) ||| ((v153 &&& (63 : Int32)) <<< ((6 : Int32) &&& 31))) ||| (v155 &&& (63 : Int32))) = y := own_c3 hcp hb0 hb1 hb2
          refine hD _ (T148.setTop (mkF m 522 #[.val (.int p0), .val (.int p1), .val (.int p2), .val (.int p3), .val (.int v1), .val (.int v2), .val (.int y), .val (.int (3 : Int32)), .val (.int v111), .val (.int v112), .val (.ref b113), .val (.int v132), .val (.int (1 : Int32)), .val (.int v151), .val (.int v153), .val (.int v155), .val (.int v157)] [(.int (1 : Int32))])) (fun t k => ?_) ?_
          · show Steps p.tables e below (T148.setTop (mkF m 514 #[.val (.int p0), .val (.int p1), .val (.int p2), .val (.int p3), .val (.int v1), .val (.int v2), .val (.int y), .val (.int (3 : Int32)), .val (.int v111), .val (.int v112), .val (.ref b113), .val (.int v132), .val (.int (1 : Int32)), .val (.int v151), .val (.int v153), .val (.int v155), .val (.int v157)] [(.int y), (.int ((((v151 &&& (15 : Int32)) <<< ((12 : Int32) &&& 31)) ||| ((v153 &&& (63 : Int32)) <<< ((6 : Int32) &&& 31))) ||| (v155 &&& (63 : Int32))))])) t
            refine XS.icmpNo X148.here hx rfl (hb hby at_514) rfl (teq hc161).2 ?_
            show Steps p.tables e below (T148.setTop (mkF m 517 #[.val (.int p0), .val (.int p1), .val (.int p2), .val (.int p3), .val (.int v1), .val (.int v2), .val (.int y), .val (.int (3 : Int32)), .val (.int v111), .val (.int v112), .val (.ref b113), .val (.int v132), .val (.int (1 : Int32)), .val (.int v151), .val (.int v153), .val (.int v155), .val (.int v157)] [])) t
            refine XS.iconst X148.here hx rfl (hb hby at_517) ?_
            show Steps p.tables e below (T148.setTop (mkF m 518 #[.val (.int p0), .val (.int p1), .val (.int p2), .val (.int p3), .val (.int v1), .val (.int v2), .val (.int y), .val (.int (3 : Int32)), .val (.int v111), .val (.int v112), .val (.ref b113), .val (.int v132), .val (.int (1 : Int32)), .val (.int v151), .val (.int v153), .val (.int v155), .val (.int v157)] [(.int (1 : Int32))])) t
            refine XS.goto X148.here hx rfl (pc0 := 518) (pc' := 522) rfl (hb hby at_518) (by decide) (by decide) ?_
            show Steps p.tables e below (T148.setTop (mkF m 522 #[.val (.int p0), .val (.int p1), .val (.int p2), .val (.int p3), .val (.int v1), .val (.int v2), .val (.int y), .val (.int (3 : Int32)), .val (.int v111), .val (.int v112), .val (.ref b113), .val (.int v132), .val (.int (1 : Int32)), .val (.int v151), .val (.int v153), .val (.int v155), .val (.int v157)] [(.int (1 : Int32))])) t
            exact k
          exact Own.retN hR X148 hx (t := .boolean) hret (by simp) (hb hby at_522) (by decide) (by decide) (by decide) ⟨rfl, N148⟩
        refine hD _ (s₁.setTop (mkF m 75 #[.val (.int p0), .val (.int p1), .val (.int p2), .val (.int p3), .val (.int v1), .val (.int v2), .unset, .unset, .val (.int v109), .unset, .unset, .unset, .unset, .unset, .unset, .unset, .unset] [(.int (55296 : Int32)), (.int v109)])) (fun t k => ?_) ?_
        · show Steps p.tables e below (s₁.setTop (mkF m 71 #[.val (.int p0), .val (.int p1), .val (.int p2), .val (.int p3), .val (.int v1), .val (.int v2), .unset, .unset, .val (.int v109), .unset, .unset, .unset, .unset, .unset, .unset, .unset, .unset] [])) t
          refine XS.iload X0.here hx rfl (hb hby at_71) rfl ?_
          show Steps p.tables e below (s₁.setTop (mkF m 73 #[.val (.int p0), .val (.int p1), .val (.int p2), .val (.int p3), .val (.int v1), .val (.int v2), .unset, .unset, .val (.int v109), .unset, .unset, .unset, .unset, .unset, .unset, .unset, .unset] [(.int v109)])) t
          refine X0.ldcInt hx hown (mvT hZ (hw _ (List.mem_of_getElem? (i := 14) rfl))) (g := (mkF m 73 #[.val (.int p0), .val (.int p1), .val (.int p2), .val (.int p3), .val (.int v1), .val (.int v2), .unset, .unset, .val (.int v109), .unset, .unset, .unset, .unset, .unset, .unset, .unset, .unset] [(.int v109)])) rfl (hb hby at_73) _ ?_
          show Steps p.tables e below (s₁.setTop (mkF m 75 #[.val (.int p0), .val (.int p1), .val (.int p2), .val (.int p3), .val (.int v1), .val (.int v2), .unset, .unset, .val (.int v109), .unset, .unset, .unset, .unset, .unset, .unset, .unset, .unset] [(.int (55296 : Int32)), (.int v109)])) t
          exact k
        by_cases hc162 : v109 < (55296 : Int32)
        · refine hD _ (s₁.setTop (mkF m 84 #[.val (.int p0), .val (.int p1), .val (.int p2), .val (.int p3), .val (.int v1), .val (.int v2), .unset, .unset, .val (.int v109), .unset, .unset, .unset, .unset, .unset, .unset, .unset, .unset] [])) (fun t k => ?_) ?_
          · show Steps p.tables e below (s₁.setTop (mkF m 75 #[.val (.int p0), .val (.int p1), .val (.int p2), .val (.int p3), .val (.int v1), .val (.int v2), .unset, .unset, .val (.int v109), .unset, .unset, .unset, .unset, .unset, .unset, .unset, .unset] [(.int (55296 : Int32)), (.int v109)])) t
            refine XS.icmpYes X0.here hx rfl (pc0 := 75) (pc' := 84) rfl (hb hby at_75) rfl (tlt hc162).1 (by decide) (by decide) ?_
            show Steps p.tables e below (s₁.setTop (mkF m 84 #[.val (.int p0), .val (.int p1), .val (.int p2), .val (.int p3), .val (.int v1), .val (.int v2), .unset, .unset, .val (.int v109), .unset, .unset, .unset, .unset, .unset, .unset, .unset, .unset] [])) t
            exact k
          exact J84 s₁ _ v109 X0 e0 N0 (by have q := hc162; rw [own_lt, own_l55296] at q; omega)
        · obtain ⟨v163, hv163⟩ : ∃ z : Int32, z = (v109 + (2048 : Int32)) := ⟨_, rfl⟩
          have e84 := own_ad hv163 (by omega) (by decide)
          rw [own_l2048] at e84
          refine hD _ (s₁.setTop (mkF m 84 #[.val (.int p0), .val (.int p1), .val (.int p2), .val (.int p3), .val (.int v1), .val (.int v2), .unset, .unset, .val (.int v163), .unset, .unset, .unset, .unset, .unset, .unset, .unset, .unset] [])) (fun t k => ?_) ?_
          · show Steps p.tables e below (s₁.setTop (mkF m 75 #[.val (.int p0), .val (.int p1), .val (.int p2), .val (.int p3), .val (.int v1), .val (.int v2), .unset, .unset, .val (.int v109), .unset, .unset, .unset, .unset, .unset, .unset, .unset, .unset] [(.int (55296 : Int32)), (.int v109)])) t
            refine XS.icmpNo X0.here hx rfl (hb hby at_75) rfl (flt hc162).1 ?_
            show Steps p.tables e below (s₁.setTop (mkF m 78 #[.val (.int p0), .val (.int p1), .val (.int p2), .val (.int p3), .val (.int v1), .val (.int v2), .unset, .unset, .val (.int v109), .unset, .unset, .unset, .unset, .unset, .unset, .unset, .unset] [])) t
            refine Own.iincW (g := (mkF m 78 #[.val (.int p0), .val (.int p1), .val (.int p2), .val (.int p3), .val (.int v1), .val (.int v2), .unset, .unset, .val (.int v109), .unset, .unset, .unset, .unset, .unset, .unset, .unset, .unset] [])) X0 hx rfl (hb hby at_78) rfl (l' := #[.val (.int p0), .val (.int p1), .val (.int p2), .val (.int p3), .val (.int v1), .val (.int v2), .unset, .unset, .val (.int (v109 + (2048 : Int32))), .unset, .unset, .unset, .unset, .unset, .unset, .unset, .unset]) rfl ?_
            show Steps p.tables e below (s₁.setTop (mkF m 84 #[.val (.int p0), .val (.int p1), .val (.int p2), .val (.int p3), .val (.int v1), .val (.int v2), .unset, .unset, .val (.int (v109 + (2048 : Int32))), .unset, .unset, .unset, .unset, .unset, .unset, .unset, .unset] [])) t
            rw [← hv163]
            show Steps p.tables e below (s₁.setTop (mkF m 84 #[.val (.int p0), .val (.int p1), .val (.int p2), .val (.int p3), .val (.int v1), .val (.int v2), .unset, .unset, .val (.int v163), .unset, .unset, .unset, .unset, .unset, .unset, .unset, .unset] [])) t
            exact k
          exact J84 s₁ _ v163 X0 e0 N0 (by omega)
      · have hnz164 : (1048576 : Int32) ≠ 0 := by decide
        obtain ⟨v165, hv165⟩ : ∃ z : Int32, z = ((65536 : Int32) + (v2 % (1048576 : Int32))) := ⟨_, rfl⟩
        have hcp : 65536 ≤ v165.toInt ∧ v165.toInt ≤ 1114111 := by
          have q := own_rm (m := 1048576) (M := 1048576) hu (by decide) (by decide)
          have e := own_ad hv165 (by decide) (by omega)
          rw [own_l65536] at e; omega
        obtain ⟨v166, hv166⟩ : ∃ z : Int32, z = (p2 &&& (3 : Int32)) := ⟨_, rfl⟩
        have hn := own_n hv166
        have hix := own_ix hn
        obtain ⟨v167, hv167⟩ : ∃ z : Int32, z = (p3.toInt8.toInt32) := ⟨_, rfl⟩
        obtain ⟨T168, h168, k168, X168, e168, E168, A168, st168⟩ := newP X0 hx hZ (hw _ (List.mem_of_getElem? (i := 1) rfl)) e0 (g := (mkF m 118 #[.val (.int p0), .val (.int p1), .val (.int p2), .val (.int p3), .val (.int v1), .val (.int v2), .val (.int v165), .val (.int (4 : Int32)), .val (.int v166), .val (.int v167), .unset, .unset, .unset, .unset, .unset, .unset, .unset] [(.int (8 : Int32))])) rfl (hb hby at_118) rfl (by decide) (cap := 8) (by decide) (by decide) (by decide) (by decide)
        obtain ⟨b168, g_b168⟩ : ∃ z : Nat, z = h0.size := ⟨_, rfl⟩
        rw [← g_b168] at A168 st168
        have g0_b168 : n0 ≤ b168 := by rw [g_b168]; exact Z0
        have f169 : Own.AvI Z h168 b168 .byte 8 (fun _ => 0) := Own.AvI.new A168 (by decide) rfl
        have Z168 : n0 ≤ h168.size := Nat.le_trans Z0 E168.1
        have hj170 : 0 ≤ (0 : Int32).toInt ∧ (0 : Int32).toInt < (8 : Nat) := ⟨by decide, by decide⟩
        obtain ⟨T171, h171, X171, e171, A171, W171, st171⟩ := Own.stoB X168 hx hZ e168 f169 hj170 (g := (mkF m 124 #[.val (.int p0), .val (.int p1), .val (.int p2), .val (.int p3), .val (.int v1), .val (.int v2), .val (.int v165), .val (.int (4 : Int32)), .val (.int v166), .val (.int v167), .unset, .unset, .unset, .unset, .unset, .unset, .unset] [(.int v167), (.int (0 : Int32)), (.ref b168), (.ref b168)])) rfl rfl (hb hby at_124)
        have N171 := Fr.snoc X171 N0 (show n0 ≤ b168 by omega)
        have Z171 : n0 ≤ h171.size := Nat.le_trans Z168 (Keep.of_wr W171).1
        have hj172 : 0 ≤ (1 : Int32).toInt ∧ (1 : Int32).toInt < (8 : Nat) := ⟨by decide, by decide⟩
        obtain ⟨T173, h173, X173, e173, A173, W173, st173⟩ := Own.stoB X171 hx hZ e171 A171 hj172 (g := (mkF m 129 #[.val (.int p0), .val (.int p1), .val (.int p2), .val (.int p3), .val (.int v1), .val (.int v2), .val (.int v165), .val (.int (4 : Int32)), .val (.int v166), .val (.int v167), .unset, .unset, .unset, .unset, .unset, .unset, .unset] [(.int v167), (.int (1 : Int32)), (.ref b168), (.ref b168)])) rfl rfl (hb hby at_129)
        have N173 := Fr.snoc X173 N171 (show n0 ≤ b168 by omega)
        have Z173 : n0 ≤ h173.size := Nat.le_trans Z171 (Keep.of_wr W173).1
        have hj174 : 0 ≤ (2 : Int32).toInt ∧ (2 : Int32).toInt < (8 : Nat) := ⟨by decide, by decide⟩
        obtain ⟨T175, h175, X175, e175, A175, W175, st175⟩ := Own.stoB X173 hx hZ e173 A173 hj174 (g := (mkF m 134 #[.val (.int p0), .val (.int p1), .val (.int p2), .val (.int p3), .val (.int v1), .val (.int v2), .val (.int v165), .val (.int (4 : Int32)), .val (.int v166), .val (.int v167), .unset, .unset, .unset, .unset, .unset, .unset, .unset] [(.int v167), (.int (2 : Int32)), (.ref b168), (.ref b168)])) rfl rfl (hb hby at_134)
        have N175 := Fr.snoc X175 N173 (show n0 ≤ b168 by omega)
        have Z175 : n0 ≤ h175.size := Nat.le_trans Z173 (Keep.of_wr W175).1
        have hj176 : 0 ≤ (3 : Int32).toInt ∧ (3 : Int32).toInt < (8 : Nat) := ⟨by decide, by decide⟩
        obtain ⟨T177, h177, X177, e177, A177, W177, st177⟩ := Own.stoB X175 hx hZ e175 A175 hj176 (g := (mkF m 139 #[.val (.int p0), .val (.int p1), .val (.int p2), .val (.int p3), .val (.int v1), .val (.int v2), .val (.int v165), .val (.int (4 : Int32)), .val (.int v166), .val (.int v167), .unset, .unset, .unset, .unset, .unset, .unset, .unset] [(.int v167), (.int (3 : Int32)), (.ref b168), (.ref b168)])) rfl rfl (hb hby at_139)
        have N177 := Fr.snoc X177 N175 (show n0 ≤ b168 by omega)
        have Z177 : n0 ≤ h177.size := Nat.le_trans Z175 (Keep.of_wr W177).1
        have hj178 : 0 ≤ (4 : Int32).toInt ∧ (4 : Int32).toInt < (8 : Nat) := ⟨by decide, by decide⟩
        obtain ⟨T179, h179, X179, e179, A179, W179, st179⟩ := Own.stoB X177 hx hZ e177 A177 hj178 (g := (mkF m 144 #[.val (.int p0), .val (.int p1), .val (.int p2), .val (.int p3), .val (.int v1), .val (.int v2), .val (.int v165), .val (.int (4 : Int32)), .val (.int v166), .val (.int v167), .unset, .unset, .unset, .unset, .unset, .unset, .unset] [(.int v167), (.int (4 : Int32)), (.ref b168), (.ref b168)])) rfl rfl (hb hby at_144)
        have N179 := Fr.snoc X179 N177 (show n0 ≤ b168 by omega)
        have Z179 : n0 ≤ h179.size := Nat.le_trans Z177 (Keep.of_wr W179).1
        have hj180 : 0 ≤ (5 : Int32).toInt ∧ (5 : Int32).toInt < (8 : Nat) := ⟨by decide, by decide⟩
        obtain ⟨T181, h181, X181, e181, A181, W181, st181⟩ := Own.stoB X179 hx hZ e179 A179 hj180 (g := (mkF m 149 #[.val (.int p0), .val (.int p1), .val (.int p2), .val (.int p3), .val (.int v1), .val (.int v2), .val (.int v165), .val (.int (4 : Int32)), .val (.int v166), .val (.int v167), .unset, .unset, .unset, .unset, .unset, .unset, .unset] [(.int v167), (.int (5 : Int32)), (.ref b168), (.ref b168)])) rfl rfl (hb hby at_149)
        have N181 := Fr.snoc X181 N179 (show n0 ≤ b168 by omega)
        have Z181 : n0 ≤ h181.size := Nat.le_trans Z179 (Keep.of_wr W181).1
        have hj182 : 0 ≤ (6 : Int32).toInt ∧ (6 : Int32).toInt < (8 : Nat) := ⟨by decide, by decide⟩
        obtain ⟨T183, h183, X183, e183, A183, W183, st183⟩ := Own.stoB X181 hx hZ e181 A181 hj182 (g := (mkF m 155 #[.val (.int p0), .val (.int p1), .val (.int p2), .val (.int p3), .val (.int v1), .val (.int v2), .val (.int v165), .val (.int (4 : Int32)), .val (.int v166), .val (.int v167), .unset, .unset, .unset, .unset, .unset, .unset, .unset] [(.int v167), (.int (6 : Int32)), (.ref b168), (.ref b168)])) rfl rfl (hb hby at_155)
        have N183 := Fr.snoc X183 N181 (show n0 ≤ b168 by omega)
        have Z183 : n0 ≤ h183.size := Nat.le_trans Z181 (Keep.of_wr W183).1
        have hj184 : 0 ≤ (7 : Int32).toInt ∧ (7 : Int32).toInt < (8 : Nat) := ⟨by decide, by decide⟩
        obtain ⟨T185, h185, X185, e185, A185, W185, st185⟩ := Own.stoB X183 hx hZ e183 A183 hj184 (g := (mkF m 161 #[.val (.int p0), .val (.int p1), .val (.int p2), .val (.int p3), .val (.int v1), .val (.int v2), .val (.int v165), .val (.int (4 : Int32)), .val (.int v166), .val (.int v167), .unset, .unset, .unset, .unset, .unset, .unset, .unset] [(.int v167), (.int (7 : Int32)), (.ref b168), (.ref b168)])) rfl rfl (hb hby at_161)
        have N185 := Fr.snoc X185 N183 (show n0 ≤ b168 by omega)
        have Z185 : n0 ≤ h185.size := Nat.le_trans Z183 (Keep.of_wr W185).1
        obtain ⟨g, Ag, hg⟩ : ∃ z : Nat → Int32, Own.AvI Z h185 b168 .byte 8 z ∧ ∀ i, i < 8 → z i = v167 := ⟨_, A185, fun i hi => by
          have q := own_nar hv167
          match i, hi with
          | 0, _ => exact q
          | 1, _ => exact q
          | 2, _ => exact q
          | 3, _ => exact q
          | 4, _ => exact q
          | 5, _ => exact q
          | 6, _ => exact q
          | 7, _ => exact q⟩
        obtain ⟨T186, _, L186, X186, ⟨rfl, Nq186, A186⟩, st186⟩ := Own.callS (y := (⟨"org/wireform/json/JsonString", "putUtf8", "([BII)I"⟩ : MethodName)) (W := 0) (argsL := [(.ref b168), (.int v166), (.int v165)]) (rest := []) X185 hx hZ hown (hw _ (List.mem_of_getElem? (i := 2) rfl)) (hw _ (List.mem_of_getElem? (i := 3) rfl)) (hw _ (List.mem_of_getElem? (i := 4) rfl)) (hw _ (List.mem_of_getElem? (i := 5) rfl)) (by decide) e185 (rm4 l Z a0 hw [] b168 v166 v165 g h185 n0 Z185 g0_b168 hn hcp Ag) (by decide) (by decide) (by decide) (by decide) (g := (mkF m 170 #[.val (.int p0), .val (.int p1), .val (.int p2), .val (.int p3), .val (.int v1), .val (.int v2), .val (.int v165), .val (.int (4 : Int32)), .val (.int v166), .val (.int v167), .val (.ref b168), .unset, .unset, .unset, .unset, .unset, .unset] [(.int v165), (.int v166), (.ref b168)])) rfl (by rw [hml]; rfl) (lenOf pd_0 rfl) rfl (by show 2 * 0 + _ ≤ _; exact Nat.le_of_eq rfl) (hb hby at_170)
        have N186 := Fr.app N185 Nq186
        obtain ⟨v187, hv187⟩ : ∃ z : Int32, z = (v166 + (4 : Int32)) := ⟨_, rfl⟩
        refine hD _ (T186.setTop (mkF m 182 #[.val (.int p0), .val (.int p1), .val (.int p2), .val (.int p3), .val (.int v1), .val (.int v2), .val (.int v165), .val (.int (4 : Int32)), .val (.int v166), .val (.int v167), .val (.ref b168), .val (.int v187), .unset, .unset, .unset, .unset, .unset] [(.int (v166 + (4 : Int32))), (.int v187)])) (fun t k => ?_) ?_
        · show Steps p.tables e below (s₁.setTop (mkF m 57 #[.val (.int p0), .val (.int p1), .val (.int p2), .val (.int p3), .val (.int v1), .val (.int v2), .unset, .unset, .unset, .unset, .unset, .unset, .unset, .unset, .unset, .unset, .unset] [(.int (2 : Int32)), (.int v1)])) t
          refine XS.icmpYes X0.here hx rfl (pc0 := 57) (pc' := 94) rfl (hb hby at_57) rfl (feq hc107).2 (by decide) (by decide) ?_
          show Steps p.tables e below (s₁.setTop (mkF m 94 #[.val (.int p0), .val (.int p1), .val (.int p2), .val (.int p3), .val (.int v1), .val (.int v2), .unset, .unset, .unset, .unset, .unset, .unset, .unset, .unset, .unset, .unset, .unset] [])) t
          refine X0.ldcInt hx hown (mvT hZ (hw _ (List.mem_of_getElem? (i := 10) rfl))) (g := (mkF m 94 #[.val (.int p0), .val (.int p1), .val (.int p2), .val (.int p3), .val (.int v1), .val (.int v2), .unset, .unset, .unset, .unset, .unset, .unset, .unset, .unset, .unset, .unset, .unset] [])) rfl (hb hby at_94) _ ?_
          show Steps p.tables e below (s₁.setTop (mkF m 96 #[.val (.int p0), .val (.int p1), .val (.int p2), .val (.int p3), .val (.int v1), .val (.int v2), .unset, .unset, .unset, .unset, .unset, .unset, .unset, .unset, .unset, .unset, .unset] [(.int (65536 : Int32))])) t
          refine XS.iload X0.here hx rfl (hb hby at_96) rfl ?_
          show Steps p.tables e below (s₁.setTop (mkF m 98 #[.val (.int p0), .val (.int p1), .val (.int p2), .val (.int p3), .val (.int v1), .val (.int v2), .unset, .unset, .unset, .unset, .unset, .unset, .unset, .unset, .unset, .unset, .unset] [(.int v2), (.int (65536 : Int32))])) t
          refine X0.ldcInt hx hown (mvT hZ (hw _ (List.mem_of_getElem? (i := 11) rfl))) (g := (mkF m 98 #[.val (.int p0), .val (.int p1), .val (.int p2), .val (.int p3), .val (.int v1), .val (.int v2), .unset, .unset, .unset, .unset, .unset, .unset, .unset, .unset, .unset, .unset, .unset] [(.int v2), (.int (65536 : Int32))])) rfl (hb hby at_98) _ ?_
          show Steps p.tables e below (s₁.setTop (mkF m 100 #[.val (.int p0), .val (.int p1), .val (.int p2), .val (.int p3), .val (.int v1), .val (.int v2), .unset, .unset, .unset, .unset, .unset, .unset, .unset, .unset, .unset, .unset, .unset] [(.int (1048576 : Int32)), (.int v2), (.int (65536 : Int32))])) t
          refine Jvm.RoadKit.iremM (g := (mkF m 100 #[.val (.int p0), .val (.int p1), .val (.int p2), .val (.int p3), .val (.int v1), .val (.int v2), .unset, .unset, .unset, .unset, .unset, .unset, .unset, .unset, .unset, .unset, .unset] [(.int (1048576 : Int32)), (.int v2), (.int (65536 : Int32))])) X0 hx rfl (hb hby at_100) rfl hnz164 ?_
          show Steps p.tables e below (s₁.setTop (mkF m 101 #[.val (.int p0), .val (.int p1), .val (.int p2), .val (.int p3), .val (.int v1), .val (.int v2), .unset, .unset, .unset, .unset, .unset, .unset, .unset, .unset, .unset, .unset, .unset] [(.int (v2 % (1048576 : Int32))), (.int (65536 : Int32))])) t
          refine XS.iadd X0.here hx rfl (hb hby at_101) rfl ?_
          show Steps p.tables e below (s₁.setTop (mkF m 102 #[.val (.int p0), .val (.int p1), .val (.int p2), .val (.int p3), .val (.int v1), .val (.int v2), .unset, .unset, .unset, .unset, .unset, .unset, .unset, .unset, .unset, .unset, .unset] [(.int ((65536 : Int32) + (v2 % (1048576 : Int32))))])) t
          refine Own.nmI hv165 ?_
          show Steps p.tables e below (s₁.setTop (mkF m 102 #[.val (.int p0), .val (.int p1), .val (.int p2), .val (.int p3), .val (.int v1), .val (.int v2), .unset, .unset, .unset, .unset, .unset, .unset, .unset, .unset, .unset, .unset, .unset] [(.int v165)])) t
          refine XS.istore X0.here hx rfl (hb hby at_102) rfl (l' := #[.val (.int p0), .val (.int p1), .val (.int p2), .val (.int p3), .val (.int v1), .val (.int v2), .val (.int v165), .unset, .unset, .unset, .unset, .unset, .unset, .unset, .unset, .unset, .unset]) rfl ?_
          show Steps p.tables e below (s₁.setTop (mkF m 104 #[.val (.int p0), .val (.int p1), .val (.int p2), .val (.int p3), .val (.int v1), .val (.int v2), .val (.int v165), .unset, .unset, .unset, .unset, .unset, .unset, .unset, .unset, .unset, .unset] [])) t
          refine XS.iconst X0.here hx rfl (hb hby at_104) ?_
          show Steps p.tables e below (s₁.setTop (mkF m 105 #[.val (.int p0), .val (.int p1), .val (.int p2), .val (.int p3), .val (.int v1), .val (.int v2), .val (.int v165), .unset, .unset, .unset, .unset, .unset, .unset, .unset, .unset, .unset, .unset] [(.int (4 : Int32))])) t
          refine XS.istore X0.here hx rfl (hb hby at_105) rfl (l' := #[.val (.int p0), .val (.int p1), .val (.int p2), .val (.int p3), .val (.int v1), .val (.int v2), .val (.int v165), .val (.int (4 : Int32)), .unset, .unset, .unset, .unset, .unset, .unset, .unset, .unset, .unset]) rfl ?_
          show Steps p.tables e below (s₁.setTop (mkF m 107 #[.val (.int p0), .val (.int p1), .val (.int p2), .val (.int p3), .val (.int v1), .val (.int v2), .val (.int v165), .val (.int (4 : Int32)), .unset, .unset, .unset, .unset, .unset, .unset, .unset, .unset, .unset] [])) t
          refine XS.iloadN X0.here hx rfl (hb hby at_107) rfl ?_
          show Steps p.tables e below (s₁.setTop (mkF m 108 #[.val (.int p0), .val (.int p1), .val (.int p2), .val (.int p3), .val (.int v1), .val (.int v2), .val (.int v165), .val (.int (4 : Int32)), .unset, .unset, .unset, .unset, .unset, .unset, .unset, .unset, .unset] [(.int p2)])) t
          refine XS.iconst X0.here hx rfl (hb hby at_108) ?_
          show Steps p.tables e below (s₁.setTop (mkF m 109 #[.val (.int p0), .val (.int p1), .val (.int p2), .val (.int p3), .val (.int v1), .val (.int v2), .val (.int v165), .val (.int (4 : Int32)), .unset, .unset, .unset, .unset, .unset, .unset, .unset, .unset, .unset] [(.int (3 : Int32)), (.int p2)])) t
          refine XS.iand X0.here hx rfl (hb hby at_109) rfl ?_
          show Steps p.tables e below (s₁.setTop (mkF m 110 #[.val (.int p0), .val (.int p1), .val (.int p2), .val (.int p3), .val (.int v1), .val (.int v2), .val (.int v165), .val (.int (4 : Int32)), .unset, .unset, .unset, .unset, .unset, .unset, .unset, .unset, .unset] [(.int (p2 &&& (3 : Int32)))])) t
          refine Own.nmI hv166 ?_
          show Steps p.tables e below (s₁.setTop (mkF m 110 #[.val (.int p0), .val (.int p1), .val (.int p2), .val (.int p3), .val (.int v1), .val (.int v2), .val (.int v165), .val (.int (4 : Int32)), .unset, .unset, .unset, .unset, .unset, .unset, .unset, .unset, .unset] [(.int v166)])) t
          refine XS.istore X0.here hx rfl (hb hby at_110) rfl (l' := #[.val (.int p0), .val (.int p1), .val (.int p2), .val (.int p3), .val (.int v1), .val (.int v2), .val (.int v165), .val (.int (4 : Int32)), .val (.int v166), .unset, .unset, .unset, .unset, .unset, .unset, .unset, .unset]) rfl ?_
          show Steps p.tables e below (s₁.setTop (mkF m 112 #[.val (.int p0), .val (.int p1), .val (.int p2), .val (.int p3), .val (.int v1), .val (.int v2), .val (.int v165), .val (.int (4 : Int32)), .val (.int v166), .unset, .unset, .unset, .unset, .unset, .unset, .unset, .unset] [])) t
          refine XS.iloadN X0.here hx rfl (hb hby at_112) rfl ?_
          show Steps p.tables e below (s₁.setTop (mkF m 113 #[.val (.int p0), .val (.int p1), .val (.int p2), .val (.int p3), .val (.int v1), .val (.int v2), .val (.int v165), .val (.int (4 : Int32)), .val (.int v166), .unset, .unset, .unset, .unset, .unset, .unset, .unset, .unset] [(.int p3)])) t
          refine XS.i2b X0.here hx rfl (hb hby at_113) rfl ?_
          show Steps p.tables e below (s₁.setTop (mkF m 114 #[.val (.int p0), .val (.int p1), .val (.int p2), .val (.int p3), .val (.int v1), .val (.int v2), .val (.int v165), .val (.int (4 : Int32)), .val (.int v166), .unset, .unset, .unset, .unset, .unset, .unset, .unset, .unset] [(.int (p3.toInt8.toInt32))])) t
          refine Own.nmI hv167 ?_
          show Steps p.tables e below (s₁.setTop (mkF m 114 #[.val (.int p0), .val (.int p1), .val (.int p2), .val (.int p3), .val (.int v1), .val (.int v2), .val (.int v165), .val (.int (4 : Int32)), .val (.int v166), .unset, .unset, .unset, .unset, .unset, .unset, .unset, .unset] [(.int v167)])) t
          refine XS.istore X0.here hx rfl (hb hby at_114) rfl (l' := #[.val (.int p0), .val (.int p1), .val (.int p2), .val (.int p3), .val (.int v1), .val (.int v2), .val (.int v165), .val (.int (4 : Int32)), .val (.int v166), .val (.int v167), .unset, .unset, .unset, .unset, .unset, .unset, .unset]) rfl ?_
          show Steps p.tables e below (s₁.setTop (mkF m 116 #[.val (.int p0), .val (.int p1), .val (.int p2), .val (.int p3), .val (.int v1), .val (.int v2), .val (.int v165), .val (.int (4 : Int32)), .val (.int v166), .val (.int v167), .unset, .unset, .unset, .unset, .unset, .unset, .unset] [])) t
          refine XS.bipush X0.here hx rfl (hb hby at_116) ?_
          show Steps p.tables e below (s₁.setTop (mkF m 118 #[.val (.int p0), .val (.int p1), .val (.int p2), .val (.int p3), .val (.int v1), .val (.int v2), .val (.int v165), .val (.int (4 : Int32)), .val (.int v166), .val (.int v167), .unset, .unset, .unset, .unset, .unset, .unset, .unset] [(.int (8 : Int32))])) t
          refine st168 _ ?_
          show Steps p.tables e below (T168.setTop (mkF m 120 #[.val (.int p0), .val (.int p1), .val (.int p2), .val (.int p3), .val (.int v1), .val (.int v2), .val (.int v165), .val (.int (4 : Int32)), .val (.int v166), .val (.int v167), .unset, .unset, .unset, .unset, .unset, .unset, .unset] [(.ref b168)])) t
          refine XS.dup X168.here hx rfl (hb hby at_120) rfl rfl ?_
          show Steps p.tables e below (T168.setTop (mkF m 121 #[.val (.int p0), .val (.int p1), .val (.int p2), .val (.int p3), .val (.int v1), .val (.int v2), .val (.int v165), .val (.int (4 : Int32)), .val (.int v166), .val (.int v167), .unset, .unset, .unset, .unset, .unset, .unset, .unset] [(.ref b168), (.ref b168)])) t
          refine XS.iconst X168.here hx rfl (hb hby at_121) ?_
          show Steps p.tables e below (T168.setTop (mkF m 122 #[.val (.int p0), .val (.int p1), .val (.int p2), .val (.int p3), .val (.int v1), .val (.int v2), .val (.int v165), .val (.int (4 : Int32)), .val (.int v166), .val (.int v167), .unset, .unset, .unset, .unset, .unset, .unset, .unset] [(.int (0 : Int32)), (.ref b168), (.ref b168)])) t
          refine XS.iload X168.here hx rfl (hb hby at_122) rfl ?_
          show Steps p.tables e below (T168.setTop (mkF m 124 #[.val (.int p0), .val (.int p1), .val (.int p2), .val (.int p3), .val (.int v1), .val (.int v2), .val (.int v165), .val (.int (4 : Int32)), .val (.int v166), .val (.int v167), .unset, .unset, .unset, .unset, .unset, .unset, .unset] [(.int v167), (.int (0 : Int32)), (.ref b168), (.ref b168)])) t
          refine st171 _ ?_
          show Steps p.tables e below (T171.setTop (mkF m 125 #[.val (.int p0), .val (.int p1), .val (.int p2), .val (.int p3), .val (.int v1), .val (.int v2), .val (.int v165), .val (.int (4 : Int32)), .val (.int v166), .val (.int v167), .unset, .unset, .unset, .unset, .unset, .unset, .unset] [(.ref b168)])) t
          refine XS.dup X171.here hx rfl (hb hby at_125) rfl rfl ?_
          show Steps p.tables e below (T171.setTop (mkF m 126 #[.val (.int p0), .val (.int p1), .val (.int p2), .val (.int p3), .val (.int v1), .val (.int v2), .val (.int v165), .val (.int (4 : Int32)), .val (.int v166), .val (.int v167), .unset, .unset, .unset, .unset, .unset, .unset, .unset] [(.ref b168), (.ref b168)])) t
          refine XS.iconst X171.here hx rfl (hb hby at_126) ?_
          show Steps p.tables e below (T171.setTop (mkF m 127 #[.val (.int p0), .val (.int p1), .val (.int p2), .val (.int p3), .val (.int v1), .val (.int v2), .val (.int v165), .val (.int (4 : Int32)), .val (.int v166), .val (.int v167), .unset, .unset, .unset, .unset, .unset, .unset, .unset] [(.int (1 : Int32)), (.ref b168), (.ref b168)])) t
          refine XS.iload X171.here hx rfl (hb hby at_127) rfl ?_
          show Steps p.tables e below (T171.setTop (mkF m 129 #[.val (.int p0), .val (.int p1), .val (.int p2), .val (.int p3), .val (.int v1), .val (.int v2), .val (.int v165), .val (.int (4 : Int32)), .val (.int v166), .val (.int v167), .unset, .unset, .unset, .unset, .unset, .unset, .unset] [(.int v167), (.int (1 : Int32)), (.ref b168), (.ref b168)])) t
          refine st173 _ ?_
          show Steps p.tables e below (T173.setTop (mkF m 130 #[.val (.int p0), .val (.int p1), .val (.int p2), .val (.int p3), .val (.int v1), .val (.int v2), .val (.int v165), .val (.int (4 : Int32)), .val (.int v166), .val (.int v167), .unset, .unset, .unset, .unset, .unset, .unset, .unset] [(.ref b168)])) t
          refine XS.dup X173.here hx rfl (hb hby at_130) rfl rfl ?_
          show Steps p.tables e below (T173.setTop (mkF m 131 #[.val (.int p0), .val (.int p1), .val (.int p2), .val (.int p3), .val (.int v1), .val (.int v2), .val (.int v165), .val (.int (4 : Int32)), .val (.int v166), .val (.int v167), .unset, .unset, .unset, .unset, .unset, .unset, .unset] [(.ref b168), (.ref b168)])) t
          refine XS.iconst X173.here hx rfl (hb hby at_131) ?_
          show Steps p.tables e below (T173.setTop (mkF m 132 #[.val (.int p0), .val (.int p1), .val (.int p2), .val (.int p3), .val (.int v1), .val (.int v2), .val (.int v165), .val (.int (4 : Int32)), .val (.int v166), .val (.int v167), .unset, .unset, .unset, .unset, .unset, .unset, .unset] [(.int (2 : Int32)), (.ref b168), (.ref b168)])) t
          refine XS.iload X173.here hx rfl (hb hby at_132) rfl ?_
          show Steps p.tables e below (T173.setTop (mkF m 134 #[.val (.int p0), .val (.int p1), .val (.int p2), .val (.int p3), .val (.int v1), .val (.int v2), .val (.int v165), .val (.int (4 : Int32)), .val (.int v166), .val (.int v167), .unset, .unset, .unset, .unset, .unset, .unset, .unset] [(.int v167), (.int (2 : Int32)), (.ref b168), (.ref b168)])) t
          refine st175 _ ?_
          show Steps p.tables e below (T175.setTop (mkF m 135 #[.val (.int p0), .val (.int p1), .val (.int p2), .val (.int p3), .val (.int v1), .val (.int v2), .val (.int v165), .val (.int (4 : Int32)), .val (.int v166), .val (.int v167), .unset, .unset, .unset, .unset, .unset, .unset, .unset] [(.ref b168)])) t
          refine XS.dup X175.here hx rfl (hb hby at_135) rfl rfl ?_
          show Steps p.tables e below (T175.setTop (mkF m 136 #[.val (.int p0), .val (.int p1), .val (.int p2), .val (.int p3), .val (.int v1), .val (.int v2), .val (.int v165), .val (.int (4 : Int32)), .val (.int v166), .val (.int v167), .unset, .unset, .unset, .unset, .unset, .unset, .unset] [(.ref b168), (.ref b168)])) t
          refine XS.iconst X175.here hx rfl (hb hby at_136) ?_
          show Steps p.tables e below (T175.setTop (mkF m 137 #[.val (.int p0), .val (.int p1), .val (.int p2), .val (.int p3), .val (.int v1), .val (.int v2), .val (.int v165), .val (.int (4 : Int32)), .val (.int v166), .val (.int v167), .unset, .unset, .unset, .unset, .unset, .unset, .unset] [(.int (3 : Int32)), (.ref b168), (.ref b168)])) t
          refine XS.iload X175.here hx rfl (hb hby at_137) rfl ?_
          show Steps p.tables e below (T175.setTop (mkF m 139 #[.val (.int p0), .val (.int p1), .val (.int p2), .val (.int p3), .val (.int v1), .val (.int v2), .val (.int v165), .val (.int (4 : Int32)), .val (.int v166), .val (.int v167), .unset, .unset, .unset, .unset, .unset, .unset, .unset] [(.int v167), (.int (3 : Int32)), (.ref b168), (.ref b168)])) t
          refine st177 _ ?_
          show Steps p.tables e below (T177.setTop (mkF m 140 #[.val (.int p0), .val (.int p1), .val (.int p2), .val (.int p3), .val (.int v1), .val (.int v2), .val (.int v165), .val (.int (4 : Int32)), .val (.int v166), .val (.int v167), .unset, .unset, .unset, .unset, .unset, .unset, .unset] [(.ref b168)])) t
          refine XS.dup X177.here hx rfl (hb hby at_140) rfl rfl ?_
          show Steps p.tables e below (T177.setTop (mkF m 141 #[.val (.int p0), .val (.int p1), .val (.int p2), .val (.int p3), .val (.int v1), .val (.int v2), .val (.int v165), .val (.int (4 : Int32)), .val (.int v166), .val (.int v167), .unset, .unset, .unset, .unset, .unset, .unset, .unset] [(.ref b168), (.ref b168)])) t
          refine XS.iconst X177.here hx rfl (hb hby at_141) ?_
          show Steps p.tables e below (T177.setTop (mkF m 142 #[.val (.int p0), .val (.int p1), .val (.int p2), .val (.int p3), .val (.int v1), .val (.int v2), .val (.int v165), .val (.int (4 : Int32)), .val (.int v166), .val (.int v167), .unset, .unset, .unset, .unset, .unset, .unset, .unset] [(.int (4 : Int32)), (.ref b168), (.ref b168)])) t
          refine XS.iload X177.here hx rfl (hb hby at_142) rfl ?_
          show Steps p.tables e below (T177.setTop (mkF m 144 #[.val (.int p0), .val (.int p1), .val (.int p2), .val (.int p3), .val (.int v1), .val (.int v2), .val (.int v165), .val (.int (4 : Int32)), .val (.int v166), .val (.int v167), .unset, .unset, .unset, .unset, .unset, .unset, .unset] [(.int v167), (.int (4 : Int32)), (.ref b168), (.ref b168)])) t
          refine st179 _ ?_
          show Steps p.tables e below (T179.setTop (mkF m 145 #[.val (.int p0), .val (.int p1), .val (.int p2), .val (.int p3), .val (.int v1), .val (.int v2), .val (.int v165), .val (.int (4 : Int32)), .val (.int v166), .val (.int v167), .unset, .unset, .unset, .unset, .unset, .unset, .unset] [(.ref b168)])) t
          refine XS.dup X179.here hx rfl (hb hby at_145) rfl rfl ?_
          show Steps p.tables e below (T179.setTop (mkF m 146 #[.val (.int p0), .val (.int p1), .val (.int p2), .val (.int p3), .val (.int v1), .val (.int v2), .val (.int v165), .val (.int (4 : Int32)), .val (.int v166), .val (.int v167), .unset, .unset, .unset, .unset, .unset, .unset, .unset] [(.ref b168), (.ref b168)])) t
          refine XS.iconst X179.here hx rfl (hb hby at_146) ?_
          show Steps p.tables e below (T179.setTop (mkF m 147 #[.val (.int p0), .val (.int p1), .val (.int p2), .val (.int p3), .val (.int v1), .val (.int v2), .val (.int v165), .val (.int (4 : Int32)), .val (.int v166), .val (.int v167), .unset, .unset, .unset, .unset, .unset, .unset, .unset] [(.int (5 : Int32)), (.ref b168), (.ref b168)])) t
          refine XS.iload X179.here hx rfl (hb hby at_147) rfl ?_
          show Steps p.tables e below (T179.setTop (mkF m 149 #[.val (.int p0), .val (.int p1), .val (.int p2), .val (.int p3), .val (.int v1), .val (.int v2), .val (.int v165), .val (.int (4 : Int32)), .val (.int v166), .val (.int v167), .unset, .unset, .unset, .unset, .unset, .unset, .unset] [(.int v167), (.int (5 : Int32)), (.ref b168), (.ref b168)])) t
          refine st181 _ ?_
          show Steps p.tables e below (T181.setTop (mkF m 150 #[.val (.int p0), .val (.int p1), .val (.int p2), .val (.int p3), .val (.int v1), .val (.int v2), .val (.int v165), .val (.int (4 : Int32)), .val (.int v166), .val (.int v167), .unset, .unset, .unset, .unset, .unset, .unset, .unset] [(.ref b168)])) t
          refine XS.dup X181.here hx rfl (hb hby at_150) rfl rfl ?_
          show Steps p.tables e below (T181.setTop (mkF m 151 #[.val (.int p0), .val (.int p1), .val (.int p2), .val (.int p3), .val (.int v1), .val (.int v2), .val (.int v165), .val (.int (4 : Int32)), .val (.int v166), .val (.int v167), .unset, .unset, .unset, .unset, .unset, .unset, .unset] [(.ref b168), (.ref b168)])) t
          refine XS.bipush X181.here hx rfl (hb hby at_151) ?_
          show Steps p.tables e below (T181.setTop (mkF m 153 #[.val (.int p0), .val (.int p1), .val (.int p2), .val (.int p3), .val (.int v1), .val (.int v2), .val (.int v165), .val (.int (4 : Int32)), .val (.int v166), .val (.int v167), .unset, .unset, .unset, .unset, .unset, .unset, .unset] [(.int (6 : Int32)), (.ref b168), (.ref b168)])) t
          refine XS.iload X181.here hx rfl (hb hby at_153) rfl ?_
          show Steps p.tables e below (T181.setTop (mkF m 155 #[.val (.int p0), .val (.int p1), .val (.int p2), .val (.int p3), .val (.int v1), .val (.int v2), .val (.int v165), .val (.int (4 : Int32)), .val (.int v166), .val (.int v167), .unset, .unset, .unset, .unset, .unset, .unset, .unset] [(.int v167), (.int (6 : Int32)), (.ref b168), (.ref b168)])) t
          refine st183 _ ?_
          show Steps p.tables e below (T183.setTop (mkF m 156 #[.val (.int p0), .val (.int p1), .val (.int p2), .val (.int p3), .val (.int v1), .val (.int v2), .val (.int v165), .val (.int (4 : Int32)), .val (.int v166), .val (.int v167), .unset, .unset, .unset, .unset, .unset, .unset, .unset] [(.ref b168)])) t
          refine XS.dup X183.here hx rfl (hb hby at_156) rfl rfl ?_
          show Steps p.tables e below (T183.setTop (mkF m 157 #[.val (.int p0), .val (.int p1), .val (.int p2), .val (.int p3), .val (.int v1), .val (.int v2), .val (.int v165), .val (.int (4 : Int32)), .val (.int v166), .val (.int v167), .unset, .unset, .unset, .unset, .unset, .unset, .unset] [(.ref b168), (.ref b168)])) t
          refine XS.bipush X183.here hx rfl (hb hby at_157) ?_
          show Steps p.tables e below (T183.setTop (mkF m 159 #[.val (.int p0), .val (.int p1), .val (.int p2), .val (.int p3), .val (.int v1), .val (.int v2), .val (.int v165), .val (.int (4 : Int32)), .val (.int v166), .val (.int v167), .unset, .unset, .unset, .unset, .unset, .unset, .unset] [(.int (7 : Int32)), (.ref b168), (.ref b168)])) t
          refine XS.iload X183.here hx rfl (hb hby at_159) rfl ?_
          show Steps p.tables e below (T183.setTop (mkF m 161 #[.val (.int p0), .val (.int p1), .val (.int p2), .val (.int p3), .val (.int v1), .val (.int v2), .val (.int v165), .val (.int (4 : Int32)), .val (.int v166), .val (.int v167), .unset, .unset, .unset, .unset, .unset, .unset, .unset] [(.int v167), (.int (7 : Int32)), (.ref b168), (.ref b168)])) t
          refine st185 _ ?_
          show Steps p.tables e below (T185.setTop (mkF m 162 #[.val (.int p0), .val (.int p1), .val (.int p2), .val (.int p3), .val (.int v1), .val (.int v2), .val (.int v165), .val (.int (4 : Int32)), .val (.int v166), .val (.int v167), .unset, .unset, .unset, .unset, .unset, .unset, .unset] [(.ref b168)])) t
          refine XS.astore X185.here hx rfl (hb hby at_162) rfl rfl (l' := #[.val (.int p0), .val (.int p1), .val (.int p2), .val (.int p3), .val (.int v1), .val (.int v2), .val (.int v165), .val (.int (4 : Int32)), .val (.int v166), .val (.int v167), .val (.ref b168), .unset, .unset, .unset, .unset, .unset, .unset]) rfl ?_
          show Steps p.tables e below (T185.setTop (mkF m 164 #[.val (.int p0), .val (.int p1), .val (.int p2), .val (.int p3), .val (.int v1), .val (.int v2), .val (.int v165), .val (.int (4 : Int32)), .val (.int v166), .val (.int v167), .val (.ref b168), .unset, .unset, .unset, .unset, .unset, .unset] [])) t
          refine XS.aload X185.here hx rfl (hb hby at_164) rfl rfl ?_
          show Steps p.tables e below (T185.setTop (mkF m 166 #[.val (.int p0), .val (.int p1), .val (.int p2), .val (.int p3), .val (.int v1), .val (.int v2), .val (.int v165), .val (.int (4 : Int32)), .val (.int v166), .val (.int v167), .val (.ref b168), .unset, .unset, .unset, .unset, .unset, .unset] [(.ref b168)])) t
          refine XS.iload X185.here hx rfl (hb hby at_166) rfl ?_
          show Steps p.tables e below (T185.setTop (mkF m 168 #[.val (.int p0), .val (.int p1), .val (.int p2), .val (.int p3), .val (.int v1), .val (.int v2), .val (.int v165), .val (.int (4 : Int32)), .val (.int v166), .val (.int v167), .val (.ref b168), .unset, .unset, .unset, .unset, .unset, .unset] [(.int v166), (.ref b168)])) t
          refine XS.iload X185.here hx rfl (hb hby at_168) rfl ?_
          show Steps p.tables e below (T185.setTop (mkF m 170 #[.val (.int p0), .val (.int p1), .val (.int p2), .val (.int p3), .val (.int v1), .val (.int v2), .val (.int v165), .val (.int (4 : Int32)), .val (.int v166), .val (.int v167), .val (.ref b168), .unset, .unset, .unset, .unset, .unset, .unset] [(.int v165), (.int v166), (.ref b168)])) t
          refine st186 _ ?_
          show Steps p.tables e below (T186.setTop (mkF m 173 #[.val (.int p0), .val (.int p1), .val (.int p2), .val (.int p3), .val (.int v1), .val (.int v2), .val (.int v165), .val (.int (4 : Int32)), .val (.int v166), .val (.int v167), .val (.ref b168), .unset, .unset, .unset, .unset, .unset, .unset] [(.int (v166 + (4 : Int32)))])) t
          refine Own.nmI hv187 ?_
          show Steps p.tables e below (T186.setTop (mkF m 173 #[.val (.int p0), .val (.int p1), .val (.int p2), .val (.int p3), .val (.int v1), .val (.int v2), .val (.int v165), .val (.int (4 : Int32)), .val (.int v166), .val (.int v167), .val (.ref b168), .unset, .unset, .unset, .unset, .unset, .unset] [(.int v187)])) t
          refine XS.istore X186.here hx rfl (hb hby at_173) rfl (l' := #[.val (.int p0), .val (.int p1), .val (.int p2), .val (.int p3), .val (.int v1), .val (.int v2), .val (.int v165), .val (.int (4 : Int32)), .val (.int v166), .val (.int v167), .val (.ref b168), .val (.int v187), .unset, .unset, .unset, .unset, .unset]) rfl ?_
          show Steps p.tables e below (T186.setTop (mkF m 175 #[.val (.int p0), .val (.int p1), .val (.int p2), .val (.int p3), .val (.int v1), .val (.int v2), .val (.int v165), .val (.int (4 : Int32)), .val (.int v166), .val (.int v167), .val (.ref b168), .val (.int v187), .unset, .unset, .unset, .unset, .unset] [])) t
          refine XS.iload X186.here hx rfl (hb hby at_175) rfl ?_
          show Steps p.tables e below (T186.setTop (mkF m 177 #[.val (.int p0), .val (.int p1), .val (.int p2), .val (.int p3), .val (.int v1), .val (.int v2), .val (.int v165), .val (.int (4 : Int32)), .val (.int v166), .val (.int v167), .val (.ref b168), .val (.int v187), .unset, .unset, .unset, .unset, .unset] [(.int v187)])) t
          refine XS.iload X186.here hx rfl (hb hby at_177) rfl ?_
          show Steps p.tables e below (T186.setTop (mkF m 179 #[.val (.int p0), .val (.int p1), .val (.int p2), .val (.int p3), .val (.int v1), .val (.int v2), .val (.int v165), .val (.int (4 : Int32)), .val (.int v166), .val (.int v167), .val (.ref b168), .val (.int v187), .unset, .unset, .unset, .unset, .unset] [(.int v166), (.int v187)])) t
          refine XS.iload X186.here hx rfl (hb hby at_179) rfl ?_
          show Steps p.tables e below (T186.setTop (mkF m 181 #[.val (.int p0), .val (.int p1), .val (.int p2), .val (.int p3), .val (.int v1), .val (.int v2), .val (.int v165), .val (.int (4 : Int32)), .val (.int v166), .val (.int v167), .val (.ref b168), .val (.int v187), .unset, .unset, .unset, .unset, .unset] [(.int (4 : Int32)), (.int v166), (.int v187)])) t
          refine XS.iadd X186.here hx rfl (hb hby at_181) rfl ?_
          show Steps p.tables e below (T186.setTop (mkF m 182 #[.val (.int p0), .val (.int p1), .val (.int p2), .val (.int p3), .val (.int v1), .val (.int v2), .val (.int v165), .val (.int (4 : Int32)), .val (.int v166), .val (.int v167), .val (.ref b168), .val (.int v187), .unset, .unset, .unset, .unset, .unset] [(.int (v166 + (4 : Int32))), (.int v187)])) t
          exact k
        have hc188 : v187 = (v166 + (4 : Int32)) := hv187
        obtain ⟨T189, _, L189, X189, ⟨rfl, Nq189, e189⟩, st189⟩ := Own.callS (y := (⟨"org/wireform/json/JsonStringPutUtf8PinLaw", "kept", "([BIIIB)Z"⟩ : MethodName)) (W := 0) (argsL := [(.ref b168), (.int (0 : Int32)), (.int v166), (.int (4 : Int32)), (.int v167)]) (rest := []) X186 hx hZ hown (hw _ (List.mem_of_getElem? (i := 6) rfl)) (hw _ (List.mem_of_getElem? (i := 7) rfl)) (hw _ (List.mem_of_getElem? (i := 8) rfl)) (hw _ (List.mem_of_getElem? (i := 9) rfl)) (by decide) rfl (rm5 l Z a0 hw [] b168 (0 : Int32) v166 (4 : Int32) v167 (own_put4 g v166 v165) T186.heap n0 (by decide) A186) (by decide) (by decide) (by decide) (by decide) (g := (mkF m 196 #[.val (.int p0), .val (.int p1), .val (.int p2), .val (.int p3), .val (.int v1), .val (.int v2), .val (.int v165), .val (.int (4 : Int32)), .val (.int v166), .val (.int v167), .val (.ref b168), .val (.int v187), .unset, .unset, .unset, .unset, .unset] [(.int v167), (.int (4 : Int32)), (.int v166), (.int (0 : Int32)), (.ref b168)])) rfl (by rw [hml]; rfl) (lenOf pd_1 rfl) rfl (by show 2 * 0 + _ ≤ _; exact Nat.le_of_eq rfl) (hb hby at_196)
        have N189 := Fr.app N186 Nq189
        refine hD _ (T189.setTop (mkF m 199 #[.val (.int p0), .val (.int p1), .val (.int p2), .val (.int p3), .val (.int v1), .val (.int v2), .val (.int v165), .val (.int (4 : Int32)), .val (.int v166), .val (.int v167), .val (.ref b168), .val (.int v187), .unset, .unset, .unset, .unset, .unset] [(.int (Own.b2i (own_kept (own_put4 g v166 v165) (0 : Int32) v166 (4 : Int32) v167)))])) (fun t k => ?_) ?_
        · show Steps p.tables e below (T186.setTop (mkF m 182 #[.val (.int p0), .val (.int p1), .val (.int p2), .val (.int p3), .val (.int v1), .val (.int v2), .val (.int v165), .val (.int (4 : Int32)), .val (.int v166), .val (.int v167), .val (.ref b168), .val (.int v187), .unset, .unset, .unset, .unset, .unset] [(.int (v166 + (4 : Int32))), (.int v187)])) t
          refine XS.icmpYes X186.here hx rfl (pc0 := 182) (pc' := 187) rfl (hb hby at_182) rfl (teq hc188).1 (by decide) (by decide) ?_
          show Steps p.tables e below (T186.setTop (mkF m 187 #[.val (.int p0), .val (.int p1), .val (.int p2), .val (.int p3), .val (.int v1), .val (.int v2), .val (.int v165), .val (.int (4 : Int32)), .val (.int v166), .val (.int v167), .val (.ref b168), .val (.int v187), .unset, .unset, .unset, .unset, .unset] [])) t
          refine XS.aload X186.here hx rfl (hb hby at_187) rfl rfl ?_
          show Steps p.tables e below (T186.setTop (mkF m 189 #[.val (.int p0), .val (.int p1), .val (.int p2), .val (.int p3), .val (.int v1), .val (.int v2), .val (.int v165), .val (.int (4 : Int32)), .val (.int v166), .val (.int v167), .val (.ref b168), .val (.int v187), .unset, .unset, .unset, .unset, .unset] [(.ref b168)])) t
          refine XS.iconst X186.here hx rfl (hb hby at_189) ?_
          show Steps p.tables e below (T186.setTop (mkF m 190 #[.val (.int p0), .val (.int p1), .val (.int p2), .val (.int p3), .val (.int v1), .val (.int v2), .val (.int v165), .val (.int (4 : Int32)), .val (.int v166), .val (.int v167), .val (.ref b168), .val (.int v187), .unset, .unset, .unset, .unset, .unset] [(.int (0 : Int32)), (.ref b168)])) t
          refine XS.iload X186.here hx rfl (hb hby at_190) rfl ?_
          show Steps p.tables e below (T186.setTop (mkF m 192 #[.val (.int p0), .val (.int p1), .val (.int p2), .val (.int p3), .val (.int v1), .val (.int v2), .val (.int v165), .val (.int (4 : Int32)), .val (.int v166), .val (.int v167), .val (.ref b168), .val (.int v187), .unset, .unset, .unset, .unset, .unset] [(.int v166), (.int (0 : Int32)), (.ref b168)])) t
          refine XS.iload X186.here hx rfl (hb hby at_192) rfl ?_
          show Steps p.tables e below (T186.setTop (mkF m 194 #[.val (.int p0), .val (.int p1), .val (.int p2), .val (.int p3), .val (.int v1), .val (.int v2), .val (.int v165), .val (.int (4 : Int32)), .val (.int v166), .val (.int v167), .val (.ref b168), .val (.int v187), .unset, .unset, .unset, .unset, .unset] [(.int (4 : Int32)), (.int v166), (.int (0 : Int32)), (.ref b168)])) t
          refine XS.iload X186.here hx rfl (hb hby at_194) rfl ?_
          show Steps p.tables e below (T186.setTop (mkF m 196 #[.val (.int p0), .val (.int p1), .val (.int p2), .val (.int p3), .val (.int v1), .val (.int v2), .val (.int v165), .val (.int (4 : Int32)), .val (.int v166), .val (.int v167), .val (.ref b168), .val (.int v187), .unset, .unset, .unset, .unset, .unset] [(.int v167), (.int (4 : Int32)), (.int v166), (.int (0 : Int32)), (.ref b168)])) t
          refine st189 _ ?_
          show Steps p.tables e below (T189.setTop (mkF m 199 #[.val (.int p0), .val (.int p1), .val (.int p2), .val (.int p3), .val (.int v1), .val (.int v2), .val (.int v165), .val (.int (4 : Int32)), .val (.int v166), .val (.int v167), .val (.ref b168), .val (.int v187), .unset, .unset, .unset, .unset, .unset] [(.int (Own.b2i (own_kept (own_put4 g v166 v165) (0 : Int32) v166 (4 : Int32) v167)))])) t
          exact k
        have hc190 : (own_kept (own_put4 g v166 v165) (0 : Int32) v166 (4 : Int32) v167) = true := own_st4 g hn (by decide) (hg 0 (by decide))
        obtain ⟨T191, _, L191, X191, ⟨rfl, Nq191, e191⟩, st191⟩ := Own.callS (y := (⟨"org/wireform/json/JsonStringPutUtf8PinLaw", "kept", "([BIIIB)Z"⟩ : MethodName)) (W := 0) (argsL := [(.ref b168), (.int (1 : Int32)), (.int v166), (.int (4 : Int32)), (.int v167)]) (rest := []) X189 hx hZ hown (hw _ (List.mem_of_getElem? (i := 6) rfl)) (hw _ (List.mem_of_getElem? (i := 7) rfl)) (hw _ (List.mem_of_getElem? (i := 8) rfl)) (hw _ (List.mem_of_getElem? (i := 9) rfl)) (by decide) e189 (rm5 l Z a0 hw [] b168 (1 : Int32) v166 (4 : Int32) v167 (own_put4 g v166 v165) T186.heap n0 (by decide) A186) (by decide) (by decide) (by decide) (by decide) (g := (mkF m 211 #[.val (.int p0), .val (.int p1), .val (.int p2), .val (.int p3), .val (.int v1), .val (.int v2), .val (.int v165), .val (.int (4 : Int32)), .val (.int v166), .val (.int v167), .val (.ref b168), .val (.int v187), .unset, .unset, .unset, .unset, .unset] [(.int v167), (.int (4 : Int32)), (.int v166), (.int (1 : Int32)), (.ref b168)])) rfl (by rw [hml]; rfl) (lenOf pd_1 rfl) rfl (by show 2 * 0 + _ ≤ _; exact Nat.le_of_eq rfl) (hb hby at_211)
        have N191 := Fr.app N189 Nq191
        refine hD _ (T191.setTop (mkF m 214 #[.val (.int p0), .val (.int p1), .val (.int p2), .val (.int p3), .val (.int v1), .val (.int v2), .val (.int v165), .val (.int (4 : Int32)), .val (.int v166), .val (.int v167), .val (.ref b168), .val (.int v187), .unset, .unset, .unset, .unset, .unset] [(.int (Own.b2i (own_kept (own_put4 g v166 v165) (1 : Int32) v166 (4 : Int32) v167)))])) (fun t k => ?_) ?_
        · show Steps p.tables e below (T189.setTop (mkF m 199 #[.val (.int p0), .val (.int p1), .val (.int p2), .val (.int p3), .val (.int v1), .val (.int v2), .val (.int v165), .val (.int (4 : Int32)), .val (.int v166), .val (.int v167), .val (.ref b168), .val (.int v187), .unset, .unset, .unset, .unset, .unset] [(.int (Own.b2i (own_kept (own_put4 g v166 v165) (0 : Int32) v166 (4 : Int32) v167)))])) t
          refine XS.ifNo X189.here hx rfl (hb hby at_199) rfl ((if0 _ _).trans (feq (fun q => Own.b2i_eq0.mp q hc190)).1) ?_
          show Steps p.tables e below (T189.setTop (mkF m 202 #[.val (.int p0), .val (.int p1), .val (.int p2), .val (.int p3), .val (.int v1), .val (.int v2), .val (.int v165), .val (.int (4 : Int32)), .val (.int v166), .val (.int v167), .val (.ref b168), .val (.int v187), .unset, .unset, .unset, .unset, .unset] [])) t
          refine XS.aload X189.here hx rfl (hb hby at_202) rfl rfl ?_
          show Steps p.tables e below (T189.setTop (mkF m 204 #[.val (.int p0), .val (.int p1), .val (.int p2), .val (.int p3), .val (.int v1), .val (.int v2), .val (.int v165), .val (.int (4 : Int32)), .val (.int v166), .val (.int v167), .val (.ref b168), .val (.int v187), .unset, .unset, .unset, .unset, .unset] [(.ref b168)])) t
          refine XS.iconst X189.here hx rfl (hb hby at_204) ?_
          show Steps p.tables e below (T189.setTop (mkF m 205 #[.val (.int p0), .val (.int p1), .val (.int p2), .val (.int p3), .val (.int v1), .val (.int v2), .val (.int v165), .val (.int (4 : Int32)), .val (.int v166), .val (.int v167), .val (.ref b168), .val (.int v187), .unset, .unset, .unset, .unset, .unset] [(.int (1 : Int32)), (.ref b168)])) t
          refine XS.iload X189.here hx rfl (hb hby at_205) rfl ?_
          show Steps p.tables e below (T189.setTop (mkF m 207 #[.val (.int p0), .val (.int p1), .val (.int p2), .val (.int p3), .val (.int v1), .val (.int v2), .val (.int v165), .val (.int (4 : Int32)), .val (.int v166), .val (.int v167), .val (.ref b168), .val (.int v187), .unset, .unset, .unset, .unset, .unset] [(.int v166), (.int (1 : Int32)), (.ref b168)])) t
          refine XS.iload X189.here hx rfl (hb hby at_207) rfl ?_
          show Steps p.tables e below (T189.setTop (mkF m 209 #[.val (.int p0), .val (.int p1), .val (.int p2), .val (.int p3), .val (.int v1), .val (.int v2), .val (.int v165), .val (.int (4 : Int32)), .val (.int v166), .val (.int v167), .val (.ref b168), .val (.int v187), .unset, .unset, .unset, .unset, .unset] [(.int (4 : Int32)), (.int v166), (.int (1 : Int32)), (.ref b168)])) t
          refine XS.iload X189.here hx rfl (hb hby at_209) rfl ?_
          show Steps p.tables e below (T189.setTop (mkF m 211 #[.val (.int p0), .val (.int p1), .val (.int p2), .val (.int p3), .val (.int v1), .val (.int v2), .val (.int v165), .val (.int (4 : Int32)), .val (.int v166), .val (.int v167), .val (.ref b168), .val (.int v187), .unset, .unset, .unset, .unset, .unset] [(.int v167), (.int (4 : Int32)), (.int v166), (.int (1 : Int32)), (.ref b168)])) t
          refine st191 _ ?_
          show Steps p.tables e below (T191.setTop (mkF m 214 #[.val (.int p0), .val (.int p1), .val (.int p2), .val (.int p3), .val (.int v1), .val (.int v2), .val (.int v165), .val (.int (4 : Int32)), .val (.int v166), .val (.int v167), .val (.ref b168), .val (.int v187), .unset, .unset, .unset, .unset, .unset] [(.int (Own.b2i (own_kept (own_put4 g v166 v165) (1 : Int32) v166 (4 : Int32) v167)))])) t
          exact k
        have hc192 : (own_kept (own_put4 g v166 v165) (1 : Int32) v166 (4 : Int32) v167) = true := own_st4 g hn (by decide) (hg 1 (by decide))
        obtain ⟨T193, _, L193, X193, ⟨rfl, Nq193, e193⟩, st193⟩ := Own.callS (y := (⟨"org/wireform/json/JsonStringPutUtf8PinLaw", "kept", "([BIIIB)Z"⟩ : MethodName)) (W := 0) (argsL := [(.ref b168), (.int (2 : Int32)), (.int v166), (.int (4 : Int32)), (.int v167)]) (rest := []) X191 hx hZ hown (hw _ (List.mem_of_getElem? (i := 6) rfl)) (hw _ (List.mem_of_getElem? (i := 7) rfl)) (hw _ (List.mem_of_getElem? (i := 8) rfl)) (hw _ (List.mem_of_getElem? (i := 9) rfl)) (by decide) e191 (rm5 l Z a0 hw [] b168 (2 : Int32) v166 (4 : Int32) v167 (own_put4 g v166 v165) T186.heap n0 (by decide) A186) (by decide) (by decide) (by decide) (by decide) (g := (mkF m 226 #[.val (.int p0), .val (.int p1), .val (.int p2), .val (.int p3), .val (.int v1), .val (.int v2), .val (.int v165), .val (.int (4 : Int32)), .val (.int v166), .val (.int v167), .val (.ref b168), .val (.int v187), .unset, .unset, .unset, .unset, .unset] [(.int v167), (.int (4 : Int32)), (.int v166), (.int (2 : Int32)), (.ref b168)])) rfl (by rw [hml]; rfl) (lenOf pd_1 rfl) rfl (by show 2 * 0 + _ ≤ _; exact Nat.le_of_eq rfl) (hb hby at_226)
        have N193 := Fr.app N191 Nq193
        refine hD _ (T193.setTop (mkF m 229 #[.val (.int p0), .val (.int p1), .val (.int p2), .val (.int p3), .val (.int v1), .val (.int v2), .val (.int v165), .val (.int (4 : Int32)), .val (.int v166), .val (.int v167), .val (.ref b168), .val (.int v187), .unset, .unset, .unset, .unset, .unset] [(.int (Own.b2i (own_kept (own_put4 g v166 v165) (2 : Int32) v166 (4 : Int32) v167)))])) (fun t k => ?_) ?_
        · show Steps p.tables e below (T191.setTop (mkF m 214 #[.val (.int p0), .val (.int p1), .val (.int p2), .val (.int p3), .val (.int v1), .val (.int v2), .val (.int v165), .val (.int (4 : Int32)), .val (.int v166), .val (.int v167), .val (.ref b168), .val (.int v187), .unset, .unset, .unset, .unset, .unset] [(.int (Own.b2i (own_kept (own_put4 g v166 v165) (1 : Int32) v166 (4 : Int32) v167)))])) t
          refine XS.ifNo X191.here hx rfl (hb hby at_214) rfl ((if0 _ _).trans (feq (fun q => Own.b2i_eq0.mp q hc192)).1) ?_
          show Steps p.tables e below (T191.setTop (mkF m 217 #[.val (.int p0), .val (.int p1), .val (.int p2), .val (.int p3), .val (.int v1), .val (.int v2), .val (.int v165), .val (.int (4 : Int32)), .val (.int v166), .val (.int v167), .val (.ref b168), .val (.int v187), .unset, .unset, .unset, .unset, .unset] [])) t
          refine XS.aload X191.here hx rfl (hb hby at_217) rfl rfl ?_
          show Steps p.tables e below (T191.setTop (mkF m 219 #[.val (.int p0), .val (.int p1), .val (.int p2), .val (.int p3), .val (.int v1), .val (.int v2), .val (.int v165), .val (.int (4 : Int32)), .val (.int v166), .val (.int v167), .val (.ref b168), .val (.int v187), .unset, .unset, .unset, .unset, .unset] [(.ref b168)])) t
          refine XS.iconst X191.here hx rfl (hb hby at_219) ?_
          show Steps p.tables e below (T191.setTop (mkF m 220 #[.val (.int p0), .val (.int p1), .val (.int p2), .val (.int p3), .val (.int v1), .val (.int v2), .val (.int v165), .val (.int (4 : Int32)), .val (.int v166), .val (.int v167), .val (.ref b168), .val (.int v187), .unset, .unset, .unset, .unset, .unset] [(.int (2 : Int32)), (.ref b168)])) t
          refine XS.iload X191.here hx rfl (hb hby at_220) rfl ?_
          show Steps p.tables e below (T191.setTop (mkF m 222 #[.val (.int p0), .val (.int p1), .val (.int p2), .val (.int p3), .val (.int v1), .val (.int v2), .val (.int v165), .val (.int (4 : Int32)), .val (.int v166), .val (.int v167), .val (.ref b168), .val (.int v187), .unset, .unset, .unset, .unset, .unset] [(.int v166), (.int (2 : Int32)), (.ref b168)])) t
          refine XS.iload X191.here hx rfl (hb hby at_222) rfl ?_
          show Steps p.tables e below (T191.setTop (mkF m 224 #[.val (.int p0), .val (.int p1), .val (.int p2), .val (.int p3), .val (.int v1), .val (.int v2), .val (.int v165), .val (.int (4 : Int32)), .val (.int v166), .val (.int v167), .val (.ref b168), .val (.int v187), .unset, .unset, .unset, .unset, .unset] [(.int (4 : Int32)), (.int v166), (.int (2 : Int32)), (.ref b168)])) t
          refine XS.iload X191.here hx rfl (hb hby at_224) rfl ?_
          show Steps p.tables e below (T191.setTop (mkF m 226 #[.val (.int p0), .val (.int p1), .val (.int p2), .val (.int p3), .val (.int v1), .val (.int v2), .val (.int v165), .val (.int (4 : Int32)), .val (.int v166), .val (.int v167), .val (.ref b168), .val (.int v187), .unset, .unset, .unset, .unset, .unset] [(.int v167), (.int (4 : Int32)), (.int v166), (.int (2 : Int32)), (.ref b168)])) t
          refine st193 _ ?_
          show Steps p.tables e below (T193.setTop (mkF m 229 #[.val (.int p0), .val (.int p1), .val (.int p2), .val (.int p3), .val (.int v1), .val (.int v2), .val (.int v165), .val (.int (4 : Int32)), .val (.int v166), .val (.int v167), .val (.ref b168), .val (.int v187), .unset, .unset, .unset, .unset, .unset] [(.int (Own.b2i (own_kept (own_put4 g v166 v165) (2 : Int32) v166 (4 : Int32) v167)))])) t
          exact k
        have hc194 : (own_kept (own_put4 g v166 v165) (2 : Int32) v166 (4 : Int32) v167) = true := own_st4 g hn (by decide) (hg 2 (by decide))
        obtain ⟨T195, _, L195, X195, ⟨rfl, Nq195, e195⟩, st195⟩ := Own.callS (y := (⟨"org/wireform/json/JsonStringPutUtf8PinLaw", "kept", "([BIIIB)Z"⟩ : MethodName)) (W := 0) (argsL := [(.ref b168), (.int (3 : Int32)), (.int v166), (.int (4 : Int32)), (.int v167)]) (rest := []) X193 hx hZ hown (hw _ (List.mem_of_getElem? (i := 6) rfl)) (hw _ (List.mem_of_getElem? (i := 7) rfl)) (hw _ (List.mem_of_getElem? (i := 8) rfl)) (hw _ (List.mem_of_getElem? (i := 9) rfl)) (by decide) e193 (rm5 l Z a0 hw [] b168 (3 : Int32) v166 (4 : Int32) v167 (own_put4 g v166 v165) T186.heap n0 (by decide) A186) (by decide) (by decide) (by decide) (by decide) (g := (mkF m 241 #[.val (.int p0), .val (.int p1), .val (.int p2), .val (.int p3), .val (.int v1), .val (.int v2), .val (.int v165), .val (.int (4 : Int32)), .val (.int v166), .val (.int v167), .val (.ref b168), .val (.int v187), .unset, .unset, .unset, .unset, .unset] [(.int v167), (.int (4 : Int32)), (.int v166), (.int (3 : Int32)), (.ref b168)])) rfl (by rw [hml]; rfl) (lenOf pd_1 rfl) rfl (by show 2 * 0 + _ ≤ _; exact Nat.le_of_eq rfl) (hb hby at_241)
        have N195 := Fr.app N193 Nq195
        refine hD _ (T195.setTop (mkF m 244 #[.val (.int p0), .val (.int p1), .val (.int p2), .val (.int p3), .val (.int v1), .val (.int v2), .val (.int v165), .val (.int (4 : Int32)), .val (.int v166), .val (.int v167), .val (.ref b168), .val (.int v187), .unset, .unset, .unset, .unset, .unset] [(.int (Own.b2i (own_kept (own_put4 g v166 v165) (3 : Int32) v166 (4 : Int32) v167)))])) (fun t k => ?_) ?_
        · show Steps p.tables e below (T193.setTop (mkF m 229 #[.val (.int p0), .val (.int p1), .val (.int p2), .val (.int p3), .val (.int v1), .val (.int v2), .val (.int v165), .val (.int (4 : Int32)), .val (.int v166), .val (.int v167), .val (.ref b168), .val (.int v187), .unset, .unset, .unset, .unset, .unset] [(.int (Own.b2i (own_kept (own_put4 g v166 v165) (2 : Int32) v166 (4 : Int32) v167)))])) t
          refine XS.ifNo X193.here hx rfl (hb hby at_229) rfl ((if0 _ _).trans (feq (fun q => Own.b2i_eq0.mp q hc194)).1) ?_
          show Steps p.tables e below (T193.setTop (mkF m 232 #[.val (.int p0), .val (.int p1), .val (.int p2), .val (.int p3), .val (.int v1), .val (.int v2), .val (.int v165), .val (.int (4 : Int32)), .val (.int v166), .val (.int v167), .val (.ref b168), .val (.int v187), .unset, .unset, .unset, .unset, .unset] [])) t
          refine XS.aload X193.here hx rfl (hb hby at_232) rfl rfl ?_
          show Steps p.tables e below (T193.setTop (mkF m 234 #[.val (.int p0), .val (.int p1), .val (.int p2), .val (.int p3), .val (.int v1), .val (.int v2), .val (.int v165), .val (.int (4 : Int32)), .val (.int v166), .val (.int v167), .val (.ref b168), .val (.int v187), .unset, .unset, .unset, .unset, .unset] [(.ref b168)])) t
          refine XS.iconst X193.here hx rfl (hb hby at_234) ?_
          show Steps p.tables e below (T193.setTop (mkF m 235 #[.val (.int p0), .val (.int p1), .val (.int p2), .val (.int p3), .val (.int v1), .val (.int v2), .val (.int v165), .val (.int (4 : Int32)), .val (.int v166), .val (.int v167), .val (.ref b168), .val (.int v187), .unset, .unset, .unset, .unset, .unset] [(.int (3 : Int32)), (.ref b168)])) t
          refine XS.iload X193.here hx rfl (hb hby at_235) rfl ?_
          show Steps p.tables e below (T193.setTop (mkF m 237 #[.val (.int p0), .val (.int p1), .val (.int p2), .val (.int p3), .val (.int v1), .val (.int v2), .val (.int v165), .val (.int (4 : Int32)), .val (.int v166), .val (.int v167), .val (.ref b168), .val (.int v187), .unset, .unset, .unset, .unset, .unset] [(.int v166), (.int (3 : Int32)), (.ref b168)])) t
          refine XS.iload X193.here hx rfl (hb hby at_237) rfl ?_
          show Steps p.tables e below (T193.setTop (mkF m 239 #[.val (.int p0), .val (.int p1), .val (.int p2), .val (.int p3), .val (.int v1), .val (.int v2), .val (.int v165), .val (.int (4 : Int32)), .val (.int v166), .val (.int v167), .val (.ref b168), .val (.int v187), .unset, .unset, .unset, .unset, .unset] [(.int (4 : Int32)), (.int v166), (.int (3 : Int32)), (.ref b168)])) t
          refine XS.iload X193.here hx rfl (hb hby at_239) rfl ?_
          show Steps p.tables e below (T193.setTop (mkF m 241 #[.val (.int p0), .val (.int p1), .val (.int p2), .val (.int p3), .val (.int v1), .val (.int v2), .val (.int v165), .val (.int (4 : Int32)), .val (.int v166), .val (.int v167), .val (.ref b168), .val (.int v187), .unset, .unset, .unset, .unset, .unset] [(.int v167), (.int (4 : Int32)), (.int v166), (.int (3 : Int32)), (.ref b168)])) t
          refine st195 _ ?_
          show Steps p.tables e below (T195.setTop (mkF m 244 #[.val (.int p0), .val (.int p1), .val (.int p2), .val (.int p3), .val (.int v1), .val (.int v2), .val (.int v165), .val (.int (4 : Int32)), .val (.int v166), .val (.int v167), .val (.ref b168), .val (.int v187), .unset, .unset, .unset, .unset, .unset] [(.int (Own.b2i (own_kept (own_put4 g v166 v165) (3 : Int32) v166 (4 : Int32) v167)))])) t
          exact k
        have hc196 : (own_kept (own_put4 g v166 v165) (3 : Int32) v166 (4 : Int32) v167) = true := own_st4 g hn (by decide) (hg 3 (by decide))
        obtain ⟨T197, _, L197, X197, ⟨rfl, Nq197, e197⟩, st197⟩ := Own.callS (y := (⟨"org/wireform/json/JsonStringPutUtf8PinLaw", "kept", "([BIIIB)Z"⟩ : MethodName)) (W := 0) (argsL := [(.ref b168), (.int (4 : Int32)), (.int v166), (.int (4 : Int32)), (.int v167)]) (rest := []) X195 hx hZ hown (hw _ (List.mem_of_getElem? (i := 6) rfl)) (hw _ (List.mem_of_getElem? (i := 7) rfl)) (hw _ (List.mem_of_getElem? (i := 8) rfl)) (hw _ (List.mem_of_getElem? (i := 9) rfl)) (by decide) e195 (rm5 l Z a0 hw [] b168 (4 : Int32) v166 (4 : Int32) v167 (own_put4 g v166 v165) T186.heap n0 (by decide) A186) (by decide) (by decide) (by decide) (by decide) (g := (mkF m 256 #[.val (.int p0), .val (.int p1), .val (.int p2), .val (.int p3), .val (.int v1), .val (.int v2), .val (.int v165), .val (.int (4 : Int32)), .val (.int v166), .val (.int v167), .val (.ref b168), .val (.int v187), .unset, .unset, .unset, .unset, .unset] [(.int v167), (.int (4 : Int32)), (.int v166), (.int (4 : Int32)), (.ref b168)])) rfl (by rw [hml]; rfl) (lenOf pd_1 rfl) rfl (by show 2 * 0 + _ ≤ _; exact Nat.le_of_eq rfl) (hb hby at_256)
        have N197 := Fr.app N195 Nq197
        refine hD _ (T197.setTop (mkF m 259 #[.val (.int p0), .val (.int p1), .val (.int p2), .val (.int p3), .val (.int v1), .val (.int v2), .val (.int v165), .val (.int (4 : Int32)), .val (.int v166), .val (.int v167), .val (.ref b168), .val (.int v187), .unset, .unset, .unset, .unset, .unset] [(.int (Own.b2i (own_kept (own_put4 g v166 v165) (4 : Int32) v166 (4 : Int32) v167)))])) (fun t k => ?_) ?_
        · show Steps p.tables e below (T195.setTop (mkF m 244 #[.val (.int p0), .val (.int p1), .val (.int p2), .val (.int p3), .val (.int v1), .val (.int v2), .val (.int v165), .val (.int (4 : Int32)), .val (.int v166), .val (.int v167), .val (.ref b168), .val (.int v187), .unset, .unset, .unset, .unset, .unset] [(.int (Own.b2i (own_kept (own_put4 g v166 v165) (3 : Int32) v166 (4 : Int32) v167)))])) t
          refine XS.ifNo X195.here hx rfl (hb hby at_244) rfl ((if0 _ _).trans (feq (fun q => Own.b2i_eq0.mp q hc196)).1) ?_
          show Steps p.tables e below (T195.setTop (mkF m 247 #[.val (.int p0), .val (.int p1), .val (.int p2), .val (.int p3), .val (.int v1), .val (.int v2), .val (.int v165), .val (.int (4 : Int32)), .val (.int v166), .val (.int v167), .val (.ref b168), .val (.int v187), .unset, .unset, .unset, .unset, .unset] [])) t
          refine XS.aload X195.here hx rfl (hb hby at_247) rfl rfl ?_
          show Steps p.tables e below (T195.setTop (mkF m 249 #[.val (.int p0), .val (.int p1), .val (.int p2), .val (.int p3), .val (.int v1), .val (.int v2), .val (.int v165), .val (.int (4 : Int32)), .val (.int v166), .val (.int v167), .val (.ref b168), .val (.int v187), .unset, .unset, .unset, .unset, .unset] [(.ref b168)])) t
          refine XS.iconst X195.here hx rfl (hb hby at_249) ?_
          show Steps p.tables e below (T195.setTop (mkF m 250 #[.val (.int p0), .val (.int p1), .val (.int p2), .val (.int p3), .val (.int v1), .val (.int v2), .val (.int v165), .val (.int (4 : Int32)), .val (.int v166), .val (.int v167), .val (.ref b168), .val (.int v187), .unset, .unset, .unset, .unset, .unset] [(.int (4 : Int32)), (.ref b168)])) t
          refine XS.iload X195.here hx rfl (hb hby at_250) rfl ?_
          show Steps p.tables e below (T195.setTop (mkF m 252 #[.val (.int p0), .val (.int p1), .val (.int p2), .val (.int p3), .val (.int v1), .val (.int v2), .val (.int v165), .val (.int (4 : Int32)), .val (.int v166), .val (.int v167), .val (.ref b168), .val (.int v187), .unset, .unset, .unset, .unset, .unset] [(.int v166), (.int (4 : Int32)), (.ref b168)])) t
          refine XS.iload X195.here hx rfl (hb hby at_252) rfl ?_
          show Steps p.tables e below (T195.setTop (mkF m 254 #[.val (.int p0), .val (.int p1), .val (.int p2), .val (.int p3), .val (.int v1), .val (.int v2), .val (.int v165), .val (.int (4 : Int32)), .val (.int v166), .val (.int v167), .val (.ref b168), .val (.int v187), .unset, .unset, .unset, .unset, .unset] [(.int (4 : Int32)), (.int v166), (.int (4 : Int32)), (.ref b168)])) t
          refine XS.iload X195.here hx rfl (hb hby at_254) rfl ?_
          show Steps p.tables e below (T195.setTop (mkF m 256 #[.val (.int p0), .val (.int p1), .val (.int p2), .val (.int p3), .val (.int v1), .val (.int v2), .val (.int v165), .val (.int (4 : Int32)), .val (.int v166), .val (.int v167), .val (.ref b168), .val (.int v187), .unset, .unset, .unset, .unset, .unset] [(.int v167), (.int (4 : Int32)), (.int v166), (.int (4 : Int32)), (.ref b168)])) t
          refine st197 _ ?_
          show Steps p.tables e below (T197.setTop (mkF m 259 #[.val (.int p0), .val (.int p1), .val (.int p2), .val (.int p3), .val (.int v1), .val (.int v2), .val (.int v165), .val (.int (4 : Int32)), .val (.int v166), .val (.int v167), .val (.ref b168), .val (.int v187), .unset, .unset, .unset, .unset, .unset] [(.int (Own.b2i (own_kept (own_put4 g v166 v165) (4 : Int32) v166 (4 : Int32) v167)))])) t
          exact k
        have hc198 : (own_kept (own_put4 g v166 v165) (4 : Int32) v166 (4 : Int32) v167) = true := own_st4 g hn (by decide) (hg 4 (by decide))
        obtain ⟨T199, _, L199, X199, ⟨rfl, Nq199, e199⟩, st199⟩ := Own.callS (y := (⟨"org/wireform/json/JsonStringPutUtf8PinLaw", "kept", "([BIIIB)Z"⟩ : MethodName)) (W := 0) (argsL := [(.ref b168), (.int (5 : Int32)), (.int v166), (.int (4 : Int32)), (.int v167)]) (rest := []) X197 hx hZ hown (hw _ (List.mem_of_getElem? (i := 6) rfl)) (hw _ (List.mem_of_getElem? (i := 7) rfl)) (hw _ (List.mem_of_getElem? (i := 8) rfl)) (hw _ (List.mem_of_getElem? (i := 9) rfl)) (by decide) e197 (rm5 l Z a0 hw [] b168 (5 : Int32) v166 (4 : Int32) v167 (own_put4 g v166 v165) T186.heap n0 (by decide) A186) (by decide) (by decide) (by decide) (by decide) (g := (mkF m 271 #[.val (.int p0), .val (.int p1), .val (.int p2), .val (.int p3), .val (.int v1), .val (.int v2), .val (.int v165), .val (.int (4 : Int32)), .val (.int v166), .val (.int v167), .val (.ref b168), .val (.int v187), .unset, .unset, .unset, .unset, .unset] [(.int v167), (.int (4 : Int32)), (.int v166), (.int (5 : Int32)), (.ref b168)])) rfl (by rw [hml]; rfl) (lenOf pd_1 rfl) rfl (by show 2 * 0 + _ ≤ _; exact Nat.le_of_eq rfl) (hb hby at_271)
        have N199 := Fr.app N197 Nq199
        refine hD _ (T199.setTop (mkF m 274 #[.val (.int p0), .val (.int p1), .val (.int p2), .val (.int p3), .val (.int v1), .val (.int v2), .val (.int v165), .val (.int (4 : Int32)), .val (.int v166), .val (.int v167), .val (.ref b168), .val (.int v187), .unset, .unset, .unset, .unset, .unset] [(.int (Own.b2i (own_kept (own_put4 g v166 v165) (5 : Int32) v166 (4 : Int32) v167)))])) (fun t k => ?_) ?_
        · show Steps p.tables e below (T197.setTop (mkF m 259 #[.val (.int p0), .val (.int p1), .val (.int p2), .val (.int p3), .val (.int v1), .val (.int v2), .val (.int v165), .val (.int (4 : Int32)), .val (.int v166), .val (.int v167), .val (.ref b168), .val (.int v187), .unset, .unset, .unset, .unset, .unset] [(.int (Own.b2i (own_kept (own_put4 g v166 v165) (4 : Int32) v166 (4 : Int32) v167)))])) t
          refine XS.ifNo X197.here hx rfl (hb hby at_259) rfl ((if0 _ _).trans (feq (fun q => Own.b2i_eq0.mp q hc198)).1) ?_
          show Steps p.tables e below (T197.setTop (mkF m 262 #[.val (.int p0), .val (.int p1), .val (.int p2), .val (.int p3), .val (.int v1), .val (.int v2), .val (.int v165), .val (.int (4 : Int32)), .val (.int v166), .val (.int v167), .val (.ref b168), .val (.int v187), .unset, .unset, .unset, .unset, .unset] [])) t
          refine XS.aload X197.here hx rfl (hb hby at_262) rfl rfl ?_
          show Steps p.tables e below (T197.setTop (mkF m 264 #[.val (.int p0), .val (.int p1), .val (.int p2), .val (.int p3), .val (.int v1), .val (.int v2), .val (.int v165), .val (.int (4 : Int32)), .val (.int v166), .val (.int v167), .val (.ref b168), .val (.int v187), .unset, .unset, .unset, .unset, .unset] [(.ref b168)])) t
          refine XS.iconst X197.here hx rfl (hb hby at_264) ?_
          show Steps p.tables e below (T197.setTop (mkF m 265 #[.val (.int p0), .val (.int p1), .val (.int p2), .val (.int p3), .val (.int v1), .val (.int v2), .val (.int v165), .val (.int (4 : Int32)), .val (.int v166), .val (.int v167), .val (.ref b168), .val (.int v187), .unset, .unset, .unset, .unset, .unset] [(.int (5 : Int32)), (.ref b168)])) t
          refine XS.iload X197.here hx rfl (hb hby at_265) rfl ?_
          show Steps p.tables e below (T197.setTop (mkF m 267 #[.val (.int p0), .val (.int p1), .val (.int p2), .val (.int p3), .val (.int v1), .val (.int v2), .val (.int v165), .val (.int (4 : Int32)), .val (.int v166), .val (.int v167), .val (.ref b168), .val (.int v187), .unset, .unset, .unset, .unset, .unset] [(.int v166), (.int (5 : Int32)), (.ref b168)])) t
          refine XS.iload X197.here hx rfl (hb hby at_267) rfl ?_
          show Steps p.tables e below (T197.setTop (mkF m 269 #[.val (.int p0), .val (.int p1), .val (.int p2), .val (.int p3), .val (.int v1), .val (.int v2), .val (.int v165), .val (.int (4 : Int32)), .val (.int v166), .val (.int v167), .val (.ref b168), .val (.int v187), .unset, .unset, .unset, .unset, .unset] [(.int (4 : Int32)), (.int v166), (.int (5 : Int32)), (.ref b168)])) t
          refine XS.iload X197.here hx rfl (hb hby at_269) rfl ?_
          show Steps p.tables e below (T197.setTop (mkF m 271 #[.val (.int p0), .val (.int p1), .val (.int p2), .val (.int p3), .val (.int v1), .val (.int v2), .val (.int v165), .val (.int (4 : Int32)), .val (.int v166), .val (.int v167), .val (.ref b168), .val (.int v187), .unset, .unset, .unset, .unset, .unset] [(.int v167), (.int (4 : Int32)), (.int v166), (.int (5 : Int32)), (.ref b168)])) t
          refine st199 _ ?_
          show Steps p.tables e below (T199.setTop (mkF m 274 #[.val (.int p0), .val (.int p1), .val (.int p2), .val (.int p3), .val (.int v1), .val (.int v2), .val (.int v165), .val (.int (4 : Int32)), .val (.int v166), .val (.int v167), .val (.ref b168), .val (.int v187), .unset, .unset, .unset, .unset, .unset] [(.int (Own.b2i (own_kept (own_put4 g v166 v165) (5 : Int32) v166 (4 : Int32) v167)))])) t
          exact k
        have hc200 : (own_kept (own_put4 g v166 v165) (5 : Int32) v166 (4 : Int32) v167) = true := own_st4 g hn (by decide) (hg 5 (by decide))
        obtain ⟨T201, _, L201, X201, ⟨rfl, Nq201, e201⟩, st201⟩ := Own.callS (y := (⟨"org/wireform/json/JsonStringPutUtf8PinLaw", "kept", "([BIIIB)Z"⟩ : MethodName)) (W := 0) (argsL := [(.ref b168), (.int (6 : Int32)), (.int v166), (.int (4 : Int32)), (.int v167)]) (rest := []) X199 hx hZ hown (hw _ (List.mem_of_getElem? (i := 6) rfl)) (hw _ (List.mem_of_getElem? (i := 7) rfl)) (hw _ (List.mem_of_getElem? (i := 8) rfl)) (hw _ (List.mem_of_getElem? (i := 9) rfl)) (by decide) e199 (rm5 l Z a0 hw [] b168 (6 : Int32) v166 (4 : Int32) v167 (own_put4 g v166 v165) T186.heap n0 (by decide) A186) (by decide) (by decide) (by decide) (by decide) (g := (mkF m 287 #[.val (.int p0), .val (.int p1), .val (.int p2), .val (.int p3), .val (.int v1), .val (.int v2), .val (.int v165), .val (.int (4 : Int32)), .val (.int v166), .val (.int v167), .val (.ref b168), .val (.int v187), .unset, .unset, .unset, .unset, .unset] [(.int v167), (.int (4 : Int32)), (.int v166), (.int (6 : Int32)), (.ref b168)])) rfl (by rw [hml]; rfl) (lenOf pd_1 rfl) rfl (by show 2 * 0 + _ ≤ _; exact Nat.le_of_eq rfl) (hb hby at_287)
        have N201 := Fr.app N199 Nq201
        refine hD _ (T201.setTop (mkF m 290 #[.val (.int p0), .val (.int p1), .val (.int p2), .val (.int p3), .val (.int v1), .val (.int v2), .val (.int v165), .val (.int (4 : Int32)), .val (.int v166), .val (.int v167), .val (.ref b168), .val (.int v187), .unset, .unset, .unset, .unset, .unset] [(.int (Own.b2i (own_kept (own_put4 g v166 v165) (6 : Int32) v166 (4 : Int32) v167)))])) (fun t k => ?_) ?_
        · show Steps p.tables e below (T199.setTop (mkF m 274 #[.val (.int p0), .val (.int p1), .val (.int p2), .val (.int p3), .val (.int v1), .val (.int v2), .val (.int v165), .val (.int (4 : Int32)), .val (.int v166), .val (.int v167), .val (.ref b168), .val (.int v187), .unset, .unset, .unset, .unset, .unset] [(.int (Own.b2i (own_kept (own_put4 g v166 v165) (5 : Int32) v166 (4 : Int32) v167)))])) t
          refine XS.ifNo X199.here hx rfl (hb hby at_274) rfl ((if0 _ _).trans (feq (fun q => Own.b2i_eq0.mp q hc200)).1) ?_
          show Steps p.tables e below (T199.setTop (mkF m 277 #[.val (.int p0), .val (.int p1), .val (.int p2), .val (.int p3), .val (.int v1), .val (.int v2), .val (.int v165), .val (.int (4 : Int32)), .val (.int v166), .val (.int v167), .val (.ref b168), .val (.int v187), .unset, .unset, .unset, .unset, .unset] [])) t
          refine XS.aload X199.here hx rfl (hb hby at_277) rfl rfl ?_
          show Steps p.tables e below (T199.setTop (mkF m 279 #[.val (.int p0), .val (.int p1), .val (.int p2), .val (.int p3), .val (.int v1), .val (.int v2), .val (.int v165), .val (.int (4 : Int32)), .val (.int v166), .val (.int v167), .val (.ref b168), .val (.int v187), .unset, .unset, .unset, .unset, .unset] [(.ref b168)])) t
          refine XS.bipush X199.here hx rfl (hb hby at_279) ?_
          show Steps p.tables e below (T199.setTop (mkF m 281 #[.val (.int p0), .val (.int p1), .val (.int p2), .val (.int p3), .val (.int v1), .val (.int v2), .val (.int v165), .val (.int (4 : Int32)), .val (.int v166), .val (.int v167), .val (.ref b168), .val (.int v187), .unset, .unset, .unset, .unset, .unset] [(.int (6 : Int32)), (.ref b168)])) t
          refine XS.iload X199.here hx rfl (hb hby at_281) rfl ?_
          show Steps p.tables e below (T199.setTop (mkF m 283 #[.val (.int p0), .val (.int p1), .val (.int p2), .val (.int p3), .val (.int v1), .val (.int v2), .val (.int v165), .val (.int (4 : Int32)), .val (.int v166), .val (.int v167), .val (.ref b168), .val (.int v187), .unset, .unset, .unset, .unset, .unset] [(.int v166), (.int (6 : Int32)), (.ref b168)])) t
          refine XS.iload X199.here hx rfl (hb hby at_283) rfl ?_
          show Steps p.tables e below (T199.setTop (mkF m 285 #[.val (.int p0), .val (.int p1), .val (.int p2), .val (.int p3), .val (.int v1), .val (.int v2), .val (.int v165), .val (.int (4 : Int32)), .val (.int v166), .val (.int v167), .val (.ref b168), .val (.int v187), .unset, .unset, .unset, .unset, .unset] [(.int (4 : Int32)), (.int v166), (.int (6 : Int32)), (.ref b168)])) t
          refine XS.iload X199.here hx rfl (hb hby at_285) rfl ?_
          show Steps p.tables e below (T199.setTop (mkF m 287 #[.val (.int p0), .val (.int p1), .val (.int p2), .val (.int p3), .val (.int v1), .val (.int v2), .val (.int v165), .val (.int (4 : Int32)), .val (.int v166), .val (.int v167), .val (.ref b168), .val (.int v187), .unset, .unset, .unset, .unset, .unset] [(.int v167), (.int (4 : Int32)), (.int v166), (.int (6 : Int32)), (.ref b168)])) t
          refine st201 _ ?_
          show Steps p.tables e below (T201.setTop (mkF m 290 #[.val (.int p0), .val (.int p1), .val (.int p2), .val (.int p3), .val (.int v1), .val (.int v2), .val (.int v165), .val (.int (4 : Int32)), .val (.int v166), .val (.int v167), .val (.ref b168), .val (.int v187), .unset, .unset, .unset, .unset, .unset] [(.int (Own.b2i (own_kept (own_put4 g v166 v165) (6 : Int32) v166 (4 : Int32) v167)))])) t
          exact k
        have hc202 : (own_kept (own_put4 g v166 v165) (6 : Int32) v166 (4 : Int32) v167) = true := own_st4 g hn (by decide) (hg 6 (by decide))
        obtain ⟨T203, _, L203, X203, ⟨rfl, Nq203, e203⟩, st203⟩ := Own.callS (y := (⟨"org/wireform/json/JsonStringPutUtf8PinLaw", "kept", "([BIIIB)Z"⟩ : MethodName)) (W := 0) (argsL := [(.ref b168), (.int (7 : Int32)), (.int v166), (.int (4 : Int32)), (.int v167)]) (rest := []) X201 hx hZ hown (hw _ (List.mem_of_getElem? (i := 6) rfl)) (hw _ (List.mem_of_getElem? (i := 7) rfl)) (hw _ (List.mem_of_getElem? (i := 8) rfl)) (hw _ (List.mem_of_getElem? (i := 9) rfl)) (by decide) e201 (rm5 l Z a0 hw [] b168 (7 : Int32) v166 (4 : Int32) v167 (own_put4 g v166 v165) T186.heap n0 (by decide) A186) (by decide) (by decide) (by decide) (by decide) (g := (mkF m 303 #[.val (.int p0), .val (.int p1), .val (.int p2), .val (.int p3), .val (.int v1), .val (.int v2), .val (.int v165), .val (.int (4 : Int32)), .val (.int v166), .val (.int v167), .val (.ref b168), .val (.int v187), .unset, .unset, .unset, .unset, .unset] [(.int v167), (.int (4 : Int32)), (.int v166), (.int (7 : Int32)), (.ref b168)])) rfl (by rw [hml]; rfl) (lenOf pd_1 rfl) rfl (by show 2 * 0 + _ ≤ _; exact Nat.le_of_eq rfl) (hb hby at_303)
        have N203 := Fr.app N201 Nq203
        refine hD _ (T203.setTop (mkF m 306 #[.val (.int p0), .val (.int p1), .val (.int p2), .val (.int p3), .val (.int v1), .val (.int v2), .val (.int v165), .val (.int (4 : Int32)), .val (.int v166), .val (.int v167), .val (.ref b168), .val (.int v187), .unset, .unset, .unset, .unset, .unset] [(.int (Own.b2i (own_kept (own_put4 g v166 v165) (7 : Int32) v166 (4 : Int32) v167)))])) (fun t k => ?_) ?_
        · show Steps p.tables e below (T201.setTop (mkF m 290 #[.val (.int p0), .val (.int p1), .val (.int p2), .val (.int p3), .val (.int v1), .val (.int v2), .val (.int v165), .val (.int (4 : Int32)), .val (.int v166), .val (.int v167), .val (.ref b168), .val (.int v187), .unset, .unset, .unset, .unset, .unset] [(.int (Own.b2i (own_kept (own_put4 g v166 v165) (6 : Int32) v166 (4 : Int32) v167)))])) t
          refine XS.ifNo X201.here hx rfl (hb hby at_290) rfl ((if0 _ _).trans (feq (fun q => Own.b2i_eq0.mp q hc202)).1) ?_
          show Steps p.tables e below (T201.setTop (mkF m 293 #[.val (.int p0), .val (.int p1), .val (.int p2), .val (.int p3), .val (.int v1), .val (.int v2), .val (.int v165), .val (.int (4 : Int32)), .val (.int v166), .val (.int v167), .val (.ref b168), .val (.int v187), .unset, .unset, .unset, .unset, .unset] [])) t
          refine XS.aload X201.here hx rfl (hb hby at_293) rfl rfl ?_
          show Steps p.tables e below (T201.setTop (mkF m 295 #[.val (.int p0), .val (.int p1), .val (.int p2), .val (.int p3), .val (.int v1), .val (.int v2), .val (.int v165), .val (.int (4 : Int32)), .val (.int v166), .val (.int v167), .val (.ref b168), .val (.int v187), .unset, .unset, .unset, .unset, .unset] [(.ref b168)])) t
          refine XS.bipush X201.here hx rfl (hb hby at_295) ?_
          show Steps p.tables e below (T201.setTop (mkF m 297 #[.val (.int p0), .val (.int p1), .val (.int p2), .val (.int p3), .val (.int v1), .val (.int v2), .val (.int v165), .val (.int (4 : Int32)), .val (.int v166), .val (.int v167), .val (.ref b168), .val (.int v187), .unset, .unset, .unset, .unset, .unset] [(.int (7 : Int32)), (.ref b168)])) t
          refine XS.iload X201.here hx rfl (hb hby at_297) rfl ?_
          show Steps p.tables e below (T201.setTop (mkF m 299 #[.val (.int p0), .val (.int p1), .val (.int p2), .val (.int p3), .val (.int v1), .val (.int v2), .val (.int v165), .val (.int (4 : Int32)), .val (.int v166), .val (.int v167), .val (.ref b168), .val (.int v187), .unset, .unset, .unset, .unset, .unset] [(.int v166), (.int (7 : Int32)), (.ref b168)])) t
          refine XS.iload X201.here hx rfl (hb hby at_299) rfl ?_
          show Steps p.tables e below (T201.setTop (mkF m 301 #[.val (.int p0), .val (.int p1), .val (.int p2), .val (.int p3), .val (.int v1), .val (.int v2), .val (.int v165), .val (.int (4 : Int32)), .val (.int v166), .val (.int v167), .val (.ref b168), .val (.int v187), .unset, .unset, .unset, .unset, .unset] [(.int (4 : Int32)), (.int v166), (.int (7 : Int32)), (.ref b168)])) t
          refine XS.iload X201.here hx rfl (hb hby at_301) rfl ?_
          show Steps p.tables e below (T201.setTop (mkF m 303 #[.val (.int p0), .val (.int p1), .val (.int p2), .val (.int p3), .val (.int v1), .val (.int v2), .val (.int v165), .val (.int (4 : Int32)), .val (.int v166), .val (.int v167), .val (.ref b168), .val (.int v187), .unset, .unset, .unset, .unset, .unset] [(.int v167), (.int (4 : Int32)), (.int v166), (.int (7 : Int32)), (.ref b168)])) t
          refine st203 _ ?_
          show Steps p.tables e below (T203.setTop (mkF m 306 #[.val (.int p0), .val (.int p1), .val (.int p2), .val (.int p3), .val (.int v1), .val (.int v2), .val (.int v165), .val (.int (4 : Int32)), .val (.int v166), .val (.int v167), .val (.ref b168), .val (.int v187), .unset, .unset, .unset, .unset, .unset] [(.int (Own.b2i (own_kept (own_put4 g v166 v165) (7 : Int32) v166 (4 : Int32) v167)))])) t
          exact k
        have hc204 : (own_kept (own_put4 g v166 v165) (7 : Int32) v166 (4 : Int32) v167) = true := own_st4 g hn (by decide) (hg 7 (by decide))
        have hj205 : 0 ≤ v166.toInt ∧ v166.toInt < (8 : Nat) := (by omega)
        obtain ⟨v206, hv206⟩ : ∃ z : Int32, z = (((own_put4 g v166 v165) v166.toInt.toNat) &&& (255 : Int32)) := ⟨_, rfl⟩
        have hj207 : 0 ≤ (v166 + (1 : Int32)).toInt ∧ (v166 + (1 : Int32)).toInt < (8 : Nat) := (by omega)
        obtain ⟨v208, hv208⟩ : ∃ z : Int32, z = (((own_put4 g v166 v165) (v166 + (1 : Int32)).toInt.toNat) &&& (255 : Int32)) := ⟨_, rfl⟩
        have hj209 : 0 ≤ (v166 + (2 : Int32)).toInt ∧ (v166 + (2 : Int32)).toInt < (8 : Nat) := (by omega)
        obtain ⟨v210, hv210⟩ : ∃ z : Int32, z = (((own_put4 g v166 v165) (v166 + (2 : Int32)).toInt.toNat) &&& (255 : Int32)) := ⟨_, rfl⟩
        have hj211 : 0 ≤ (v166 + (3 : Int32)).toInt ∧ (v166 + (3 : Int32)).toInt < (8 : Nat) := (by omega)
        obtain ⟨v212, hv212⟩ : ∃ z : Int32, z = (((own_put4 g v166 v165) (v166 + (3 : Int32)).toInt.toNat) &&& (255 : Int32)) := ⟨_, rfl⟩
        have hat := own_at4 g (c := v165) hn hcp
        have hb0 : v206.toInt = 240 + v165.toInt / 262144 := by rw [hv206, hat.1, own_240 (by omega)]
        have hh0 := own_hi (u := v206) (by omega)
        have hb1 : v208.toInt = 128 + v165.toInt / 4096 % 64 := by rw [hv208, hat.2.1, own_128 _, own_shr12]
        have hh1 := own_hi (u := v208) (by omega)
        have hb2 : v210.toInt = 128 + v165.toInt / 64 % 64 := by rw [hv210, hat.2.2.1, own_128 _, own_shr6]
        have hh2 := own_hi (u := v210) (by omega)
        have hb3 : v212.toInt = 128 + v165.toInt % 64 := by rw [hv212, hat.2.2.2, own_128 _]
        have hh3 := own_hi (u := v212) (by omega)
        refine hD _ (T203.setTop (mkF m 532 #[.val (.int p0), .val (.int p1), .val (.int p2), .val (.int p3), .val (.int v1), .val (.int v2), .val (.int v165), .val (.int (4 : Int32)), .val (.int v166), .val (.int v167), .val (.ref b168), .val (.int v187), .val (.int (1 : Int32)), .val (.int v206), .val (.int v208), .val (.int v210), .val (.int v212)] [(.int (240 : Int32)), (.int (v206 &&& (248 : Int32)))])) (fun t k => ?_) ?_
        · show Steps p.tables e below (T203.setTop (mkF m 306 #[.val (.int p0), .val (.int p1), .val (.int p2), .val (.int p3), .val (.int v1), .val (.int v2), .val (.int v165), .val (.int (4 : Int32)), .val (.int v166), .val (.int v167), .val (.ref b168), .val (.int v187), .unset, .unset, .unset, .unset, .unset] [(.int (Own.b2i (own_kept (own_put4 g v166 v165) (7 : Int32) v166 (4 : Int32) v167)))])) t
          refine XS.ifNo X203.here hx rfl (hb hby at_306) rfl ((if0 _ _).trans (feq (fun q => Own.b2i_eq0.mp q hc204)).1) ?_
          show Steps p.tables e below (T203.setTop (mkF m 309 #[.val (.int p0), .val (.int p1), .val (.int p2), .val (.int p3), .val (.int v1), .val (.int v2), .val (.int v165), .val (.int (4 : Int32)), .val (.int v166), .val (.int v167), .val (.ref b168), .val (.int v187), .unset, .unset, .unset, .unset, .unset] [])) t
          refine XS.iconst X203.here hx rfl (hb hby at_309) ?_
          show Steps p.tables e below (T203.setTop (mkF m 310 #[.val (.int p0), .val (.int p1), .val (.int p2), .val (.int p3), .val (.int v1), .val (.int v2), .val (.int v165), .val (.int (4 : Int32)), .val (.int v166), .val (.int v167), .val (.ref b168), .val (.int v187), .unset, .unset, .unset, .unset, .unset] [(.int (1 : Int32))])) t
          refine XS.goto X203.here hx rfl (pc0 := 310) (pc' := 314) rfl (hb hby at_310) (by decide) (by decide) ?_
          show Steps p.tables e below (T203.setTop (mkF m 314 #[.val (.int p0), .val (.int p1), .val (.int p2), .val (.int p3), .val (.int v1), .val (.int v2), .val (.int v165), .val (.int (4 : Int32)), .val (.int v166), .val (.int v167), .val (.ref b168), .val (.int v187), .unset, .unset, .unset, .unset, .unset] [(.int (1 : Int32))])) t
          refine XS.istore X203.here hx rfl (hb hby at_314) rfl (l' := #[.val (.int p0), .val (.int p1), .val (.int p2), .val (.int p3), .val (.int v1), .val (.int v2), .val (.int v165), .val (.int (4 : Int32)), .val (.int v166), .val (.int v167), .val (.ref b168), .val (.int v187), .val (.int (1 : Int32)), .unset, .unset, .unset, .unset]) rfl ?_
          show Steps p.tables e below (T203.setTop (mkF m 316 #[.val (.int p0), .val (.int p1), .val (.int p2), .val (.int p3), .val (.int v1), .val (.int v2), .val (.int v165), .val (.int (4 : Int32)), .val (.int v166), .val (.int v167), .val (.ref b168), .val (.int v187), .val (.int (1 : Int32)), .unset, .unset, .unset, .unset] [])) t
          refine XS.iload X203.here hx rfl (hb hby at_316) rfl ?_
          show Steps p.tables e below (T203.setTop (mkF m 318 #[.val (.int p0), .val (.int p1), .val (.int p2), .val (.int p3), .val (.int v1), .val (.int v2), .val (.int v165), .val (.int (4 : Int32)), .val (.int v166), .val (.int v167), .val (.ref b168), .val (.int v187), .val (.int (1 : Int32)), .unset, .unset, .unset, .unset] [(.int (1 : Int32))])) t
          refine XS.ifYes X203.here hx rfl (pc0 := 318) (pc' := 323) rfl (hb hby at_318) rfl (by decide) (by decide) (by decide) ?_
          show Steps p.tables e below (T203.setTop (mkF m 323 #[.val (.int p0), .val (.int p1), .val (.int p2), .val (.int p3), .val (.int v1), .val (.int v2), .val (.int v165), .val (.int (4 : Int32)), .val (.int v166), .val (.int v167), .val (.ref b168), .val (.int v187), .val (.int (1 : Int32)), .unset, .unset, .unset, .unset] [])) t
          refine XS.aload X203.here hx rfl (hb hby at_323) rfl rfl ?_
          show Steps p.tables e below (T203.setTop (mkF m 325 #[.val (.int p0), .val (.int p1), .val (.int p2), .val (.int p3), .val (.int v1), .val (.int v2), .val (.int v165), .val (.int (4 : Int32)), .val (.int v166), .val (.int v167), .val (.ref b168), .val (.int v187), .val (.int (1 : Int32)), .unset, .unset, .unset, .unset] [(.ref b168)])) t
          refine XS.iload X203.here hx rfl (hb hby at_325) rfl ?_
          show Steps p.tables e below (T203.setTop (mkF m 327 #[.val (.int p0), .val (.int p1), .val (.int p2), .val (.int p3), .val (.int v1), .val (.int v2), .val (.int v165), .val (.int (4 : Int32)), .val (.int v166), .val (.int v167), .val (.ref b168), .val (.int v187), .val (.int (1 : Int32)), .unset, .unset, .unset, .unset] [(.int v166), (.ref b168)])) t
          refine Own.ldB X203 hx hZ e203 A186 hj205 (g := (mkF m 327 #[.val (.int p0), .val (.int p1), .val (.int p2), .val (.int p3), .val (.int v1), .val (.int v2), .val (.int v165), .val (.int (4 : Int32)), .val (.int v166), .val (.int v167), .val (.ref b168), .val (.int v187), .val (.int (1 : Int32)), .unset, .unset, .unset, .unset] [(.int v166), (.ref b168)])) rfl rfl (hb hby at_327) _ ?_
          show Steps p.tables e below (T203.setTop (mkF m 328 #[.val (.int p0), .val (.int p1), .val (.int p2), .val (.int p3), .val (.int v1), .val (.int v2), .val (.int v165), .val (.int (4 : Int32)), .val (.int v166), .val (.int v167), .val (.ref b168), .val (.int v187), .val (.int (1 : Int32)), .unset, .unset, .unset, .unset] [(.int ((own_put4 g v166 v165) v166.toInt.toNat))])) t
          refine XS.sipush X203.here hx rfl (hb hby at_328) ?_
          show Steps p.tables e below (T203.setTop (mkF m 331 #[.val (.int p0), .val (.int p1), .val (.int p2), .val (.int p3), .val (.int v1), .val (.int v2), .val (.int v165), .val (.int (4 : Int32)), .val (.int v166), .val (.int v167), .val (.ref b168), .val (.int v187), .val (.int (1 : Int32)), .unset, .unset, .unset, .unset] [(.int (255 : Int32)), (.int ((own_put4 g v166 v165) v166.toInt.toNat))])) t
          refine XS.iand X203.here hx rfl (hb hby at_331) rfl ?_
          show Steps p.tables e below (T203.setTop (mkF m 332 #[.val (.int p0), .val (.int p1), .val (.int p2), .val (.int p3), .val (.int v1), .val (.int v2), .val (.int v165), .val (.int (4 : Int32)), .val (.int v166), .val (.int v167), .val (.ref b168), .val (.int v187), .val (.int (1 : Int32)), .unset, .unset, .unset, .unset] [(.int (((own_put4 g v166 v165) v166.toInt.toNat) &&& (255 : Int32)))])) t
          refine Own.nmI hv206 ?_
          show Steps p.tables e below (T203.setTop (mkF m 332 #[.val (.int p0), .val (.int p1), .val (.int p2), .val (.int p3), .val (.int v1), .val (.int v2), .val (.int v165), .val (.int (4 : Int32)), .val (.int v166), .val (.int v167), .val (.ref b168), .val (.int v187), .val (.int (1 : Int32)), .unset, .unset, .unset, .unset] [(.int v206)])) t
          refine XS.istore X203.here hx rfl (hb hby at_332) rfl (l' := #[.val (.int p0), .val (.int p1), .val (.int p2), .val (.int p3), .val (.int v1), .val (.int v2), .val (.int v165), .val (.int (4 : Int32)), .val (.int v166), .val (.int v167), .val (.ref b168), .val (.int v187), .val (.int (1 : Int32)), .val (.int v206), .unset, .unset, .unset]) rfl ?_
          show Steps p.tables e below (T203.setTop (mkF m 334 #[.val (.int p0), .val (.int p1), .val (.int p2), .val (.int p3), .val (.int v1), .val (.int v2), .val (.int v165), .val (.int (4 : Int32)), .val (.int v166), .val (.int v167), .val (.ref b168), .val (.int v187), .val (.int (1 : Int32)), .val (.int v206), .unset, .unset, .unset] [])) t
          refine XS.aload X203.here hx rfl (hb hby at_334) rfl rfl ?_
          show Steps p.tables e below (T203.setTop (mkF m 336 #[.val (.int p0), .val (.int p1), .val (.int p2), .val (.int p3), .val (.int v1), .val (.int v2), .val (.int v165), .val (.int (4 : Int32)), .val (.int v166), .val (.int v167), .val (.ref b168), .val (.int v187), .val (.int (1 : Int32)), .val (.int v206), .unset, .unset, .unset] [(.ref b168)])) t
          refine XS.iload X203.here hx rfl (hb hby at_336) rfl ?_
          show Steps p.tables e below (T203.setTop (mkF m 338 #[.val (.int p0), .val (.int p1), .val (.int p2), .val (.int p3), .val (.int v1), .val (.int v2), .val (.int v165), .val (.int (4 : Int32)), .val (.int v166), .val (.int v167), .val (.ref b168), .val (.int v187), .val (.int (1 : Int32)), .val (.int v206), .unset, .unset, .unset] [(.int v166), (.ref b168)])) t
          refine XS.iconst X203.here hx rfl (hb hby at_338) ?_
          show Steps p.tables e below (T203.setTop (mkF m 339 #[.val (.int p0), .val (.int p1), .val (.int p2), .val (.int p3), .val (.int v1), .val (.int v2), .val (.int v165), .val (.int (4 : Int32)), .val (.int v166), .val (.int v167), .val (.ref b168), .val (.int v187), .val (.int (1 : Int32)), .val (.int v206), .unset, .unset, .unset] [(.int (1 : Int32)), (.int v166), (.ref b168)])) t
          refine XS.iadd X203.here hx rfl (hb hby at_339) rfl ?_
          show Steps p.tables e below (T203.setTop (mkF m 340 #[.val (.int p0), .val (.int p1), .val (.int p2), .val (.int p3), .val (.int v1), .val (.int v2), .val (.int v165), .val (.int (4 : Int32)), .val (.int v166), .val (.int v167), .val (.ref b168), .val (.int v187), .val (.int (1 : Int32)), .val (.int v206), .unset, .unset, .unset] [(.int (v166 + (1 : Int32))), (.ref b168)])) t
          refine Own.ldB X203 hx hZ e203 A186 hj207 (g := (mkF m 340 #[.val (.int p0), .val (.int p1), .val (.int p2), .val (.int p3), .val (.int v1), .val (.int v2), .val (.int v165), .val (.int (4 : Int32)), .val (.int v166), .val (.int v167), .val (.ref b168), .val (.int v187), .val (.int (1 : Int32)), .val (.int v206), .unset, .unset, .unset] [(.int (v166 + (1 : Int32))), (.ref b168)])) rfl rfl (hb hby at_340) _ ?_
          show Steps p.tables e below (T203.setTop (mkF m 341 #[.val (.int p0), .val (.int p1), .val (.int p2), .val (.int p3), .val (.int v1), .val (.int v2), .val (.int v165), .val (.int (4 : Int32)), .val (.int v166), .val (.int v167), .val (.ref b168), .val (.int v187), .val (.int (1 : Int32)), .val (.int v206), .unset, .unset, .unset] [(.int ((own_put4 g v166 v165) (v166 + (1 : Int32)).toInt.toNat))])) t
          refine XS.sipush X203.here hx rfl (hb hby at_341) ?_
          show Steps p.tables e below (T203.setTop (mkF m 344 #[.val (.int p0), .val (.int p1), .val (.int p2), .val (.int p3), .val (.int v1), .val (.int v2), .val (.int v165), .val (.int (4 : Int32)), .val (.int v166), .val (.int v167), .val (.ref b168), .val (.int v187), .val (.int (1 : Int32)), .val (.int v206), .unset, .unset, .unset] [(.int (255 : Int32)), (.int ((own_put4 g v166 v165) (v166 + (1 : Int32)).toInt.toNat))])) t
          refine XS.iand X203.here hx rfl (hb hby at_344) rfl ?_
          show Steps p.tables e below (T203.setTop (mkF m 345 #[.val (.int p0), .val (.int p1), .val (.int p2), .val (.int p3), .val (.int v1), .val (.int v2), .val (.int v165), .val (.int (4 : Int32)), .val (.int v166), .val (.int v167), .val (.ref b168), .val (.int v187), .val (.int (1 : Int32)), .val (.int v206), .unset, .unset, .unset] [(.int (((own_put4 g v166 v165) (v166 + (1 : Int32)).toInt.toNat) &&& (255 : Int32)))])) t
          refine Own.nmI hv208 ?_
          show Steps p.tables e below (T203.setTop (mkF m 345 #[.val (.int p0), .val (.int p1), .val (.int p2), .val (.int p3), .val (.int v1), .val (.int v2), .val (.int v165), .val (.int (4 : Int32)), .val (.int v166), .val (.int v167), .val (.ref b168), .val (.int v187), .val (.int (1 : Int32)), .val (.int v206), .unset, .unset, .unset] [(.int v208)])) t
          refine XS.istore X203.here hx rfl (hb hby at_345) rfl (l' := #[.val (.int p0), .val (.int p1), .val (.int p2), .val (.int p3), .val (.int v1), .val (.int v2), .val (.int v165), .val (.int (4 : Int32)), .val (.int v166), .val (.int v167), .val (.ref b168), .val (.int v187), .val (.int (1 : Int32)), .val (.int v206), .val (.int v208), .unset, .unset]) rfl ?_
          show Steps p.tables e below (T203.setTop (mkF m 347 #[.val (.int p0), .val (.int p1), .val (.int p2), .val (.int p3), .val (.int v1), .val (.int v2), .val (.int v165), .val (.int (4 : Int32)), .val (.int v166), .val (.int v167), .val (.ref b168), .val (.int v187), .val (.int (1 : Int32)), .val (.int v206), .val (.int v208), .unset, .unset] [])) t
          refine XS.aload X203.here hx rfl (hb hby at_347) rfl rfl ?_
          show Steps p.tables e below (T203.setTop (mkF m 349 #[.val (.int p0), .val (.int p1), .val (.int p2), .val (.int p3), .val (.int v1), .val (.int v2), .val (.int v165), .val (.int (4 : Int32)), .val (.int v166), .val (.int v167), .val (.ref b168), .val (.int v187), .val (.int (1 : Int32)), .val (.int v206), .val (.int v208), .unset, .unset] [(.ref b168)])) t
          refine XS.iload X203.here hx rfl (hb hby at_349) rfl ?_
          show Steps p.tables e below (T203.setTop (mkF m 351 #[.val (.int p0), .val (.int p1), .val (.int p2), .val (.int p3), .val (.int v1), .val (.int v2), .val (.int v165), .val (.int (4 : Int32)), .val (.int v166), .val (.int v167), .val (.ref b168), .val (.int v187), .val (.int (1 : Int32)), .val (.int v206), .val (.int v208), .unset, .unset] [(.int v166), (.ref b168)])) t
          refine XS.iconst X203.here hx rfl (hb hby at_351) ?_
          show Steps p.tables e below (T203.setTop (mkF m 352 #[.val (.int p0), .val (.int p1), .val (.int p2), .val (.int p3), .val (.int v1), .val (.int v2), .val (.int v165), .val (.int (4 : Int32)), .val (.int v166), .val (.int v167), .val (.ref b168), .val (.int v187), .val (.int (1 : Int32)), .val (.int v206), .val (.int v208), .unset, .unset] [(.int (2 : Int32)), (.int v166), (.ref b168)])) t
          refine XS.iadd X203.here hx rfl (hb hby at_352) rfl ?_
          show Steps p.tables e below (T203.setTop (mkF m 353 #[.val (.int p0), .val (.int p1), .val (.int p2), .val (.int p3), .val (.int v1), .val (.int v2), .val (.int v165), .val (.int (4 : Int32)), .val (.int v166), .val (.int v167), .val (.ref b168), .val (.int v187), .val (.int (1 : Int32)), .val (.int v206), .val (.int v208), .unset, .unset] [(.int (v166 + (2 : Int32))), (.ref b168)])) t
          refine Own.ldB X203 hx hZ e203 A186 hj209 (g := (mkF m 353 #[.val (.int p0), .val (.int p1), .val (.int p2), .val (.int p3), .val (.int v1), .val (.int v2), .val (.int v165), .val (.int (4 : Int32)), .val (.int v166), .val (.int v167), .val (.ref b168), .val (.int v187), .val (.int (1 : Int32)), .val (.int v206), .val (.int v208), .unset, .unset] [(.int (v166 + (2 : Int32))), (.ref b168)])) rfl rfl (hb hby at_353) _ ?_
          show Steps p.tables e below (T203.setTop (mkF m 354 #[.val (.int p0), .val (.int p1), .val (.int p2), .val (.int p3), .val (.int v1), .val (.int v2), .val (.int v165), .val (.int (4 : Int32)), .val (.int v166), .val (.int v167), .val (.ref b168), .val (.int v187), .val (.int (1 : Int32)), .val (.int v206), .val (.int v208), .unset, .unset] [(.int ((own_put4 g v166 v165) (v166 + (2 : Int32)).toInt.toNat))])) t
          refine XS.sipush X203.here hx rfl (hb hby at_354) ?_
          show Steps p.tables e below (T203.setTop (mkF m 357 #[.val (.int p0), .val (.int p1), .val (.int p2), .val (.int p3), .val (.int v1), .val (.int v2), .val (.int v165), .val (.int (4 : Int32)), .val (.int v166), .val (.int v167), .val (.ref b168), .val (.int v187), .val (.int (1 : Int32)), .val (.int v206), .val (.int v208), .unset, .unset] [(.int (255 : Int32)), (.int ((own_put4 g v166 v165) (v166 + (2 : Int32)).toInt.toNat))])) t
          refine XS.iand X203.here hx rfl (hb hby at_357) rfl ?_
          show Steps p.tables e below (T203.setTop (mkF m 358 #[.val (.int p0), .val (.int p1), .val (.int p2), .val (.int p3), .val (.int v1), .val (.int v2), .val (.int v165), .val (.int (4 : Int32)), .val (.int v166), .val (.int v167), .val (.ref b168), .val (.int v187), .val (.int (1 : Int32)), .val (.int v206), .val (.int v208), .unset, .unset] [(.int (((own_put4 g v166 v165) (v166 + (2 : Int32)).toInt.toNat) &&& (255 : Int32)))])) t
          refine Own.nmI hv210 ?_
          show Steps p.tables e below (T203.setTop (mkF m 358 #[.val (.int p0), .val (.int p1), .val (.int p2), .val (.int p3), .val (.int v1), .val (.int v2), .val (.int v165), .val (.int (4 : Int32)), .val (.int v166), .val (.int v167), .val (.ref b168), .val (.int v187), .val (.int (1 : Int32)), .val (.int v206), .val (.int v208), .unset, .unset] [(.int v210)])) t
          refine XS.istore X203.here hx rfl (hb hby at_358) rfl (l' := #[.val (.int p0), .val (.int p1), .val (.int p2), .val (.int p3), .val (.int v1), .val (.int v2), .val (.int v165), .val (.int (4 : Int32)), .val (.int v166), .val (.int v167), .val (.ref b168), .val (.int v187), .val (.int (1 : Int32)), .val (.int v206), .val (.int v208), .val (.int v210), .unset]) rfl ?_
          show Steps p.tables e below (T203.setTop (mkF m 360 #[.val (.int p0), .val (.int p1), .val (.int p2), .val (.int p3), .val (.int v1), .val (.int v2), .val (.int v165), .val (.int (4 : Int32)), .val (.int v166), .val (.int v167), .val (.ref b168), .val (.int v187), .val (.int (1 : Int32)), .val (.int v206), .val (.int v208), .val (.int v210), .unset] [])) t
          refine XS.aload X203.here hx rfl (hb hby at_360) rfl rfl ?_
          show Steps p.tables e below (T203.setTop (mkF m 362 #[.val (.int p0), .val (.int p1), .val (.int p2), .val (.int p3), .val (.int v1), .val (.int v2), .val (.int v165), .val (.int (4 : Int32)), .val (.int v166), .val (.int v167), .val (.ref b168), .val (.int v187), .val (.int (1 : Int32)), .val (.int v206), .val (.int v208), .val (.int v210), .unset] [(.ref b168)])) t
          refine XS.iload X203.here hx rfl (hb hby at_362) rfl ?_
          show Steps p.tables e below (T203.setTop (mkF m 364 #[.val (.int p0), .val (.int p1), .val (.int p2), .val (.int p3), .val (.int v1), .val (.int v2), .val (.int v165), .val (.int (4 : Int32)), .val (.int v166), .val (.int v167), .val (.ref b168), .val (.int v187), .val (.int (1 : Int32)), .val (.int v206), .val (.int v208), .val (.int v210), .unset] [(.int v166), (.ref b168)])) t
          refine XS.iconst X203.here hx rfl (hb hby at_364) ?_
          show Steps p.tables e below (T203.setTop (mkF m 365 #[.val (.int p0), .val (.int p1), .val (.int p2), .val (.int p3), .val (.int v1), .val (.int v2), .val (.int v165), .val (.int (4 : Int32)), .val (.int v166), .val (.int v167), .val (.ref b168), .val (.int v187), .val (.int (1 : Int32)), .val (.int v206), .val (.int v208), .val (.int v210), .unset] [(.int (3 : Int32)), (.int v166), (.ref b168)])) t
          refine XS.iadd X203.here hx rfl (hb hby at_365) rfl ?_
          show Steps p.tables e below (T203.setTop (mkF m 366 #[.val (.int p0), .val (.int p1), .val (.int p2), .val (.int p3), .val (.int v1), .val (.int v2), .val (.int v165), .val (.int (4 : Int32)), .val (.int v166), .val (.int v167), .val (.ref b168), .val (.int v187), .val (.int (1 : Int32)), .val (.int v206), .val (.int v208), .val (.int v210), .unset] [(.int (v166 + (3 : Int32))), (.ref b168)])) t
          refine Own.ldB X203 hx hZ e203 A186 hj211 (g := (mkF m 366 #[.val (.int p0), .val (.int p1), .val (.int p2), .val (.int p3), .val (.int v1), .val (.int v2), .val (.int v165), .val (.int (4 : Int32)), .val (.int v166), .val (.int v167), .val (.ref b168), .val (.int v187), .val (.int (1 : Int32)), .val (.int v206), .val (.int v208), .val (.int v210), .unset] [(.int (v166 + (3 : Int32))), (.ref b168)])) rfl rfl (hb hby at_366) _ ?_
          show Steps p.tables e below (T203.setTop (mkF m 367 #[.val (.int p0), .val (.int p1), .val (.int p2), .val (.int p3), .val (.int v1), .val (.int v2), .val (.int v165), .val (.int (4 : Int32)), .val (.int v166), .val (.int v167), .val (.ref b168), .val (.int v187), .val (.int (1 : Int32)), .val (.int v206), .val (.int v208), .val (.int v210), .unset] [(.int ((own_put4 g v166 v165) (v166 + (3 : Int32)).toInt.toNat))])) t
          refine XS.sipush X203.here hx rfl (hb hby at_367) ?_
          show Steps p.tables e below (T203.setTop (mkF m 370 #[.val (.int p0), .val (.int p1), .val (.int p2), .val (.int p3), .val (.int v1), .val (.int v2), .val (.int v165), .val (.int (4 : Int32)), .val (.int v166), .val (.int v167), .val (.ref b168), .val (.int v187), .val (.int (1 : Int32)), .val (.int v206), .val (.int v208), .val (.int v210), .unset] [(.int (255 : Int32)), (.int ((own_put4 g v166 v165) (v166 + (3 : Int32)).toInt.toNat))])) t
          refine XS.iand X203.here hx rfl (hb hby at_370) rfl ?_
          show Steps p.tables e below (T203.setTop (mkF m 371 #[.val (.int p0), .val (.int p1), .val (.int p2), .val (.int p3), .val (.int v1), .val (.int v2), .val (.int v165), .val (.int (4 : Int32)), .val (.int v166), .val (.int v167), .val (.ref b168), .val (.int v187), .val (.int (1 : Int32)), .val (.int v206), .val (.int v208), .val (.int v210), .unset] [(.int (((own_put4 g v166 v165) (v166 + (3 : Int32)).toInt.toNat) &&& (255 : Int32)))])) t
          refine Own.nmI hv212 ?_
          show Steps p.tables e below (T203.setTop (mkF m 371 #[.val (.int p0), .val (.int p1), .val (.int p2), .val (.int p3), .val (.int v1), .val (.int v2), .val (.int v165), .val (.int (4 : Int32)), .val (.int v166), .val (.int v167), .val (.ref b168), .val (.int v187), .val (.int (1 : Int32)), .val (.int v206), .val (.int v208), .val (.int v210), .unset] [(.int v212)])) t
          refine XS.istore X203.here hx rfl (hb hby at_371) rfl (l' := #[.val (.int p0), .val (.int p1), .val (.int p2), .val (.int p3), .val (.int v1), .val (.int v2), .val (.int v165), .val (.int (4 : Int32)), .val (.int v166), .val (.int v167), .val (.ref b168), .val (.int v187), .val (.int (1 : Int32)), .val (.int v206), .val (.int v208), .val (.int v210), .val (.int v212)]) rfl ?_
          show Steps p.tables e below (T203.setTop (mkF m 373 #[.val (.int p0), .val (.int p1), .val (.int p2), .val (.int p3), .val (.int v1), .val (.int v2), .val (.int v165), .val (.int (4 : Int32)), .val (.int v166), .val (.int v167), .val (.ref b168), .val (.int v187), .val (.int (1 : Int32)), .val (.int v206), .val (.int v208), .val (.int v210), .val (.int v212)] [])) t
          refine XS.iload X203.here hx rfl (hb hby at_373) rfl ?_
          show Steps p.tables e below (T203.setTop (mkF m 375 #[.val (.int p0), .val (.int p1), .val (.int p2), .val (.int p3), .val (.int v1), .val (.int v2), .val (.int v165), .val (.int (4 : Int32)), .val (.int v166), .val (.int v167), .val (.ref b168), .val (.int v187), .val (.int (1 : Int32)), .val (.int v206), .val (.int v208), .val (.int v210), .val (.int v212)] [(.int (4 : Int32))])) t
          refine XS.iconst X203.here hx rfl (hb hby at_375) ?_
          show Steps p.tables e below (T203.setTop (mkF m 376 #[.val (.int p0), .val (.int p1), .val (.int p2), .val (.int p3), .val (.int v1), .val (.int v2), .val (.int v165), .val (.int (4 : Int32)), .val (.int v166), .val (.int v167), .val (.ref b168), .val (.int v187), .val (.int (1 : Int32)), .val (.int v206), .val (.int v208), .val (.int v210), .val (.int v212)] [(.int (1 : Int32)), (.int (4 : Int32))])) t
          refine XS.icmpYes X203.here hx rfl (pc0 := 376) (pc' := 392) rfl (hb hby at_376) rfl (by decide) (by decide) (by decide) ?_
          show Steps p.tables e below (T203.setTop (mkF m 392 #[.val (.int p0), .val (.int p1), .val (.int p2), .val (.int p3), .val (.int v1), .val (.int v2), .val (.int v165), .val (.int (4 : Int32)), .val (.int v166), .val (.int v167), .val (.ref b168), .val (.int v187), .val (.int (1 : Int32)), .val (.int v206), .val (.int v208), .val (.int v210), .val (.int v212)] [])) t
          refine XS.iload X203.here hx rfl (hb hby at_392) rfl ?_
          show Steps p.tables e below (T203.setTop (mkF m 394 #[.val (.int p0), .val (.int p1), .val (.int p2), .val (.int p3), .val (.int v1), .val (.int v2), .val (.int v165), .val (.int (4 : Int32)), .val (.int v166), .val (.int v167), .val (.ref b168), .val (.int v187), .val (.int (1 : Int32)), .val (.int v206), .val (.int v208), .val (.int v210), .val (.int v212)] [(.int (4 : Int32))])) t
          refine XS.iconst X203.here hx rfl (hb hby at_394) ?_
          show Steps p.tables e below (T203.setTop (mkF m 395 #[.val (.int p0), .val (.int p1), .val (.int p2), .val (.int p3), .val (.int v1), .val (.int v2), .val (.int v165), .val (.int (4 : Int32)), .val (.int v166), .val (.int v167), .val (.ref b168), .val (.int v187), .val (.int (1 : Int32)), .val (.int v206), .val (.int v208), .val (.int v210), .val (.int v212)] [(.int (2 : Int32)), (.int (4 : Int32))])) t
          refine XS.icmpYes X203.here hx rfl (pc0 := 395) (pc' := 447) rfl (hb hby at_395) rfl (by decide) (by decide) (by decide) ?_
          show Steps p.tables e below (T203.setTop (mkF m 447 #[.val (.int p0), .val (.int p1), .val (.int p2), .val (.int p3), .val (.int v1), .val (.int v2), .val (.int v165), .val (.int (4 : Int32)), .val (.int v166), .val (.int v167), .val (.ref b168), .val (.int v187), .val (.int (1 : Int32)), .val (.int v206), .val (.int v208), .val (.int v210), .val (.int v212)] [])) t
          refine XS.iload X203.here hx rfl (hb hby at_447) rfl ?_
          show Steps p.tables e below (T203.setTop (mkF m 449 #[.val (.int p0), .val (.int p1), .val (.int p2), .val (.int p3), .val (.int v1), .val (.int v2), .val (.int v165), .val (.int (4 : Int32)), .val (.int v166), .val (.int v167), .val (.ref b168), .val (.int v187), .val (.int (1 : Int32)), .val (.int v206), .val (.int v208), .val (.int v210), .val (.int v212)] [(.int (4 : Int32))])) t
          refine XS.iconst X203.here hx rfl (hb hby at_449) ?_
          show Steps p.tables e below (T203.setTop (mkF m 450 #[.val (.int p0), .val (.int p1), .val (.int p2), .val (.int p3), .val (.int v1), .val (.int v2), .val (.int v165), .val (.int (4 : Int32)), .val (.int v166), .val (.int v167), .val (.ref b168), .val (.int v187), .val (.int (1 : Int32)), .val (.int v206), .val (.int v208), .val (.int v210), .val (.int v212)] [(.int (3 : Int32)), (.int (4 : Int32))])) t
          refine XS.icmpYes X203.here hx rfl (pc0 := 450) (pc' := 523) rfl (hb hby at_450) rfl (by decide) (by decide) (by decide) ?_
          show Steps p.tables e below (T203.setTop (mkF m 523 #[.val (.int p0), .val (.int p1), .val (.int p2), .val (.int p3), .val (.int v1), .val (.int v2), .val (.int v165), .val (.int (4 : Int32)), .val (.int v166), .val (.int v167), .val (.ref b168), .val (.int v187), .val (.int (1 : Int32)), .val (.int v206), .val (.int v208), .val (.int v210), .val (.int v212)] [])) t
          refine XS.iload X203.here hx rfl (hb hby at_523) rfl ?_
          show Steps p.tables e below (T203.setTop (mkF m 525 #[.val (.int p0), .val (.int p1), .val (.int p2), .val (.int p3), .val (.int v1), .val (.int v2), .val (.int v165), .val (.int (4 : Int32)), .val (.int v166), .val (.int v167), .val (.ref b168), .val (.int v187), .val (.int (1 : Int32)), .val (.int v206), .val (.int v208), .val (.int v210), .val (.int v212)] [(.int v206)])) t
          refine XS.sipush X203.here hx rfl (hb hby at_525) ?_
          show Steps p.tables e below (T203.setTop (mkF m 528 #[.val (.int p0), .val (.int p1), .val (.int p2), .val (.int p3), .val (.int v1), .val (.int v2), .val (.int v165), .val (.int (4 : Int32)), .val (.int v166), .val (.int v167), .val (.ref b168), .val (.int v187), .val (.int (1 : Int32)), .val (.int v206), .val (.int v208), .val (.int v210), .val (.int v212)] [(.int (248 : Int32)), (.int v206)])) t
          refine XS.iand X203.here hx rfl (hb hby at_528) rfl ?_
          show Steps p.tables e below (T203.setTop (mkF m 529 #[.val (.int p0), .val (.int p1), .val (.int p2), .val (.int p3), .val (.int v1), .val (.int v2), .val (.int v165), .val (.int (4 : Int32)), .val (.int v166), .val (.int v167), .val (.ref b168), .val (.int v187), .val (.int (1 : Int32)), .val (.int v206), .val (.int v208), .val (.int v210), .val (.int v212)] [(.int (v206 &&& (248 : Int32)))])) t
          refine XS.sipush X203.here hx rfl (hb hby at_529) ?_
          show Steps p.tables e below (T203.setTop (mkF m 532 #[.val (.int p0), .val (.int p1), .val (.int p2), .val (.int p3), .val (.int v1), .val (.int v2), .val (.int v165), .val (.int (4 : Int32)), .val (.int v166), .val (.int v167), .val (.ref b168), .val (.int v187), .val (.int (1 : Int32)), .val (.int v206), .val (.int v208), .val (.int v210), .val (.int v212)] [(.int (240 : Int32)), (.int (v206 &&& (248 : Int32)))])) t
          exact k
        have hc213 : (v206 &&& (248 : Int32)) = (240 : Int32) := hh0.2.2.1 (by omega)
        refine hD _ (T203.setTop (mkF m 544 #[.val (.int p0), .val (.int p1), .val (.int p2), .val (.int p3), .val (.int v1), .val (.int v2), .val (.int v165), .val (.int (4 : Int32)), .val (.int v166), .val (.int v167), .val (.ref b168), .val (.int v187), .val (.int (1 : Int32)), .val (.int v206), .val (.int v208), .val (.int v210), .val (.int v212)] [(.int (128 : Int32)), (.int (v208 &&& (192 : Int32)))])) (fun t k => ?_) ?_
        · show Steps p.tables e below (T203.setTop (mkF m 532 #[.val (.int p0), .val (.int p1), .val (.int p2), .val (.int p3), .val (.int v1), .val (.int v2), .val (.int v165), .val (.int (4 : Int32)), .val (.int v166), .val (.int v167), .val (.ref b168), .val (.int v187), .val (.int (1 : Int32)), .val (.int v206), .val (.int v208), .val (.int v210), .val (.int v212)] [(.int (240 : Int32)), (.int (v206 &&& (248 : Int32)))])) t
          refine XS.icmpNo X203.here hx rfl (hb hby at_532) rfl (teq hc213).2 ?_
          show Steps p.tables e below (T203.setTop (mkF m 535 #[.val (.int p0), .val (.int p1), .val (.int p2), .val (.int p3), .val (.int v1), .val (.int v2), .val (.int v165), .val (.int (4 : Int32)), .val (.int v166), .val (.int v167), .val (.ref b168), .val (.int v187), .val (.int (1 : Int32)), .val (.int v206), .val (.int v208), .val (.int v210), .val (.int v212)] [])) t
          refine XS.iload X203.here hx rfl (hb hby at_535) rfl ?_
          show Steps p.tables e below (T203.setTop (mkF m 537 #[.val (.int p0), .val (.int p1), .val (.int p2), .val (.int p3), .val (.int v1), .val (.int v2), .val (.int v165), .val (.int (4 : Int32)), .val (.int v166), .val (.int v167), .val (.ref b168), .val (.int v187), .val (.int (1 : Int32)), .val (.int v206), .val (.int v208), .val (.int v210), .val (.int v212)] [(.int v208)])) t
          refine XS.sipush X203.here hx rfl (hb hby at_537) ?_
          show Steps p.tables e below (T203.setTop (mkF m 540 #[.val (.int p0), .val (.int p1), .val (.int p2), .val (.int p3), .val (.int v1), .val (.int v2), .val (.int v165), .val (.int (4 : Int32)), .val (.int v166), .val (.int v167), .val (.ref b168), .val (.int v187), .val (.int (1 : Int32)), .val (.int v206), .val (.int v208), .val (.int v210), .val (.int v212)] [(.int (192 : Int32)), (.int v208)])) t
          refine XS.iand X203.here hx rfl (hb hby at_540) rfl ?_
          show Steps p.tables e below (T203.setTop (mkF m 541 #[.val (.int p0), .val (.int p1), .val (.int p2), .val (.int p3), .val (.int v1), .val (.int v2), .val (.int v165), .val (.int (4 : Int32)), .val (.int v166), .val (.int v167), .val (.ref b168), .val (.int v187), .val (.int (1 : Int32)), .val (.int v206), .val (.int v208), .val (.int v210), .val (.int v212)] [(.int (v208 &&& (192 : Int32)))])) t
          refine XS.sipush X203.here hx rfl (hb hby at_541) ?_
          show Steps p.tables e below (T203.setTop (mkF m 544 #[.val (.int p0), .val (.int p1), .val (.int p2), .val (.int p3), .val (.int v1), .val (.int v2), .val (.int v165), .val (.int (4 : Int32)), .val (.int v166), .val (.int v167), .val (.ref b168), .val (.int v187), .val (.int (1 : Int32)), .val (.int v206), .val (.int v208), .val (.int v210), .val (.int v212)] [(.int (128 : Int32)), (.int (v208 &&& (192 : Int32)))])) t
          exact k
        have hc214 : (v208 &&& (192 : Int32)) = (128 : Int32) := hh1.2.2.2 (by omega)
        refine hD _ (T203.setTop (mkF m 556 #[.val (.int p0), .val (.int p1), .val (.int p2), .val (.int p3), .val (.int v1), .val (.int v2), .val (.int v165), .val (.int (4 : Int32)), .val (.int v166), .val (.int v167), .val (.ref b168), .val (.int v187), .val (.int (1 : Int32)), .val (.int v206), .val (.int v208), .val (.int v210), .val (.int v212)] [(.int (128 : Int32)), (.int (v210 &&& (192 : Int32)))])) (fun t k => ?_) ?_
        · show Steps p.tables e below (T203.setTop (mkF m 544 #[.val (.int p0), .val (.int p1), .val (.int p2), .val (.int p3), .val (.int v1), .val (.int v2), .val (.int v165), .val (.int (4 : Int32)), .val (.int v166), .val (.int v167), .val (.ref b168), .val (.int v187), .val (.int (1 : Int32)), .val (.int v206), .val (.int v208), .val (.int v210), .val (.int v212)] [(.int (128 : Int32)), (.int (v208 &&& (192 : Int32)))])) t
          refine XS.icmpNo X203.here hx rfl (hb hby at_544) rfl (teq hc214).2 ?_
          show Steps p.tables e below (T203.setTop (mkF m 547 #[.val (.int p0), .val (.int p1), .val (.int p2), .val (.int p3), .val (.int v1), .val (.int v2), .val (.int v165), .val (.int (4 : Int32)), .val (.int v166), .val (.int v167), .val (.ref b168), .val (.int v187), .val (.int (1 : Int32)), .val (.int v206), .val (.int v208), .val (.int v210), .val (.int v212)] [])) t
          refine XS.iload X203.here hx rfl (hb hby at_547) rfl ?_
          show Steps p.tables e below (T203.setTop (mkF m 549 #[.val (.int p0), .val (.int p1), .val (.int p2), .val (.int p3), .val (.int v1), .val (.int v2), .val (.int v165), .val (.int (4 : Int32)), .val (.int v166), .val (.int v167), .val (.ref b168), .val (.int v187), .val (.int (1 : Int32)), .val (.int v206), .val (.int v208), .val (.int v210), .val (.int v212)] [(.int v210)])) t
          refine XS.sipush X203.here hx rfl (hb hby at_549) ?_
          show Steps p.tables e below (T203.setTop (mkF m 552 #[.val (.int p0), .val (.int p1), .val (.int p2), .val (.int p3), .val (.int v1), .val (.int v2), .val (.int v165), .val (.int (4 : Int32)), .val (.int v166), .val (.int v167), .val (.ref b168), .val (.int v187), .val (.int (1 : Int32)), .val (.int v206), .val (.int v208), .val (.int v210), .val (.int v212)] [(.int (192 : Int32)), (.int v210)])) t
          refine XS.iand X203.here hx rfl (hb hby at_552) rfl ?_
          show Steps p.tables e below (T203.setTop (mkF m 553 #[.val (.int p0), .val (.int p1), .val (.int p2), .val (.int p3), .val (.int v1), .val (.int v2), .val (.int v165), .val (.int (4 : Int32)), .val (.int v166), .val (.int v167), .val (.ref b168), .val (.int v187), .val (.int (1 : Int32)), .val (.int v206), .val (.int v208), .val (.int v210), .val (.int v212)] [(.int (v210 &&& (192 : Int32)))])) t
          refine XS.sipush X203.here hx rfl (hb hby at_553) ?_
          show Steps p.tables e below (T203.setTop (mkF m 556 #[.val (.int p0), .val (.int p1), .val (.int p2), .val (.int p3), .val (.int v1), .val (.int v2), .val (.int v165), .val (.int (4 : Int32)), .val (.int v166), .val (.int v167), .val (.ref b168), .val (.int v187), .val (.int (1 : Int32)), .val (.int v206), .val (.int v208), .val (.int v210), .val (.int v212)] [(.int (128 : Int32)), (.int (v210 &&& (192 : Int32)))])) t
          exact k
        have hc215 : (v210 &&& (192 : Int32)) = (128 : Int32) := hh2.2.2.2 (by omega)
        refine hD _ (T203.setTop (mkF m 568 #[.val (.int p0), .val (.int p1), .val (.int p2), .val (.int p3), .val (.int v1), .val (.int v2), .val (.int v165), .val (.int (4 : Int32)), .val (.int v166), .val (.int v167), .val (.ref b168), .val (.int v187), .val (.int (1 : Int32)), .val (.int v206), .val (.int v208), .val (.int v210), .val (.int v212)] [(.int (128 : Int32)), (.int (v212 &&& (192 : Int32)))])) (fun t k => ?_) ?_
        · show Steps p.tables e below (T203.setTop (mkF m 556 #[.val (.int p0), .val (.int p1), .val (.int p2), .val (.int p3), .val (.int v1), .val (.int v2), .val (.int v165), .val (.int (4 : Int32)), .val (.int v166), .val (.int v167), .val (.ref b168), .val (.int v187), .val (.int (1 : Int32)), .val (.int v206), .val (.int v208), .val (.int v210), .val (.int v212)] [(.int (128 : Int32)), (.int (v210 &&& (192 : Int32)))])) t
          refine XS.icmpNo X203.here hx rfl (hb hby at_556) rfl (teq hc215).2 ?_
          show Steps p.tables e below (T203.setTop (mkF m 559 #[.val (.int p0), .val (.int p1), .val (.int p2), .val (.int p3), .val (.int v1), .val (.int v2), .val (.int v165), .val (.int (4 : Int32)), .val (.int v166), .val (.int v167), .val (.ref b168), .val (.int v187), .val (.int (1 : Int32)), .val (.int v206), .val (.int v208), .val (.int v210), .val (.int v212)] [])) t
          refine XS.iload X203.here hx rfl (hb hby at_559) rfl ?_
          show Steps p.tables e below (T203.setTop (mkF m 561 #[.val (.int p0), .val (.int p1), .val (.int p2), .val (.int p3), .val (.int v1), .val (.int v2), .val (.int v165), .val (.int (4 : Int32)), .val (.int v166), .val (.int v167), .val (.ref b168), .val (.int v187), .val (.int (1 : Int32)), .val (.int v206), .val (.int v208), .val (.int v210), .val (.int v212)] [(.int v212)])) t
          refine XS.sipush X203.here hx rfl (hb hby at_561) ?_
          show Steps p.tables e below (T203.setTop (mkF m 564 #[.val (.int p0), .val (.int p1), .val (.int p2), .val (.int p3), .val (.int v1), .val (.int v2), .val (.int v165), .val (.int (4 : Int32)), .val (.int v166), .val (.int v167), .val (.ref b168), .val (.int v187), .val (.int (1 : Int32)), .val (.int v206), .val (.int v208), .val (.int v210), .val (.int v212)] [(.int (192 : Int32)), (.int v212)])) t
          refine XS.iand X203.here hx rfl (hb hby at_564) rfl ?_
          show Steps p.tables e below (T203.setTop (mkF m 565 #[.val (.int p0), .val (.int p1), .val (.int p2), .val (.int p3), .val (.int v1), .val (.int v2), .val (.int v165), .val (.int (4 : Int32)), .val (.int v166), .val (.int v167), .val (.ref b168), .val (.int v187), .val (.int (1 : Int32)), .val (.int v206), .val (.int v208), .val (.int v210), .val (.int v212)] [(.int (v212 &&& (192 : Int32)))])) t
          refine XS.sipush X203.here hx rfl (hb hby at_565) ?_
          show Steps p.tables e below (T203.setTop (mkF m 568 #[.val (.int p0), .val (.int p1), .val (.int p2), .val (.int p3), .val (.int v1), .val (.int v2), .val (.int v165), .val (.int (4 : Int32)), .val (.int v166), .val (.int v167), .val (.ref b168), .val (.int v187), .val (.int (1 : Int32)), .val (.int v206), .val (.int v208), .val (.int v210), .val (.int v212)] [(.int (128 : Int32)), (.int (v212 &&& (192 : Int32)))])) t
          exact k
        have hc216 : (v212 &&& (192 : Int32)) = (128 : Int32) := hh3.2.2.2 (by omega)
        refine hD _ (T203.setTop (mkF m 605 #[.val (.int p0), .val (.int p1), .val (.int p2), .val (.int p3), .val (.int v1), .val (.int v2), .val (.int v165), .val (.int (4 : Int32)), .val (.int v166), .val (.int v167), .val (.ref b168), .val (.int v187), .val (.int (1 : Int32)), .val (.int v206), .val (.int v208), .val (.int v210), .val (.int v212)] [(.int v165), (.int (((((v206 &&& (7 : Int32)) <<< ((18 : Int32) &&& 31)) ||| ((v208 &&& (63 : Int32)) <<< ((12 : Int32) &&& 31))) ||| ((v210 &&& (63 : Int32)) <<< ((6 : Int32) &&& 31))) ||| (v212 &&& (63 : Int32))))])) (fun t k => ?_) ?_
        · show Steps p.tables e below (T203.setTop (mkF m 568 #[.val (.int p0), .val (.int p1), .val (.int p2), .val (.int p3), .val (.int v1), .val (.int v2), .val (.int v165), .val (.int (4 : Int32)), .val (.int v166), .val (.int v167), .val (.ref b168), .val (.int v187), .val (.int (1 : Int32)), .val (.int v206), .val (.int v208), .val (.int v210), .val (.int v212)] [(.int (128 : Int32)), (.int (v212 &&& (192 : Int32)))])) t
          refine XS.icmpNo X203.here hx rfl (hb hby at_568) rfl (teq hc216).2 ?_
          show Steps p.tables e below (T203.setTop (mkF m 571 #[.val (.int p0), .val (.int p1), .val (.int p2), .val (.int p3), .val (.int v1), .val (.int v2), .val (.int v165), .val (.int (4 : Int32)), .val (.int v166), .val (.int v167), .val (.ref b168), .val (.int v187), .val (.int (1 : Int32)), .val (.int v206), .val (.int v208), .val (.int v210), .val (.int v212)] [])) t
          refine XS.iload X203.here hx rfl (hb hby at_571) rfl ?_
          show Steps p.tables e below (T203.setTop (mkF m 573 #[.val (.int p0), .val (.int p1), .val (.int p2), .val (.int p3), .val (.int v1), .val (.int v2), .val (.int v165), .val (.int (4 : Int32)), .val (.int v166), .val (.int v167), .val (.ref b168), .val (.int v187), .val (.int (1 : Int32)), .val (.int v206), .val (.int v208), .val (.int v210), .val (.int v212)] [(.int v206)])) t
          refine XS.bipush X203.here hx rfl (hb hby at_573) ?_
          show Steps p.tables e below (T203.setTop (mkF m 575 #[.val (.int p0), .val (.int p1), .val (.int p2), .val (.int p3), .val (.int v1), .val (.int v2), .val (.int v165), .val (.int (4 : Int32)), .val (.int v166), .val (.int v167), .val (.ref b168), .val (.int v187), .val (.int (1 : Int32)), .val (.int v206), .val (.int v208), .val (.int v210), .val (.int v212)] [(.int (7 : Int32)), (.int v206)])) t
          refine XS.iand X203.here hx rfl (hb hby at_575) rfl ?_
          show Steps p.tables e below (T203.setTop (mkF m 576 #[.val (.int p0), .val (.int p1), .val (.int p2), .val (.int p3), .val (.int v1), .val (.int v2), .val (.int v165), .val (.int (4 : Int32)), .val (.int v166), .val (.int v167), .val (.ref b168), .val (.int v187), .val (.int (1 : Int32)), .val (.int v206), .val (.int v208), .val (.int v210), .val (.int v212)] [(.int (v206 &&& (7 : Int32)))])) t
          refine XS.bipush X203.here hx rfl (hb hby at_576) ?_
          show Steps p.tables e below (T203.setTop (mkF m 578 #[.val (.int p0), .val (.int p1), .val (.int p2), .val (.int p3), .val (.int v1), .val (.int v2), .val (.int v165), .val (.int (4 : Int32)), .val (.int v166), .val (.int v167), .val (.ref b168), .val (.int v187), .val (.int (1 : Int32)), .val (.int v206), .val (.int v208), .val (.int v210), .val (.int v212)] [(.int (18 : Int32)), (.int (v206 &&& (7 : Int32)))])) t
          refine XS.ishl X203.here hx rfl (hb hby at_578) rfl ?_
          show Steps p.tables e below (T203.setTop (mkF m 579 #[.val (.int p0), .val (.int p1), .val (.int p2), .val (.int p3), .val (.int v1), .val (.int v2), .val (.int v165), .val (.int (4 : Int32)), .val (.int v166), .val (.int v167), .val (.ref b168), .val (.int v187), .val (.int (1 : Int32)), .val (.int v206), .val (.int v208), .val (.int v210), .val (.int v212)] [(.int ((v206 &&& (7 : Int32)) <<< ((18 : Int32) &&& 31)))])) t
          refine XS.iload X203.here hx rfl (hb hby at_579) rfl ?_
          show Steps p.tables e below (T203.setTop (mkF m 581 #[.val (.int p0), .val (.int p1), .val (.int p2), .val (.int p3), .val (.int v1), .val (.int v2), .val (.int v165), .val (.int (4 : Int32)), .val (.int v166), .val (.int v167), .val (.ref b168), .val (.int v187), .val (.int (1 : Int32)), .val (.int v206), .val (.int v208), .val (.int v210), .val (.int v212)] [(.int v208), (.int ((v206 &&& (7 : Int32)) <<< ((18 : Int32) &&& 31)))])) t
          refine XS.bipush X203.here hx rfl (hb hby at_581) ?_
          show Steps p.tables e below (T203.setTop (mkF m 583 #[.val (.int p0), .val (.int p1), .val (.int p2), .val (.int p3), .val (.int v1), .val (.int v2), .val (.int v165), .val (.int (4 : Int32)), .val (.int v166), .val (.int v167), .val (.ref b168), .val (.int v187), .val (.int (1 : Int32)), .val (.int v206), .val (.int v208), .val (.int v210), .val (.int v212)] [(.int (63 : Int32)), (.int v208), (.int ((v206 &&& (7 : Int32)) <<< ((18 : Int32) &&& 31)))])) t
          refine XS.iand X203.here hx rfl (hb hby at_583) rfl ?_
          show Steps p.tables e below (T203.setTop (mkF m 584 #[.val (.int p0), .val (.int p1), .val (.int p2), .val (.int p3), .val (.int v1), .val (.int v2), .val (.int v165), .val (.int (4 : Int32)), .val (.int v166), .val (.int v167), .val (.ref b168), .val (.int v187), .val (.int (1 : Int32)), .val (.int v206), .val (.int v208), .val (.int v210), .val (.int v212)] [(.int (v208 &&& (63 : Int32))), (.int ((v206 &&& (7 : Int32)) <<< ((18 : Int32) &&& 31)))])) t
          refine XS.bipush X203.here hx rfl (hb hby at_584) ?_
          show Steps p.tables e below (T203.setTop (mkF m 586 #[.val (.int p0), .val (.int p1), .val (.int p2), .val (.int p3), .val (.int v1), .val (.int v2), .val (.int v165), .val (.int (4 : Int32)), .val (.int v166), .val (.int v167), .val (.ref b168), .val (.int v187), .val (.int (1 : Int32)), .val (.int v206), .val (.int v208), .val (.int v210), .val (.int v212)] [(.int (12 : Int32)), (.int (v208 &&& (63 : Int32))), (.int ((v206 &&& (7 : Int32)) <<< ((18 : Int32) &&& 31)))])) t
          refine XS.ishl X203.here hx rfl (hb hby at_586) rfl ?_
          show Steps p.tables e below (T203.setTop (mkF m 587 #[.val (.int p0), .val (.int p1), .val (.int p2), .val (.int p3), .val (.int v1), .val (.int v2), .val (.int v165), .val (.int (4 : Int32)), .val (.int v166), .val (.int v167), .val (.ref b168), .val (.int v187), .val (.int (1 : Int32)), .val (.int v206), .val (.int v208), .val (.int v210), .val (.int v212)] [(.int ((v208 &&& (63 : Int32)) <<< ((12 : Int32) &&& 31))), (.int ((v206 &&& (7 : Int32)) <<< ((18 : Int32) &&& 31)))])) t
          refine XS.ior X203.here hx rfl (hb hby at_587) rfl ?_
          show Steps p.tables e below (T203.setTop (mkF m 588 #[.val (.int p0), .val (.int p1), .val (.int p2), .val (.int p3), .val (.int v1), .val (.int v2), .val (.int v165), .val (.int (4 : Int32)), .val (.int v166), .val (.int v167), .val (.ref b168), .val (.int v187), .val (.int (1 : Int32)), .val (.int v206), .val (.int v208), .val (.int v210), .val (.int v212)] [(.int (((v206 &&& (7 : Int32)) <<< ((18 : Int32) &&& 31)) ||| ((v208 &&& (63 : Int32)) <<< ((12 : Int32) &&& 31))))])) t
          refine XS.iload X203.here hx rfl (hb hby at_588) rfl ?_
          show Steps p.tables e below (T203.setTop (mkF m 590 #[.val (.int p0), .val (.int p1), .val (.int p2), .val (.int p3), .val (.int v1), .val (.int v2), .val (.int v165), .val (.int (4 : Int32)), .val (.int v166), .val (.int v167), .val (.ref b168), .val (.int v187), .val (.int (1 : Int32)), .val (.int v206), .val (.int v208), .val (.int v210), .val (.int v212)] [(.int v210), (.int (((v206 &&& (7 : Int32)) <<< ((18 : Int32) &&& 31)) ||| ((v208 &&& (63 : Int32)) <<< ((12 : Int32) &&& 31))))])) t
          refine XS.bipush X203.here hx rfl (hb hby at_590) ?_
          show Steps p.tables e below (T203.setTop (mkF m 592 #[.val (.int p0), .val (.int p1), .val (.int p2), .val (.int p3), .val (.int v1), .val (.int v2), .val (.int v165), .val (.int (4 : Int32)), .val (.int v166), .val (.int v167), .val (.ref b168), .val (.int v187), .val (.int (1 : Int32)), .val (.int v206), .val (.int v208), .val (.int v210), .val (.int v212)] [(.int (63 : Int32)), (.int v210), (.int (((v206 &&& (7 : Int32)) <<< ((18 : Int32) &&& 31)) ||| ((v208 &&& (63 : Int32)) <<< ((12 : Int32) &&& 31))))])) t
          refine XS.iand X203.here hx rfl (hb hby at_592) rfl ?_
          show Steps p.tables e below (T203.setTop (mkF m 593 #[.val (.int p0), .val (.int p1), .val (.int p2), .val (.int p3), .val (.int v1), .val (.int v2), .val (.int v165), .val (.int (4 : Int32)), .val (.int v166), .val (.int v167), .val (.ref b168), .val (.int v187), .val (.int (1 : Int32)), .val (.int v206), .val (.int v208), .val (.int v210), .val (.int v212)] [(.int (v210 &&& (63 : Int32))), (.int (((v206 &&& (7 : Int32)) <<< ((18 : Int32) &&& 31)) ||| ((v208 &&& (63 : Int32)) <<< ((12 : Int32) &&& 31))))])) t
          refine XS.bipush X203.here hx rfl (hb hby at_593) ?_
          show Steps p.tables e below (T203.setTop (mkF m 595 #[.val (.int p0), .val (.int p1), .val (.int p2), .val (.int p3), .val (.int v1), .val (.int v2), .val (.int v165), .val (.int (4 : Int32)), .val (.int v166), .val (.int v167), .val (.ref b168), .val (.int v187), .val (.int (1 : Int32)), .val (.int v206), .val (.int v208), .val (.int v210), .val (.int v212)] [(.int (6 : Int32)), (.int (v210 &&& (63 : Int32))), (.int (((v206 &&& (7 : Int32)) <<< ((18 : Int32) &&& 31)) ||| ((v208 &&& (63 : Int32)) <<< ((12 : Int32) &&& 31))))])) t
          refine XS.ishl X203.here hx rfl (hb hby at_595) rfl ?_
          show Steps p.tables e below (T203.setTop (mkF m 596 #[.val (.int p0), .val (.int p1), .val (.int p2), .val (.int p3), .val (.int v1), .val (.int v2), .val (.int v165), .val (.int (4 : Int32)), .val (.int v166), .val (.int v167), .val (.ref b168), .val (.int v187), .val (.int (1 : Int32)), .val (.int v206), .val (.int v208), .val (.int v210), .val (.int v212)] [(.int ((v210 &&& (63 : Int32)) <<< ((6 : Int32) &&& 31))), (.int (((v206 &&& (7 : Int32)) <<< ((18 : Int32) &&& 31)) ||| ((v208 &&& (63 : Int32)) <<< ((12 : Int32) &&& 31))))])) t
          refine XS.ior X203.here hx rfl (hb hby at_596) rfl ?_
          show Steps p.tables e below (T203.setTop (mkF m 597 #[.val (.int p0), .val (.int p1), .val (.int p2), .val (.int p3), .val (.int v1), .val (.int v2), .val (.int v165), .val (.int (4 : Int32)), .val (.int v166), .val (.int v167), .val (.ref b168), .val (.int v187), .val (.int (1 : Int32)), .val (.int v206), .val (.int v208), .val (.int v210), .val (.int v212)] [(.int ((((v206 &&& (7 : Int32)) <<< ((18 : Int32) &&& 31)) ||| ((v208 &&& (63 : Int32)) <<< ((12 : Int32) &&& 31))) ||| ((v210 &&& (63 : Int32)) <<< ((6 : Int32) &&& 31))))])) t
          refine XS.iload X203.here hx rfl (hb hby at_597) rfl ?_
          show Steps p.tables e below (T203.setTop (mkF m 599 #[.val (.int p0), .val (.int p1), .val (.int p2), .val (.int p3), .val (.int v1), .val (.int v2), .val (.int v165), .val (.int (4 : Int32)), .val (.int v166), .val (.int v167), .val (.ref b168), .val (.int v187), .val (.int (1 : Int32)), .val (.int v206), .val (.int v208), .val (.int v210), .val (.int v212)] [(.int v212), (.int ((((v206 &&& (7 : Int32)) <<< ((18 : Int32) &&& 31)) ||| ((v208 &&& (63 : Int32)) <<< ((12 : Int32) &&& 31))) ||| ((v210 &&& (63 : Int32)) <<< ((6 : Int32) &&& 31))))])) t
          refine XS.bipush X203.here hx rfl (hb hby at_599) ?_
          show Steps p.tables e below (T203.setTop (mkF m 601 #[.val (.int p0), .val (.int p1), .val (.int p2), .val (.int p3), .val (.int v1), .val (.int v2), .val (.int v165), .val (.int (4 : Int32)), .val (.int v166), .val (.int v167), .val (.ref b168), .val (.int v187), .val (.int (1 : Int32)), .val (.int v206), .val (.int v208), .val (.int v210), .val (.int v212)] [(.int (63 : Int32)), (.int v212), (.int ((((v206 &&& (7 : Int32)) <<< ((18 : Int32) &&& 31)) ||| ((v208 &&& (63 : Int32)) <<< ((12 : Int32) &&& 31))) ||| ((v210 &&& (63 : Int32)) <<< ((6 : Int32) &&& 31))))])) t
          refine XS.iand X203.here hx rfl (hb hby at_601) rfl ?_
          show Steps p.tables e below (T203.setTop (mkF m 602 #[.val (.int p0), .val (.int p1), .val (.int p2), .val (.int p3), .val (.int v1), .val (.int v2), .val (.int v165), .val (.int (4 : Int32)), .val (.int v166), .val (.int v167), .val (.ref b168), .val (.int v187), .val (.int (1 : Int32)), .val (.int v206), .val (.int v208), .val (.int v210), .val (.int v212)] [(.int (v212 &&& (63 : Int32))), (.int ((((v206 &&& (7 : Int32)) <<< ((18 : Int32) &&& 31)) ||| ((v208 &&& (63 : Int32)) <<< ((12 : Int32) &&& 31))) ||| ((v210 &&& (63 : Int32)) <<< ((6 : Int32) &&& 31))))])) t
          refine XS.ior X203.here hx rfl (hb hby at_602) rfl ?_
          show Steps p.tables e below (T203.setTop (mkF m 603 #[.val (.int p0), .val (.int p1), .val (.int p2), .val (.int p3), .val (.int v1), .val (.int v2), .val (.int v165), .val (.int (4 : Int32)), .val (.int v166), .val (.int v167), .val (.ref b168), .val (.int v187), .val (.int (1 : Int32)), .val (.int v206), .val (.int v208), .val (.int v210), .val (.int v212)] [(.int (((((v206 &&& (7 : Int32)) <<< ((18 : Int32) &&& 31)) ||| ((v208 &&& (63 : Int32)) <<< ((12 : Int32) &&& 31))) ||| ((v210 &&& (63 : Int32)) <<< ((6 : Int32) &&& 31))) ||| (v212 &&& (63 : Int32))))])) t
          refine XS.iload X203.here hx rfl (hb hby at_603) rfl ?_
          show Steps p.tables e below (T203.setTop (mkF m 605 #[.val (.int p0), .val (.int p1), .val (.int p2), .val (.int p3), .val (.int v1), .val (.int v2), .val (.int v165), .val (.int (4 : Int32)), .val (.int v166), .val (.int v167), .val (.ref b168), .val (.int v187), .val (.int (1 : Int32)), .val (.int v206), .val (.int v208), .val (.int v210), .val (.int v212)] [(.int v165), (.int (((((v206 &&& (7 : Int32)) <<< ((18 : Int32) &&& 31)) ||| ((v208 &&& (63 : Int32)) <<< ((12 : Int32) &&& 31))) ||| ((v210 &&& (63 : Int32)) <<< ((6 : Int32) &&& 31))) ||| (v212 &&& (63 : Int32))))])) t
          exact k
        have hc217 : (((((v206 &&& (7 : Int32)) <<< ((18 : Int32) &&& 31)) ||| ((v208 &&& (63 : Int32)) <<< ((12 : Int32) &&& 31))) ||| ((v210 &&& (63 : Int32)) <<< ((6 : Int32) &&& 31))) ||| (v212 &&& (63 : Int32))) = v165 := own_c4 hcp hb0 hb1 hb2 hb3
        refine hD _ (T203.setTop (mkF m 613 #[.val (.int p0), .val (.int p1), .val (.int p2), .val (.int p3), .val (.int v1), .val (.int v2), .val (.int v165), .val (.int (4 : Int32)), .val (.int v166), .val (.int v167), .val (.ref b168), .val (.int v187), .val (.int (1 : Int32)), .val (.int v206), .val (.int v208), .val (.int v210), .val (.int v212)] [(.int (1 : Int32))])) (fun t k => ?_) ?_
        · show Steps p.tables e below (T203.setTop (mkF m 605 #[.val (.int p0), .val (.int p1), .val (.int p2), .val (.int p3), .val (.int v1), .val (.int v2), .val (.int v165), .val (.int (4 : Int32)), .val (.int v166), .val (.int v167), .val (.ref b168), .val (.int v187), .val (.int (1 : Int32)), .val (.int v206), .val (.int v208), .val (.int v210), .val (.int v212)] [(.int v165), (.int (((((v206 &&& (7 : Int32)) <<< ((18 : Int32) &&& 31)) ||| ((v208 &&& (63 : Int32)) <<< ((12 : Int32) &&& 31))) ||| ((v210 &&& (63 : Int32)) <<< ((6 : Int32) &&& 31))) ||| (v212 &&& (63 : Int32))))])) t
          refine XS.icmpNo X203.here hx rfl (hb hby at_605) rfl (teq hc217).2 ?_
          show Steps p.tables e below (T203.setTop (mkF m 608 #[.val (.int p0), .val (.int p1), .val (.int p2), .val (.int p3), .val (.int v1), .val (.int v2), .val (.int v165), .val (.int (4 : Int32)), .val (.int v166), .val (.int v167), .val (.ref b168), .val (.int v187), .val (.int (1 : Int32)), .val (.int v206), .val (.int v208), .val (.int v210), .val (.int v212)] [])) t
          refine XS.iconst X203.here hx rfl (hb hby at_608) ?_
          show Steps p.tables e below (T203.setTop (mkF m 609 #[.val (.int p0), .val (.int p1), .val (.int p2), .val (.int p3), .val (.int v1), .val (.int v2), .val (.int v165), .val (.int (4 : Int32)), .val (.int v166), .val (.int v167), .val (.ref b168), .val (.int v187), .val (.int (1 : Int32)), .val (.int v206), .val (.int v208), .val (.int v210), .val (.int v212)] [(.int (1 : Int32))])) t
          refine XS.goto X203.here hx rfl (pc0 := 609) (pc' := 613) rfl (hb hby at_609) (by decide) (by decide) ?_
          show Steps p.tables e below (T203.setTop (mkF m 613 #[.val (.int p0), .val (.int p1), .val (.int p2), .val (.int p3), .val (.int v1), .val (.int v2), .val (.int v165), .val (.int (4 : Int32)), .val (.int v166), .val (.int v167), .val (.ref b168), .val (.int v187), .val (.int (1 : Int32)), .val (.int v206), .val (.int v208), .val (.int v210), .val (.int v212)] [(.int (1 : Int32))])) t
          exact k
        exact Own.retN hR X203 hx (t := .boolean) hret (by simp) (hb hby at_613) (by decide) (by decide) (by decide) ⟨rfl, N203⟩
set_option maxRecDepth 65536 in
set_option maxHeartbeats 40000000 in
theorem comes_1 {Post : Tables → Env → Array Value → State → Outcome → State → Prop} (hpost : ∀ tb e args s v u, (limb_1_1.after args s (.returned v) u = true ∧ limb_1_2.after args s (.returned v) u = true ∧ True) → FrameEnd s (.returned v) u (Jvm.fieldLocs frame_1_writes args s ++ Jvm.arrayLocs frame_1_arrays args s ++ Jvm.staticLocs frame_1_statics s) 16 128 → Post tb e args s (.returned v) u) :
    ArmFor flags0 classFile x code maxLocals ret World_1 tables_1 room_1 Calls_1 rest_1 Pre_1 Post := by
  intro l hfl _ _ p e ha hc hk s m args below hf hA hF happ hP
  obtain ⟨hcalls, hrest, hpre⟩ := hP
  obtain ⟨-, -, -, hnamed, -, -, -, hat⟩ := (Spec.applies_iff hf).mp happ
  obtain ⟨hg, hn⟩ := and_e (Cond.before_iff.mp (show (Jvm.Cond.and given_1 narrow_1).before args s = true from hpre))
  obtain ⟨hcnt, hg0⟩ := and_e hg
  obtain ⟨ga0, hg1⟩ := and_e hg0
  obtain ⟨ga1, hg2⟩ := and_e hg1
  obtain ⟨ga2, hg3⟩ := and_e hg2
  obtain ⟨w0, w1, w2, w3, rfl⟩ : ∃ w0 w1 w2 w3 : Value, args = #[w0, w1, w2, w3] := by
    have hs : args.size = 4 := by simpa [Cond.value, given_1] using hcnt
    obtain ⟨L⟩ := args
    match L, hs with
    | [w0, w1, w2, w3], _ => exact ⟨w0, w1, w2, w3, rfl⟩
  have hw := fun d (hd : d ∈ tables_1) => atoms_spec (ws := Jvm.Cond.code x code maxLocals ret :: tables_1) hat d (List.mem_cons_of_mem _ hd)
  obtain ⟨i0, ei0⟩ := is_v ga0
  obtain rfl : w0 = (.int i0) := Option.some.inj ei0
  obtain ⟨i1, ei1⟩ := is_v ga1
  obtain rfl : w1 = (.int i1) := Option.some.inj ei1
  obtain ⟨i2, ei2⟩ := is_v ga2
  obtain rfl : w2 = (.int i2) := Option.some.inj ei2
  obtain ⟨i3, ei3⟩ := is_v hg3
  obtain rfl : w3 = (.int i3) := Option.some.inj ei3
  obtain ⟨n, o, h1, h2, h3, _, L, rfl, ⟨rfl, N⟩, hq⟩ := rm0 l s _ hw tables_1 i0 i1 i2 i3 s.heap s.heap.size (Nat.le_refl _) p e ha hc hk s m _ below hf ((Spec.applies_iff_loose hf).mp happ).1 ⟨rfl, State.Warmed39.refl s, rfl⟩ trivial
  refine ⟨n, _, h1, h2, h3, hpost _ _ _ _ _ _ ⟨Cond.after_iff.mpr rfl, Cond.after_iff.mpr (eq_i res_at (Term.int_eval (1)) rfl), trivial⟩ ⟨hq.1, hq.2.1, (hq.2.2.sift fun y hy => Or.inr (N y hy)).mono (by decide) (by decide)⟩⟩
theorem main_1_1 : Claimed_1_1 := comes_1 fun _ _ _ _ _ _ h hF => ⟨h.1, hF⟩
theorem main_1_2 : Claimed_1_2 := comes_1 fun _ _ _ _ _ _ h hF => ⟨h.2.1, hF⟩
end Jvm.Pilot.@@N@@
namespace Jvm.Pilot.@@N@@
open Jvm Jvm.ClassFile Sem Op Lib Jvm.Free Jvm.Stand Jvm.Pilot.@@N@@.Jvm.D
/-! MADE BY PROGRAM (witnessworld.py) out of the Statement's table words and the real class files: 10 classes; the members and pool entries that the words name. The judged class is class 1, her method 1. -/
namespace start1
open Jvm.ClassFile
def u (s : String) : CpInfo := .utf8 (stringToUtf16 s)
/-- a pool by its gaps: so many unusable entries, then the entry; so many at the end -/
def gap : Nat → List CpInfo → List CpInfo
  | 0, r => r
  | n + 1, r => .unusable :: gap n r
def poolList (es : List (Nat × CpInfo)) (last : Nat) : List CpInfo := es.foldr (fun e r => gap e.1 (e.2 :: r)) (gap last [])
def pool (es : List (Nat × CpInfo)) (last : Nat) : Array CpInfo := ⟨poolList es last⟩
def fileOf (pool : Array CpInfo) (this : Nat) (attrs : Array Attribute := #[]) (ms : Array MethodInfo := #[]) (fl : Nat := 33) (sup : Nat := 0) (ifs : Array Nat := #[]) (fds : Array FieldInfo := #[]) : ClassFile where
  minorVersion := 0
  majorVersion := 65
  constantPool := pool
  accessFlags := fl
  thisClass := this
  superClass := sup
  interfaces := ifs
  fields := fds
  methods := ms
  attributes := attrs
def plain (name : String) (sup : Option ClassId) : Class where
  name := name
  kind := .ordinary
  loader := none
  accessFlags := 33
  super := sup
  interfaces := #[]
  cf := none
  fields := #[]
  methods := #[]
  instanceTypes := #[]
  staticTypes := #[]
  resolved := #[]
  callSites := []
  init := .initialized
  statics := none
  mirror := none

def pool0 : Array CpInfo := pool [(5, u "<init>"), (0, u "()V"), (1, .class_ 10), (1, u "java/lang/Object")] 113

def k0m0 : Method := { name := "<init>", desc := "()V", sig := { parameters := [], returnType := none }, accessFlags := 1, code := none }
/-- java/lang/Object -/
def k0 : Class := { plain "java/lang/Object" none with
  accessFlags := 33
  interfaces := #[]
  cf := some (fileOf pool0 8 #[] #[{ accessFlags := 1, nameIndex := 5, descriptorIndex := 6, attributes := #[] }] 33 0 #[] #[])
  fields := #[]
  methods := #[k0m0]
  instanceTypes := #[]
  staticTypes := #[]
  resolved := Array.replicate 124 none
  statics := none }

def pool1 : Array CpInfo := pool [(2, .class_ 4), (1, u "java/lang/Object"), (0, u "<init>"), (0, u "()V"), (0, .integer 2147483647), (0, .integer 61440), (0, .integer 55296), (0, .integer 65536), (0, .integer 1048576), (0, .methodref 13 14), (0, .class_ 15), (0, .nameAndType 16 17), (0, u "org/wireform/json/JsonString"), (0, u "putUtf8"), (0, u "([BII)I"), (0, .methodref 19 20), (0, .class_ 21), (0, .nameAndType 22 23), (0, u "org/wireform/json/JsonStringPutUtf8PinLaw"), (0, u "kept"), (0, u "([BIIIB)Z"), (2, u "law"), (0, u "(IIII)Z")] 5

def k1m0 : Method := { name := "<init>", desc := "()V", sig := { parameters := [], returnType := none }, accessFlags := 1, code := none }
def k1c1 : Code := { maxStack := 5, maxLocals := 17, code := code, exceptionTable := #[], attributes := #[] }
def k1m1 : Method := { name := "law", desc := "(IIII)Z", sig := { parameters := [.int, .int, .int, .int], returnType := some .boolean }, accessFlags := 9, code := some k1c1 }
def k1c2 : Code := { maxStack := 3, maxLocals := 5, code := method_3_code, exceptionTable := #[], attributes := #[] }
def k1m2 : Method := { name := "kept", desc := "([BIIIB)Z", sig := { parameters := [(.array .byte), .int, .int, .int, .byte], returnType := some .boolean }, accessFlags := 10, code := some k1c2 }
/-- org/wireform/json/JsonStringPutUtf8PinLaw -/
def k1 : Class := { plain "org/wireform/json/JsonStringPutUtf8PinLaw" (some 0) with
  accessFlags := 49
  interfaces := #[]
  cf := some (fileOf pool1 19 #[] #[{ accessFlags := 1, nameIndex := 5, descriptorIndex := 6, attributes := #[] }, { accessFlags := 9, nameIndex := 26, descriptorIndex := 27, attributes := #[] }, { accessFlags := 10, nameIndex := 22, descriptorIndex := 23, attributes := #[] }] 49 2 #[] #[])
  fields := #[]
  methods := #[k1m0, k1m1, k1m2]
  instanceTypes := #[]
  staticTypes := #[]
  resolved := Array.replicate 33 none
  statics := none }

def pool2 : Array CpInfo := pool [(7, .class_ 8), (0, u "org/wireform/json/JsonValue"), (0, .class_ 10), (0, u "java/lang/Object")] 16

/-- org/wireform/json/JsonValue -/
def k2 : Class := { plain "org/wireform/json/JsonValue" (some 0) with
  accessFlags := 1537
  interfaces := #[]
  cf := some (fileOf pool2 7 #[] #[] 1537 9 #[] #[])
  fields := #[]
  methods := #[]
  instanceTypes := #[]
  staticTypes := #[]
  resolved := Array.replicate 27 none
  statics := none }

def pool3 : Array CpInfo := pool [(10, .class_ 12), (1, u "org/wireform/json/JsonString"), (8, u "PLAIN"), (0, u "[Z"), (13, .class_ 38), (1, u "java/lang/Object"), (3, u "value"), (28, u "utf8"), (0, u "[B"), (2, u "Ljava/lang/String;"), (23, .integer 65536), (17, u "hash"), (0, u "I"), (15, .class_ 135), (0, u "org/wireform/json/JsonValue"), (9, u "putUtf8"), (0, u "([BII)I")] 24

def k3c0 : Code := { maxStack := 5, maxLocals := 3, code := prog_84_method_9_code, exceptionTable := #[], attributes := #[] }
def k3m0 : Method := { name := "putUtf8", desc := "([BII)I", sig := { parameters := [(.array .byte), .int, .int], returnType := some .int }, accessFlags := 8, code := some k3c0 }
/-- org/wireform/json/JsonString -/
def k3 : Class := { plain "org/wireform/json/JsonString" (some 0) with
  accessFlags := 49
  interfaces := #[2]
  cf := some (fileOf pool3 10 #[] #[{ accessFlags := 8, nameIndex := 145, descriptorIndex := 146, attributes := #[] }] 49 36 #[134] #[{ accessFlags := 24, nameIndex := 21, descriptorIndex := 22, attributes := #[] }, { accessFlags := 18, nameIndex := 71, descriptorIndex := 72, attributes := #[] }, { accessFlags := 2, nameIndex := 42, descriptorIndex := 75, attributes := #[] }, { accessFlags := 2, nameIndex := 117, descriptorIndex := 118, attributes := #[] }])
  fields := #[{ name := "PLAIN", type := (.array .boolean), accessFlags := 24, slot := 0, constantValue := 0 }, { name := "utf8", type := (.array .byte), accessFlags := 18, slot := 0, constantValue := 0 }, { name := "value", type := (.object "java/lang/String"), accessFlags := 2, slot := 1, constantValue := 0 }, { name := "hash", type := .int, accessFlags := 2, slot := 2, constantValue := 0 }]
  methods := #[k3m0]
  instanceTypes := #[(.array .byte), (.object "java/lang/String"), .int]
  staticTypes := #[(.array .boolean)]
  resolved := Array.replicate 171 none
  statics := none }

def pool4 : Array CpInfo := pool [(1, u "java/lang/Cloneable"), (0, .class_ 1), (0, u "java/lang/Object"), (0, .class_ 3)] 3

/-- java/lang/Cloneable -/
def k4 : Class := { plain "java/lang/Cloneable" (some 0) with
  accessFlags := 1537
  interfaces := #[]
  cf := some (fileOf pool4 2 #[] #[] 1537 4 #[] #[])
  fields := #[]
  methods := #[]
  instanceTypes := #[]
  staticTypes := #[]
  resolved := Array.replicate 8 none
  statics := none }

def pool5 : Array CpInfo := pool [(1, u "java/io/Serializable"), (0, .class_ 1), (0, u "java/lang/Object"), (0, .class_ 3)] 3

/-- java/io/Serializable -/
def k5 : Class := { plain "java/io/Serializable" (some 0) with
  accessFlags := 1537
  interfaces := #[]
  cf := some (fileOf pool5 2 #[] #[] 1537 4 #[] #[])
  fields := #[]
  methods := #[]
  instanceTypes := #[]
  staticTypes := #[]
  resolved := Array.replicate 8 none
  statics := none }

/-- the primitive byte -/
def k6 : Class := { plain "byte" none with kind := .primitive 'B', accessFlags := 0x411 }
/-- [B -/
def k7 : Class := { plain "[B" (some 0) with kind := .array 6 .byte, interfaces := #[4, 5], accessFlags := 1041 }

/-- the primitive int -/
def k8 : Class := { plain "int" none with kind := .primitive 'I', accessFlags := 0x411 }
/-- [I -/
def k9 : Class := { plain "[I" (some 0) with kind := .array 8 .int, interfaces := #[4, 5], accessFlags := 1041 }

def heap : Heap := #[]
def classes : Array Class := #[k0, k1, k2, k3, k4, k5, k6, k7, k8, k9]
def interned : List (Array UInt16 × Addr) := []
def slotsUsed : Nat := 0
def theMethod : MethodId := ⟨1, 1⟩
def args0 : Array Value := #[.int 7, .int 7, .int 7, .int 7]
def aboutOver (below : List Frame) : State where
  vm := { classes := classes, interned := interned.toArray }
  heap := heap
  slotsUsed := slotsUsed
  threads := #[{ frames := .invoking theMethod args0 :: below }]
def below0 : List Frame := [.native { method := ⟨0, 0⟩, args := #[] }]
def about1 : State := aboutOver below0
def p0 : Program := .bare "" "" ""
def e0 : Env := launch0.env 0 0 0
theorem w_frames : about1.frames = Frame.invoking theMethod args0 :: below0 := rfl
set_option maxRecDepth 65536 in
theorem w_args : argsFit about1.vm theMethod args0 = true := by decide +kernel
set_option maxRecDepth 65536 in
theorem w_heap : heapFits about1 = true := by decide +kernel
set_option maxRecDepth 65536 in
theorem w_runnable : about1.curStatus? = some .runnable := by decide +kernel
set_option maxRecDepth 65536 in
theorem w_alone : about1.alone = true := by decide +kernel
set_option maxRecDepth 65536 in
theorem w_named : about1.methodNamed? x = some theMethod := by decide +kernel
set_option maxRecDepth 65536 in
theorem w_hears : about1.hears theMethod below0 = true := by decide +kernel
set_option maxRecDepth 65536 in
theorem w_ripe : about1.ripe theMethod args0 below0 = true := by decide +kernel
theorem w_running : about1.status = .running := rfl
set_option maxRecDepth 65536 in
theorem w_room : about1.hasRoom e0.platform room_1 = true :=
  launch0.hasRoom_least _ room_1 (by decide +kernel) (by decide +kernel) (by decide +kernel) (by decide +kernel) (by decide +kernel) (by decide +kernel)
theorem allAtoms_all (ts : List Jvm.Cond) (a : Array Jvm.Value) (st : Jvm.State) : (allAtoms ts).before a st = ts.all (fun c => c.before a st) := by
  induction ts with
  | nil => rfl
  | cons c t ih =>
    show (Jvm.Cond.and c (allAtoms t)).before a st = _
    rw [Jvm.Cond.before_and, ih, List.all_cons]
def words1 : List Jvm.Cond := Jvm.Cond.code x code maxLocals ret :: tables_1
/-- a 'code' word, met by the world's own term for the bytes: nothing is compared byte by byte -/
theorem code_word {y : MethodName} {bytes : ByteArray} {mx : Nat} {rt : Option FieldType} {a : Array Value} {s : State} {m : MethodId} {meth : Method} {c : Code} (h1 : s.methodNamed? y = some m) (h2 : s.vm.method? m = some meth) (h3 : meth.code = some c) (h4 : c.code = bytes)
    (h5 : (c.maxLocals == mx && c.exceptionTable.isEmpty && decide (c.maxStack ≤ mostOperands) && decide (meth.sig.returnType = rt) && !meth.locks && decide (parseMethodDescriptor y.desc = some meth.sig)) = true) : (Jvm.Cond.code y bytes mx rt).before a s = true := by
  simp only [Bool.and_eq_true, beq_iff_eq, Bool.not_eq_true', decide_eq_true_eq] at h5
  obtain ⟨⟨⟨⟨⟨g1, g2⟩, g3⟩, g4⟩, g5⟩, g6⟩ := h5
  simp [Cond.before, Cond.holds, Cond.value, h1, h2, h3, h4, g1, g2, g3, g4, g5, g6]
def isCode : Jvm.Cond → Bool
  | .code _ _ _ _ => true
  | _ => false
theorem all_split {L : List Jvm.Cond} {P : Jvm.Cond → Bool} (h1 : L.all (fun c => isCode c || P c) = true) (h2 : ∀ c ∈ L.filter isCode, P c = true) : L.all P = true := by
  refine List.all_eq_true.mpr fun c hc => ?_
  have h := List.all_eq_true.mp h1 c hc
  rcases Bool.eq_false_or_eq_true (isCode c) with hi | hi
  · exact h2 c (List.mem_filter.mpr ⟨hc, hi⟩)
  · simpa [hi] using h
set_option maxRecDepth 65536 in
theorem w_c0 : (Jvm.Cond.code x code maxLocals ret).before args0 about1 = true := code_word (m := ⟨1, 1⟩) (meth := k1m1) (c := k1c1) (by decide +kernel) rfl rfl rfl (by decide +kernel)
set_option maxRecDepth 65536 in
theorem w_c1 : (Jvm.Cond.code ({ cls := "org/wireform/json/JsonString", name := "putUtf8", desc := "([BII)I" } : Jvm.MethodName) prog_84_method_9_code (3 : Nat) (Option.some Jvm.ClassFile.FieldType.int)).before args0 about1 = true := code_word (m := ⟨3, 0⟩) (meth := k3m0) (c := k3c0) (by decide +kernel) rfl rfl rfl (by decide +kernel)
set_option maxRecDepth 65536 in
theorem w_c2 : (Jvm.Cond.code ({ cls := "org/wireform/json/JsonStringPutUtf8PinLaw", name := "kept", desc := "([BIIIB)Z" } : Jvm.MethodName) method_3_code (5 : Nat) (Option.some Jvm.ClassFile.FieldType.boolean)).before args0 about1 = true := code_word (m := ⟨1, 2⟩) (meth := k1m2) (c := k1c2) (by decide +kernel) rfl rfl rfl (by decide +kernel)
def codes1 : List Jvm.Cond := [Jvm.Cond.code x code maxLocals ret, Jvm.Cond.code ({ cls := "org/wireform/json/JsonString", name := "putUtf8", desc := "([BII)I" } : Jvm.MethodName) prog_84_method_9_code (3 : Nat) (Option.some Jvm.ClassFile.FieldType.int), Jvm.Cond.code ({ cls := "org/wireform/json/JsonStringPutUtf8PinLaw", name := "kept", desc := "([BIIIB)Z" } : Jvm.MethodName) method_3_code (5 : Nat) (Option.some Jvm.ClassFile.FieldType.boolean)]
set_option maxRecDepth 65536 in
theorem codes_eq : words1.filter isCode = codes1 := rfl
theorem w_codes : ∀ c ∈ words1.filter isCode, c.before args0 about1 = true := by
  rw [codes_eq]
  intro c hc
  simp only [codes1, List.mem_cons, List.not_mem_nil, or_false] at hc
  rcases hc with rfl | rfl | rfl
  · exact w_c0
  · exact w_c1
  · exact w_c2
set_option maxRecDepth 65536 in
theorem w_t1 : words1.all (fun c => isCode c || c.before args0 about1) = true := by decide +kernel
theorem w_tables : (allAtoms (Jvm.Cond.code x code maxLocals ret :: tables_1)).before args0 about1 = true := by
  rw [allAtoms_all]
  show words1.all (fun c => c.before args0 about1) = true
  refine all_split ?_ w_codes
  rw [w_t1]
set_option maxRecDepth 65536 in
theorem w_case : (Jvm.Cond.and given_1 narrow_1).before args0 about1 = true := by decide +kernel
theorem w_applies : (headSpec (Jvm.Cond.code x code maxLocals ret :: tables_1) room_1).applies x e0.platform about1 = true :=
  (Spec.applies_iff w_frames).mpr ⟨w_running, w_runnable, w_alone, w_named, w_hears, w_ripe, w_room, w_tables⟩
theorem atStart : AtStart classFile x code maxLocals ret World_1 tables_1 room_1 Calls_1 rest_1 Pre_1 launch0 p0 e0 about1 theMethod args0 below0 :=
  ⟨lists_1, trivial, launch0.admits_env _ _ _, launch0.least_env, fairChoices_fair.cas, fairChoices_fair.clock, w_frames, w_args, w_heap, w_applies, trivial, trivial, w_case⟩
end start1
theorem witness_1 : WitnessClaimed_1 := ⟨start1.p0, start1.e0, start1.about1, start1.theMethod, start1.args0, start1.below0, start1.atStart⟩
end Jvm.Pilot.@@N@@
