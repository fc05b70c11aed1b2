import JvmDerived
import JvmDerived.Pilot.@@N@@Statement
import JvmDerived.Pilot.@@N@@Code
set_option linter.unusedVariables false
set_option linter.unusedSimpArgs false
@@BLOCK:NumsL.lean.txt@@
namespace Jvm.Own
open Sem ClassFile Op Lib Jvm.Stand Jvm.Free Jvm.LawKit Jvm.RoadKit
section Kit
variable {p : Program} {l : Launch} {e : Env} {R : Room} {s : State} {m : MethodId} {args : Array Value} {below : List Frame} {meth : Method} {c : Code} {T : State} {locs : List Loc} {cells slots : Nat} {Z : State} {a0 : Array Value} {h : Heap}
/-- D is closed under going back over steps -/
def Clo (p : Program) (e : Env) (below : List Frame) (D : State → Prop) : Prop := ∀ (U U' : State), (∀ t, Steps p.tables e below U' t → Steps p.tables e below U t) → D U' → D U
/-- D holds wherever the body returns with what Q says -/
def Ret (p : Program) (l : Launch) (e : Env) (R : Room) (s : State) (m : MethodId) (args : Array Value) (below : List Frame) (meth : Method) (c : Code) (Q : Option Value → Heap → List Loc → Prop) (C N : Nat) (D : State → Prop) : Prop :=
  ∀ (T : State) (locs : List Loc) (cells slots : Nat) (v : Option Value) (U : State), Stand p l e R s m args below meth c T locs cells slots → (meth.sig.returnType = none → v = none) → cells ≤ C → slots ≤ N → Q v T.heap locs →
    (∀ fs, (∀ (f : JFrame) (acts : List Action), f.method = m → f.locked = none → f.entered = [] → (doReturn e (T.setTop f) acts v).1 = T.setFrames fs) → Steps p.tables e below U (T.setFrames fs)) → D U
theorem enter {y : MethodName} {code : ByteArray} {maxL : Nat} {ret : Option FieldType} {ws : List Cond} {rm : Room} {as' : Array Value} {h0 : Heap} {Q : Option Value → Heap → List Loc → Prop} {C N : Nat} (hpl : plainFor y = true)
    (body : ∀ (p : Program) (e : Env) (s : State) (m : MethodId) (below : List Frame) (meth : Method) (c : Code) (s₁ : State) (D : State → Prop),
      p.tables.exec = Jvm.exec → c.code = code → c.maxLocals = maxL → s.vm.findClass y.cls = some m.cls → meth.name = y.name → meth.sig.returnType = ret → Z.Warmed39 s.vm → Stand p l e rm s m as' below meth c s₁ [] 0 0 → s₁.heap = h0 →
      Clo p e below D → Ret p l e rm s m as' below meth c Q C N D → D (s₁.setTop (entryFrame m as' maxL))) :
    MetFree l y (head1 (Jvm.Cond.code y code maxL ret :: ws) rm) (fun a U => a = as' ∧ Z.Warmed39 U.vm ∧ U.heap = h0) (fun _ _ _ _ _ => True) (fun _ U o U' => ∃ v L, o = .returned v ∧ Q v U'.heap L ∧ FrameEnd U o U' L C N) := by
  refine MetFree.of_bodySF hpl hisR ?_
  intro p e s m args below meth c s₁ Bd hml hP hK
  obtain ⟨rfl, hZ, hh⟩ := hP
  have X0 : Stand p l e rm s m args below meth c s₁ [] 0 0 := Stand.of_body Bd
  refine body p e s m below meth c s₁ (fun U => ∃ s₂ o, Steps p.tables e below U s₂ ∧ s₂.status = .running ∧ Ended s₂ below o ∧ ∃ v L, o = .returned v ∧ Q v s₂.heap L ∧ FrameEnd s o s₂ L C N) Bd.exec Bd.bytes hml (findClass_of_methodNamed Bd.named) (name_of_methodNamed Bd.named Bd.method).1 Bd.returns hZ X0 (by rw [← hh, Bd.state]; rfl) ?_ ?_
  · rintro U U' k ⟨s₂, o, st, r⟩
    exact ⟨s₂, o, k _ st, r⟩
  · intro T locs cells slots v U X hv hc hn hQ k
    obtain ⟨fs, hr, hrun, hended, hW, hsame⟩ := X.leave (v := v) hv
    exact ⟨_, _, k fs hr, hrun, hended, v, locs, rfl, hQ, ⟨_, rfl⟩, hW, hsame.mono hc hn⟩
theorem mono {c' n' : Nat} (X : Stand p l e R s m args below meth c T locs cells slots) (hc : cells ≤ c') (hn : slots ≤ n') : Stand p l e R s m args below meth c T locs c' n' :=
  { X with same := X.same.weaken (fun _ hy _ => hy) hc hn }
theorem forget {k : Nat} (X : Stand p l e R s m args below meth c T locs cells slots) (N : Fr k locs) (hk : s.heap.size ≤ k) : Stand p l e R s m args below meth c T [] cells slots :=
  { X with same := X.same.weaken (fun y hy hlt => absurd hlt (Nat.not_lt.mpr (Nat.le_trans hk (N y hy)))) (Nat.le_refl _) (Nat.le_refl _) }
variable {Q : Option Value → Heap → List Loc → Prop} {C N : Nat} {D : State → Prop}
theorem retI (hR : Ret p l e R s m args below meth c Q C N D) (X : Stand p l e R s m args below meth c T locs cells slots) (hx : p.tables.exec = Jvm.exec) {pc : Nat} {Ls : Array Slot} {z : Int32} {rest : List Value} (hret : meth.sig.returnType = some .int) (hd : decode c.code pc = .ok (.ireturn, 1)) (hc : cells ≤ C) (hn : slots ≤ N) (hQ : Q (some (.int z)) T.heap locs) : D (T.setTop (mkF m pc Ls (.int z :: rest))) := by
  refine hR T locs cells slots (some (.int z)) _ X (fun h => by rw [hret] at h; cases h) hc hn hQ fun fs hl => ?_
  have hm' : T.vm.method? m = some meth := X.method'
  have hn : narrow .int (.int z) = .int z := rfl
  show Steps p.tables e below (T.setTop { method := m, pc := pc, locals := Ls, stack := _ :: rest, locked := none }) _
  jvm_step X.here [X.here.top, hx, hd, hm', hret, hn]
  first | (intro acts; rw [hl _ acts rfl rfl rfl]) | rw [hl _ _ rfl rfl rfl]
  exact Steps.refl _
theorem retN (hR : Ret p l e R s m args below meth c Q C N D) (X : Stand p l e R s m args below meth c T locs cells slots) (hx : p.tables.exec = Jvm.exec) {pc : Nat} {Ls : Array Slot} {z : Int32} {t : FieldType} {rest : List Value} (hret : meth.sig.returnType = some t) (ht : t = .boolean ∨ t = .byte ∨ t = .char ∨ t = .short) (hd : decode c.code pc = .ok (.ireturn, 1)) (hc : cells ≤ C) (hn : slots ≤ N) (hz : nar t z = z) (hQ : Q (some (.int z)) T.heap locs) : D (T.setTop (mkF m pc Ls (.int z :: rest))) := by
  refine hR T locs cells slots (some (.int z)) _ X (fun h => by rw [hret] at h; cases h) hc hn hQ fun fs hl => ?_
  exact Jvm.RoadKit.retN X hx hret ht hd (by rw [hz]; exact hl)
theorem retJ (hR : Ret p l e R s m args below meth c Q C N D) (X : Stand p l e R s m args below meth c T locs cells slots) (hx : p.tables.exec = Jvm.exec) {pc : Nat} {Ls : Array Slot} {z : Int64} (hret : meth.sig.returnType = some .long) (hd : decode c.code pc = .ok (.lreturn, 1)) (hc : cells ≤ C) (hn : slots ≤ N) (hQ : Q (some (.long z)) T.heap locs) : D (T.setTop (mkF m pc Ls [.long z])) :=
  hR T locs cells slots (some (.long z)) _ X (fun h => by rw [hret] at h; cases h) hc hn hQ fun fs hl => X.lreturnOut hx hret hd hl
theorem retA (hR : Ret p l e R s m args below meth c Q C N D) (X : Stand p l e R s m args below meth c T locs cells slots) (hx : p.tables.exec = Jvm.exec) {pc : Nat} {Ls : Array Slot} {w : Value} {t : FieldType} (hw : w.isRef = true) (hret : meth.sig.returnType = some t) (ht : t.isReference = true) (hd : decode c.code pc = .ok (.areturn, 1)) (hc : cells ≤ C) (hn : slots ≤ N) (hQ : Q (some w) T.heap locs) : D (T.setTop (mkF m pc Ls [w])) :=
  hR T locs cells slots (some w) _ X (fun h => by rw [hret] at h; cases h) hc hn hQ fun fs hl => X.areturnOut hx hw hret ht hd hl
theorem retV (hR : Ret p l e R s m args below meth c Q C N D) (X : Stand p l e R s m args below meth c T locs cells slots) (hx : p.tables.exec = Jvm.exec) {pc : Nat} {Ls : Array Slot} (hret : meth.sig.returnType = none) (hd : decode c.code pc = .ok (.return_, 1)) (hc : cells ≤ C) (hn : slots ≤ N) (hQ : Q none T.heap locs) : D (T.setTop (mkF m pc Ls [])) :=
  hR T locs cells slots none _ X (fun _ => rfl) hc hn hQ fun fs hl => X.returnOut hx hret hd hl
/-! calls -/
variable {y z : MethodName} {bytes : ByteArray} {maxL : Nat} {ret : Option FieldType} {rm : Room} {W : Nat} {Qc : Option Value → Heap → List Loc → Prop} {own Cn : String} {index : Nat} {g : JFrame} {argsL rest : List Value} {a : Addr}
theorem callS (X : Stand p l e R s m args below meth c T locs cells slots) (hx : p.tables.exec = Jvm.exec) (hZ : Z.Warmed39 s.vm) (hown : s.vm.findClass own = some m.cls)
    (w1 : (Cond.methodLink own index y).before a0 Z = true) (w2 : (Cond.static y).before a0 Z = true) (w3 : (Cond.initialized y.cls).before a0 Z = true) (w4 : (Cond.code y bytes maxL ret).before a0 Z = true)
    (hy : y.cls ≠ "java/lang/invoke/MethodHandle" ∧ y.cls ≠ "java/lang/invoke/VarHandle") (e0 : T.heap = h)
    (hM : MetFree l y (head1 [Cond.code y bytes maxL ret] rm) (fun a U => a = argsL.toArray ∧ Z.Warmed39 U.vm ∧ U.heap = h) (fun _ _ _ _ _ => True) (fun _ U o U' => ∃ v L, o = .returned v ∧ Qc v U'.heap L ∧ FrameEnd U o U' L rm.cells rm.slots))
    (hf : rm.frames + 1 ≤ R.frames) (hl : W + (maxL + 11) + rm.locals ≤ R.locals) (hcells : cells + rm.cells ≤ R.cells) (hslots : slots + rm.slots ≤ R.slots)
    (hg : g.method = m) (hsize : g.locals.size = c.maxLocals) (hlen : ∀ sig, parseMethodDescriptor y.desc = some sig → argsL.length = sig.parameters.length)
    (hstack : g.stack = argsL.reverse ++ rest) (hW : 2 * g.monitorRoom + (rest.map fun v => v.category).sum ≤ W) (hdg : decode c.code g.pc = .ok (.invokestatic index, 3)) :
    ∃ (T' : State) (v : Option Value) (L : List Loc), Stand p l e R s m args below meth c T' (locs ++ L) (cells + rm.cells) (slots + rm.slots) ∧ Qc v T'.heap L ∧
      ∀ t, Steps p.tables e below (T'.setTop { g with pc := g.pc + 3, stack := v.toList ++ rest }) t → Steps p.tables e below (T.setTop g) t := by
  obtain ⟨v, _, ⟨T', L', k', n'⟩, -, X', ⟨Lc, hQ, l1, y1, z1⟩, st⟩ := Jvm.LawKit.callS X hx (y := y) hown (mvT hZ w1) (mvT hZ w2) (mvT hZ w3) (mvT hZ w4) hy (backOf (W := W) hM hZ w4 w3 hf hl) hg hsize hlen hstack hW hdg (fun _ _ => ⟨rfl, e0, hcells, hslots⟩)
  dsimp only [Pt.U, Pt.locs, Pt.cells, Pt.slots] at X' l1 y1 z1 st hQ
  subst l1 y1 z1
  exact ⟨T', v, Lc, X', hQ, st⟩
theorem callI (X : Stand p l e R s m args below meth c T locs cells slots) (hx : p.tables.exec = Jvm.exec) (hZ : Z.Warmed39 s.vm) (hown : s.vm.findClass own = some m.cls) (hy1 : y.name = "<init>")
    (w1 : (Cond.methodLink own index y).before a0 Z = true) (w2 : (Cond.instanceMethod y).before a0 Z = true) (w3 : (Cond.initialized y.cls).before a0 Z = true) (w4 : (Cond.code y bytes maxL none).before a0 Z = true)
    (hy : y.cls ≠ "java/lang/invoke/MethodHandle" ∧ y.cls ≠ "java/lang/invoke/VarHandle") (e0 : T.heap = h)
    (hM : MetFree l y (head1 [Cond.code y bytes maxL none] rm) (fun q U => q = (.ref a :: argsL).toArray ∧ Z.Warmed39 U.vm ∧ U.heap = h) (fun _ _ _ _ _ => True) (fun _ U o U' => ∃ v L, o = .returned v ∧ Qc v U'.heap L ∧ FrameEnd U o U' L rm.cells rm.slots))
    (hf : rm.frames + 1 ≤ R.frames) (hl : W + (maxL + 11) + rm.locals ≤ R.locals) (hcells : cells + rm.cells ≤ R.cells) (hslots : slots + rm.slots ≤ R.slots)
    (hg : g.method = m) (hsize : g.locals.size = c.maxLocals) (hlen : ∀ sig, parseMethodDescriptor y.desc = some sig → argsL.length = sig.parameters.length)
    (hstack : g.stack = argsL.reverse ++ .ref a :: rest) (hW : 2 * g.monitorRoom + (rest.map fun v => v.category).sum ≤ W) (hdg : decode c.code g.pc = .ok (.invokespecial index, 3)) :
    ∃ (T' : State) (v : Option Value) (L : List Loc), Stand p l e R s m args below meth c T' (locs ++ L) (cells + rm.cells) (slots + rm.slots) ∧ Qc v T'.heap L ∧
      ∀ t, Steps p.tables e below (T'.setTop { g with pc := g.pc + 3, stack := v.toList ++ rest }) t → Steps p.tables e below (T.setTop g) t := by
  obtain ⟨v, _, ⟨T', L', k', n'⟩, -, X', ⟨Lc, hQ, l1, y1, z1⟩, st⟩ := X.specialBack hx (y := y) hy1 hown (mvT hZ w1) (mvT hZ w2) (mvT hZ w4) hy (backOf (W := W) hM hZ w4 w3 hf hl) hg hsize (Steps.refl _) hlen hstack hW hdg (fun _ _ => ⟨rfl, e0, hcells, hslots⟩)
  dsimp only [Pt.U, Pt.locs, Pt.cells, Pt.slots] at X' l1 y1 z1 st hQ
  subst l1 y1 z1
  exact ⟨T', v, Lc, X', hQ, fun t k => st.trans k⟩
theorem callV (X : Stand p l e R s m args below meth c T locs cells slots) (hx : p.tables.exec = Jvm.exec) (hZ : Z.Warmed39 s.vm) (hown : s.vm.findClass own = some m.cls)
    (w1 : (Cond.methodLink own index y).before a0 Z = true) (w5 : (Cond.declares y).before a0 Z = true) (w6 : (Cond.selects Cn y y).before a0 Z = true) (w2 : (Cond.instanceMethod y).before a0 Z = true) (w3 : (Cond.initialized y.cls).before a0 Z = true) (w4 : (Cond.code y bytes maxL ret).before a0 Z = true)
    (hy : y.cls ≠ "java/lang/invoke/MethodHandle" ∧ y.cls ≠ "java/lang/invoke/VarHandle") (e0 : T.heap = h) (E : Exa Z h a Cn)
    (hM : MetFree l y (head1 [Cond.code y bytes maxL ret] rm) (fun q U => q = (.ref a :: argsL).toArray ∧ Z.Warmed39 U.vm ∧ U.heap = h) (fun _ _ _ _ _ => True) (fun _ U o U' => ∃ v L, o = .returned v ∧ Qc v U'.heap L ∧ FrameEnd U o U' L rm.cells rm.slots))
    (hf : rm.frames + 1 ≤ R.frames) (hl : W + (maxL + 11) + rm.locals ≤ R.locals) (hcells : cells + rm.cells ≤ R.cells) (hslots : slots + rm.slots ≤ R.slots)
    (hg : g.method = m) (hsize : g.locals.size = c.maxLocals) (hlen : ∀ sig, parseMethodDescriptor y.desc = some sig → argsL.length = sig.parameters.length)
    (hstack : g.stack = argsL.reverse ++ .ref a :: rest) (hW : 2 * g.monitorRoom + (rest.map fun v => v.category).sum ≤ W) (hdg : decode c.code g.pc = .ok (.invokevirtual index, 3)) :
    ∃ (T' : State) (v : Option Value) (L : List Loc), Stand p l e R s m args below meth c T' (locs ++ L) (cells + rm.cells) (slots + rm.slots) ∧ Qc v T'.heap L ∧
      ∀ t, Steps p.tables e below (T'.setTop { g with pc := g.pc + 3, stack := v.toList ++ rest }) t → Steps p.tables e below (T.setTop g) t := by
  obtain ⟨cq, kq, q1, q2, q3⟩ := isOf hZ e0 E
  obtain ⟨v, _, ⟨T', L', k', n'⟩, -, X', ⟨Lc, hQ, l1, y1, z1⟩, st⟩ := X.virtualBack hx (y := y) (z := y) hown (mvT hZ w1) (mvT hZ w5) (notFace_of_selects (args := #[]) (mvT hZ w6)) (mvT hZ w6) (mvT hZ w2) hy (backOf (W := W) hM hZ w4 w3 hf hl) q1 q3 hg hsize (Steps.refl _) hlen hstack hW hdg (fun _ _ => ⟨rfl, e0, hcells, hslots⟩)
  dsimp only [Pt.U, Pt.locs, Pt.cells, Pt.slots] at X' l1 y1 z1 st hQ
  subst l1 y1 z1
  exact ⟨T', v, Lc, X', hQ, fun t k => st.trans k⟩
/-! arrays, as functions of the place -/
def AvI (Z : State) (h : Heap) (a : Addr) (ty : FieldType) (n : Nat) (f : Nat → Int32) : Prop := ∃ c : Cell, Arr Z h a c ty ∧ c.slots.size = n ∧ n < 2 ^ 31 ∧ ∀ i, i < n → c.slots[i]? = some (.int (f i))
def AvJ (Z : State) (h : Heap) (a : Addr) (n : Nat) (f : Nat → Int64) : Prop := ∃ c : Cell, Arr Z h a c .long ∧ c.slots.size = n ∧ n < 2 ^ 31 ∧ ∀ i, i < n → c.slots[i]? = some (.long (f i))
variable {h' : Heap} {ty : FieldType} {n : Nat} {f f' : Nat → Int32} {fj fj' : Nat → Int64} {j x : Int32} {xl : Int64} {b : Addr} {sl : Nat} {v : Value} {ws : List Addr}
theorem clamp (hj : 0 ≤ j.toInt ∧ j.toInt < n) : j.toNatClampNeg = j.toInt.toNat ∧ ¬ j < 0 := by
  refine ⟨rfl, ?_⟩
  rw [Int32.lt_iff_toInt_lt, Int32.toInt_zero]; omega
theorem inb {c : Cell} (S : c.slots.size = n) (hj : 0 ≤ j.toInt ∧ j.toInt < n) : ¬ (j < 0 ∨ c.slots.size ≤ j.toNatClampNeg) := by
  have q := clamp hj
  rw [q.1, S]
  intro w
  rcases w with w | w
  · exact q.2 w
  · omega
theorem AvI.lt (A : AvI Z h a ty n f) : a < h.size := by obtain ⟨c, A, -⟩ := A; exact A.lt
theorem AvJ.lt (A : AvJ Z h a n fj) : a < h.size := by obtain ⟨c, A, -⟩ := A; exact A.lt
theorem AvI.ext (A : AvI Z h a ty n f) (E : Ext h h') : AvI Z h' a ty n f := by obtain ⟨c, A, r⟩ := A; exact ⟨c, A.ext E, r⟩
theorem AvJ.ext (A : AvJ Z h a n fj) (E : Ext h h') : AvJ Z h' a n fj := by obtain ⟨c, A, r⟩ := A; exact ⟨c, A.ext E, r⟩
theorem AvI.other (A : AvI Z h b ty n f) (W : Wr h h' a sl v) (q : b ≠ a) : AvI Z h' b ty n f := by obtain ⟨c, A, r⟩ := A; exact ⟨c, A.other W q, r⟩
theorem AvJ.other (A : AvJ Z h b n fj) (W : Wr h h' a sl v) (q : b ≠ a) : AvJ Z h' b n fj := by obtain ⟨c, A, r⟩ := A; exact ⟨c, A.other W q, r⟩
theorem AvI.keep (A : AvI Z h a ty n f) (K : Keep h h' ws) (q : a ∉ ws) : AvI Z h' a ty n f := by obtain ⟨c, A, r⟩ := A; exact ⟨c, ⟨K.2.1 a c A.1 q, A.2⟩, r⟩
theorem AvJ.keep (A : AvJ Z h a n fj) (K : Keep h h' ws) (q : a ∉ ws) : AvJ Z h' a n fj := by obtain ⟨c, A, r⟩ := A; exact ⟨c, ⟨K.2.1 a c A.1 q, A.2⟩, r⟩
theorem AvI.congr (A : AvI Z h a ty n f) (q : ∀ i, i < n → f' i = f i) : AvI Z h a ty n f' := by obtain ⟨c, A, S, M, H⟩ := A; exact ⟨c, A, S, M, fun i hi => by rw [q i hi]; exact H i hi⟩
theorem AvJ.congr (A : AvJ Z h a n fj) (q : ∀ i, i < n → fj' i = fj i) : AvJ Z h a n fj' := by obtain ⟨c, A, S, M, H⟩ := A; exact ⟨c, A, S, M, fun i hi => by rw [q i hi]; exact H i hi⟩
theorem AvI.new {cA : ClassId} {z : Int32} (A : Arr Z h a (newA cA ty z) ty) (hz : z.toInt = n) (hd : defaultValue ty = .int 0) : AvI Z h a ty n (fun _ => 0) := by
  have q : z.toNatClampNeg = n := by show z.toInt.toNat = n; omega
  refine ⟨_, A, by rw [sz_new]; exact q, by have := z.toInt_lt; omega, fun i hi => ?_⟩
  simp [newA, q, hi, hd]
theorem AvJ.new {cA : ClassId} {z : Int32} (A : Arr Z h a (newA cA .long z) .long) (hz : z.toInt = n) : AvJ Z h a n (fun _ => 0) := by
  have q : z.toNatClampNeg = n := by show z.toInt.toNat = n; omega
  refine ⟨_, A, by rw [sz_new]; exact q, by have := z.toInt_lt; omega, fun i hi => ?_⟩
  simp [newA, q, hi, defaultValue]
theorem len_nat {c : Cell} (S : c.slots.size = n) (M : n < 2 ^ 31) : c.slots.size.toInt32 = Int32.ofNat n := by rw [S]
theorem lenI (X : Stand p l e R s m args below meth c T locs cells slots) (hx : p.tables.exec = Jvm.exec) (hZ : Z.Warmed39 s.vm) (e0 : T.heap = h) (A : AvI Z h a ty n f) (hg : g.method = m) (hs : g.stack = .ref a :: rest) (hd : decode c.code g.pc = .ok (.arraylength, 1)) :
    ∀ t, Steps p.tables e below (T.setTop { g with pc := g.pc + 1, stack := .int (Int32.ofNat n) :: rest }) t → Steps p.tables e below (T.setTop g) t := by
  obtain ⟨c, A, S, M, H⟩ := A
  intro t k
  refine X.arraylength hx (by rw [e0]; exact A.1) (State.isArrayOf_alike hZ.alike A.2.1) hg hs hd _ ?_
  rw [len_nat S M]; exact k
theorem lenJ (X : Stand p l e R s m args below meth c T locs cells slots) (hx : p.tables.exec = Jvm.exec) (hZ : Z.Warmed39 s.vm) (e0 : T.heap = h) (A : AvJ Z h a n fj) (hg : g.method = m) (hs : g.stack = .ref a :: rest) (hd : decode c.code g.pc = .ok (.arraylength, 1)) :
    ∀ t, Steps p.tables e below (T.setTop { g with pc := g.pc + 1, stack := .int (Int32.ofNat n) :: rest }) t → Steps p.tables e below (T.setTop g) t := by
  obtain ⟨c, A, S, M, H⟩ := A
  intro t k
  refine X.arraylength hx (by rw [e0]; exact A.1) (State.isArrayOf_alike hZ.alike A.2.1) hg hs hd _ ?_
  rw [len_nat S M]; exact k
theorem ldI (X : Stand p l e R s m args below meth c T locs cells slots) (hx : p.tables.exec = Jvm.exec) (hZ : Z.Warmed39 s.vm) (e0 : T.heap = h) (A : AvI Z h a .int n f) (hj : 0 ≤ j.toInt ∧ j.toInt < n) (hg : g.method = m) (hs : g.stack = .int j :: .ref a :: rest) (hd : decode c.code g.pc = .ok (.iaload, 1)) :
    ∀ t, Steps p.tables e below (T.setTop { g with pc := g.pc + 1, stack := .int (f j.toInt.toNat) :: rest }) t → Steps p.tables e below (T.setTop g) t := by
  obtain ⟨c, A, S, M, H⟩ := A
  exact fun t k => X.iaload hx (by rw [e0]; exact A.1) (State.isArrayOf_alike hZ.alike A.2.1) A.2.2 (inb S hj) (by rw [(clamp hj).1]; exact H _ (by omega)) hg hs hd _ k
theorem ldJ (X : Stand p l e R s m args below meth c T locs cells slots) (hx : p.tables.exec = Jvm.exec) (hZ : Z.Warmed39 s.vm) (e0 : T.heap = h) (A : AvJ Z h a n fj) (hj : 0 ≤ j.toInt ∧ j.toInt < n) (hg : g.method = m) (hs : g.stack = .int j :: .ref a :: rest) (hd : decode c.code g.pc = .ok (.laload, 1)) :
    ∀ t, Steps p.tables e below (T.setTop { g with pc := g.pc + 1, stack := .long (fj j.toInt.toNat) :: rest }) t → Steps p.tables e below (T.setTop g) t := by
  obtain ⟨c, A, S, M, H⟩ := A
  exact fun t k => X.laload hx (by rw [e0]; exact A.1) (State.isArrayOf_alike hZ.alike A.2.1) A.2.2 (inb S hj) (by rw [(clamp hj).1]; exact H _ (by omega)) hg hs hd _ k
theorem ldB (X : Stand p l e R s m args below meth c T locs cells slots) (hx : p.tables.exec = Jvm.exec) (hZ : Z.Warmed39 s.vm) (e0 : T.heap = h) (A : AvI Z h a .byte n f) (hj : 0 ≤ j.toInt ∧ j.toInt < n) (hg : g.method = m) (hs : g.stack = .int j :: .ref a :: rest) (hd : decode c.code g.pc = .ok (.baload, 1)) :
    ∀ t, Steps p.tables e below (T.setTop { g with pc := g.pc + 1, stack := .int (f j.toInt.toNat) :: rest }) t → Steps p.tables e below (T.setTop g) t := by
  obtain ⟨c, A, S, M, H⟩ := A
  exact fun t k => X.baloadBytes hx (by rw [e0]; exact A.1) (State.isArrayOf_alike hZ.alike A.2.1) A.2.2 (inb S hj) (by rw [(clamp hj).1]; exact H _ (by omega)) hg hs hd _ k
theorem AvI.set (A : AvI Z h a ty n f) (hj : 0 ≤ j.toInt ∧ j.toInt < n) (W : Wr h h' a j.toNatClampNeg (.int x)) : AvI Z h' a ty n (fun i => if i = j.toInt.toNat then x else f i) := by
  obtain ⟨c, A, S, M, H⟩ := A
  refine ⟨_, A.same W, by rw [sz_set]; exact S, M, fun i hi => ?_⟩
  rw [(clamp hj).1]
  by_cases q : i = j.toInt.toNat
  · subst q
    simp only [Cell.setSlot, if_true]
    show (c.slots.setIfInBounds j.toInt.toNat _)[j.toInt.toNat]? = _
    rw [Array.getElem?_setIfInBounds, if_pos rfl, if_pos (by rw [S]; exact hi)]
  · simp only [Cell.setSlot, q, if_false]
    rw [Array.getElem?_setIfInBounds_ne (Ne.symm q)]; exact H i hi
theorem AvJ.set (A : AvJ Z h a n fj) (hj : 0 ≤ j.toInt ∧ j.toInt < n) (W : Wr h h' a j.toNatClampNeg (.long xl)) : AvJ Z h' a n (fun i => if i = j.toInt.toNat then xl else fj i) := by
  obtain ⟨c, A, S, M, H⟩ := A
  refine ⟨_, A.same W, by rw [sz_set]; exact S, M, fun i hi => ?_⟩
  rw [(clamp hj).1]
  by_cases q : i = j.toInt.toNat
  · subst q
    simp only [Cell.setSlot, if_true]
    show (c.slots.setIfInBounds j.toInt.toNat _)[j.toInt.toNat]? = _
    rw [Array.getElem?_setIfInBounds, if_pos rfl, if_pos (by rw [S]; exact hi)]
  · simp only [Cell.setSlot, q, if_false]
    rw [Array.getElem?_setIfInBounds_ne (Ne.symm q)]; exact H i hi
theorem stoI (X : Stand p l e R s m args below meth c T locs cells slots) (hx : p.tables.exec = Jvm.exec) (hZ : Z.Warmed39 s.vm) (e0 : T.heap = h) (A : AvI Z h a .int n f) (hj : 0 ≤ j.toInt ∧ j.toInt < n) (hg : g.method = m) (hs : g.stack = .int x :: .int j :: .ref a :: rest) (hd : decode c.code g.pc = .ok (.iastore, 1)) :
    ∃ T' h', Stand p l e R s m args below meth c T' (locs ++ [⟨a, j.toNatClampNeg⟩]) cells slots ∧ T'.heap = h' ∧ AvI Z h' a .int n (fun i => if i = j.toInt.toNat then x else f i) ∧ Wr h h' a j.toNatClampNeg (.int x) ∧ ∀ t, Steps p.tables e below (T'.setTop { g with pc := g.pc + 1, stack := rest }) t → Steps p.tables e below (T.setTop g) t := by
  obtain ⟨c, A', S, M, H⟩ := id A
  obtain ⟨T', h', X', e', W, st⟩ := stI X hx hZ e0 A' (inb S hj) hg hs hd
  exact ⟨T', h', X', e', A.set hj W, W, st⟩
theorem stoJ (X : Stand p l e R s m args below meth c T locs cells slots) (hx : p.tables.exec = Jvm.exec) (hZ : Z.Warmed39 s.vm) (e0 : T.heap = h) (A : AvJ Z h a n fj) (hj : 0 ≤ j.toInt ∧ j.toInt < n) (hg : g.method = m) (hs : g.stack = .long xl :: .int j :: .ref a :: rest) (hd : decode c.code g.pc = .ok (.lastore, 1)) :
    ∃ T' h', Stand p l e R s m args below meth c T' (locs ++ [⟨a, j.toNatClampNeg⟩]) cells slots ∧ T'.heap = h' ∧ AvJ Z h' a n (fun i => if i = j.toInt.toNat then xl else fj i) ∧ Wr h h' a j.toNatClampNeg (.long xl) ∧ ∀ t, Steps p.tables e below (T'.setTop { g with pc := g.pc + 1, stack := rest }) t → Steps p.tables e below (T.setTop g) t := by
  obtain ⟨c, A', S, M, H⟩ := id A
  obtain ⟨T', h', X', e', W, st⟩ := stJ X hx hZ e0 A' (inb S hj) hg hs hd
  exact ⟨T', h', X', e', A.set hj W, W, st⟩
theorem stoB (X : Stand p l e R s m args below meth c T locs cells slots) (hx : p.tables.exec = Jvm.exec) (hZ : Z.Warmed39 s.vm) (e0 : T.heap = h) (A : AvI Z h a .byte n f) (hj : 0 ≤ j.toInt ∧ j.toInt < n) (hg : g.method = m) (hs : g.stack = .int x :: .int j :: .ref a :: rest) (hd : decode c.code g.pc = .ok (.bastore, 1)) :
    ∃ T' h', Stand p l e R s m args below meth c T' (locs ++ [⟨a, j.toNatClampNeg⟩]) cells slots ∧ T'.heap = h' ∧ AvI Z h' a .byte n (fun i => if i = j.toInt.toNat then nar .byte x else f i) ∧ Wr h h' a j.toNatClampNeg (.int (nar .byte x)) ∧ ∀ t, Steps p.tables e below (T'.setTop { g with pc := g.pc + 1, stack := rest }) t → Steps p.tables e below (T.setTop g) t := by
  obtain ⟨c, A', S, M, H⟩ := id A
  obtain ⟨T', h', X', e', W, st⟩ := stB X hx hZ e0 A' (inb S hj) hg hs hd
  exact ⟨T', h', X', e', A.set hj W, W, st⟩
theorem stoZ (X : Stand p l e R s m args below meth c T locs cells slots) (hx : p.tables.exec = Jvm.exec) (hZ : Z.Warmed39 s.vm) (e0 : T.heap = h) (A : AvI Z h a .boolean n f) (hj : 0 ≤ j.toInt ∧ j.toInt < n) (hg : g.method = m) (hs : g.stack = .int x :: .int j :: .ref a :: rest) (hd : decode c.code g.pc = .ok (.bastore, 1)) :
    ∃ T' h', Stand p l e R s m args below meth c T' (locs ++ [⟨a, j.toNatClampNeg⟩]) cells slots ∧ T'.heap = h' ∧ AvI Z h' a .boolean n (fun i => if i = j.toInt.toNat then nar .boolean x else f i) ∧ Wr h h' a j.toNatClampNeg (.int (nar .boolean x)) ∧ ∀ t, Steps p.tables e below (T'.setTop { g with pc := g.pc + 1, stack := rest }) t → Steps p.tables e below (T.setTop g) t := by
  obtain ⟨c, A', S, M, H⟩ := id A
  obtain ⟨T', h', X', e', W, st⟩ := stZ X hx hZ e0 A' (inb S hj) hg hs hd
  exact ⟨T', h', X', e', A.set hj W, W, st⟩
theorem snoc {k : Nat} (N : Fr k locs) (q : k ≤ a) : Fr k (locs ++ [⟨a, sl⟩]) := N.app fun y hy => by cases List.mem_singleton.mp hy; exact q
theorem nmI {v x : Int32} {pc : Nat} {ls : Array Slot} {st : List Value} {t : State} (q : v = x) (k : Steps p.tables e below (T.setTop (mkF m pc ls (.int v :: st))) t) : Steps p.tables e below (T.setTop (mkF m pc ls (.int x :: st))) t := by subst q; exact k
theorem nmJ {v x : Int64} {pc : Nat} {ls : Array Slot} {st : List Value} {t : State} (q : v = x) (k : Steps p.tables e below (T.setTop (mkF m pc ls (.long v :: st))) t) : Steps p.tables e below (T.setTop (mkF m pc ls (.long x :: st))) t := by subst q; exact k
theorem ne_of {x y : Nat} (q : @Ne Nat x y) : @Ne Addr x y := q
theorem ldZ (X : Stand p l e R s m args below meth c T locs cells slots) (hx : p.tables.exec = Jvm.exec) (hZ : Z.Warmed39 s.vm) (e0 : T.heap = h) (A : AvI Z h a .boolean n f) (hj : 0 ≤ j.toInt ∧ j.toInt < n) (hg : g.method = m) (hs : g.stack = .int j :: .ref a :: rest) (hd : decode c.code g.pc = .ok (.baload, 1)) :
    ∀ t, Steps p.tables e below (T.setTop { g with pc := g.pc + 1, stack := .int (f j.toInt.toNat) :: rest }) t → Steps p.tables e below (T.setTop g) t := by
  obtain ⟨c, A, S, M, H⟩ := A
  exact fun t k => X.baloadBooleans hx (by rw [e0]; exact A.1) (State.isArrayOf_alike hZ.alike A.2.1) A.2.2 (inb S hj) (by rw [(clamp hj).1]; exact H _ (by omega)) hg hs hd _ k
theorem lrem_eq (x y : Int64) : x - x / y * y = x % y := by
  apply Int64.toInt_inj.mp
  have hy := Int64.toInt_mod x y
  have q := Int64.toInt_div x y
  rw [hy, Int64.toInt_sub, Int64.toInt_mul, q]
  have h1 := Int.tmod_add_mul_tdiv x.toInt y.toInt
  have h2 : x.toInt.tmod y.toInt = x.toInt - x.toInt.tdiv y.toInt * y.toInt := by rw [Int.mul_comm]; omega
  have h3 := rng64 x
  have h4 := rng64 y
  have h5 : (x.toInt.tmod y.toInt) % (2 ^ 64) = (x.toInt - x.toInt.tdiv y.toInt * y.toInt) % (2 ^ 64) := by rw [h2]
  have h6 : -2 ^ 63 ≤ x.toInt.tmod y.toInt ∧ x.toInt.tmod y.toInt < 2 ^ 63 := by rw [← hy]; exact ⟨(x % y).le_toInt, (x % y).toInt_lt⟩
  rw [← Int.bmod_eq_of_le (n := x.toInt.tmod y.toInt) (m := 2 ^ 64) (by omega) (by omega), h2]
  simp only [Int.bmod_sub_bmod, Int.sub_bmod_bmod, Int.bmod_mul_bmod, Int.mul_bmod_bmod]
theorem lremM {t : State} (X : Stand p l e R s m args below meth c T locs cells slots) (hx : p.tables.exec = Jvm.exec) (hg : g.method = m) {x y : Int64} (hd : decode c.code g.pc = .ok (.lrem, 1)) (hs : g.stack = .long y :: .long x :: rest) (hy : y ≠ 0)
    (hr : Steps p.tables e below (T.setTop { g with pc := g.pc + 1, stack := .long (x % y) :: rest }) t) : Steps p.tables e below (T.setTop g) t :=
  XS.lrem X.here hx hg hd hs hy (by rw [lrem_eq]; exact hr)
/-- a boolean as an int -/
def b2i (b : Bool) : Int32 := if b then 1 else 0
theorem b2i_t : b2i true = 1 := rfl
theorem b2i_f : b2i false = 0 := rfl
theorem b2i_nar (b : Bool) : nar .boolean (b2i b) = b2i b := by cases b <;> decide
theorem b2i_eq0 {b : Bool} : b2i b = 0 ↔ ¬ b = true := by cases b <;> decide
theorem b2i_inj {b b' : Bool} : b2i b = b2i b' ↔ b = b' := by cases b <;> cases b' <;> decide
end Kit
end Jvm.Own
namespace Jvm.Pilot.@@N@@
open Jvm Jvm.ClassFile Sem Op Lib Jvm.Free Jvm.Stand Jvm.LawKit Jvm.RoadKit Bundle Jvm.Pilot.@@N@@.Jvm.D
theorem own_eq {a b : Int32} : a = b ↔ a.toInt = b.toInt := Int32.toInt_inj.symm
theorem own_lt {a b : Int32} : a < b ↔ a.toInt < b.toInt := Int32.lt_iff_toInt_lt
theorem own_and255 (x : Int32) : (x &&& 255).toInt = x.toInt % 256 := Jvm.Kit.i32_mask x 255 (k := 8) (by decide) (by decide)
def own_byte (v : Int32) : Int32 := nar .byte v.toInt8.toInt32
def own_put (g : Nat → Int32) (i v : Int32) : Nat → Int32 := fun k => if k = i.toInt.toNat then own_byte v else g k
def own_mark (g : Nat → Int32) (s e : Int32) : Bool := decide (¬ e - s < 3 ∧ g s.toInt.toNat &&& 255 = 239 ∧ g (s + 1).toInt.toNat &&& 255 = 187 ∧ g (s + 2).toInt.toNat &&& 255 = 191)
theorem own_k : (0 : Int32).toInt = 0 ∧ (1 : Int32).toInt = 1 ∧ (2 : Int32).toInt = 2 ∧ (3 : Int32).toInt = 3 ∧ (8 : Int32).toInt = 8 ∧ (9 : Int32).toInt = 9 := by decide
theorem own_byteT {v : Int32} (h : 0 ≤ v.toInt ∧ v.toInt ≤ 255) : own_byte v &&& 255 = v := by
  rw [own_eq, own_and255]
  have e1 : v.toInt8.toInt32.toInt = v.toInt.bmod (2 ^ 8) := by rw [Int8.toInt_toInt32, Int32.toInt_toInt8]
  have e2 : (own_byte v).toInt = v.toInt.bmod (2 ^ 8) := by
    show (v.toInt8.toInt32.toInt8.toInt32).toInt = _
    rw [Int8.toInt_toInt32, Int32.toInt_toInt8, e1]; simp
  rw [e2, Int.bmod_def]; omega
theorem own_p1 {s s' : Int32} (h : 0 ≤ s.toInt ∧ s.toInt ≤ 7) (e : s' = s + 1) : s'.toInt = s.toInt + 1 := by
  have := own_k
  rw [e, Jvm.Kit.i32_add] <;> omega
theorem own_pl1 {s : Int32} (h : 0 ≤ s.toInt ∧ s.toInt ≤ 7) : (s + 1).toInt = s.toInt + 1 := own_p1 h rfl
theorem own_pl2 {s : Int32} (h : 0 ≤ s.toInt ∧ s.toInt ≤ 7) : (s + 2).toInt = s.toInt + 2 := by
  have := own_k
  rw [Jvm.Kit.i32_add] <;> omega
theorem own_start {s x : Int32} (h : s = x &&& 7) : 0 ≤ s.toInt ∧ s.toInt ≤ 7 := by
  have e : (x &&& 7).toInt = x.toInt % 2 ^ 3 := Jvm.Kit.i32_mask x 7 (k := 3) (by decide) (by decide)
  rw [h, e]; omega
theorem own_9 {s : Int32} (h : 0 ≤ s.toInt ∧ s.toInt ≤ 7) : (9 - s).toInt = 9 - s.toInt := by
  have := own_k
  rw [Jvm.Kit.i32_sub] <;> omega
theorem own_nz {s : Int32} (h : 0 ≤ s.toInt ∧ s.toInt ≤ 7) : (9 - s) ≠ 0 := fun q => by
  have e := own_9 h
  rw [q] at e
  have := own_k; omega
theorem own_end {s t x : Int32} (h : 0 ≤ s.toInt ∧ s.toInt ≤ 7) (e : t = s + (x &&& 2147483647) % (9 - s)) : s.toInt ≤ t.toInt ∧ t.toInt ≤ 8 := by
  have hm : (x &&& 2147483647).toInt = x.toInt % 2 ^ 31 := Jvm.Kit.i32_mask x 2147483647 (k := 31) (by decide) (by decide)
  have hr : ((x &&& 2147483647) % (9 - s)).toInt = (x &&& 2147483647).toInt % (9 - s).toInt := Jvm.Kit.i32_rem_nonneg (by omega)
  rw [own_9 h] at hr
  have b1 := Int.emod_nonneg (x &&& 2147483647).toInt (by omega : (9 - s.toInt) ≠ 0)
  have b2 := Int.emod_lt_of_pos (x &&& 2147483647).toInt (by omega : 0 < 9 - s.toInt)
  rw [e, Jvm.Kit.i32_add, hr] <;> (try rw [hr]) <;> omega
theorem own_dif {s t : Int32} (h : 0 ≤ s.toInt ∧ s.toInt ≤ 7) (ht : s.toInt ≤ t.toInt ∧ t.toInt ≤ 8) : (t - s).toInt = t.toInt - s.toInt := by
  rw [Jvm.Kit.i32_sub] <;> omega
theorem own_fin {g : Nat → Int32} {s t v0 v1 v2 : Int32} (h : 0 ≤ s.toInt ∧ s.toInt ≤ 7) (h0 : 0 ≤ v0.toInt ∧ v0.toInt ≤ 255) (h1 : 0 ≤ v1.toInt ∧ v1.toInt ≤ 255) (h2 : 0 ≤ v2.toInt ∧ v2.toInt ≤ 255) :
    own_mark (own_put (own_put (own_put g s v0) (s + 1) v1) (s + 2) v2) s t = decide (¬ t - s < 3 ∧ v0 = 239 ∧ v1 = 187 ∧ v2 = 191) := by
  unfold own_mark
  have o1 := own_pl1 h
  have o2 := own_pl2 h
  have e0 : own_put (own_put (own_put g s v0) (s + 1) v1) (s + 2) v2 s.toInt.toNat = own_byte v0 := by
    unfold own_put; rw [if_neg (by omega), if_neg (by omega), if_pos rfl]
  have e1 : own_put (own_put (own_put g s v0) (s + 1) v1) (s + 2) v2 (s + 1).toInt.toNat = own_byte v1 := by
    unfold own_put; rw [if_neg (by omega), if_pos rfl]
  have e2 : own_put (own_put (own_put g s v0) (s + 1) v1) (s + 2) v2 (s + 2).toInt.toNat = own_byte v2 := by
    unfold own_put; rw [if_pos rfl]
  rw [e0, e1, e2, own_byteT h0, own_byteT h1, own_byteT h2]
theorem d1_0 : decode method_3_code 0 = .ok (.iload_n 2, 1) := by decide +kernel
theorem d1_1 : decode method_3_code 1 = .ok (.bipush 8, 2) := by decide +kernel
theorem d1_3 : decode method_3_code 3 = .ok (.if_icmp .ge 15, 3) := by decide +kernel
theorem d1_6 : decode method_3_code 6 = .ok (.lload_n 0, 1) := by decide +kernel
theorem d1_7 : decode method_3_code 7 = .ok (.bipush 8, 2) := by decide +kernel
theorem d1_9 : decode method_3_code 9 = .ok (.iload_n 2, 1) := by decide +kernel
theorem d1_10 : decode method_3_code 10 = .ok (.imul, 1) := by decide +kernel
theorem d1_11 : decode method_3_code 11 = .ok (.lushr, 1) := by decide +kernel
theorem d1_12 : decode method_3_code 12 = .ok (.l2i, 1) := by decide +kernel
theorem d1_13 : decode method_3_code 13 = .ok (.sipush 255, 3) := by decide +kernel
theorem d1_16 : decode method_3_code 16 = .ok (.iand, 1) := by decide +kernel
theorem d1_17 : decode method_3_code 17 = .ok (.ireturn, 1) := by decide +kernel
theorem d1_18 : decode method_3_code 18 = .ok (.iconst 0, 1) := by decide +kernel
theorem d1_19 : decode method_3_code 19 = .ok (.ireturn, 1) := by decide +kernel
theorem pn_0 : plainName "org/wireform/json/JsonReaderPastByteOrderMarkPinLaw" = true := by first | (simp [plainName, overriddenIn]; done) | decide +kernel
theorem ef_1 (m : MethodId) (q0 : Int64) (p1 : Int32) : entryFrame m #[(.long q0), (.int p1)] 3 = mkF m 0 #[.val (.long q0), .second, .val (.int p1)] [] := by first | (simp [entryFrame, mkF, argsToLocals, Value.category]; done) | rfl
def Q1 (Z : State) (q0 : Int64) (p1 : Int32) (h0 : Heap) (n0 : Nat) (v : Option Value) (h : Heap) (L : List Loc) : Prop := (∃ r : Int32, v = some (.int r) ∧ 0 ≤ r.toInt ∧ r.toInt ≤ 255) ∧ Fr n0 L ∧ h = h0
set_option maxRecDepth 65536 in
set_option maxHeartbeats 40000000 in
theorem rm1 (l : Launch) (Z : State) (a0 : Array Value) (hw : ∀ d ∈ tables_1, d.before a0 Z = true) (ws : List Jvm.Cond) (q0 : Int64) (p1 : Int32) (h0 : Heap) (n0 : Nat) :
    MetFree l (⟨"org/wireform/json/JsonReaderPastByteOrderMarkPinLaw", "byteOf", "(JI)I"⟩ : MethodName) (head1 (Jvm.Cond.code (⟨"org/wireform/json/JsonReaderPastByteOrderMarkPinLaw", "byteOf", "(JI)I"⟩ : MethodName) method_3_code 3 (some .int) :: ws) ({ frames := 0, cells := 0, slots := 0, locals := 0 } : Room)) (fun a U => a = #[(.long q0), (.int p1)] ∧ Z.Warmed39 U.vm ∧ U.heap = h0) (fun _ _ _ _ _ => True) (fun _ U o U' => ∃ v L, o = .returned v ∧ Q1 Z q0 p1 h0 n0 v U'.heap L ∧ FrameEnd U o U' L ({ frames := 0, cells := 0, slots := 0, locals := 0 } : Room).cells ({ frames := 0, cells := 0, slots := 0, locals := 0 } : Room).slots) := by
  refine Own.enter (Q := Q1 Z q0 p1 h0 n0) (plainFor_of_name pn_0) ?_
  intro p e s m below meth c s₁ D hx hby hml hown hnm hret hZ X0 e0 hD hR
  have N0 := Fr.nil n0
  rw [show entryFrame m #[(.long q0), (.int p1)] 3 = mkF m 0 #[.val (.long q0), .second, .val (.int p1)] [] from ef_1 m q0 p1]
  refine hD _ (s₁.setTop (mkF m 3 #[.val (.long q0), .second, .val (.int p1)] [(.int (8 : Int32)), (.int p1)])) (fun t k => ?_) ?_
  · show Steps p.tables e below (s₁.setTop (mkF m 0 #[.val (.long q0), .second, .val (.int p1)] [])) t
    refine XS.iloadN X0.here hx rfl (hb hby d1_0) rfl ?_
    show Steps p.tables e below (s₁.setTop (mkF m 1 #[.val (.long q0), .second, .val (.int p1)] [(.int p1)])) t
    refine XS.bipush X0.here hx rfl (hb hby d1_1) ?_
    show Steps p.tables e below (s₁.setTop (mkF m 3 #[.val (.long q0), .second, .val (.int p1)] [(.int (8 : Int32)), (.int p1)])) t
    exact k
  by_cases hc1 : p1 < (8 : Int32)
  · refine hD _ (s₁.setTop (mkF m 17 #[.val (.long q0), .second, .val (.int p1)] [(.int ((((q0.toUInt64 >>> (((8 : Int32) * p1) &&& 0x3f).toInt64.toUInt64).toInt64).toInt32) &&& (255 : Int32)))])) (fun t k => ?_) ?_
    · show Steps p.tables e below (s₁.setTop (mkF m 3 #[.val (.long q0), .second, .val (.int p1)] [(.int (8 : Int32)), (.int p1)])) t
      refine XS.icmpNo X0.here hx rfl (hb hby d1_3) rfl (tlt hc1).2.1 ?_
      show Steps p.tables e below (s₁.setTop (mkF m 6 #[.val (.long q0), .second, .val (.int p1)] [])) t
      refine XS.lloadN X0.here hx rfl (hb hby d1_6) rfl ?_
      show Steps p.tables e below (s₁.setTop (mkF m 7 #[.val (.long q0), .second, .val (.int p1)] [(.long q0)])) t
      refine XS.bipush X0.here hx rfl (hb hby d1_7) ?_
      show Steps p.tables e below (s₁.setTop (mkF m 9 #[.val (.long q0), .second, .val (.int p1)] [(.int (8 : Int32)), (.long q0)])) t
      refine XS.iloadN X0.here hx rfl (hb hby d1_9) rfl ?_
      show Steps p.tables e below (s₁.setTop (mkF m 10 #[.val (.long q0), .second, .val (.int p1)] [(.int p1), (.int (8 : Int32)), (.long q0)])) t
      refine XS.imul X0.here hx rfl (hb hby d1_10) rfl ?_
      show Steps p.tables e below (s₁.setTop (mkF m 11 #[.val (.long q0), .second, .val (.int p1)] [(.int ((8 : Int32) * p1)), (.long q0)])) t
      refine XS.lushr X0.here hx rfl (hb hby d1_11) rfl ?_
      show Steps p.tables e below (s₁.setTop (mkF m 12 #[.val (.long q0), .second, .val (.int p1)] [(.long ((q0.toUInt64 >>> (((8 : Int32) * p1) &&& 0x3f).toInt64.toUInt64).toInt64))])) t
      refine XS.l2i X0.here hx rfl (hb hby d1_12) rfl ?_
      show Steps p.tables e below (s₁.setTop (mkF m 13 #[.val (.long q0), .second, .val (.int p1)] [(.int (((q0.toUInt64 >>> (((8 : Int32) * p1) &&& 0x3f).toInt64.toUInt64).toInt64).toInt32))])) t
      refine XS.sipush X0.here hx rfl (hb hby d1_13) ?_
      show Steps p.tables e below (s₁.setTop (mkF m 16 #[.val (.long q0), .second, .val (.int p1)] [(.int (255 : Int32)), (.int (((q0.toUInt64 >>> (((8 : Int32) * p1) &&& 0x3f).toInt64.toUInt64).toInt64).toInt32))])) t
      refine XS.iand X0.here hx rfl (hb hby d1_16) rfl ?_
      show Steps p.tables e below (s₁.setTop (mkF m 17 #[.val (.long q0), .second, .val (.int p1)] [(.int ((((q0.toUInt64 >>> (((8 : Int32) * p1) &&& 0x3f).toInt64.toUInt64).toInt64).toInt32) &&& (255 : Int32)))])) t
      exact k
    exact Own.retI hR X0 hx hret (hb hby d1_17) (by decide) (by decide) ⟨⟨_, rfl, by rw [own_and255]; omega, by rw [own_and255]; omega⟩, N0, e0⟩
  · refine hD _ (s₁.setTop (mkF m 19 #[.val (.long q0), .second, .val (.int p1)] [(.int (0 : Int32))])) (fun t k => ?_) ?_
    · show Steps p.tables e below (s₁.setTop (mkF m 3 #[.val (.long q0), .second, .val (.int p1)] [(.int (8 : Int32)), (.int p1)])) t
      refine XS.icmpYes X0.here hx rfl (pc0 := 3) (pc' := 18) rfl (hb hby d1_3) rfl (flt hc1).2.1 (by decide) (by decide) ?_
      show Steps p.tables e below (s₁.setTop (mkF m 18 #[.val (.long q0), .second, .val (.int p1)] [])) t
      refine XS.iconst X0.here hx rfl (hb hby d1_18) ?_
      show Steps p.tables e below (s₁.setTop (mkF m 19 #[.val (.long q0), .second, .val (.int p1)] [(.int (0 : Int32))])) t
      exact k
    exact Own.retI hR X0 hx hret (hb hby d1_19) (by decide) (by decide) ⟨⟨_, rfl, by decide, by decide⟩, N0, e0⟩
theorem d2_0 : decode method_4_code 0 = .ok (.iload_n 1, 1) := by decide +kernel
theorem d2_1 : decode method_4_code 1 = .ok (.bipush 8, 2) := by decide +kernel
theorem d2_3 : decode method_4_code 3 = .ok (.if_icmp .ge 8, 3) := by decide +kernel
theorem d2_6 : decode method_4_code 6 = .ok (.aload_n 0, 1) := by decide +kernel
theorem d2_7 : decode method_4_code 7 = .ok (.iload_n 1, 1) := by decide +kernel
theorem d2_8 : decode method_4_code 8 = .ok (.iload_n 2, 1) := by decide +kernel
theorem d2_9 : decode method_4_code 9 = .ok (.i2b, 1) := by decide +kernel
theorem d2_10 : decode method_4_code 10 = .ok (.bastore, 1) := by decide +kernel
theorem d2_11 : decode method_4_code 11 = .ok (.return_, 1) := by decide +kernel
theorem ef_2 (m : MethodId) (o0 : Addr) (p1 : Int32) (p2 : Int32) : entryFrame m #[(.ref o0), (.int p1), (.int p2)] 3 = mkF m 0 #[.val (.ref o0), .val (.int p1), .val (.int p2)] [] := by first | (simp [entryFrame, mkF, argsToLocals, Value.category]; done) | rfl
def Q2 (Z : State) (o0 : Nat) (p1 : Int32) (p2 : Int32) (g : Nat → Int32) (h0 : Heap) (n0 : Nat) (v : Option Value) (h : Heap) (L : List Loc) : Prop := v = none ∧ Fr n0 L ∧ Own.AvI Z h o0 .byte 8 (own_put g p1 p2)
set_option maxRecDepth 65536 in
set_option maxHeartbeats 40000000 in
theorem rm2 (l : Launch) (Z : State) (a0 : Array Value) (hw : ∀ d ∈ tables_1, d.before a0 Z = true) (ws : List Jvm.Cond) (o0 : Nat) (p1 : Int32) (p2 : Int32) (g : Nat → Int32) (h0 : Heap) (n0 : Nat) (Z0 : n0 ≤ h0.size) (g0 : n0 ≤ o0) (hi : 0 ≤ p1.toInt) (A0 : Own.AvI Z h0 o0 .byte 8 g) :
    MetFree l (⟨"org/wireform/json/JsonReaderPastByteOrderMarkPinLaw", "put", "([BII)V"⟩ : MethodName) (head1 (Jvm.Cond.code (⟨"org/wireform/json/JsonReaderPastByteOrderMarkPinLaw", "put", "([BII)V"⟩ : MethodName) method_4_code 3 none :: ws) ({ frames := 0, cells := 0, slots := 0, locals := 0 } : Room)) (fun a U => a = #[(.ref o0), (.int p1), (.int p2)] ∧ Z.Warmed39 U.vm ∧ U.heap = h0) (fun _ _ _ _ _ => True) (fun _ U o U' => ∃ v L, o = .returned v ∧ Q2 Z o0 p1 p2 g h0 n0 v U'.heap L ∧ FrameEnd U o U' L ({ frames := 0, cells := 0, slots := 0, locals := 0 } : Room).cells ({ frames := 0, cells := 0, slots := 0, locals := 0 } : Room).slots) := by
  refine Own.enter (Q := Q2 Z o0 p1 p2 g h0 n0) (plainFor_of_name pn_0) ?_
  intro p e s m below meth c s₁ D hx hby hml hown hnm hret hZ X0 e0 hD hR
  have N0 := Fr.nil n0
  rw [show entryFrame m #[(.ref o0), (.int p1), (.int p2)] 3 = mkF m 0 #[.val (.ref o0), .val (.int p1), .val (.int p2)] [] from ef_2 m o0 p1 p2]
  refine hD _ (s₁.setTop (mkF m 3 #[.val (.ref o0), .val (.int p1), .val (.int p2)] [(.int (8 : Int32)), (.int p1)])) (fun t k => ?_) ?_
  · show Steps p.tables e below (s₁.setTop (mkF m 0 #[.val (.ref o0), .val (.int p1), .val (.int p2)] [])) t
    refine XS.iloadN X0.here hx rfl (hb hby d2_0) rfl ?_
    show Steps p.tables e below (s₁.setTop (mkF m 1 #[.val (.ref o0), .val (.int p1), .val (.int p2)] [(.int p1)])) t
    refine XS.bipush X0.here hx rfl (hb hby d2_1) ?_
    show Steps p.tables e below (s₁.setTop (mkF m 3 #[.val (.ref o0), .val (.int p1), .val (.int p2)] [(.int (8 : Int32)), (.int p1)])) t
    exact k
  by_cases hc1 : p1 < (8 : Int32)
  · have hj2 : 0 ≤ p1.toInt ∧ p1.toInt < (8 : Nat) := ⟨hi, by have q := hc1; rw [own_lt] at q; have := own_k; omega⟩
    obtain ⟨T3, h3, X3, e3, A3, W3, st3⟩ := Own.stoB X0 hx hZ e0 A0 hj2 (g := (mkF m 10 #[.val (.ref o0), .val (.int p1), .val (.int p2)] [(.int (p2.toInt8.toInt32)), (.int p1), (.ref o0)])) rfl rfl (hb hby d2_10)
    have N3 := Fr.snoc X3 N0 (show n0 ≤ o0 by omega)
    have Z3 : n0 ≤ h3.size := Nat.le_trans Z0 (Keep.of_wr W3).1
    refine hD _ (T3.setTop (mkF m 11 #[.val (.ref o0), .val (.int p1), .val (.int p2)] [])) (fun t k => ?_) ?_
    · show Steps p.tables e below (s₁.setTop (mkF m 3 #[.val (.ref o0), .val (.int p1), .val (.int p2)] [(.int (8 : Int32)), (.int p1)])) t
      refine XS.icmpNo X0.here hx rfl (hb hby d2_3) rfl (tlt hc1).2.1 ?_
      show Steps p.tables e below (s₁.setTop (mkF m 6 #[.val (.ref o0), .val (.int p1), .val (.int p2)] [])) t
      refine XS.aloadN X0.here hx rfl (hb hby d2_6) rfl rfl ?_
      show Steps p.tables e below (s₁.setTop (mkF m 7 #[.val (.ref o0), .val (.int p1), .val (.int p2)] [(.ref o0)])) t
      refine XS.iloadN X0.here hx rfl (hb hby d2_7) rfl ?_
      show Steps p.tables e below (s₁.setTop (mkF m 8 #[.val (.ref o0), .val (.int p1), .val (.int p2)] [(.int p1), (.ref o0)])) t
      refine XS.iloadN X0.here hx rfl (hb hby d2_8) rfl ?_
      show Steps p.tables e below (s₁.setTop (mkF m 9 #[.val (.ref o0), .val (.int p1), .val (.int p2)] [(.int p2), (.int p1), (.ref o0)])) t
      refine XS.i2b X0.here hx rfl (hb hby d2_9) rfl ?_
      show Steps p.tables e below (s₁.setTop (mkF m 10 #[.val (.ref o0), .val (.int p1), .val (.int p2)] [(.int (p2.toInt8.toInt32)), (.int p1), (.ref o0)])) t
      refine st3 _ ?_
      show Steps p.tables e below (T3.setTop (mkF m 11 #[.val (.ref o0), .val (.int p1), .val (.int p2)] [])) t
      exact k
    exact Own.retV hR X3 hx hret (hb hby d2_11) (by decide) (by decide) ⟨rfl, N3, by rw [e3]; exact A3.congr fun i _ => rfl⟩
  · refine hD _ (s₁.setTop (mkF m 11 #[.val (.ref o0), .val (.int p1), .val (.int p2)] [])) (fun t k => ?_) ?_
    · show Steps p.tables e below (s₁.setTop (mkF m 3 #[.val (.ref o0), .val (.int p1), .val (.int p2)] [(.int (8 : Int32)), (.int p1)])) t
      refine XS.icmpYes X0.here hx rfl (pc0 := 3) (pc' := 11) rfl (hb hby d2_3) rfl (flt hc1).2.1 (by decide) (by decide) ?_
      show Steps p.tables e below (s₁.setTop (mkF m 11 #[.val (.ref o0), .val (.int p1), .val (.int p2)] [])) t
      exact k
    exact Own.retV hR X0 hx hret (hb hby d2_11) (by decide) (by decide) ⟨rfl, N0, by rw [e0]; exact A0.congr fun i hi => if_neg (by have q := hc1; rw [own_lt] at q; have := own_k; omega)⟩
theorem d3_0 : decode prog_82_method_5_code 0 = .ok (.iload_n 2, 1) := by decide +kernel
theorem d3_1 : decode prog_82_method_5_code 1 = .ok (.iload_n 1, 1) := by decide +kernel
theorem d3_2 : decode prog_82_method_5_code 2 = .ok (.isub, 1) := by decide +kernel
theorem d3_3 : decode prog_82_method_5_code 3 = .ok (.iconst 3, 1) := by decide +kernel
theorem d3_4 : decode prog_82_method_5_code 4 = .ok (.if_icmp .lt 50, 3) := by decide +kernel
theorem d3_7 : decode prog_82_method_5_code 7 = .ok (.aload_n 0, 1) := by decide +kernel
theorem d3_8 : decode prog_82_method_5_code 8 = .ok (.iload_n 1, 1) := by decide +kernel
theorem d3_9 : decode prog_82_method_5_code 9 = .ok (.baload, 1) := by decide +kernel
theorem d3_10 : decode prog_82_method_5_code 10 = .ok (.sipush 255, 3) := by decide +kernel
theorem d3_13 : decode prog_82_method_5_code 13 = .ok (.iand, 1) := by decide +kernel
theorem d3_14 : decode prog_82_method_5_code 14 = .ok (.sipush 239, 3) := by decide +kernel
theorem d3_17 : decode prog_82_method_5_code 17 = .ok (.if_icmp .ne 37, 3) := by decide +kernel
theorem d3_20 : decode prog_82_method_5_code 20 = .ok (.aload_n 0, 1) := by decide +kernel
theorem d3_21 : decode prog_82_method_5_code 21 = .ok (.iload_n 1, 1) := by decide +kernel
theorem d3_22 : decode prog_82_method_5_code 22 = .ok (.iconst 1, 1) := by decide +kernel
theorem d3_23 : decode prog_82_method_5_code 23 = .ok (.iadd, 1) := by decide +kernel
theorem d3_24 : decode prog_82_method_5_code 24 = .ok (.baload, 1) := by decide +kernel
theorem d3_25 : decode prog_82_method_5_code 25 = .ok (.sipush 255, 3) := by decide +kernel
theorem d3_28 : decode prog_82_method_5_code 28 = .ok (.iand, 1) := by decide +kernel
theorem d3_29 : decode prog_82_method_5_code 29 = .ok (.sipush 187, 3) := by decide +kernel
theorem d3_32 : decode prog_82_method_5_code 32 = .ok (.if_icmp .ne 22, 3) := by decide +kernel
theorem d3_35 : decode prog_82_method_5_code 35 = .ok (.aload_n 0, 1) := by decide +kernel
theorem d3_36 : decode prog_82_method_5_code 36 = .ok (.iload_n 1, 1) := by decide +kernel
theorem d3_37 : decode prog_82_method_5_code 37 = .ok (.iconst 2, 1) := by decide +kernel
theorem d3_38 : decode prog_82_method_5_code 38 = .ok (.iadd, 1) := by decide +kernel
theorem d3_39 : decode prog_82_method_5_code 39 = .ok (.baload, 1) := by decide +kernel
theorem d3_40 : decode prog_82_method_5_code 40 = .ok (.sipush 255, 3) := by decide +kernel
theorem d3_43 : decode prog_82_method_5_code 43 = .ok (.iand, 1) := by decide +kernel
theorem d3_44 : decode prog_82_method_5_code 44 = .ok (.sipush 191, 3) := by decide +kernel
theorem d3_47 : decode prog_82_method_5_code 47 = .ok (.if_icmp .ne 7, 3) := by decide +kernel
theorem d3_50 : decode prog_82_method_5_code 50 = .ok (.iconst 1, 1) := by decide +kernel
theorem d3_51 : decode prog_82_method_5_code 51 = .ok (.goto 4, 3) := by decide +kernel
theorem d3_54 : decode prog_82_method_5_code 54 = .ok (.iconst 0, 1) := by decide +kernel
theorem d3_55 : decode prog_82_method_5_code 55 = .ok (.istore_n 3, 1) := by decide +kernel
theorem d3_56 : decode prog_82_method_5_code 56 = .ok (.iload_n 3, 1) := by decide +kernel
theorem d3_57 : decode prog_82_method_5_code 57 = .ok (.ifCond .eq 9, 3) := by decide +kernel
theorem d3_60 : decode prog_82_method_5_code 60 = .ok (.iload_n 1, 1) := by decide +kernel
theorem d3_61 : decode prog_82_method_5_code 61 = .ok (.iconst 3, 1) := by decide +kernel
theorem d3_62 : decode prog_82_method_5_code 62 = .ok (.iadd, 1) := by decide +kernel
theorem d3_63 : decode prog_82_method_5_code 63 = .ok (.goto 4, 3) := by decide +kernel
theorem d3_66 : decode prog_82_method_5_code 66 = .ok (.iload_n 1, 1) := by decide +kernel
theorem d3_67 : decode prog_82_method_5_code 67 = .ok (.ireturn, 1) := by decide +kernel
theorem pn_1 : plainName "org/wireform/json/JsonReader" = true := by first | (simp [plainName, overriddenIn]; done) | decide +kernel
theorem ef_3 (m : MethodId) (o0 : Addr) (p1 : Int32) (p2 : Int32) : entryFrame m #[(.ref o0), (.int p1), (.int p2)] 4 = mkF m 0 #[.val (.ref o0), .val (.int p1), .val (.int p2), .unset] [] := by first | (simp [entryFrame, mkF, argsToLocals, Value.category]; done) | rfl
def Q3 (Z : State) (o0 : Nat) (p1 : Int32) (p2 : Int32) (g : Nat → Int32) (h0 : Heap) (n0 : Nat) (v : Option Value) (h : Heap) (L : List Loc) : Prop := v = some (.int (if own_mark g p1 p2 = true then p1 + 3 else p1)) ∧ Fr n0 L ∧ h = h0
set_option maxRecDepth 65536 in
set_option maxHeartbeats 40000000 in
theorem rm3 (l : Launch) (Z : State) (a0 : Array Value) (hw : ∀ d ∈ tables_1, d.before a0 Z = true) (ws : List Jvm.Cond) (o0 : Nat) (p1 : Int32) (p2 : Int32) (g : Nat → Int32) (h0 : Heap) (n0 : Nat) (hs : 0 ≤ p1.toInt ∧ p1.toInt ≤ 7) (he : p1.toInt ≤ p2.toInt ∧ p2.toInt ≤ 8) (A0 : Own.AvI Z h0 o0 .byte 8 g) :
    MetFree l (⟨"org/wireform/json/JsonReader", "pastByteOrderMark", "([BII)I"⟩ : MethodName) (head1 (Jvm.Cond.code (⟨"org/wireform/json/JsonReader", "pastByteOrderMark", "([BII)I"⟩ : MethodName) prog_82_method_5_code 4 (some .int) :: ws) ({ frames := 0, cells := 0, slots := 0, locals := 0 } : Room)) (fun a U => a = #[(.ref o0), (.int p1), (.int p2)] ∧ Z.Warmed39 U.vm ∧ U.heap = h0) (fun _ _ _ _ _ => True) (fun _ U o U' => ∃ v L, o = .returned v ∧ Q3 Z o0 p1 p2 g h0 n0 v U'.heap L ∧ FrameEnd U o U' L ({ frames := 0, cells := 0, slots := 0, locals := 0 } : Room).cells ({ frames := 0, cells := 0, slots := 0, locals := 0 } : Room).slots) := by
  refine Own.enter (Q := Q3 Z o0 p1 p2 g h0 n0) (plainFor_of_name pn_1) ?_
  intro p e s m below meth c s₁ D hx hby hml hown hnm hret hZ X0 e0 hD hR
  have N0 := Fr.nil n0
  rw [show entryFrame m #[(.ref o0), (.int p1), (.int p2)] 4 = mkF m 0 #[.val (.ref o0), .val (.int p1), .val (.int p2), .unset] [] from ef_3 m o0 p1 p2]
  refine hD _ (s₁.setTop (mkF m 4 #[.val (.ref o0), .val (.int p1), .val (.int p2), .unset] [(.int (3 : Int32)), (.int (p2 - p1))])) (fun t k => ?_) ?_
  · show Steps p.tables e below (s₁.setTop (mkF m 0 #[.val (.ref o0), .val (.int p1), .val (.int p2), .unset] [])) t
    refine XS.iloadN X0.here hx rfl (hb hby d3_0) rfl ?_
    show Steps p.tables e below (s₁.setTop (mkF m 1 #[.val (.ref o0), .val (.int p1), .val (.int p2), .unset] [(.int p2)])) t
    refine XS.iloadN X0.here hx rfl (hb hby d3_1) rfl ?_
    show Steps p.tables e below (s₁.setTop (mkF m 2 #[.val (.ref o0), .val (.int p1), .val (.int p2), .unset] [(.int p1), (.int p2)])) t
    refine XS.isub X0.here hx rfl (hb hby d3_2) rfl ?_
    show Steps p.tables e below (s₁.setTop (mkF m 3 #[.val (.ref o0), .val (.int p1), .val (.int p2), .unset] [(.int (p2 - p1))])) t
    refine XS.iconst X0.here hx rfl (hb hby d3_3) ?_
    show Steps p.tables e below (s₁.setTop (mkF m 4 #[.val (.ref o0), .val (.int p1), .val (.int p2), .unset] [(.int (3 : Int32)), (.int (p2 - p1))])) t
    exact k
  by_cases hc1 : (p2 - p1) < (3 : Int32)
  · refine hD _ (s₁.setTop (mkF m 67 #[.val (.ref o0), .val (.int p1), .val (.int p2), .val (.int (0 : Int32))] [(.int p1)])) (fun t k => ?_) ?_
    · show Steps p.tables e below (s₁.setTop (mkF m 4 #[.val (.ref o0), .val (.int p1), .val (.int p2), .unset] [(.int (3 : Int32)), (.int (p2 - p1))])) t
      refine XS.icmpYes X0.here hx rfl (pc0 := 4) (pc' := 54) rfl (hb hby d3_4) rfl (tlt hc1).1 (by decide) (by decide) ?_
      show Steps p.tables e below (s₁.setTop (mkF m 54 #[.val (.ref o0), .val (.int p1), .val (.int p2), .unset] [])) t
      refine XS.iconst X0.here hx rfl (hb hby d3_54) ?_
      show Steps p.tables e below (s₁.setTop (mkF m 55 #[.val (.ref o0), .val (.int p1), .val (.int p2), .unset] [(.int (0 : Int32))])) t
      refine XS.istoreN X0.here hx rfl (hb hby d3_55) rfl (l' := #[.val (.ref o0), .val (.int p1), .val (.int p2), .val (.int (0 : Int32))]) rfl ?_
      show Steps p.tables e below (s₁.setTop (mkF m 56 #[.val (.ref o0), .val (.int p1), .val (.int p2), .val (.int (0 : Int32))] [])) t
      refine XS.iloadN X0.here hx rfl (hb hby d3_56) rfl ?_
      show Steps p.tables e below (s₁.setTop (mkF m 57 #[.val (.ref o0), .val (.int p1), .val (.int p2), .val (.int (0 : Int32))] [(.int (0 : Int32))])) t
      refine XS.ifYes X0.here hx rfl (pc0 := 57) (pc' := 66) rfl (hb hby d3_57) rfl (by decide) (by decide) (by decide) ?_
      show Steps p.tables e below (s₁.setTop (mkF m 66 #[.val (.ref o0), .val (.int p1), .val (.int p2), .val (.int (0 : Int32))] [])) t
      refine XS.iloadN X0.here hx rfl (hb hby d3_66) rfl ?_
      show Steps p.tables e below (s₁.setTop (mkF m 67 #[.val (.ref o0), .val (.int p1), .val (.int p2), .val (.int (0 : Int32))] [(.int p1)])) t
      exact k
    exact Own.retI hR X0 hx hret (hb hby d3_67) (by decide) (by decide) ⟨by rw [if_neg (show ¬ own_mark g p1 p2 = true by unfold own_mark; rw [decide_eq_true_eq]; rintro ⟨q1, q2, q3, q4⟩; first | exact q1 hc1 | exact hc1 q2 | exact hc1 q3 | exact hc1 q4)], N0, e0⟩
  · have hj2 : 0 ≤ p1.toInt ∧ p1.toInt < (8 : Nat) := by
      have q := hc1
      have ht' := own_dif hs he
      have kk := own_k
      rw [own_lt] at q
      omega
    refine hD _ (s₁.setTop (mkF m 17 #[.val (.ref o0), .val (.int p1), .val (.int p2), .unset] [(.int (239 : Int32)), (.int ((g p1.toInt.toNat) &&& (255 : Int32)))])) (fun t k => ?_) ?_
    · show Steps p.tables e below (s₁.setTop (mkF m 4 #[.val (.ref o0), .val (.int p1), .val (.int p2), .unset] [(.int (3 : Int32)), (.int (p2 - p1))])) t
      refine XS.icmpNo X0.here hx rfl (hb hby d3_4) rfl (flt hc1).1 ?_
      show Steps p.tables e below (s₁.setTop (mkF m 7 #[.val (.ref o0), .val (.int p1), .val (.int p2), .unset] [])) t
      refine XS.aloadN X0.here hx rfl (hb hby d3_7) rfl rfl ?_
      show Steps p.tables e below (s₁.setTop (mkF m 8 #[.val (.ref o0), .val (.int p1), .val (.int p2), .unset] [(.ref o0)])) t
      refine XS.iloadN X0.here hx rfl (hb hby d3_8) rfl ?_
      show Steps p.tables e below (s₁.setTop (mkF m 9 #[.val (.ref o0), .val (.int p1), .val (.int p2), .unset] [(.int p1), (.ref o0)])) t
      refine Own.ldB X0 hx hZ e0 A0 hj2 (g := (mkF m 9 #[.val (.ref o0), .val (.int p1), .val (.int p2), .unset] [(.int p1), (.ref o0)])) rfl rfl (hb hby d3_9) _ ?_
      show Steps p.tables e below (s₁.setTop (mkF m 10 #[.val (.ref o0), .val (.int p1), .val (.int p2), .unset] [(.int (g p1.toInt.toNat))])) t
      refine XS.sipush X0.here hx rfl (hb hby d3_10) ?_
      show Steps p.tables e below (s₁.setTop (mkF m 13 #[.val (.ref o0), .val (.int p1), .val (.int p2), .unset] [(.int (255 : Int32)), (.int (g p1.toInt.toNat))])) t
      refine XS.iand X0.here hx rfl (hb hby d3_13) rfl ?_
      show Steps p.tables e below (s₁.setTop (mkF m 14 #[.val (.ref o0), .val (.int p1), .val (.int p2), .unset] [(.int ((g p1.toInt.toNat) &&& (255 : Int32)))])) t
      refine XS.sipush X0.here hx rfl (hb hby d3_14) ?_
      show Steps p.tables e below (s₁.setTop (mkF m 17 #[.val (.ref o0), .val (.int p1), .val (.int p2), .unset] [(.int (239 : Int32)), (.int ((g p1.toInt.toNat) &&& (255 : Int32)))])) t
      exact k
    by_cases hc3 : ((g p1.toInt.toNat) &&& (255 : Int32)) = (239 : Int32)
    · have hj4 : 0 ≤ (p1 + (1 : Int32)).toInt ∧ (p1 + (1 : Int32)).toInt < (8 : Nat) := by
        have q := hc1
        have ht' := own_dif hs he
        have kk := own_k
        rw [own_lt] at q
        rw [own_pl1 hs]
        omega
      refine hD _ (s₁.setTop (mkF m 32 #[.val (.ref o0), .val (.int p1), .val (.int p2), .unset] [(.int (187 : Int32)), (.int ((g (p1 + (1 : Int32)).toInt.toNat) &&& (255 : Int32)))])) (fun t k => ?_) ?_
      · show Steps p.tables e below (s₁.setTop (mkF m 17 #[.val (.ref o0), .val (.int p1), .val (.int p2), .unset] [(.int (239 : Int32)), (.int ((g p1.toInt.toNat) &&& (255 : Int32)))])) t
        refine XS.icmpNo X0.here hx rfl (hb hby d3_17) rfl (teq hc3).2 ?_
        show Steps p.tables e below (s₁.setTop (mkF m 20 #[.val (.ref o0), .val (.int p1), .val (.int p2), .unset] [])) t
        refine XS.aloadN X0.here hx rfl (hb hby d3_20) rfl rfl ?_
        show Steps p.tables e below (s₁.setTop (mkF m 21 #[.val (.ref o0), .val (.int p1), .val (.int p2), .unset] [(.ref o0)])) t
        refine XS.iloadN X0.here hx rfl (hb hby d3_21) rfl ?_
        show Steps p.tables e below (s₁.setTop (mkF m 22 #[.val (.ref o0), .val (.int p1), .val (.int p2), .unset] [(.int p1), (.ref o0)])) t
        refine XS.iconst X0.here hx rfl (hb hby d3_22) ?_
        show Steps p.tables e below (s₁.setTop (mkF m 23 #[.val (.ref o0), .val (.int p1), .val (.int p2), .unset] [(.int (1 : Int32)), (.int p1), (.ref o0)])) t
        refine XS.iadd X0.here hx rfl (hb hby d3_23) rfl ?_
        show Steps p.tables e below (s₁.setTop (mkF m 24 #[.val (.ref o0), .val (.int p1), .val (.int p2), .unset] [(.int (p1 + (1 : Int32))), (.ref o0)])) t
        refine Own.ldB X0 hx hZ e0 A0 hj4 (g := (mkF m 24 #[.val (.ref o0), .val (.int p1), .val (.int p2), .unset] [(.int (p1 + (1 : Int32))), (.ref o0)])) rfl rfl (hb hby d3_24) _ ?_
        show Steps p.tables e below (s₁.setTop (mkF m 25 #[.val (.ref o0), .val (.int p1), .val (.int p2), .unset] [(.int (g (p1 + (1 : Int32)).toInt.toNat))])) t
        refine XS.sipush X0.here hx rfl (hb hby d3_25) ?_
        show Steps p.tables e below (s₁.setTop (mkF m 28 #[.val (.ref o0), .val (.int p1), .val (.int p2), .unset] [(.int (255 : Int32)), (.int (g (p1 + (1 : Int32)).toInt.toNat))])) t
        refine XS.iand X0.here hx rfl (hb hby d3_28) rfl ?_
        show Steps p.tables e below (s₁.setTop (mkF m 29 #[.val (.ref o0), .val (.int p1), .val (.int p2), .unset] [(.int ((g (p1 + (1 : Int32)).toInt.toNat) &&& (255 : Int32)))])) t
        refine XS.sipush X0.here hx rfl (hb hby d3_29) ?_
        show Steps p.tables e below (s₁.setTop (mkF m 32 #[.val (.ref o0), .val (.int p1), .val (.int p2), .unset] [(.int (187 : Int32)), (.int ((g (p1 + (1 : Int32)).toInt.toNat) &&& (255 : Int32)))])) t
        exact k
      by_cases hc5 : ((g (p1 + (1 : Int32)).toInt.toNat) &&& (255 : Int32)) = (187 : Int32)
      · have hj6 : 0 ≤ (p1 + (2 : Int32)).toInt ∧ (p1 + (2 : Int32)).toInt < (8 : Nat) := by
          have q := hc1
          have ht' := own_dif hs he
          have kk := own_k
          rw [own_lt] at q
          rw [own_pl2 hs]
          omega
        refine hD _ (s₁.setTop (mkF m 47 #[.val (.ref o0), .val (.int p1), .val (.int p2), .unset] [(.int (191 : Int32)), (.int ((g (p1 + (2 : Int32)).toInt.toNat) &&& (255 : Int32)))])) (fun t k => ?_) ?_
        · show Steps p.tables e below (s₁.setTop (mkF m 32 #[.val (.ref o0), .val (.int p1), .val (.int p2), .unset] [(.int (187 : Int32)), (.int ((g (p1 + (1 : Int32)).toInt.toNat) &&& (255 : Int32)))])) t
          refine XS.icmpNo X0.here hx rfl (hb hby d3_32) rfl (teq hc5).2 ?_
          show Steps p.tables e below (s₁.setTop (mkF m 35 #[.val (.ref o0), .val (.int p1), .val (.int p2), .unset] [])) t
          refine XS.aloadN X0.here hx rfl (hb hby d3_35) rfl rfl ?_
          show Steps p.tables e below (s₁.setTop (mkF m 36 #[.val (.ref o0), .val (.int p1), .val (.int p2), .unset] [(.ref o0)])) t
          refine XS.iloadN X0.here hx rfl (hb hby d3_36) rfl ?_
          show Steps p.tables e below (s₁.setTop (mkF m 37 #[.val (.ref o0), .val (.int p1), .val (.int p2), .unset] [(.int p1), (.ref o0)])) t
          refine XS.iconst X0.here hx rfl (hb hby d3_37) ?_
          show Steps p.tables e below (s₁.setTop (mkF m 38 #[.val (.ref o0), .val (.int p1), .val (.int p2), .unset] [(.int (2 : Int32)), (.int p1), (.ref o0)])) t
          refine XS.iadd X0.here hx rfl (hb hby d3_38) rfl ?_
          show Steps p.tables e below (s₁.setTop (mkF m 39 #[.val (.ref o0), .val (.int p1), .val (.int p2), .unset] [(.int (p1 + (2 : Int32))), (.ref o0)])) t
          refine Own.ldB X0 hx hZ e0 A0 hj6 (g := (mkF m 39 #[.val (.ref o0), .val (.int p1), .val (.int p2), .unset] [(.int (p1 + (2 : Int32))), (.ref o0)])) rfl rfl (hb hby d3_39) _ ?_
          show Steps p.tables e below (s₁.setTop (mkF m 40 #[.val (.ref o0), .val (.int p1), .val (.int p2), .unset] [(.int (g (p1 + (2 : Int32)).toInt.toNat))])) t
          refine XS.sipush X0.here hx rfl (hb hby d3_40) ?_
          show Steps p.tables e below (s₁.setTop (mkF m 43 #[.val (.ref o0), .val (.int p1), .val (.int p2), .unset] [(.int (255 : Int32)), (.int (g (p1 + (2 : Int32)).toInt.toNat))])) t
          refine XS.iand X0.here hx rfl (hb hby d3_43) rfl ?_
          show Steps p.tables e below (s₁.setTop (mkF m 44 #[.val (.ref o0), .val (.int p1), .val (.int p2), .unset] [(.int ((g (p1 + (2 : Int32)).toInt.toNat) &&& (255 : Int32)))])) t
          refine XS.sipush X0.here hx rfl (hb hby d3_44) ?_
          show Steps p.tables e below (s₁.setTop (mkF m 47 #[.val (.ref o0), .val (.int p1), .val (.int p2), .unset] [(.int (191 : Int32)), (.int ((g (p1 + (2 : Int32)).toInt.toNat) &&& (255 : Int32)))])) t
          exact k
        by_cases hc7 : ((g (p1 + (2 : Int32)).toInt.toNat) &&& (255 : Int32)) = (191 : Int32)
        · refine hD _ (s₁.setTop (mkF m 67 #[.val (.ref o0), .val (.int p1), .val (.int p2), .val (.int (1 : Int32))] [(.int (p1 + (3 : Int32)))])) (fun t k => ?_) ?_
          · show Steps p.tables e below (s₁.setTop (mkF m 47 #[.val (.ref o0), .val (.int p1), .val (.int p2), .unset] [(.int (191 : Int32)), (.int ((g (p1 + (2 : Int32)).toInt.toNat) &&& (255 : Int32)))])) t
            refine XS.icmpNo X0.here hx rfl (hb hby d3_47) rfl (teq hc7).2 ?_
            show Steps p.tables e below (s₁.setTop (mkF m 50 #[.val (.ref o0), .val (.int p1), .val (.int p2), .unset] [])) t
            refine XS.iconst X0.here hx rfl (hb hby d3_50) ?_
            show Steps p.tables e below (s₁.setTop (mkF m 51 #[.val (.ref o0), .val (.int p1), .val (.int p2), .unset] [(.int (1 : Int32))])) t
            refine XS.goto X0.here hx rfl (pc0 := 51) (pc' := 55) rfl (hb hby d3_51) (by decide) (by decide) ?_
            show Steps p.tables e below (s₁.setTop (mkF m 55 #[.val (.ref o0), .val (.int p1), .val (.int p2), .unset] [(.int (1 : Int32))])) t
            refine XS.istoreN X0.here hx rfl (hb hby d3_55) rfl (l' := #[.val (.ref o0), .val (.int p1), .val (.int p2), .val (.int (1 : Int32))]) rfl ?_
            show Steps p.tables e below (s₁.setTop (mkF m 56 #[.val (.ref o0), .val (.int p1), .val (.int p2), .val (.int (1 : Int32))] [])) t
            refine XS.iloadN X0.here hx rfl (hb hby d3_56) rfl ?_
            show Steps p.tables e below (s₁.setTop (mkF m 57 #[.val (.ref o0), .val (.int p1), .val (.int p2), .val (.int (1 : Int32))] [(.int (1 : Int32))])) t
            refine XS.ifNo X0.here hx rfl (hb hby d3_57) rfl (by decide) ?_
            show Steps p.tables e below (s₁.setTop (mkF m 60 #[.val (.ref o0), .val (.int p1), .val (.int p2), .val (.int (1 : Int32))] [])) t
            refine XS.iloadN X0.here hx rfl (hb hby d3_60) rfl ?_
            show Steps p.tables e below (s₁.setTop (mkF m 61 #[.val (.ref o0), .val (.int p1), .val (.int p2), .val (.int (1 : Int32))] [(.int p1)])) t
            refine XS.iconst X0.here hx rfl (hb hby d3_61) ?_
            show Steps p.tables e below (s₁.setTop (mkF m 62 #[.val (.ref o0), .val (.int p1), .val (.int p2), .val (.int (1 : Int32))] [(.int (3 : Int32)), (.int p1)])) t
            refine XS.iadd X0.here hx rfl (hb hby d3_62) rfl ?_
            show Steps p.tables e below (s₁.setTop (mkF m 63 #[.val (.ref o0), .val (.int p1), .val (.int p2), .val (.int (1 : Int32))] [(.int (p1 + (3 : Int32)))])) t
            refine XS.goto X0.here hx rfl (pc0 := 63) (pc' := 67) rfl (hb hby d3_63) (by decide) (by decide) ?_
            show Steps p.tables e below (s₁.setTop (mkF m 67 #[.val (.ref o0), .val (.int p1), .val (.int p2), .val (.int (1 : Int32))] [(.int (p1 + (3 : Int32)))])) t
            exact k
          exact Own.retI hR X0 hx hret (hb hby d3_67) (by decide) (by decide) ⟨by rw [if_pos (show own_mark g p1 p2 = true from decide_eq_true ⟨hc1, hc3, hc5, hc7⟩)], N0, e0⟩
        · refine hD _ (s₁.setTop (mkF m 67 #[.val (.ref o0), .val (.int p1), .val (.int p2), .val (.int (0 : Int32))] [(.int p1)])) (fun t k => ?_) ?_
          · show Steps p.tables e below (s₁.setTop (mkF m 47 #[.val (.ref o0), .val (.int p1), .val (.int p2), .unset] [(.int (191 : Int32)), (.int ((g (p1 + (2 : Int32)).toInt.toNat) &&& (255 : Int32)))])) t
            refine XS.icmpYes X0.here hx rfl (pc0 := 47) (pc' := 54) rfl (hb hby d3_47) rfl (feq hc7).2 (by decide) (by decide) ?_
            show Steps p.tables e below (s₁.setTop (mkF m 54 #[.val (.ref o0), .val (.int p1), .val (.int p2), .unset] [])) t
            refine XS.iconst X0.here hx rfl (hb hby d3_54) ?_
            show Steps p.tables e below (s₁.setTop (mkF m 55 #[.val (.ref o0), .val (.int p1), .val (.int p2), .unset] [(.int (0 : Int32))])) t
            refine XS.istoreN X0.here hx rfl (hb hby d3_55) rfl (l' := #[.val (.ref o0), .val (.int p1), .val (.int p2), .val (.int (0 : Int32))]) rfl ?_
            show Steps p.tables e below (s₁.setTop (mkF m 56 #[.val (.ref o0), .val (.int p1), .val (.int p2), .val (.int (0 : Int32))] [])) t
            refine XS.iloadN X0.here hx rfl (hb hby d3_56) rfl ?_
            show Steps p.tables e below (s₁.setTop (mkF m 57 #[.val (.ref o0), .val (.int p1), .val (.int p2), .val (.int (0 : Int32))] [(.int (0 : Int32))])) t
            refine XS.ifYes X0.here hx rfl (pc0 := 57) (pc' := 66) rfl (hb hby d3_57) rfl (by decide) (by decide) (by decide) ?_
            show Steps p.tables e below (s₁.setTop (mkF m 66 #[.val (.ref o0), .val (.int p1), .val (.int p2), .val (.int (0 : Int32))] [])) t
            refine XS.iloadN X0.here hx rfl (hb hby d3_66) rfl ?_
            show Steps p.tables e below (s₁.setTop (mkF m 67 #[.val (.ref o0), .val (.int p1), .val (.int p2), .val (.int (0 : Int32))] [(.int p1)])) t
            exact k
          exact Own.retI hR X0 hx hret (hb hby d3_67) (by decide) (by decide) ⟨by rw [if_neg (show ¬ own_mark g p1 p2 = true by unfold own_mark; rw [decide_eq_true_eq]; rintro ⟨q1, q2, q3, q4⟩; first | exact q1 hc7 | exact hc7 q2 | exact hc7 q3 | exact hc7 q4)], N0, e0⟩
      · refine hD _ (s₁.setTop (mkF m 67 #[.val (.ref o0), .val (.int p1), .val (.int p2), .val (.int (0 : Int32))] [(.int p1)])) (fun t k => ?_) ?_
        · show Steps p.tables e below (s₁.setTop (mkF m 32 #[.val (.ref o0), .val (.int p1), .val (.int p2), .unset] [(.int (187 : Int32)), (.int ((g (p1 + (1 : Int32)).toInt.toNat) &&& (255 : Int32)))])) t
          refine XS.icmpYes X0.here hx rfl (pc0 := 32) (pc' := 54) rfl (hb hby d3_32) rfl (feq hc5).2 (by decide) (by decide) ?_
          show Steps p.tables e below (s₁.setTop (mkF m 54 #[.val (.ref o0), .val (.int p1), .val (.int p2), .unset] [])) t
          refine XS.iconst X0.here hx rfl (hb hby d3_54) ?_
          show Steps p.tables e below (s₁.setTop (mkF m 55 #[.val (.ref o0), .val (.int p1), .val (.int p2), .unset] [(.int (0 : Int32))])) t
          refine XS.istoreN X0.here hx rfl (hb hby d3_55) rfl (l' := #[.val (.ref o0), .val (.int p1), .val (.int p2), .val (.int (0 : Int32))]) rfl ?_
          show Steps p.tables e below (s₁.setTop (mkF m 56 #[.val (.ref o0), .val (.int p1), .val (.int p2), .val (.int (0 : Int32))] [])) t
          refine XS.iloadN X0.here hx rfl (hb hby d3_56) rfl ?_
          show Steps p.tables e below (s₁.setTop (mkF m 57 #[.val (.ref o0), .val (.int p1), .val (.int p2), .val (.int (0 : Int32))] [(.int (0 : Int32))])) t
          refine XS.ifYes X0.here hx rfl (pc0 := 57) (pc' := 66) rfl (hb hby d3_57) rfl (by decide) (by decide) (by decide) ?_
          show Steps p.tables e below (s₁.setTop (mkF m 66 #[.val (.ref o0), .val (.int p1), .val (.int p2), .val (.int (0 : Int32))] [])) t
          refine XS.iloadN X0.here hx rfl (hb hby d3_66) rfl ?_
          show Steps p.tables e below (s₁.setTop (mkF m 67 #[.val (.ref o0), .val (.int p1), .val (.int p2), .val (.int (0 : Int32))] [(.int p1)])) t
          exact k
        exact Own.retI hR X0 hx hret (hb hby d3_67) (by decide) (by decide) ⟨by rw [if_neg (show ¬ own_mark g p1 p2 = true by unfold own_mark; rw [decide_eq_true_eq]; rintro ⟨q1, q2, q3, q4⟩; first | exact q1 hc5 | exact hc5 q2 | exact hc5 q3 | exact hc5 q4)], N0, e0⟩
    · refine hD _ (s₁.setTop (mkF m 67 #[.val (.ref o0), .val (.int p1), .val (.int p2), .val (.int (0 : Int32))] [(.int p1)])) (fun t k => ?_) ?_
      · show Steps p.tables e below (s₁.setTop (mkF m 17 #[.val (.ref o0), .val (.int p1), .val (.int p2), .unset] [(.int (239 : Int32)), (.int ((g p1.toInt.toNat) &&& (255 : Int32)))])) t
        refine XS.icmpYes X0.here hx rfl (pc0 := 17) (pc' := 54) rfl (hb hby d3_17) rfl (feq hc3).2 (by decide) (by decide) ?_
        show Steps p.tables e below (s₁.setTop (mkF m 54 #[.val (.ref o0), .val (.int p1), .val (.int p2), .unset] [])) t
        refine XS.iconst X0.here hx rfl (hb hby d3_54) ?_
        show Steps p.tables e below (s₁.setTop (mkF m 55 #[.val (.ref o0), .val (.int p1), .val (.int p2), .unset] [(.int (0 : Int32))])) t
        refine XS.istoreN X0.here hx rfl (hb hby d3_55) rfl (l' := #[.val (.ref o0), .val (.int p1), .val (.int p2), .val (.int (0 : Int32))]) rfl ?_
        show Steps p.tables e below (s₁.setTop (mkF m 56 #[.val (.ref o0), .val (.int p1), .val (.int p2), .val (.int (0 : Int32))] [])) t
        refine XS.iloadN X0.here hx rfl (hb hby d3_56) rfl ?_
        show Steps p.tables e below (s₁.setTop (mkF m 57 #[.val (.ref o0), .val (.int p1), .val (.int p2), .val (.int (0 : Int32))] [(.int (0 : Int32))])) t
        refine XS.ifYes X0.here hx rfl (pc0 := 57) (pc' := 66) rfl (hb hby d3_57) rfl (by decide) (by decide) (by decide) ?_
        show Steps p.tables e below (s₁.setTop (mkF m 66 #[.val (.ref o0), .val (.int p1), .val (.int p2), .val (.int (0 : Int32))] [])) t
        refine XS.iloadN X0.here hx rfl (hb hby d3_66) rfl ?_
        show Steps p.tables e below (s₁.setTop (mkF m 67 #[.val (.ref o0), .val (.int p1), .val (.int p2), .val (.int (0 : Int32))] [(.int p1)])) t
        exact k
      exact Own.retI hR X0 hx hret (hb hby d3_67) (by decide) (by decide) ⟨by rw [if_neg (show ¬ own_mark g p1 p2 = true by unfold own_mark; rw [decide_eq_true_eq]; rintro ⟨q1, q2, q3, q4⟩; first | exact q1 hc3 | exact hc3 q2 | exact hc3 q3 | exact hc3 q4)], N0, e0⟩
theorem pd_0 : parseMethodDescriptor "([BII)V" = some ⟨[(.array .byte), .int, .int], none⟩ := by decide +kernel
theorem pd_1 : parseMethodDescriptor "([BII)I" = some ⟨[(.array .byte), .int, .int], some .int⟩ := by decide +kernel
theorem pd_2 : parseMethodDescriptor "(JI)I" = some ⟨[.long, .int], some .int⟩ := by decide +kernel
theorem ef_0 (m : MethodId) (p0 : Int32) (p1 : Int32) (q2 : Int64) (p3 : Int32) : entryFrame m #[(.int p0), (.int p1), (.long q2), (.int p3)] maxLocals = mkF m 0 #[.val (.int p0), .val (.int p1), .val (.long q2), .second, .val (.int p3), .unset, .unset, .unset, .unset, .unset, .unset, .unset, .unset, .unset, .unset, .unset] [] := by first | (simp [entryFrame, mkF, argsToLocals, Value.category, maxLocals]; done) | rfl
def Q0 (Z : State) (p0 : Int32) (p1 : Int32) (q2 : Int64) (p3 : Int32) (h0 : Heap) (n0 : Nat) (v : Option Value) (h : Heap) (L : List Loc) : Prop := v = some (.int 1) ∧ Fr n0 L
set_option maxRecDepth 65536 in
set_option maxHeartbeats 40000000 in
theorem rm0 (l : Launch) (Z : State) (a0 : Array Value) (hw : ∀ d ∈ tables_1, d.before a0 Z = true) (ws : List Jvm.Cond) (p0 : Int32) (p1 : Int32) (q2 : Int64) (p3 : Int32) (h0 : Heap) (n0 : Nat) (Z0 : n0 ≤ h0.size) :
    MetFree l x (head1 (Jvm.Cond.code x code maxLocals ret :: ws) room_1) (fun a U => a = #[(.int p0), (.int p1), (.long q2), (.int p3)] ∧ Z.Warmed39 U.vm ∧ U.heap = h0) (fun _ _ _ _ _ => True) (fun _ U o U' => ∃ v L, o = .returned v ∧ Q0 Z p0 p1 q2 p3 h0 n0 v U'.heap L ∧ FrameEnd U o U' L room_1.cells room_1.slots) := by
  refine Own.enter (Q := Q0 Z p0 p1 q2 p3 h0 n0) (plainFor_of_name pn_0) ?_
  intro p e s m below meth c s₁ D hx hby hml hown hnm hret hZ X0 e0 hD hR
  have N0 := Fr.nil n0
  rw [show entryFrame m #[(.int p0), (.int p1), (.long q2), (.int p3)] maxLocals = mkF m 0 #[.val (.int p0), .val (.int p1), .val (.long q2), .second, .val (.int p3), .unset, .unset, .unset, .unset, .unset, .unset, .unset, .unset, .unset, .unset, .unset] [] from ef_0 m p0 p1 q2 p3]
  obtain ⟨v1, hv1⟩ : ∃ z : Int32, z = (p0 &&& (7 : Int32)) := ⟨_, rfl⟩
  have hst := own_start hv1
  have hnz2 : ((9 : Int32) - v1) ≠ 0 := own_nz hst
  obtain ⟨v3, hv3⟩ : ∃ z : Int32, z = (v1 + ((p1 &&& (2147483647 : Int32)) % ((9 : Int32) - v1))) := ⟨_, rfl⟩
  have hen := own_end hst hv3
  obtain ⟨T4, h4, k4, X4, e4, E4, A4, st4⟩ := newP X0 hx hZ (hw _ (List.mem_of_getElem? (i := 1) rfl)) e0 (g := (mkF m 23 #[.val (.int p0), .val (.int p1), .val (.long q2), .second, .val (.int p3), .val (.int v1), .val (.int v3), .unset, .unset, .unset, .unset, .unset, .unset, .unset, .unset, .unset] [(.int (8 : Int32))])) rfl (hb hby at_23) rfl (by decide) (cap := 8) (by decide) (by decide) (by decide) (by decide)
  obtain ⟨b4, g_b4⟩ : ∃ z : Nat, z = h0.size := ⟨_, rfl⟩
  rw [← g_b4] at A4 st4
  have g0_b4 : n0 ≤ b4 := by rw [g_b4]; exact Z0
  have f5 : Own.AvI Z h4 b4 .byte 8 (fun _ => 0) := Own.AvI.new A4 (by decide) rfl
  have Z4 : n0 ≤ h4.size := Nat.le_trans Z0 E4.1
  have hj6 : 0 ≤ (0 : Int32).toInt ∧ (0 : Int32).toInt < (8 : Nat) := ⟨by decide, by decide⟩
  obtain ⟨T7, h7, X7, e7, A7, W7, st7⟩ := Own.stoB X4 hx hZ e4 f5 hj6 (g := (mkF m 33 #[.val (.int p0), .val (.int p1), .val (.long q2), .second, .val (.int p3), .val (.int v1), .val (.int v3), .val (.ref b4), .unset, .unset, .unset, .unset, .unset, .unset, .unset, .unset] [(.int ((q2.toInt32).toInt8.toInt32)), (.int (0 : Int32)), (.ref b4)])) rfl rfl (hb hby at_33)
  have N7 := Fr.snoc X7 N0 (show n0 ≤ b4 by omega)
  have Z7 : n0 ≤ h7.size := Nat.le_trans Z4 (Keep.of_wr W7).1
  have hj8 : 0 ≤ (1 : Int32).toInt ∧ (1 : Int32).toInt < (8 : Nat) := ⟨by decide, by decide⟩
  obtain ⟨T9, h9, X9, e9, A9, W9, st9⟩ := Own.stoB X7 hx hZ e7 A7 hj8 (g := (mkF m 43 #[.val (.int p0), .val (.int p1), .val (.long q2), .second, .val (.int p3), .val (.int v1), .val (.int v3), .val (.ref b4), .unset, .unset, .unset, .unset, .unset, .unset, .unset, .unset] [(.int ((((q2.toUInt64 >>> ((8 : Int32) &&& 0x3f).toInt64.toUInt64).toInt64).toInt32).toInt8.toInt32)), (.int (1 : Int32)), (.ref b4)])) rfl rfl (hb hby at_43)
  have N9 := Fr.snoc X9 N7 (show n0 ≤ b4 by omega)
  have Z9 : n0 ≤ h9.size := Nat.le_trans Z7 (Keep.of_wr W9).1
  have hj10 : 0 ≤ (2 : Int32).toInt ∧ (2 : Int32).toInt < (8 : Nat) := ⟨by decide, by decide⟩
  obtain ⟨T11, h11, X11, e11, A11, W11, st11⟩ := Own.stoB X9 hx hZ e9 A9 hj10 (g := (mkF m 53 #[.val (.int p0), .val (.int p1), .val (.long q2), .second, .val (.int p3), .val (.int v1), .val (.int v3), .val (.ref b4), .unset, .unset, .unset, .unset, .unset, .unset, .unset, .unset] [(.int ((((q2.toUInt64 >>> ((16 : Int32) &&& 0x3f).toInt64.toUInt64).toInt64).toInt32).toInt8.toInt32)), (.int (2 : Int32)), (.ref b4)])) rfl rfl (hb hby at_53)
  have N11 := Fr.snoc X11 N9 (show n0 ≤ b4 by omega)
  have Z11 : n0 ≤ h11.size := Nat.le_trans Z9 (Keep.of_wr W11).1
  have hj12 : 0 ≤ (3 : Int32).toInt ∧ (3 : Int32).toInt < (8 : Nat) := ⟨by decide, by decide⟩
  obtain ⟨T13, h13, X13, e13, A13, W13, st13⟩ := Own.stoB X11 hx hZ e11 A11 hj12 (g := (mkF m 63 #[.val (.int p0), .val (.int p1), .val (.long q2), .second, .val (.int p3), .val (.int v1), .val (.int v3), .val (.ref b4), .unset, .unset, .unset, .unset, .unset, .unset, .unset, .unset] [(.int ((((q2.toUInt64 >>> ((24 : Int32) &&& 0x3f).toInt64.toUInt64).toInt64).toInt32).toInt8.toInt32)), (.int (3 : Int32)), (.ref b4)])) rfl rfl (hb hby at_63)
  have N13 := Fr.snoc X13 N11 (show n0 ≤ b4 by omega)
  have Z13 : n0 ≤ h13.size := Nat.le_trans Z11 (Keep.of_wr W13).1
  have hj14 : 0 ≤ (4 : Int32).toInt ∧ (4 : Int32).toInt < (8 : Nat) := ⟨by decide, by decide⟩
  obtain ⟨T15, h15, X15, e15, A15, W15, st15⟩ := Own.stoB X13 hx hZ e13 A13 hj14 (g := (mkF m 73 #[.val (.int p0), .val (.int p1), .val (.long q2), .second, .val (.int p3), .val (.int v1), .val (.int v3), .val (.ref b4), .unset, .unset, .unset, .unset, .unset, .unset, .unset, .unset] [(.int ((((q2.toUInt64 >>> ((32 : Int32) &&& 0x3f).toInt64.toUInt64).toInt64).toInt32).toInt8.toInt32)), (.int (4 : Int32)), (.ref b4)])) rfl rfl (hb hby at_73)
  have N15 := Fr.snoc X15 N13 (show n0 ≤ b4 by omega)
  have Z15 : n0 ≤ h15.size := Nat.le_trans Z13 (Keep.of_wr W15).1
  have hj16 : 0 ≤ (5 : Int32).toInt ∧ (5 : Int32).toInt < (8 : Nat) := ⟨by decide, by decide⟩
  obtain ⟨T17, h17, X17, e17, A17, W17, st17⟩ := Own.stoB X15 hx hZ e15 A15 hj16 (g := (mkF m 83 #[.val (.int p0), .val (.int p1), .val (.long q2), .second, .val (.int p3), .val (.int v1), .val (.int v3), .val (.ref b4), .unset, .unset, .unset, .unset, .unset, .unset, .unset, .unset] [(.int ((((q2.toUInt64 >>> ((40 : Int32) &&& 0x3f).toInt64.toUInt64).toInt64).toInt32).toInt8.toInt32)), (.int (5 : Int32)), (.ref b4)])) rfl rfl (hb hby at_83)
  have N17 := Fr.snoc X17 N15 (show n0 ≤ b4 by omega)
  have Z17 : n0 ≤ h17.size := Nat.le_trans Z15 (Keep.of_wr W17).1
  have hj18 : 0 ≤ (6 : Int32).toInt ∧ (6 : Int32).toInt < (8 : Nat) := ⟨by decide, by decide⟩
  obtain ⟨T19, h19, X19, e19, A19, W19, st19⟩ := Own.stoB X17 hx hZ e17 A17 hj18 (g := (mkF m 94 #[.val (.int p0), .val (.int p1), .val (.long q2), .second, .val (.int p3), .val (.int v1), .val (.int v3), .val (.ref b4), .unset, .unset, .unset, .unset, .unset, .unset, .unset, .unset] [(.int ((((q2.toUInt64 >>> ((48 : Int32) &&& 0x3f).toInt64.toUInt64).toInt64).toInt32).toInt8.toInt32)), (.int (6 : Int32)), (.ref b4)])) rfl rfl (hb hby at_94)
  have N19 := Fr.snoc X19 N17 (show n0 ≤ b4 by omega)
  have Z19 : n0 ≤ h19.size := Nat.le_trans Z17 (Keep.of_wr W19).1
  have hj20 : 0 ≤ (7 : Int32).toInt ∧ (7 : Int32).toInt < (8 : Nat) := ⟨by decide, by decide⟩
  obtain ⟨T21, h21, X21, e21, A21, W21, st21⟩ := Own.stoB X19 hx hZ e19 A19 hj20 (g := (mkF m 105 #[.val (.int p0), .val (.int p1), .val (.long q2), .second, .val (.int p3), .val (.int v1), .val (.int v3), .val (.ref b4), .unset, .unset, .unset, .unset, .unset, .unset, .unset, .unset] [(.int ((((q2.toUInt64 >>> ((56 : Int32) &&& 0x3f).toInt64.toUInt64).toInt64).toInt32).toInt8.toInt32)), (.int (7 : Int32)), (.ref b4)])) rfl rfl (hb hby at_105)
  have N21 := Fr.snoc X21 N19 (show n0 ≤ b4 by omega)
  have Z21 : n0 ≤ h21.size := Nat.le_trans Z19 (Keep.of_wr W21).1
  obtain ⟨gb, Agb⟩ : ∃ z : Nat → Int32, Own.AvI Z h21 b4 .byte 8 z := ⟨_, A21⟩
  refine hD _ (T21.setTop (mkF m 106 #[.val (.int p0), .val (.int p1), .val (.long q2), .second, .val (.int p3), .val (.int v1), .val (.int v3), .val (.ref b4), .unset, .unset, .unset, .unset, .unset, .unset, .unset, .unset] [])) (fun t k => ?_) ?_
  · show Steps p.tables e below (s₁.setTop (mkF m 0 #[.val (.int p0), .val (.int p1), .val (.long q2), .second, .val (.int p3), .unset, .unset, .unset, .unset, .unset, .unset, .unset, .unset, .unset, .unset, .unset] [])) t
    refine XS.iloadN X0.here hx rfl (hb hby at_0) rfl ?_
    show Steps p.tables e below (s₁.setTop (mkF m 1 #[.val (.int p0), .val (.int p1), .val (.long q2), .second, .val (.int p3), .unset, .unset, .unset, .unset, .unset, .unset, .unset, .unset, .unset, .unset, .unset] [(.int p0)])) t
    refine XS.bipush X0.here hx rfl (hb hby at_1) ?_
    show Steps p.tables e below (s₁.setTop (mkF m 3 #[.val (.int p0), .val (.int p1), .val (.long q2), .second, .val (.int p3), .unset, .unset, .unset, .unset, .unset, .unset, .unset, .unset, .unset, .unset, .unset] [(.int (7 : Int32)), (.int p0)])) t
    refine XS.iand X0.here hx rfl (hb hby at_3) rfl ?_
    show Steps p.tables e below (s₁.setTop (mkF m 4 #[.val (.int p0), .val (.int p1), .val (.long q2), .second, .val (.int p3), .unset, .unset, .unset, .unset, .unset, .unset, .unset, .unset, .unset, .unset, .unset] [(.int (p0 &&& (7 : Int32)))])) t
    refine Own.nmI hv1 ?_
    show Steps p.tables e below (s₁.setTop (mkF m 4 #[.val (.int p0), .val (.int p1), .val (.long q2), .second, .val (.int p3), .unset, .unset, .unset, .unset, .unset, .unset, .unset, .unset, .unset, .unset, .unset] [(.int v1)])) t
    refine XS.istore X0.here hx rfl (hb hby at_4) rfl (l' := #[.val (.int p0), .val (.int p1), .val (.long q2), .second, .val (.int p3), .val (.int v1), .unset, .unset, .unset, .unset, .unset, .unset, .unset, .unset, .unset, .unset]) rfl ?_
    show Steps p.tables e below (s₁.setTop (mkF m 6 #[.val (.int p0), .val (.int p1), .val (.long q2), .second, .val (.int p3), .val (.int v1), .unset, .unset, .unset, .unset, .unset, .unset, .unset, .unset, .unset, .unset] [])) t
    refine XS.iload X0.here hx rfl (hb hby at_6) rfl ?_
    show Steps p.tables e below (s₁.setTop (mkF m 8 #[.val (.int p0), .val (.int p1), .val (.long q2), .second, .val (.int p3), .val (.int v1), .unset, .unset, .unset, .unset, .unset, .unset, .unset, .unset, .unset, .unset] [(.int v1)])) t
    refine XS.iloadN X0.here hx rfl (hb hby at_8) rfl ?_
    show Steps p.tables e below (s₁.setTop (mkF m 9 #[.val (.int p0), .val (.int p1), .val (.long q2), .second, .val (.int p3), .val (.int v1), .unset, .unset, .unset, .unset, .unset, .unset, .unset, .unset, .unset, .unset] [(.int p1), (.int v1)])) t
    refine X0.ldcInt hx hown (mvT hZ (hw _ (List.mem_of_getElem? (i := 0) rfl))) (g := (mkF m 9 #[.val (.int p0), .val (.int p1), .val (.long q2), .second, .val (.int p3), .val (.int v1), .unset, .unset, .unset, .unset, .unset, .unset, .unset, .unset, .unset, .unset] [(.int p1), (.int v1)])) rfl (hb hby at_9) _ ?_
    show Steps p.tables e below (s₁.setTop (mkF m 11 #[.val (.int p0), .val (.int p1), .val (.long q2), .second, .val (.int p3), .val (.int v1), .unset, .unset, .unset, .unset, .unset, .unset, .unset, .unset, .unset, .unset] [(.int (2147483647 : Int32)), (.int p1), (.int v1)])) t
    refine XS.iand X0.here hx rfl (hb hby at_11) rfl ?_
    show Steps p.tables e below (s₁.setTop (mkF m 12 #[.val (.int p0), .val (.int p1), .val (.long q2), .second, .val (.int p3), .val (.int v1), .unset, .unset, .unset, .unset, .unset, .unset, .unset, .unset, .unset, .unset] [(.int (p1 &&& (2147483647 : Int32))), (.int v1)])) t
    refine XS.bipush X0.here hx rfl (hb hby at_12) ?_
    show Steps p.tables e below (s₁.setTop (mkF m 14 #[.val (.int p0), .val (.int p1), .val (.long q2), .second, .val (.int p3), .val (.int v1), .unset, .unset, .unset, .unset, .unset, .unset, .unset, .unset, .unset, .unset] [(.int (9 : Int32)), (.int (p1 &&& (2147483647 : Int32))), (.int v1)])) t
    refine XS.iload X0.here hx rfl (hb hby at_14) rfl ?_
    show Steps p.tables e below (s₁.setTop (mkF m 16 #[.val (.int p0), .val (.int p1), .val (.long q2), .second, .val (.int p3), .val (.int v1), .unset, .unset, .unset, .unset, .unset, .unset, .unset, .unset, .unset, .unset] [(.int v1), (.int (9 : Int32)), (.int (p1 &&& (2147483647 : Int32))), (.int v1)])) t
    refine XS.isub X0.here hx rfl (hb hby at_16) rfl ?_
    show Steps p.tables e below (s₁.setTop (mkF m 17 #[.val (.int p0), .val (.int p1), .val (.long q2), .second, .val (.int p3), .val (.int v1), .unset, .unset, .unset, .unset, .unset, .unset, .unset, .unset, .unset, .unset] [(.int ((9 : Int32) - v1)), (.int (p1 &&& (2147483647 : Int32))), (.int v1)])) t
    refine Jvm.RoadKit.iremM (g := (mkF m 17 #[.val (.int p0), .val (.int p1), .val (.long q2), .second, .val (.int p3), .val (.int v1), .unset, .unset, .unset, .unset, .unset, .unset, .unset, .unset, .unset, .unset] [(.int ((9 : Int32) - v1)), (.int (p1 &&& (2147483647 : Int32))), (.int v1)])) X0 hx rfl (hb hby at_17) rfl hnz2 ?_
    show Steps p.tables e below (s₁.setTop (mkF m 18 #[.val (.int p0), .val (.int p1), .val (.long q2), .second, .val (.int p3), .val (.int v1), .unset, .unset, .unset, .unset, .unset, .unset, .unset, .unset, .unset, .unset] [(.int ((p1 &&& (2147483647 : Int32)) % ((9 : Int32) - v1))), (.int v1)])) t
    refine XS.iadd X0.here hx rfl (hb hby at_18) rfl ?_
    show Steps p.tables e below (s₁.setTop (mkF m 19 #[.val (.int p0), .val (.int p1), .val (.long q2), .second, .val (.int p3), .val (.int v1), .unset, .unset, .unset, .unset, .unset, .unset, .unset, .unset, .unset, .unset] [(.int (v1 + ((p1 &&& (2147483647 : Int32)) % ((9 : Int32) - v1))))])) t
    refine Own.nmI hv3 ?_
    show Steps p.tables e below (s₁.setTop (mkF m 19 #[.val (.int p0), .val (.int p1), .val (.long q2), .second, .val (.int p3), .val (.int v1), .unset, .unset, .unset, .unset, .unset, .unset, .unset, .unset, .unset, .unset] [(.int v3)])) t
    refine XS.istore X0.here hx rfl (hb hby at_19) rfl (l' := #[.val (.int p0), .val (.int p1), .val (.long q2), .second, .val (.int p3), .val (.int v1), .val (.int v3), .unset, .unset, .unset, .unset, .unset, .unset, .unset, .unset, .unset]) rfl ?_
    show Steps p.tables e below (s₁.setTop (mkF m 21 #[.val (.int p0), .val (.int p1), .val (.long q2), .second, .val (.int p3), .val (.int v1), .val (.int v3), .unset, .unset, .unset, .unset, .unset, .unset, .unset, .unset, .unset] [])) t
    refine XS.bipush X0.here hx rfl (hb hby at_21) ?_
    show Steps p.tables e below (s₁.setTop (mkF m 23 #[.val (.int p0), .val (.int p1), .val (.long q2), .second, .val (.int p3), .val (.int v1), .val (.int v3), .unset, .unset, .unset, .unset, .unset, .unset, .unset, .unset, .unset] [(.int (8 : Int32))])) t
    refine st4 _ ?_
    show Steps p.tables e below (T4.setTop (mkF m 25 #[.val (.int p0), .val (.int p1), .val (.long q2), .second, .val (.int p3), .val (.int v1), .val (.int v3), .unset, .unset, .unset, .unset, .unset, .unset, .unset, .unset, .unset] [(.ref b4)])) t
    refine XS.astore X4.here hx rfl (hb hby at_25) rfl rfl (l' := #[.val (.int p0), .val (.int p1), .val (.long q2), .second, .val (.int p3), .val (.int v1), .val (.int v3), .val (.ref b4), .unset, .unset, .unset, .unset, .unset, .unset, .unset, .unset]) rfl ?_
    show Steps p.tables e below (T4.setTop (mkF m 27 #[.val (.int p0), .val (.int p1), .val (.long q2), .second, .val (.int p3), .val (.int v1), .val (.int v3), .val (.ref b4), .unset, .unset, .unset, .unset, .unset, .unset, .unset, .unset] [])) t
    refine XS.aload X4.here hx rfl (hb hby at_27) rfl rfl ?_
    show Steps p.tables e below (T4.setTop (mkF m 29 #[.val (.int p0), .val (.int p1), .val (.long q2), .second, .val (.int p3), .val (.int v1), .val (.int v3), .val (.ref b4), .unset, .unset, .unset, .unset, .unset, .unset, .unset, .unset] [(.ref b4)])) t
    refine XS.iconst X4.here hx rfl (hb hby at_29) ?_
    show Steps p.tables e below (T4.setTop (mkF m 30 #[.val (.int p0), .val (.int p1), .val (.long q2), .second, .val (.int p3), .val (.int v1), .val (.int v3), .val (.ref b4), .unset, .unset, .unset, .unset, .unset, .unset, .unset, .unset] [(.int (0 : Int32)), (.ref b4)])) t
    refine XS.lloadN X4.here hx rfl (hb hby at_30) rfl ?_
    show Steps p.tables e below (T4.setTop (mkF m 31 #[.val (.int p0), .val (.int p1), .val (.long q2), .second, .val (.int p3), .val (.int v1), .val (.int v3), .val (.ref b4), .unset, .unset, .unset, .unset, .unset, .unset, .unset, .unset] [(.long q2), (.int (0 : Int32)), (.ref b4)])) t
    refine XS.l2i X4.here hx rfl (hb hby at_31) rfl ?_
    show Steps p.tables e below (T4.setTop (mkF m 32 #[.val (.int p0), .val (.int p1), .val (.long q2), .second, .val (.int p3), .val (.int v1), .val (.int v3), .val (.ref b4), .unset, .unset, .unset, .unset, .unset, .unset, .unset, .unset] [(.int (q2.toInt32)), (.int (0 : Int32)), (.ref b4)])) t
    refine XS.i2b X4.here hx rfl (hb hby at_32) rfl ?_
    show Steps p.tables e below (T4.setTop (mkF m 33 #[.val (.int p0), .val (.int p1), .val (.long q2), .second, .val (.int p3), .val (.int v1), .val (.int v3), .val (.ref b4), .unset, .unset, .unset, .unset, .unset, .unset, .unset, .unset] [(.int ((q2.toInt32).toInt8.toInt32)), (.int (0 : Int32)), (.ref b4)])) t
    refine st7 _ ?_
    show Steps p.tables e below (T7.setTop (mkF m 34 #[.val (.int p0), .val (.int p1), .val (.long q2), .second, .val (.int p3), .val (.int v1), .val (.int v3), .val (.ref b4), .unset, .unset, .unset, .unset, .unset, .unset, .unset, .unset] [])) t
    refine XS.aload X7.here hx rfl (hb hby at_34) rfl rfl ?_
    show Steps p.tables e below (T7.setTop (mkF m 36 #[.val (.int p0), .val (.int p1), .val (.long q2), .second, .val (.int p3), .val (.int v1), .val (.int v3), .val (.ref b4), .unset, .unset, .unset, .unset, .unset, .unset, .unset, .unset] [(.ref b4)])) t
    refine XS.iconst X7.here hx rfl (hb hby at_36) ?_
    show Steps p.tables e below (T7.setTop (mkF m 37 #[.val (.int p0), .val (.int p1), .val (.long q2), .second, .val (.int p3), .val (.int v1), .val (.int v3), .val (.ref b4), .unset, .unset, .unset, .unset, .unset, .unset, .unset, .unset] [(.int (1 : Int32)), (.ref b4)])) t
    refine XS.lloadN X7.here hx rfl (hb hby at_37) rfl ?_
    show Steps p.tables e below (T7.setTop (mkF m 38 #[.val (.int p0), .val (.int p1), .val (.long q2), .second, .val (.int p3), .val (.int v1), .val (.int v3), .val (.ref b4), .unset, .unset, .unset, .unset, .unset, .unset, .unset, .unset] [(.long q2), (.int (1 : Int32)), (.ref b4)])) t
    refine XS.bipush X7.here hx rfl (hb hby at_38) ?_
    show Steps p.tables e below (T7.setTop (mkF m 40 #[.val (.int p0), .val (.int p1), .val (.long q2), .second, .val (.int p3), .val (.int v1), .val (.int v3), .val (.ref b4), .unset, .unset, .unset, .unset, .unset, .unset, .unset, .unset] [(.int (8 : Int32)), (.long q2), (.int (1 : Int32)), (.ref b4)])) t
    refine XS.lushr X7.here hx rfl (hb hby at_40) rfl ?_
    show Steps p.tables e below (T7.setTop (mkF m 41 #[.val (.int p0), .val (.int p1), .val (.long q2), .second, .val (.int p3), .val (.int v1), .val (.int v3), .val (.ref b4), .unset, .unset, .unset, .unset, .unset, .unset, .unset, .unset] [(.long ((q2.toUInt64 >>> ((8 : Int32) &&& 0x3f).toInt64.toUInt64).toInt64)), (.int (1 : Int32)), (.ref b4)])) t
    refine XS.l2i X7.here hx rfl (hb hby at_41) rfl ?_
    show Steps p.tables e below (T7.setTop (mkF m 42 #[.val (.int p0), .val (.int p1), .val (.long q2), .second, .val (.int p3), .val (.int v1), .val (.int v3), .val (.ref b4), .unset, .unset, .unset, .unset, .unset, .unset, .unset, .unset] [(.int (((q2.toUInt64 >>> ((8 : Int32) &&& 0x3f).toInt64.toUInt64).toInt64).toInt32)), (.int (1 : Int32)), (.ref b4)])) t
    refine XS.i2b X7.here hx rfl (hb hby at_42) rfl ?_
    show Steps p.tables e below (T7.setTop (mkF m 43 #[.val (.int p0), .val (.int p1), .val (.long q2), .second, .val (.int p3), .val (.int v1), .val (.int v3), .val (.ref b4), .unset, .unset, .unset, .unset, .unset, .unset, .unset, .unset] [(.int ((((q2.toUInt64 >>> ((8 : Int32) &&& 0x3f).toInt64.toUInt64).toInt64).toInt32).toInt8.toInt32)), (.int (1 : Int32)), (.ref b4)])) t
    refine st9 _ ?_
    show Steps p.tables e below (T9.setTop (mkF m 44 #[.val (.int p0), .val (.int p1), .val (.long q2), .second, .val (.int p3), .val (.int v1), .val (.int v3), .val (.ref b4), .unset, .unset, .unset, .unset, .unset, .unset, .unset, .unset] [])) t
    refine XS.aload X9.here hx rfl (hb hby at_44) rfl rfl ?_
    show Steps p.tables e below (T9.setTop (mkF m 46 #[.val (.int p0), .val (.int p1), .val (.long q2), .second, .val (.int p3), .val (.int v1), .val (.int v3), .val (.ref b4), .unset, .unset, .unset, .unset, .unset, .unset, .unset, .unset] [(.ref b4)])) t
    refine XS.iconst X9.here hx rfl (hb hby at_46) ?_
    show Steps p.tables e below (T9.setTop (mkF m 47 #[.val (.int p0), .val (.int p1), .val (.long q2), .second, .val (.int p3), .val (.int v1), .val (.int v3), .val (.ref b4), .unset, .unset, .unset, .unset, .unset, .unset, .unset, .unset] [(.int (2 : Int32)), (.ref b4)])) t
    refine XS.lloadN X9.here hx rfl (hb hby at_47) rfl ?_
    show Steps p.tables e below (T9.setTop (mkF m 48 #[.val (.int p0), .val (.int p1), .val (.long q2), .second, .val (.int p3), .val (.int v1), .val (.int v3), .val (.ref b4), .unset, .unset, .unset, .unset, .unset, .unset, .unset, .unset] [(.long q2), (.int (2 : Int32)), (.ref b4)])) t
    refine XS.bipush X9.here hx rfl (hb hby at_48) ?_
    show Steps p.tables e below (T9.setTop (mkF m 50 #[.val (.int p0), .val (.int p1), .val (.long q2), .second, .val (.int p3), .val (.int v1), .val (.int v3), .val (.ref b4), .unset, .unset, .unset, .unset, .unset, .unset, .unset, .unset] [(.int (16 : Int32)), (.long q2), (.int (2 : Int32)), (.ref b4)])) t
    refine XS.lushr X9.here hx rfl (hb hby at_50) rfl ?_
    show Steps p.tables e below (T9.setTop (mkF m 51 #[.val (.int p0), .val (.int p1), .val (.long q2), .second, .val (.int p3), .val (.int v1), .val (.int v3), .val (.ref b4), .unset, .unset, .unset, .unset, .unset, .unset, .unset, .unset] [(.long ((q2.toUInt64 >>> ((16 : Int32) &&& 0x3f).toInt64.toUInt64).toInt64)), (.int (2 : Int32)), (.ref b4)])) t
    refine XS.l2i X9.here hx rfl (hb hby at_51) rfl ?_
    show Steps p.tables e below (T9.setTop (mkF m 52 #[.val (.int p0), .val (.int p1), .val (.long q2), .second, .val (.int p3), .val (.int v1), .val (.int v3), .val (.ref b4), .unset, .unset, .unset, .unset, .unset, .unset, .unset, .unset] [(.int (((q2.toUInt64 >>> ((16 : Int32) &&& 0x3f).toInt64.toUInt64).toInt64).toInt32)), (.int (2 : Int32)), (.ref b4)])) t
    refine XS.i2b X9.here hx rfl (hb hby at_52) rfl ?_
    show Steps p.tables e below (T9.setTop (mkF m 53 #[.val (.int p0), .val (.int p1), .val (.long q2), .second, .val (.int p3), .val (.int v1), .val (.int v3), .val (.ref b4), .unset, .unset, .unset, .unset, .unset, .unset, .unset, .unset] [(.int ((((q2.toUInt64 >>> ((16 : Int32) &&& 0x3f).toInt64.toUInt64).toInt64).toInt32).toInt8.toInt32)), (.int (2 : Int32)), (.ref b4)])) t
    refine st11 _ ?_
    show Steps p.tables e below (T11.setTop (mkF m 54 #[.val (.int p0), .val (.int p1), .val (.long q2), .second, .val (.int p3), .val (.int v1), .val (.int v3), .val (.ref b4), .unset, .unset, .unset, .unset, .unset, .unset, .unset, .unset] [])) t
    refine XS.aload X11.here hx rfl (hb hby at_54) rfl rfl ?_
    show Steps p.tables e below (T11.setTop (mkF m 56 #[.val (.int p0), .val (.int p1), .val (.long q2), .second, .val (.int p3), .val (.int v1), .val (.int v3), .val (.ref b4), .unset, .unset, .unset, .unset, .unset, .unset, .unset, .unset] [(.ref b4)])) t
    refine XS.iconst X11.here hx rfl (hb hby at_56) ?_
    show Steps p.tables e below (T11.setTop (mkF m 57 #[.val (.int p0), .val (.int p1), .val (.long q2), .second, .val (.int p3), .val (.int v1), .val (.int v3), .val (.ref b4), .unset, .unset, .unset, .unset, .unset, .unset, .unset, .unset] [(.int (3 : Int32)), (.ref b4)])) t
    refine XS.lloadN X11.here hx rfl (hb hby at_57) rfl ?_
    show Steps p.tables e below (T11.setTop (mkF m 58 #[.val (.int p0), .val (.int p1), .val (.long q2), .second, .val (.int p3), .val (.int v1), .val (.int v3), .val (.ref b4), .unset, .unset, .unset, .unset, .unset, .unset, .unset, .unset] [(.long q2), (.int (3 : Int32)), (.ref b4)])) t
    refine XS.bipush X11.here hx rfl (hb hby at_58) ?_
    show Steps p.tables e below (T11.setTop (mkF m 60 #[.val (.int p0), .val (.int p1), .val (.long q2), .second, .val (.int p3), .val (.int v1), .val (.int v3), .val (.ref b4), .unset, .unset, .unset, .unset, .unset, .unset, .unset, .unset] [(.int (24 : Int32)), (.long q2), (.int (3 : Int32)), (.ref b4)])) t
    refine XS.lushr X11.here hx rfl (hb hby at_60) rfl ?_
    show Steps p.tables e below (T11.setTop (mkF m 61 #[.val (.int p0), .val (.int p1), .val (.long q2), .second, .val (.int p3), .val (.int v1), .val (.int v3), .val (.ref b4), .unset, .unset, .unset, .unset, .unset, .unset, .unset, .unset] [(.long ((q2.toUInt64 >>> ((24 : Int32) &&& 0x3f).toInt64.toUInt64).toInt64)), (.int (3 : Int32)), (.ref b4)])) t
    refine XS.l2i X11.here hx rfl (hb hby at_61) rfl ?_
    show Steps p.tables e below (T11.setTop (mkF m 62 #[.val (.int p0), .val (.int p1), .val (.long q2), .second, .val (.int p3), .val (.int v1), .val (.int v3), .val (.ref b4), .unset, .unset, .unset, .unset, .unset, .unset, .unset, .unset] [(.int (((q2.toUInt64 >>> ((24 : Int32) &&& 0x3f).toInt64.toUInt64).toInt64).toInt32)), (.int (3 : Int32)), (.ref b4)])) t
    refine XS.i2b X11.here hx rfl (hb hby at_62) rfl ?_
    show Steps p.tables e below (T11.setTop (mkF m 63 #[.val (.int p0), .val (.int p1), .val (.long q2), .second, .val (.int p3), .val (.int v1), .val (.int v3), .val (.ref b4), .unset, .unset, .unset, .unset, .unset, .unset, .unset, .unset] [(.int ((((q2.toUInt64 >>> ((24 : Int32) &&& 0x3f).toInt64.toUInt64).toInt64).toInt32).toInt8.toInt32)), (.int (3 : Int32)), (.ref b4)])) t
    refine st13 _ ?_
    show Steps p.tables e below (T13.setTop (mkF m 64 #[.val (.int p0), .val (.int p1), .val (.long q2), .second, .val (.int p3), .val (.int v1), .val (.int v3), .val (.ref b4), .unset, .unset, .unset, .unset, .unset, .unset, .unset, .unset] [])) t
    refine XS.aload X13.here hx rfl (hb hby at_64) rfl rfl ?_
    show Steps p.tables e below (T13.setTop (mkF m 66 #[.val (.int p0), .val (.int p1), .val (.long q2), .second, .val (.int p3), .val (.int v1), .val (.int v3), .val (.ref b4), .unset, .unset, .unset, .unset, .unset, .unset, .unset, .unset] [(.ref b4)])) t
    refine XS.iconst X13.here hx rfl (hb hby at_66) ?_
    show Steps p.tables e below (T13.setTop (mkF m 67 #[.val (.int p0), .val (.int p1), .val (.long q2), .second, .val (.int p3), .val (.int v1), .val (.int v3), .val (.ref b4), .unset, .unset, .unset, .unset, .unset, .unset, .unset, .unset] [(.int (4 : Int32)), (.ref b4)])) t
    refine XS.lloadN X13.here hx rfl (hb hby at_67) rfl ?_
    show Steps p.tables e below (T13.setTop (mkF m 68 #[.val (.int p0), .val (.int p1), .val (.long q2), .second, .val (.int p3), .val (.int v1), .val (.int v3), .val (.ref b4), .unset, .unset, .unset, .unset, .unset, .unset, .unset, .unset] [(.long q2), (.int (4 : Int32)), (.ref b4)])) t
    refine XS.bipush X13.here hx rfl (hb hby at_68) ?_
    show Steps p.tables e below (T13.setTop (mkF m 70 #[.val (.int p0), .val (.int p1), .val (.long q2), .second, .val (.int p3), .val (.int v1), .val (.int v3), .val (.ref b4), .unset, .unset, .unset, .unset, .unset, .unset, .unset, .unset] [(.int (32 : Int32)), (.long q2), (.int (4 : Int32)), (.ref b4)])) t
    refine XS.lushr X13.here hx rfl (hb hby at_70) rfl ?_
    show Steps p.tables e below (T13.setTop (mkF m 71 #[.val (.int p0), .val (.int p1), .val (.long q2), .second, .val (.int p3), .val (.int v1), .val (.int v3), .val (.ref b4), .unset, .unset, .unset, .unset, .unset, .unset, .unset, .unset] [(.long ((q2.toUInt64 >>> ((32 : Int32) &&& 0x3f).toInt64.toUInt64).toInt64)), (.int (4 : Int32)), (.ref b4)])) t
    refine XS.l2i X13.here hx rfl (hb hby at_71) rfl ?_
    show Steps p.tables e below (T13.setTop (mkF m 72 #[.val (.int p0), .val (.int p1), .val (.long q2), .second, .val (.int p3), .val (.int v1), .val (.int v3), .val (.ref b4), .unset, .unset, .unset, .unset, .unset, .unset, .unset, .unset] [(.int (((q2.toUInt64 >>> ((32 : Int32) &&& 0x3f).toInt64.toUInt64).toInt64).toInt32)), (.int (4 : Int32)), (.ref b4)])) t
    refine XS.i2b X13.here hx rfl (hb hby at_72) rfl ?_
    show Steps p.tables e below (T13.setTop (mkF m 73 #[.val (.int p0), .val (.int p1), .val (.long q2), .second, .val (.int p3), .val (.int v1), .val (.int v3), .val (.ref b4), .unset, .unset, .unset, .unset, .unset, .unset, .unset, .unset] [(.int ((((q2.toUInt64 >>> ((32 : Int32) &&& 0x3f).toInt64.toUInt64).toInt64).toInt32).toInt8.toInt32)), (.int (4 : Int32)), (.ref b4)])) t
    refine st15 _ ?_
    show Steps p.tables e below (T15.setTop (mkF m 74 #[.val (.int p0), .val (.int p1), .val (.long q2), .second, .val (.int p3), .val (.int v1), .val (.int v3), .val (.ref b4), .unset, .unset, .unset, .unset, .unset, .unset, .unset, .unset] [])) t
    refine XS.aload X15.here hx rfl (hb hby at_74) rfl rfl ?_
    show Steps p.tables e below (T15.setTop (mkF m 76 #[.val (.int p0), .val (.int p1), .val (.long q2), .second, .val (.int p3), .val (.int v1), .val (.int v3), .val (.ref b4), .unset, .unset, .unset, .unset, .unset, .unset, .unset, .unset] [(.ref b4)])) t
    refine XS.iconst X15.here hx rfl (hb hby at_76) ?_
    show Steps p.tables e below (T15.setTop (mkF m 77 #[.val (.int p0), .val (.int p1), .val (.long q2), .second, .val (.int p3), .val (.int v1), .val (.int v3), .val (.ref b4), .unset, .unset, .unset, .unset, .unset, .unset, .unset, .unset] [(.int (5 : Int32)), (.ref b4)])) t
    refine XS.lloadN X15.here hx rfl (hb hby at_77) rfl ?_
    show Steps p.tables e below (T15.setTop (mkF m 78 #[.val (.int p0), .val (.int p1), .val (.long q2), .second, .val (.int p3), .val (.int v1), .val (.int v3), .val (.ref b4), .unset, .unset, .unset, .unset, .unset, .unset, .unset, .unset] [(.long q2), (.int (5 : Int32)), (.ref b4)])) t
    refine XS.bipush X15.here hx rfl (hb hby at_78) ?_
    show Steps p.tables e below (T15.setTop (mkF m 80 #[.val (.int p0), .val (.int p1), .val (.long q2), .second, .val (.int p3), .val (.int v1), .val (.int v3), .val (.ref b4), .unset, .unset, .unset, .unset, .unset, .unset, .unset, .unset] [(.int (40 : Int32)), (.long q2), (.int (5 : Int32)), (.ref b4)])) t
    refine XS.lushr X15.here hx rfl (hb hby at_80) rfl ?_
    show Steps p.tables e below (T15.setTop (mkF m 81 #[.val (.int p0), .val (.int p1), .val (.long q2), .second, .val (.int p3), .val (.int v1), .val (.int v3), .val (.ref b4), .unset, .unset, .unset, .unset, .unset, .unset, .unset, .unset] [(.long ((q2.toUInt64 >>> ((40 : Int32) &&& 0x3f).toInt64.toUInt64).toInt64)), (.int (5 : Int32)), (.ref b4)])) t
    refine XS.l2i X15.here hx rfl (hb hby at_81) rfl ?_
    show Steps p.tables e below (T15.setTop (mkF m 82 #[.val (.int p0), .val (.int p1), .val (.long q2), .second, .val (.int p3), .val (.int v1), .val (.int v3), .val (.ref b4), .unset, .unset, .unset, .unset, .unset, .unset, .unset, .unset] [(.int (((q2.toUInt64 >>> ((40 : Int32) &&& 0x3f).toInt64.toUInt64).toInt64).toInt32)), (.int (5 : Int32)), (.ref b4)])) t
    refine XS.i2b X15.here hx rfl (hb hby at_82) rfl ?_
    show Steps p.tables e below (T15.setTop (mkF m 83 #[.val (.int p0), .val (.int p1), .val (.long q2), .second, .val (.int p3), .val (.int v1), .val (.int v3), .val (.ref b4), .unset, .unset, .unset, .unset, .unset, .unset, .unset, .unset] [(.int ((((q2.toUInt64 >>> ((40 : Int32) &&& 0x3f).toInt64.toUInt64).toInt64).toInt32).toInt8.toInt32)), (.int (5 : Int32)), (.ref b4)])) t
    refine st17 _ ?_
    show Steps p.tables e below (T17.setTop (mkF m 84 #[.val (.int p0), .val (.int p1), .val (.long q2), .second, .val (.int p3), .val (.int v1), .val (.int v3), .val (.ref b4), .unset, .unset, .unset, .unset, .unset, .unset, .unset, .unset] [])) t
    refine XS.aload X17.here hx rfl (hb hby at_84) rfl rfl ?_
    show Steps p.tables e below (T17.setTop (mkF m 86 #[.val (.int p0), .val (.int p1), .val (.long q2), .second, .val (.int p3), .val (.int v1), .val (.int v3), .val (.ref b4), .unset, .unset, .unset, .unset, .unset, .unset, .unset, .unset] [(.ref b4)])) t
    refine XS.bipush X17.here hx rfl (hb hby at_86) ?_
    show Steps p.tables e below (T17.setTop (mkF m 88 #[.val (.int p0), .val (.int p1), .val (.long q2), .second, .val (.int p3), .val (.int v1), .val (.int v3), .val (.ref b4), .unset, .unset, .unset, .unset, .unset, .unset, .unset, .unset] [(.int (6 : Int32)), (.ref b4)])) t
    refine XS.lloadN X17.here hx rfl (hb hby at_88) rfl ?_
    show Steps p.tables e below (T17.setTop (mkF m 89 #[.val (.int p0), .val (.int p1), .val (.long q2), .second, .val (.int p3), .val (.int v1), .val (.int v3), .val (.ref b4), .unset, .unset, .unset, .unset, .unset, .unset, .unset, .unset] [(.long q2), (.int (6 : Int32)), (.ref b4)])) t
    refine XS.bipush X17.here hx rfl (hb hby at_89) ?_
    show Steps p.tables e below (T17.setTop (mkF m 91 #[.val (.int p0), .val (.int p1), .val (.long q2), .second, .val (.int p3), .val (.int v1), .val (.int v3), .val (.ref b4), .unset, .unset, .unset, .unset, .unset, .unset, .unset, .unset] [(.int (48 : Int32)), (.long q2), (.int (6 : Int32)), (.ref b4)])) t
    refine XS.lushr X17.here hx rfl (hb hby at_91) rfl ?_
    show Steps p.tables e below (T17.setTop (mkF m 92 #[.val (.int p0), .val (.int p1), .val (.long q2), .second, .val (.int p3), .val (.int v1), .val (.int v3), .val (.ref b4), .unset, .unset, .unset, .unset, .unset, .unset, .unset, .unset] [(.long ((q2.toUInt64 >>> ((48 : Int32) &&& 0x3f).toInt64.toUInt64).toInt64)), (.int (6 : Int32)), (.ref b4)])) t
    refine XS.l2i X17.here hx rfl (hb hby at_92) rfl ?_
    show Steps p.tables e below (T17.setTop (mkF m 93 #[.val (.int p0), .val (.int p1), .val (.long q2), .second, .val (.int p3), .val (.int v1), .val (.int v3), .val (.ref b4), .unset, .unset, .unset, .unset, .unset, .unset, .unset, .unset] [(.int (((q2.toUInt64 >>> ((48 : Int32) &&& 0x3f).toInt64.toUInt64).toInt64).toInt32)), (.int (6 : Int32)), (.ref b4)])) t
    refine XS.i2b X17.here hx rfl (hb hby at_93) rfl ?_
    show Steps p.tables e below (T17.setTop (mkF m 94 #[.val (.int p0), .val (.int p1), .val (.long q2), .second, .val (.int p3), .val (.int v1), .val (.int v3), .val (.ref b4), .unset, .unset, .unset, .unset, .unset, .unset, .unset, .unset] [(.int ((((q2.toUInt64 >>> ((48 : Int32) &&& 0x3f).toInt64.toUInt64).toInt64).toInt32).toInt8.toInt32)), (.int (6 : Int32)), (.ref b4)])) t
    refine st19 _ ?_
    show Steps p.tables e below (T19.setTop (mkF m 95 #[.val (.int p0), .val (.int p1), .val (.long q2), .second, .val (.int p3), .val (.int v1), .val (.int v3), .val (.ref b4), .unset, .unset, .unset, .unset, .unset, .unset, .unset, .unset] [])) t
    refine XS.aload X19.here hx rfl (hb hby at_95) rfl rfl ?_
    show Steps p.tables e below (T19.setTop (mkF m 97 #[.val (.int p0), .val (.int p1), .val (.long q2), .second, .val (.int p3), .val (.int v1), .val (.int v3), .val (.ref b4), .unset, .unset, .unset, .unset, .unset, .unset, .unset, .unset] [(.ref b4)])) t
    refine XS.bipush X19.here hx rfl (hb hby at_97) ?_
    show Steps p.tables e below (T19.setTop (mkF m 99 #[.val (.int p0), .val (.int p1), .val (.long q2), .second, .val (.int p3), .val (.int v1), .val (.int v3), .val (.ref b4), .unset, .unset, .unset, .unset, .unset, .unset, .unset, .unset] [(.int (7 : Int32)), (.ref b4)])) t
    refine XS.lloadN X19.here hx rfl (hb hby at_99) rfl ?_
    show Steps p.tables e below (T19.setTop (mkF m 100 #[.val (.int p0), .val (.int p1), .val (.long q2), .second, .val (.int p3), .val (.int v1), .val (.int v3), .val (.ref b4), .unset, .unset, .unset, .unset, .unset, .unset, .unset, .unset] [(.long q2), (.int (7 : Int32)), (.ref b4)])) t
    refine XS.bipush X19.here hx rfl (hb hby at_100) ?_
    show Steps p.tables e below (T19.setTop (mkF m 102 #[.val (.int p0), .val (.int p1), .val (.long q2), .second, .val (.int p3), .val (.int v1), .val (.int v3), .val (.ref b4), .unset, .unset, .unset, .unset, .unset, .unset, .unset, .unset] [(.int (56 : Int32)), (.long q2), (.int (7 : Int32)), (.ref b4)])) t
    refine XS.lushr X19.here hx rfl (hb hby at_102) rfl ?_
    show Steps p.tables e below (T19.setTop (mkF m 103 #[.val (.int p0), .val (.int p1), .val (.long q2), .second, .val (.int p3), .val (.int v1), .val (.int v3), .val (.ref b4), .unset, .unset, .unset, .unset, .unset, .unset, .unset, .unset] [(.long ((q2.toUInt64 >>> ((56 : Int32) &&& 0x3f).toInt64.toUInt64).toInt64)), (.int (7 : Int32)), (.ref b4)])) t
    refine XS.l2i X19.here hx rfl (hb hby at_103) rfl ?_
    show Steps p.tables e below (T19.setTop (mkF m 104 #[.val (.int p0), .val (.int p1), .val (.long q2), .second, .val (.int p3), .val (.int v1), .val (.int v3), .val (.ref b4), .unset, .unset, .unset, .unset, .unset, .unset, .unset, .unset] [(.int (((q2.toUInt64 >>> ((56 : Int32) &&& 0x3f).toInt64.toUInt64).toInt64).toInt32)), (.int (7 : Int32)), (.ref b4)])) t
    refine XS.i2b X19.here hx rfl (hb hby at_104) rfl ?_
    show Steps p.tables e below (T19.setTop (mkF m 105 #[.val (.int p0), .val (.int p1), .val (.long q2), .second, .val (.int p3), .val (.int v1), .val (.int v3), .val (.ref b4), .unset, .unset, .unset, .unset, .unset, .unset, .unset, .unset] [(.int ((((q2.toUInt64 >>> ((56 : Int32) &&& 0x3f).toInt64.toUInt64).toInt64).toInt32).toInt8.toInt32)), (.int (7 : Int32)), (.ref b4)])) t
    refine st21 _ ?_
    show Steps p.tables e below (T21.setTop (mkF m 106 #[.val (.int p0), .val (.int p1), .val (.long q2), .second, .val (.int p3), .val (.int v1), .val (.int v3), .val (.ref b4), .unset, .unset, .unset, .unset, .unset, .unset, .unset, .unset] [])) t
    exact k
  have J118 : ∀ (T22 : State) (locs22 : List Loc) (m0 : Int32), Stand p l e room_1 s m #[(.int p0), (.int p1), (.long q2), (.int p3)] below meth c T22 locs22 1 8 → T22.heap = h21 → Fr n0 locs22 → D (T22.setTop (mkF m 118 #[.val (.int p0), .val (.int p1), .val (.long q2), .second, .val (.int p3), .val (.int v1), .val (.int v3), .val (.ref b4), .unset, .unset, .unset, .unset, .unset, .unset, .unset, .unset] [(.int m0)])) := by
    intro T22 locs22 m0 X22 e22 N22
    refine hD _ (T22.setTop (mkF m 120 #[.val (.int p0), .val (.int p1), .val (.long q2), .second, .val (.int p3), .val (.int v1), .val (.int v3), .val (.ref b4), .val (.int m0), .unset, .unset, .unset, .unset, .unset, .unset, .unset] [])) (fun t k => ?_) ?_
    · show Steps p.tables e below (T22.setTop (mkF m 118 #[.val (.int p0), .val (.int p1), .val (.long q2), .second, .val (.int p3), .val (.int v1), .val (.int v3), .val (.ref b4), .unset, .unset, .unset, .unset, .unset, .unset, .unset, .unset] [(.int m0)])) t
      refine XS.istore X22.here hx rfl (hb hby at_118) rfl (l' := #[.val (.int p0), .val (.int p1), .val (.long q2), .second, .val (.int p3), .val (.int v1), .val (.int v3), .val (.ref b4), .val (.int m0), .unset, .unset, .unset, .unset, .unset, .unset, .unset]) rfl ?_
      show Steps p.tables e below (T22.setTop (mkF m 120 #[.val (.int p0), .val (.int p1), .val (.long q2), .second, .val (.int p3), .val (.int v1), .val (.int v3), .val (.ref b4), .val (.int m0), .unset, .unset, .unset, .unset, .unset, .unset, .unset] [])) t
      exact k
    have J132 : ∀ (T23 : State) (locs23 : List Loc) (m1 : Int32), Stand p l e room_1 s m #[(.int p0), (.int p1), (.long q2), (.int p3)] below meth c T23 locs23 1 8 → T23.heap = h21 → Fr n0 locs23 → D (T23.setTop (mkF m 132 #[.val (.int p0), .val (.int p1), .val (.long q2), .second, .val (.int p3), .val (.int v1), .val (.int v3), .val (.ref b4), .val (.int m0), .unset, .unset, .unset, .unset, .unset, .unset, .unset] [(.int m1)])) := by
      intro T23 locs23 m1 X23 e23 N23
      refine hD _ (T23.setTop (mkF m 134 #[.val (.int p0), .val (.int p1), .val (.long q2), .second, .val (.int p3), .val (.int v1), .val (.int v3), .val (.ref b4), .val (.int m0), .val (.int m1), .unset, .unset, .unset, .unset, .unset, .unset] [])) (fun t k => ?_) ?_
      · show Steps p.tables e below (T23.setTop (mkF m 132 #[.val (.int p0), .val (.int p1), .val (.long q2), .second, .val (.int p3), .val (.int v1), .val (.int v3), .val (.ref b4), .val (.int m0), .unset, .unset, .unset, .unset, .unset, .unset, .unset] [(.int m1)])) t
        refine XS.istore X23.here hx rfl (hb hby at_132) rfl (l' := #[.val (.int p0), .val (.int p1), .val (.long q2), .second, .val (.int p3), .val (.int v1), .val (.int v3), .val (.ref b4), .val (.int m0), .val (.int m1), .unset, .unset, .unset, .unset, .unset, .unset]) rfl ?_
        show Steps p.tables e below (T23.setTop (mkF m 134 #[.val (.int p0), .val (.int p1), .val (.long q2), .second, .val (.int p3), .val (.int v1), .val (.int v3), .val (.ref b4), .val (.int m0), .val (.int m1), .unset, .unset, .unset, .unset, .unset, .unset] [])) t
        exact k
      have J146 : ∀ (T24 : State) (locs24 : List Loc) (m2 : Int32), Stand p l e room_1 s m #[(.int p0), (.int p1), (.long q2), (.int p3)] below meth c T24 locs24 1 8 → T24.heap = h21 → Fr n0 locs24 → D (T24.setTop (mkF m 146 #[.val (.int p0), .val (.int p1), .val (.long q2), .second, .val (.int p3), .val (.int v1), .val (.int v3), .val (.ref b4), .val (.int m0), .val (.int m1), .unset, .unset, .unset, .unset, .unset, .unset] [(.int m2)])) := by
        intro T24 locs24 m2 X24 e24 N24
        refine hD _ (T24.setTop (mkF m 148 #[.val (.int p0), .val (.int p1), .val (.long q2), .second, .val (.int p3), .val (.int v1), .val (.int v3), .val (.ref b4), .val (.int m0), .val (.int m1), .val (.int m2), .unset, .unset, .unset, .unset, .unset] [])) (fun t k => ?_) ?_
        · show Steps p.tables e below (T24.setTop (mkF m 146 #[.val (.int p0), .val (.int p1), .val (.long q2), .second, .val (.int p3), .val (.int v1), .val (.int v3), .val (.ref b4), .val (.int m0), .val (.int m1), .unset, .unset, .unset, .unset, .unset, .unset] [(.int m2)])) t
          refine XS.istore X24.here hx rfl (hb hby at_146) rfl (l' := #[.val (.int p0), .val (.int p1), .val (.long q2), .second, .val (.int p3), .val (.int v1), .val (.int v3), .val (.ref b4), .val (.int m0), .val (.int m1), .val (.int m2), .unset, .unset, .unset, .unset, .unset]) rfl ?_
          show Steps p.tables e below (T24.setTop (mkF m 148 #[.val (.int p0), .val (.int p1), .val (.long q2), .second, .val (.int p3), .val (.int v1), .val (.int v3), .val (.ref b4), .val (.int m0), .val (.int m1), .val (.int m2), .unset, .unset, .unset, .unset, .unset] [])) t
          exact k
        have J165 : ∀ (T25 : State) (locs25 : List Loc) (y0 : Int32), Stand p l e room_1 s m #[(.int p0), (.int p1), (.long q2), (.int p3)] below meth c T25 locs25 1 8 → T25.heap = h21 → Fr n0 locs25 → 0 ≤ y0.toInt ∧ y0.toInt ≤ 255 → D (T25.setTop (mkF m 165 #[.val (.int p0), .val (.int p1), .val (.long q2), .second, .val (.int p3), .val (.int v1), .val (.int v3), .val (.ref b4), .val (.int m0), .val (.int m1), .val (.int m2), .unset, .unset, .unset, .unset, .unset] [(.int y0)])) := by
          intro T25 locs25 y0 X25 e25 N25 hv0
          refine hD _ (T25.setTop (mkF m 167 #[.val (.int p0), .val (.int p1), .val (.long q2), .second, .val (.int p3), .val (.int v1), .val (.int v3), .val (.ref b4), .val (.int m0), .val (.int m1), .val (.int m2), .val (.int y0), .unset, .unset, .unset, .unset] [])) (fun t k => ?_) ?_
          · show Steps p.tables e below (T25.setTop (mkF m 165 #[.val (.int p0), .val (.int p1), .val (.long q2), .second, .val (.int p3), .val (.int v1), .val (.int v3), .val (.ref b4), .val (.int m0), .val (.int m1), .val (.int m2), .unset, .unset, .unset, .unset, .unset] [(.int y0)])) t
            refine XS.istore X25.here hx rfl (hb hby at_165) rfl (l' := #[.val (.int p0), .val (.int p1), .val (.long q2), .second, .val (.int p3), .val (.int v1), .val (.int v3), .val (.ref b4), .val (.int m0), .val (.int m1), .val (.int m2), .val (.int y0), .unset, .unset, .unset, .unset]) rfl ?_
            show Steps p.tables e below (T25.setTop (mkF m 167 #[.val (.int p0), .val (.int p1), .val (.long q2), .second, .val (.int p3), .val (.int v1), .val (.int v3), .val (.ref b4), .val (.int m0), .val (.int m1), .val (.int m2), .val (.int y0), .unset, .unset, .unset, .unset] [])) t
            exact k
          have J186 : ∀ (T26 : State) (locs26 : List Loc) (y1 : Int32), Stand p l e room_1 s m #[(.int p0), (.int p1), (.long q2), (.int p3)] below meth c T26 locs26 1 8 → T26.heap = h21 → Fr n0 locs26 → 0 ≤ y1.toInt ∧ y1.toInt ≤ 255 → D (T26.setTop (mkF m 186 #[.val (.int p0), .val (.int p1), .val (.long q2), .second, .val (.int p3), .val (.int v1), .val (.int v3), .val (.ref b4), .val (.int m0), .val (.int m1), .val (.int m2), .val (.int y0), .unset, .unset, .unset, .unset] [(.int y1)])) := by
            intro T26 locs26 y1 X26 e26 N26 hv1
            refine hD _ (T26.setTop (mkF m 188 #[.val (.int p0), .val (.int p1), .val (.long q2), .second, .val (.int p3), .val (.int v1), .val (.int v3), .val (.ref b4), .val (.int m0), .val (.int m1), .val (.int m2), .val (.int y0), .val (.int y1), .unset, .unset, .unset] [])) (fun t k => ?_) ?_
            · show Steps p.tables e below (T26.setTop (mkF m 186 #[.val (.int p0), .val (.int p1), .val (.long q2), .second, .val (.int p3), .val (.int v1), .val (.int v3), .val (.ref b4), .val (.int m0), .val (.int m1), .val (.int m2), .val (.int y0), .unset, .unset, .unset, .unset] [(.int y1)])) t
              refine XS.istore X26.here hx rfl (hb hby at_186) rfl (l' := #[.val (.int p0), .val (.int p1), .val (.long q2), .second, .val (.int p3), .val (.int v1), .val (.int v3), .val (.ref b4), .val (.int m0), .val (.int m1), .val (.int m2), .val (.int y0), .val (.int y1), .unset, .unset, .unset]) rfl ?_
              show Steps p.tables e below (T26.setTop (mkF m 188 #[.val (.int p0), .val (.int p1), .val (.long q2), .second, .val (.int p3), .val (.int v1), .val (.int v3), .val (.ref b4), .val (.int m0), .val (.int m1), .val (.int m2), .val (.int y0), .val (.int y1), .unset, .unset, .unset] [])) t
              exact k
            have J207 : ∀ (T27 : State) (locs27 : List Loc) (y2 : Int32), Stand p l e room_1 s m #[(.int p0), (.int p1), (.long q2), (.int p3)] below meth c T27 locs27 1 8 → T27.heap = h21 → Fr n0 locs27 → 0 ≤ y2.toInt ∧ y2.toInt ≤ 255 → D (T27.setTop (mkF m 207 #[.val (.int p0), .val (.int p1), .val (.long q2), .second, .val (.int p3), .val (.int v1), .val (.int v3), .val (.ref b4), .val (.int m0), .val (.int m1), .val (.int m2), .val (.int y0), .val (.int y1), .unset, .unset, .unset] [(.int y2)])) := by
              intro T27 locs27 y2 X27 e27 N27 hv2
              obtain ⟨T28, _, L28, X28, ⟨rfl, Nq28, A28⟩, st28⟩ := Own.callS (y := (⟨"org/wireform/json/JsonReaderPastByteOrderMarkPinLaw", "put", "([BII)V"⟩ : MethodName)) (W := 0) (argsL := [(.ref b4), (.int v1), (.int y0)]) (rest := []) X27 hx hZ hown (hw _ (List.mem_of_getElem? (i := 6) rfl)) (hw _ (List.mem_of_getElem? (i := 7) rfl)) (hw _ (List.mem_of_getElem? (i := 4) rfl)) (hw _ (List.mem_of_getElem? (i := 8) rfl)) (by decide) e27 (rm2 l Z a0 hw [] b4 v1 y0 gb h21 n0 Z21 g0_b4 (by exact hst.1) Agb) (by decide) (by decide) (by decide) (by decide) (g := (mkF m 215 #[.val (.int p0), .val (.int p1), .val (.long q2), .second, .val (.int p3), .val (.int v1), .val (.int v3), .val (.ref b4), .val (.int m0), .val (.int m1), .val (.int m2), .val (.int y0), .val (.int y1), .val (.int y2), .unset, .unset] [(.int y0), (.int v1), (.ref b4)])) rfl (by rw [hml]; rfl) (lenOf pd_0 rfl) rfl (by show 2 * 0 + _ ≤ _; exact Nat.le_of_eq rfl) (hb hby at_215)
              have N28 := Fr.app N27 Nq28
              have Z28 : n0 ≤ T28.heap.size := Nat.le_trans g0_b4 (Nat.le_of_lt A28.lt)
              obtain ⟨T29, _, L29, X29, ⟨rfl, Nq29, A29⟩, st29⟩ := Own.callS (y := (⟨"org/wireform/json/JsonReaderPastByteOrderMarkPinLaw", "put", "([BII)V"⟩ : MethodName)) (W := 0) (argsL := [(.ref b4), (.int (v1 + (1 : Int32))), (.int y1)]) (rest := []) X28 hx hZ hown (hw _ (List.mem_of_getElem? (i := 6) rfl)) (hw _ (List.mem_of_getElem? (i := 7) rfl)) (hw _ (List.mem_of_getElem? (i := 4) rfl)) (hw _ (List.mem_of_getElem? (i := 8) rfl)) (by decide) rfl (rm2 l Z a0 hw [] b4 (v1 + (1 : Int32)) y1 (own_put gb v1 y0) T28.heap n0 Z28 g0_b4 (by have := own_pl1 hst; have := own_pl2 hst; omega) A28) (by decide) (by decide) (by decide) (by decide) (g := (mkF m 226 #[.val (.int p0), .val (.int p1), .val (.long q2), .second, .val (.int p3), .val (.int v1), .val (.int v3), .val (.ref b4), .val (.int m0), .val (.int m1), .val (.int m2), .val (.int y0), .val (.int y1), .val (.int y2), .unset, .unset] [(.int y1), (.int (v1 + (1 : Int32))), (.ref b4)])) rfl (by rw [hml]; rfl) (lenOf pd_0 rfl) rfl (by show 2 * 0 + _ ≤ _; exact Nat.le_of_eq rfl) (hb hby at_226)
              have N29 := Fr.app N28 Nq29
              have Z29 : n0 ≤ T29.heap.size := Nat.le_trans g0_b4 (Nat.le_of_lt A29.lt)
              obtain ⟨T30, _, L30, X30, ⟨rfl, Nq30, A30⟩, st30⟩ := Own.callS (y := (⟨"org/wireform/json/JsonReaderPastByteOrderMarkPinLaw", "put", "([BII)V"⟩ : MethodName)) (W := 0) (argsL := [(.ref b4), (.int (v1 + (2 : Int32))), (.int y2)]) (rest := []) X29 hx hZ hown (hw _ (List.mem_of_getElem? (i := 6) rfl)) (hw _ (List.mem_of_getElem? (i := 7) rfl)) (hw _ (List.mem_of_getElem? (i := 4) rfl)) (hw _ (List.mem_of_getElem? (i := 8) rfl)) (by decide) rfl (rm2 l Z a0 hw [] b4 (v1 + (2 : Int32)) y2 (own_put (own_put gb v1 y0) (v1 + (1 : Int32)) y1) T29.heap n0 Z29 g0_b4 (by have := own_pl1 hst; have := own_pl2 hst; omega) A29) (by decide) (by decide) (by decide) (by decide) (g := (mkF m 237 #[.val (.int p0), .val (.int p1), .val (.long q2), .second, .val (.int p3), .val (.int v1), .val (.int v3), .val (.ref b4), .val (.int m0), .val (.int m1), .val (.int m2), .val (.int y0), .val (.int y1), .val (.int y2), .unset, .unset] [(.int y2), (.int (v1 + (2 : Int32))), (.ref b4)])) rfl (by rw [hml]; rfl) (lenOf pd_0 rfl) rfl (by show 2 * 0 + _ ≤ _; exact Nat.le_of_eq rfl) (hb hby at_237)
              have N30 := Fr.app N29 Nq30
              have Z30 : n0 ≤ T30.heap.size := Nat.le_trans g0_b4 (Nat.le_of_lt A30.lt)
              refine hD _ (T30.setTop (mkF m 246 #[.val (.int p0), .val (.int p1), .val (.long q2), .second, .val (.int p3), .val (.int v1), .val (.int v3), .val (.ref b4), .val (.int m0), .val (.int m1), .val (.int m2), .val (.int y0), .val (.int y1), .val (.int y2), .unset, .unset] [(.int (3 : Int32)), (.int (v3 - v1))])) (fun t k => ?_) ?_
              · show Steps p.tables e below (T27.setTop (mkF m 207 #[.val (.int p0), .val (.int p1), .val (.long q2), .second, .val (.int p3), .val (.int v1), .val (.int v3), .val (.ref b4), .val (.int m0), .val (.int m1), .val (.int m2), .val (.int y0), .val (.int y1), .unset, .unset, .unset] [(.int y2)])) t
                refine XS.istore X27.here hx rfl (hb hby at_207) rfl (l' := #[.val (.int p0), .val (.int p1), .val (.long q2), .second, .val (.int p3), .val (.int v1), .val (.int v3), .val (.ref b4), .val (.int m0), .val (.int m1), .val (.int m2), .val (.int y0), .val (.int y1), .val (.int y2), .unset, .unset]) rfl ?_
                show Steps p.tables e below (T27.setTop (mkF m 209 #[.val (.int p0), .val (.int p1), .val (.long q2), .second, .val (.int p3), .val (.int v1), .val (.int v3), .val (.ref b4), .val (.int m0), .val (.int m1), .val (.int m2), .val (.int y0), .val (.int y1), .val (.int y2), .unset, .unset] [])) t
                refine XS.aload X27.here hx rfl (hb hby at_209) rfl rfl ?_
                show Steps p.tables e below (T27.setTop (mkF m 211 #[.val (.int p0), .val (.int p1), .val (.long q2), .second, .val (.int p3), .val (.int v1), .val (.int v3), .val (.ref b4), .val (.int m0), .val (.int m1), .val (.int m2), .val (.int y0), .val (.int y1), .val (.int y2), .unset, .unset] [(.ref b4)])) t
                refine XS.iload X27.here hx rfl (hb hby at_211) rfl ?_
                show Steps p.tables e below (T27.setTop (mkF m 213 #[.val (.int p0), .val (.int p1), .val (.long q2), .second, .val (.int p3), .val (.int v1), .val (.int v3), .val (.ref b4), .val (.int m0), .val (.int m1), .val (.int m2), .val (.int y0), .val (.int y1), .val (.int y2), .unset, .unset] [(.int v1), (.ref b4)])) t
                refine XS.iload X27.here hx rfl (hb hby at_213) rfl ?_
                show Steps p.tables e below (T27.setTop (mkF m 215 #[.val (.int p0), .val (.int p1), .val (.long q2), .second, .val (.int p3), .val (.int v1), .val (.int v3), .val (.ref b4), .val (.int m0), .val (.int m1), .val (.int m2), .val (.int y0), .val (.int y1), .val (.int y2), .unset, .unset] [(.int y0), (.int v1), (.ref b4)])) t
                refine st28 _ ?_
                show Steps p.tables e below (T28.setTop (mkF m 218 #[.val (.int p0), .val (.int p1), .val (.long q2), .second, .val (.int p3), .val (.int v1), .val (.int v3), .val (.ref b4), .val (.int m0), .val (.int m1), .val (.int m2), .val (.int y0), .val (.int y1), .val (.int y2), .unset, .unset] [])) t
                refine XS.aload X28.here hx rfl (hb hby at_218) rfl rfl ?_
                show Steps p.tables e below (T28.setTop (mkF m 220 #[.val (.int p0), .val (.int p1), .val (.long q2), .second, .val (.int p3), .val (.int v1), .val (.int v3), .val (.ref b4), .val (.int m0), .val (.int m1), .val (.int m2), .val (.int y0), .val (.int y1), .val (.int y2), .unset, .unset] [(.ref b4)])) t
                refine XS.iload X28.here hx rfl (hb hby at_220) rfl ?_
                show Steps p.tables e below (T28.setTop (mkF m 222 #[.val (.int p0), .val (.int p1), .val (.long q2), .second, .val (.int p3), .val (.int v1), .val (.int v3), .val (.ref b4), .val (.int m0), .val (.int m1), .val (.int m2), .val (.int y0), .val (.int y1), .val (.int y2), .unset, .unset] [(.int v1), (.ref b4)])) t
                refine XS.iconst X28.here hx rfl (hb hby at_222) ?_
                show Steps p.tables e below (T28.setTop (mkF m 223 #[.val (.int p0), .val (.int p1), .val (.long q2), .second, .val (.int p3), .val (.int v1), .val (.int v3), .val (.ref b4), .val (.int m0), .val (.int m1), .val (.int m2), .val (.int y0), .val (.int y1), .val (.int y2), .unset, .unset] [(.int (1 : Int32)), (.int v1), (.ref b4)])) t
                refine XS.iadd X28.here hx rfl (hb hby at_223) rfl ?_
                show Steps p.tables e below (T28.setTop (mkF m 224 #[.val (.int p0), .val (.int p1), .val (.long q2), .second, .val (.int p3), .val (.int v1), .val (.int v3), .val (.ref b4), .val (.int m0), .val (.int m1), .val (.int m2), .val (.int y0), .val (.int y1), .val (.int y2), .unset, .unset] [(.int (v1 + (1 : Int32))), (.ref b4)])) t
                refine XS.iload X28.here hx rfl (hb hby at_224) rfl ?_
                show Steps p.tables e below (T28.setTop (mkF m 226 #[.val (.int p0), .val (.int p1), .val (.long q2), .second, .val (.int p3), .val (.int v1), .val (.int v3), .val (.ref b4), .val (.int m0), .val (.int m1), .val (.int m2), .val (.int y0), .val (.int y1), .val (.int y2), .unset, .unset] [(.int y1), (.int (v1 + (1 : Int32))), (.ref b4)])) t
                refine st29 _ ?_
                show Steps p.tables e below (T29.setTop (mkF m 229 #[.val (.int p0), .val (.int p1), .val (.long q2), .second, .val (.int p3), .val (.int v1), .val (.int v3), .val (.ref b4), .val (.int m0), .val (.int m1), .val (.int m2), .val (.int y0), .val (.int y1), .val (.int y2), .unset, .unset] [])) t
                refine XS.aload X29.here hx rfl (hb hby at_229) rfl rfl ?_
                show Steps p.tables e below (T29.setTop (mkF m 231 #[.val (.int p0), .val (.int p1), .val (.long q2), .second, .val (.int p3), .val (.int v1), .val (.int v3), .val (.ref b4), .val (.int m0), .val (.int m1), .val (.int m2), .val (.int y0), .val (.int y1), .val (.int y2), .unset, .unset] [(.ref b4)])) t
                refine XS.iload X29.here hx rfl (hb hby at_231) rfl ?_
                show Steps p.tables e below (T29.setTop (mkF m 233 #[.val (.int p0), .val (.int p1), .val (.long q2), .second, .val (.int p3), .val (.int v1), .val (.int v3), .val (.ref b4), .val (.int m0), .val (.int m1), .val (.int m2), .val (.int y0), .val (.int y1), .val (.int y2), .unset, .unset] [(.int v1), (.ref b4)])) t
                refine XS.iconst X29.here hx rfl (hb hby at_233) ?_
                show Steps p.tables e below (T29.setTop (mkF m 234 #[.val (.int p0), .val (.int p1), .val (.long q2), .second, .val (.int p3), .val (.int v1), .val (.int v3), .val (.ref b4), .val (.int m0), .val (.int m1), .val (.int m2), .val (.int y0), .val (.int y1), .val (.int y2), .unset, .unset] [(.int (2 : Int32)), (.int v1), (.ref b4)])) t
                refine XS.iadd X29.here hx rfl (hb hby at_234) rfl ?_
                show Steps p.tables e below (T29.setTop (mkF m 235 #[.val (.int p0), .val (.int p1), .val (.long q2), .second, .val (.int p3), .val (.int v1), .val (.int v3), .val (.ref b4), .val (.int m0), .val (.int m1), .val (.int m2), .val (.int y0), .val (.int y1), .val (.int y2), .unset, .unset] [(.int (v1 + (2 : Int32))), (.ref b4)])) t
                refine XS.iload X29.here hx rfl (hb hby at_235) rfl ?_
                show Steps p.tables e below (T29.setTop (mkF m 237 #[.val (.int p0), .val (.int p1), .val (.long q2), .second, .val (.int p3), .val (.int v1), .val (.int v3), .val (.ref b4), .val (.int m0), .val (.int m1), .val (.int m2), .val (.int y0), .val (.int y1), .val (.int y2), .unset, .unset] [(.int y2), (.int (v1 + (2 : Int32))), (.ref b4)])) t
                refine st30 _ ?_
                show Steps p.tables e below (T30.setTop (mkF m 240 #[.val (.int p0), .val (.int p1), .val (.long q2), .second, .val (.int p3), .val (.int v1), .val (.int v3), .val (.ref b4), .val (.int m0), .val (.int m1), .val (.int m2), .val (.int y0), .val (.int y1), .val (.int y2), .unset, .unset] [])) t
                refine XS.iload X30.here hx rfl (hb hby at_240) rfl ?_
                show Steps p.tables e below (T30.setTop (mkF m 242 #[.val (.int p0), .val (.int p1), .val (.long q2), .second, .val (.int p3), .val (.int v1), .val (.int v3), .val (.ref b4), .val (.int m0), .val (.int m1), .val (.int m2), .val (.int y0), .val (.int y1), .val (.int y2), .unset, .unset] [(.int v3)])) t
                refine XS.iload X30.here hx rfl (hb hby at_242) rfl ?_
                show Steps p.tables e below (T30.setTop (mkF m 244 #[.val (.int p0), .val (.int p1), .val (.long q2), .second, .val (.int p3), .val (.int v1), .val (.int v3), .val (.ref b4), .val (.int m0), .val (.int m1), .val (.int m2), .val (.int y0), .val (.int y1), .val (.int y2), .unset, .unset] [(.int v1), (.int v3)])) t
                refine XS.isub X30.here hx rfl (hb hby at_244) rfl ?_
                show Steps p.tables e below (T30.setTop (mkF m 245 #[.val (.int p0), .val (.int p1), .val (.long q2), .second, .val (.int p3), .val (.int v1), .val (.int v3), .val (.ref b4), .val (.int m0), .val (.int m1), .val (.int m2), .val (.int y0), .val (.int y1), .val (.int y2), .unset, .unset] [(.int (v3 - v1))])) t
                refine XS.iconst X30.here hx rfl (hb hby at_245) ?_
                show Steps p.tables e below (T30.setTop (mkF m 246 #[.val (.int p0), .val (.int p1), .val (.long q2), .second, .val (.int p3), .val (.int v1), .val (.int v3), .val (.ref b4), .val (.int m0), .val (.int m1), .val (.int m2), .val (.int y0), .val (.int y1), .val (.int y2), .unset, .unset] [(.int (3 : Int32)), (.int (v3 - v1))])) t
                exact k
              by_cases hc31 : (v3 - v1) < (3 : Int32)
              · obtain ⟨T32, _, L32, X32, ⟨rfl, Nq32, e32⟩, st32⟩ := Own.callS (y := (⟨"org/wireform/json/JsonReader", "pastByteOrderMark", "([BII)I"⟩ : MethodName)) (W := 0) (argsL := [(.ref b4), (.int v1), (.int v3)]) (rest := []) X30 hx hZ hown (hw _ (List.mem_of_getElem? (i := 9) rfl)) (hw _ (List.mem_of_getElem? (i := 10) rfl)) (hw _ (List.mem_of_getElem? (i := 11) rfl)) (hw _ (List.mem_of_getElem? (i := 12) rfl)) (by decide) rfl (rm3 l Z a0 hw [] b4 v1 v3 (own_put (own_put (own_put gb v1 y0) (v1 + (1 : Int32)) y1) (v1 + (2 : Int32)) y2) T30.heap n0 hst hen A30) (by decide) (by decide) (by decide) (by decide) (g := (mkF m 302 #[.val (.int p0), .val (.int p1), .val (.long q2), .second, .val (.int p3), .val (.int v1), .val (.int v3), .val (.ref b4), .val (.int m0), .val (.int m1), .val (.int m2), .val (.int y0), .val (.int y1), .val (.int y2), .val (.int (0 : Int32)), .val (.int v1)] [(.int v3), (.int v1), (.ref b4)])) rfl (by rw [hml]; rfl) (lenOf pd_1 rfl) rfl (by show 2 * 0 + _ ≤ _; exact Nat.le_of_eq rfl) (hb hby at_302)
                have N32 := Fr.app N30 Nq32
                refine hD _ (T32.setTop (mkF m 307 #[.val (.int p0), .val (.int p1), .val (.long q2), .second, .val (.int p3), .val (.int v1), .val (.int v3), .val (.ref b4), .val (.int m0), .val (.int m1), .val (.int m2), .val (.int y0), .val (.int y1), .val (.int y2), .val (.int (0 : Int32)), .val (.int v1)] [(.int v1), (.int (if own_mark (own_put (own_put (own_put gb v1 y0) (v1 + (1 : Int32)) y1) (v1 + (2 : Int32)) y2) v1 v3 = true then v1 + 3 else v1))])) (fun t k => ?_) ?_
                · show Steps p.tables e below (T30.setTop (mkF m 246 #[.val (.int p0), .val (.int p1), .val (.long q2), .second, .val (.int p3), .val (.int v1), .val (.int v3), .val (.ref b4), .val (.int m0), .val (.int m1), .val (.int m2), .val (.int y0), .val (.int y1), .val (.int y2), .unset, .unset] [(.int (3 : Int32)), (.int (v3 - v1))])) t
                  refine XS.icmpYes X30.here hx rfl (pc0 := 246) (pc' := 277) rfl (hb hby at_246) rfl (tlt hc31).1 (by decide) (by decide) ?_
                  show Steps p.tables e below (T30.setTop (mkF m 277 #[.val (.int p0), .val (.int p1), .val (.long q2), .second, .val (.int p3), .val (.int v1), .val (.int v3), .val (.ref b4), .val (.int m0), .val (.int m1), .val (.int m2), .val (.int y0), .val (.int y1), .val (.int y2), .unset, .unset] [])) t
                  refine XS.iconst X30.here hx rfl (hb hby at_277) ?_
                  show Steps p.tables e below (T30.setTop (mkF m 278 #[.val (.int p0), .val (.int p1), .val (.long q2), .second, .val (.int p3), .val (.int v1), .val (.int v3), .val (.ref b4), .val (.int m0), .val (.int m1), .val (.int m2), .val (.int y0), .val (.int y1), .val (.int y2), .unset, .unset] [(.int (0 : Int32))])) t
                  refine XS.istore X30.here hx rfl (hb hby at_278) rfl (l' := #[.val (.int p0), .val (.int p1), .val (.long q2), .second, .val (.int p3), .val (.int v1), .val (.int v3), .val (.ref b4), .val (.int m0), .val (.int m1), .val (.int m2), .val (.int y0), .val (.int y1), .val (.int y2), .val (.int (0 : Int32)), .unset]) rfl ?_
                  show Steps p.tables e below (T30.setTop (mkF m 280 #[.val (.int p0), .val (.int p1), .val (.long q2), .second, .val (.int p3), .val (.int v1), .val (.int v3), .val (.ref b4), .val (.int m0), .val (.int m1), .val (.int m2), .val (.int y0), .val (.int y1), .val (.int y2), .val (.int (0 : Int32)), .unset] [])) t
                  refine XS.iload X30.here hx rfl (hb hby at_280) rfl ?_
                  show Steps p.tables e below (T30.setTop (mkF m 282 #[.val (.int p0), .val (.int p1), .val (.long q2), .second, .val (.int p3), .val (.int v1), .val (.int v3), .val (.ref b4), .val (.int m0), .val (.int m1), .val (.int m2), .val (.int y0), .val (.int y1), .val (.int y2), .val (.int (0 : Int32)), .unset] [(.int (0 : Int32))])) t
                  refine XS.ifYes X30.here hx rfl (pc0 := 282) (pc' := 292) rfl (hb hby at_282) rfl (by decide) (by decide) (by decide) ?_
                  show Steps p.tables e below (T30.setTop (mkF m 292 #[.val (.int p0), .val (.int p1), .val (.long q2), .second, .val (.int p3), .val (.int v1), .val (.int v3), .val (.ref b4), .val (.int m0), .val (.int m1), .val (.int m2), .val (.int y0), .val (.int y1), .val (.int y2), .val (.int (0 : Int32)), .unset] [])) t
                  refine XS.iload X30.here hx rfl (hb hby at_292) rfl ?_
                  show Steps p.tables e below (T30.setTop (mkF m 294 #[.val (.int p0), .val (.int p1), .val (.long q2), .second, .val (.int p3), .val (.int v1), .val (.int v3), .val (.ref b4), .val (.int m0), .val (.int m1), .val (.int m2), .val (.int y0), .val (.int y1), .val (.int y2), .val (.int (0 : Int32)), .unset] [(.int v1)])) t
                  refine XS.istore X30.here hx rfl (hb hby at_294) rfl (l' := #[.val (.int p0), .val (.int p1), .val (.long q2), .second, .val (.int p3), .val (.int v1), .val (.int v3), .val (.ref b4), .val (.int m0), .val (.int m1), .val (.int m2), .val (.int y0), .val (.int y1), .val (.int y2), .val (.int (0 : Int32)), .val (.int v1)]) rfl ?_
                  show Steps p.tables e below (T30.setTop (mkF m 296 #[.val (.int p0), .val (.int p1), .val (.long q2), .second, .val (.int p3), .val (.int v1), .val (.int v3), .val (.ref b4), .val (.int m0), .val (.int m1), .val (.int m2), .val (.int y0), .val (.int y1), .val (.int y2), .val (.int (0 : Int32)), .val (.int v1)] [])) t
                  refine XS.aload X30.here hx rfl (hb hby at_296) rfl rfl ?_
                  show Steps p.tables e below (T30.setTop (mkF m 298 #[.val (.int p0), .val (.int p1), .val (.long q2), .second, .val (.int p3), .val (.int v1), .val (.int v3), .val (.ref b4), .val (.int m0), .val (.int m1), .val (.int m2), .val (.int y0), .val (.int y1), .val (.int y2), .val (.int (0 : Int32)), .val (.int v1)] [(.ref b4)])) t
                  refine XS.iload X30.here hx rfl (hb hby at_298) rfl ?_
                  show Steps p.tables e below (T30.setTop (mkF m 300 #[.val (.int p0), .val (.int p1), .val (.long q2), .second, .val (.int p3), .val (.int v1), .val (.int v3), .val (.ref b4), .val (.int m0), .val (.int m1), .val (.int m2), .val (.int y0), .val (.int y1), .val (.int y2), .val (.int (0 : Int32)), .val (.int v1)] [(.int v1), (.ref b4)])) t
                  refine XS.iload X30.here hx rfl (hb hby at_300) rfl ?_
                  show Steps p.tables e below (T30.setTop (mkF m 302 #[.val (.int p0), .val (.int p1), .val (.long q2), .second, .val (.int p3), .val (.int v1), .val (.int v3), .val (.ref b4), .val (.int m0), .val (.int m1), .val (.int m2), .val (.int y0), .val (.int y1), .val (.int y2), .val (.int (0 : Int32)), .val (.int v1)] [(.int v3), (.int v1), (.ref b4)])) t
                  refine st32 _ ?_
                  show Steps p.tables e below (T32.setTop (mkF m 305 #[.val (.int p0), .val (.int p1), .val (.long q2), .second, .val (.int p3), .val (.int v1), .val (.int v3), .val (.ref b4), .val (.int m0), .val (.int m1), .val (.int m2), .val (.int y0), .val (.int y1), .val (.int y2), .val (.int (0 : Int32)), .val (.int v1)] [(.int (if own_mark (own_put (own_put (own_put gb v1 y0) (v1 + (1 : Int32)) y1) (v1 + (2 : Int32)) y2) v1 v3 = true then v1 + 3 else v1))])) t
                  refine XS.iload X32.here hx rfl (hb hby at_305) rfl ?_
                  show Steps p.tables e below (T32.setTop (mkF m 307 #[.val (.int p0), .val (.int p1), .val (.long q2), .second, .val (.int p3), .val (.int v1), .val (.int v3), .val (.ref b4), .val (.int m0), .val (.int m1), .val (.int m2), .val (.int y0), .val (.int y1), .val (.int y2), .val (.int (0 : Int32)), .val (.int v1)] [(.int v1), (.int (if own_mark (own_put (own_put (own_put gb v1 y0) (v1 + (1 : Int32)) y1) (v1 + (2 : Int32)) y2) v1 v3 = true then v1 + 3 else v1))])) t
                  exact k
                have hc33 : (if own_mark (own_put (own_put (own_put gb v1 y0) (v1 + (1 : Int32)) y1) (v1 + (2 : Int32)) y2) v1 v3 = true then v1 + 3 else v1) = v1 := by rw [own_fin hst hv0 hv1 hv2]; simp [hc31]
                refine hD _ (T32.setTop (mkF m 315 #[.val (.int p0), .val (.int p1), .val (.long q2), .second, .val (.int p3), .val (.int v1), .val (.int v3), .val (.ref b4), .val (.int m0), .val (.int m1), .val (.int m2), .val (.int y0), .val (.int y1), .val (.int y2), .val (.int (0 : Int32)), .val (.int v1)] [(.int (1 : Int32))])) (fun t k => ?_) ?_
                · show Steps p.tables e below (T32.setTop (mkF m 307 #[.val (.int p0), .val (.int p1), .val (.long q2), .second, .val (.int p3), .val (.int v1), .val (.int v3), .val (.ref b4), .val (.int m0), .val (.int m1), .val (.int m2), .val (.int y0), .val (.int y1), .val (.int y2), .val (.int (0 : Int32)), .val (.int v1)] [(.int v1), (.int (if own_mark (own_put (own_put (own_put gb v1 y0) (v1 + (1 : Int32)) y1) (v1 + (2 : Int32)) y2) v1 v3 = true then v1 + 3 else v1))])) t
                  refine XS.icmpNo X32.here hx rfl (hb hby at_307) rfl (teq hc33).2 ?_
                  show Steps p.tables e below (T32.setTop (mkF m 310 #[.val (.int p0), .val (.int p1), .val (.long q2), .second, .val (.int p3), .val (.int v1), .val (.int v3), .val (.ref b4), .val (.int m0), .val (.int m1), .val (.int m2), .val (.int y0), .val (.int y1), .val (.int y2), .val (.int (0 : Int32)), .val (.int v1)] [])) t
                  refine XS.iconst X32.here hx rfl (hb hby at_310) ?_
                  show Steps p.tables e below (T32.setTop (mkF m 311 #[.val (.int p0), .val (.int p1), .val (.long q2), .second, .val (.int p3), .val (.int v1), .val (.int v3), .val (.ref b4), .val (.int m0), .val (.int m1), .val (.int m2), .val (.int y0), .val (.int y1), .val (.int y2), .val (.int (0 : Int32)), .val (.int v1)] [(.int (1 : Int32))])) t
                  refine XS.goto X32.here hx rfl (pc0 := 311) (pc' := 315) rfl (hb hby at_311) (by decide) (by decide) ?_
                  show Steps p.tables e below (T32.setTop (mkF m 315 #[.val (.int p0), .val (.int p1), .val (.long q2), .second, .val (.int p3), .val (.int v1), .val (.int v3), .val (.ref b4), .val (.int m0), .val (.int m1), .val (.int m2), .val (.int y0), .val (.int y1), .val (.int y2), .val (.int (0 : Int32)), .val (.int v1)] [(.int (1 : Int32))])) t
                  exact k
                exact Own.retN hR X32 hx (t := .boolean) hret (by simp) (hb hby at_315) (by decide) (by decide) (by decide) ⟨rfl, N32⟩
              · refine hD _ (T30.setTop (mkF m 254 #[.val (.int p0), .val (.int p1), .val (.long q2), .second, .val (.int p3), .val (.int v1), .val (.int v3), .val (.ref b4), .val (.int m0), .val (.int m1), .val (.int m2), .val (.int y0), .val (.int y1), .val (.int y2), .unset, .unset] [(.int (239 : Int32)), (.int y0)])) (fun t k => ?_) ?_
                · show Steps p.tables e below (T30.setTop (mkF m 246 #[.val (.int p0), .val (.int p1), .val (.long q2), .second, .val (.int p3), .val (.int v1), .val (.int v3), .val (.ref b4), .val (.int m0), .val (.int m1), .val (.int m2), .val (.int y0), .val (.int y1), .val (.int y2), .unset, .unset] [(.int (3 : Int32)), (.int (v3 - v1))])) t
                  refine XS.icmpNo X30.here hx rfl (hb hby at_246) rfl (flt hc31).1 ?_
                  show Steps p.tables e below (T30.setTop (mkF m 249 #[.val (.int p0), .val (.int p1), .val (.long q2), .second, .val (.int p3), .val (.int v1), .val (.int v3), .val (.ref b4), .val (.int m0), .val (.int m1), .val (.int m2), .val (.int y0), .val (.int y1), .val (.int y2), .unset, .unset] [])) t
                  refine XS.iload X30.here hx rfl (hb hby at_249) rfl ?_
                  show Steps p.tables e below (T30.setTop (mkF m 251 #[.val (.int p0), .val (.int p1), .val (.long q2), .second, .val (.int p3), .val (.int v1), .val (.int v3), .val (.ref b4), .val (.int m0), .val (.int m1), .val (.int m2), .val (.int y0), .val (.int y1), .val (.int y2), .unset, .unset] [(.int y0)])) t
                  refine XS.sipush X30.here hx rfl (hb hby at_251) ?_
                  show Steps p.tables e below (T30.setTop (mkF m 254 #[.val (.int p0), .val (.int p1), .val (.long q2), .second, .val (.int p3), .val (.int v1), .val (.int v3), .val (.ref b4), .val (.int m0), .val (.int m1), .val (.int m2), .val (.int y0), .val (.int y1), .val (.int y2), .unset, .unset] [(.int (239 : Int32)), (.int y0)])) t
                  exact k
                by_cases hc34 : y0 = (239 : Int32)
                · refine hD _ (T30.setTop (mkF m 262 #[.val (.int p0), .val (.int p1), .val (.long q2), .second, .val (.int p3), .val (.int v1), .val (.int v3), .val (.ref b4), .val (.int m0), .val (.int m1), .val (.int m2), .val (.int y0), .val (.int y1), .val (.int y2), .unset, .unset] [(.int (187 : Int32)), (.int y1)])) (fun t k => ?_) ?_
                  · show Steps p.tables e below (T30.setTop (mkF m 254 #[.val (.int p0), .val (.int p1), .val (.long q2), .second, .val (.int p3), .val (.int v1), .val (.int v3), .val (.ref b4), .val (.int m0), .val (.int m1), .val (.int m2), .val (.int y0), .val (.int y1), .val (.int y2), .unset, .unset] [(.int (239 : Int32)), (.int y0)])) t
                    refine XS.icmpNo X30.here hx rfl (hb hby at_254) rfl (teq hc34).2 ?_
                    show Steps p.tables e below (T30.setTop (mkF m 257 #[.val (.int p0), .val (.int p1), .val (.long q2), .second, .val (.int p3), .val (.int v1), .val (.int v3), .val (.ref b4), .val (.int m0), .val (.int m1), .val (.int m2), .val (.int y0), .val (.int y1), .val (.int y2), .unset, .unset] [])) t
                    refine XS.iload X30.here hx rfl (hb hby at_257) rfl ?_
                    show Steps p.tables e below (T30.setTop (mkF m 259 #[.val (.int p0), .val (.int p1), .val (.long q2), .second, .val (.int p3), .val (.int v1), .val (.int v3), .val (.ref b4), .val (.int m0), .val (.int m1), .val (.int m2), .val (.int y0), .val (.int y1), .val (.int y2), .unset, .unset] [(.int y1)])) t
                    refine XS.sipush X30.here hx rfl (hb hby at_259) ?_
                    show Steps p.tables e below (T30.setTop (mkF m 262 #[.val (.int p0), .val (.int p1), .val (.long q2), .second, .val (.int p3), .val (.int v1), .val (.int v3), .val (.ref b4), .val (.int m0), .val (.int m1), .val (.int m2), .val (.int y0), .val (.int y1), .val (.int y2), .unset, .unset] [(.int (187 : Int32)), (.int y1)])) t
                    exact k
                  by_cases hc35 : y1 = (187 : Int32)
                  · refine hD _ (T30.setTop (mkF m 270 #[.val (.int p0), .val (.int p1), .val (.long q2), .second, .val (.int p3), .val (.int v1), .val (.int v3), .val (.ref b4), .val (.int m0), .val (.int m1), .val (.int m2), .val (.int y0), .val (.int y1), .val (.int y2), .unset, .unset] [(.int (191 : Int32)), (.int y2)])) (fun t k => ?_) ?_
                    · show Steps p.tables e below (T30.setTop (mkF m 262 #[.val (.int p0), .val (.int p1), .val (.long q2), .second, .val (.int p3), .val (.int v1), .val (.int v3), .val (.ref b4), .val (.int m0), .val (.int m1), .val (.int m2), .val (.int y0), .val (.int y1), .val (.int y2), .unset, .unset] [(.int (187 : Int32)), (.int y1)])) t
                      refine XS.icmpNo X30.here hx rfl (hb hby at_262) rfl (teq hc35).2 ?_
                      show Steps p.tables e below (T30.setTop (mkF m 265 #[.val (.int p0), .val (.int p1), .val (.long q2), .second, .val (.int p3), .val (.int v1), .val (.int v3), .val (.ref b4), .val (.int m0), .val (.int m1), .val (.int m2), .val (.int y0), .val (.int y1), .val (.int y2), .unset, .unset] [])) t
                      refine XS.iload X30.here hx rfl (hb hby at_265) rfl ?_
                      show Steps p.tables e below (T30.setTop (mkF m 267 #[.val (.int p0), .val (.int p1), .val (.long q2), .second, .val (.int p3), .val (.int v1), .val (.int v3), .val (.ref b4), .val (.int m0), .val (.int m1), .val (.int m2), .val (.int y0), .val (.int y1), .val (.int y2), .unset, .unset] [(.int y2)])) t
                      refine XS.sipush X30.here hx rfl (hb hby at_267) ?_
                      show Steps p.tables e below (T30.setTop (mkF m 270 #[.val (.int p0), .val (.int p1), .val (.long q2), .second, .val (.int p3), .val (.int v1), .val (.int v3), .val (.ref b4), .val (.int m0), .val (.int m1), .val (.int m2), .val (.int y0), .val (.int y1), .val (.int y2), .unset, .unset] [(.int (191 : Int32)), (.int y2)])) t
                      exact k
                    by_cases hc36 : y2 = (191 : Int32)
                    · obtain ⟨v37, hv37⟩ : ∃ z : Int32, z = (v1 + (3 : Int32)) := ⟨_, rfl⟩
                      obtain ⟨T38, _, L38, X38, ⟨rfl, Nq38, e38⟩, st38⟩ := Own.callS (y := (⟨"org/wireform/json/JsonReader", "pastByteOrderMark", "([BII)I"⟩ : MethodName)) (W := 0) (argsL := [(.ref b4), (.int v1), (.int v3)]) (rest := []) X30 hx hZ hown (hw _ (List.mem_of_getElem? (i := 9) rfl)) (hw _ (List.mem_of_getElem? (i := 10) rfl)) (hw _ (List.mem_of_getElem? (i := 11) rfl)) (hw _ (List.mem_of_getElem? (i := 12) rfl)) (by decide) rfl (rm3 l Z a0 hw [] b4 v1 v3 (own_put (own_put (own_put gb v1 y0) (v1 + (1 : Int32)) y1) (v1 + (2 : Int32)) y2) T30.heap n0 hst hen A30) (by decide) (by decide) (by decide) (by decide) (g := (mkF m 302 #[.val (.int p0), .val (.int p1), .val (.long q2), .second, .val (.int p3), .val (.int v1), .val (.int v3), .val (.ref b4), .val (.int m0), .val (.int m1), .val (.int m2), .val (.int y0), .val (.int y1), .val (.int y2), .val (.int (1 : Int32)), .val (.int v37)] [(.int v3), (.int v1), (.ref b4)])) rfl (by rw [hml]; rfl) (lenOf pd_1 rfl) rfl (by show 2 * 0 + _ ≤ _; exact Nat.le_of_eq rfl) (hb hby at_302)
                      have N38 := Fr.app N30 Nq38
                      refine hD _ (T38.setTop (mkF m 307 #[.val (.int p0), .val (.int p1), .val (.long q2), .second, .val (.int p3), .val (.int v1), .val (.int v3), .val (.ref b4), .val (.int m0), .val (.int m1), .val (.int m2), .val (.int y0), .val (.int y1), .val (.int y2), .val (.int (1 : Int32)), .val (.int v37)] [(.int v37), (.int (if own_mark (own_put (own_put (own_put gb v1 y0) (v1 + (1 : Int32)) y1) (v1 + (2 : Int32)) y2) v1 v3 = true then v1 + 3 else v1))])) (fun t k => ?_) ?_
                      · show Steps p.tables e below (T30.setTop (mkF m 270 #[.val (.int p0), .val (.int p1), .val (.long q2), .second, .val (.int p3), .val (.int v1), .val (.int v3), .val (.ref b4), .val (.int m0), .val (.int m1), .val (.int m2), .val (.int y0), .val (.int y1), .val (.int y2), .unset, .unset] [(.int (191 : Int32)), (.int y2)])) t
                        refine XS.icmpNo X30.here hx rfl (hb hby at_270) rfl (teq hc36).2 ?_
                        show Steps p.tables e below (T30.setTop (mkF m 273 #[.val (.int p0), .val (.int p1), .val (.long q2), .second, .val (.int p3), .val (.int v1), .val (.int v3), .val (.ref b4), .val (.int m0), .val (.int m1), .val (.int m2), .val (.int y0), .val (.int y1), .val (.int y2), .unset, .unset] [])) t
                        refine XS.iconst X30.here hx rfl (hb hby at_273) ?_
                        show Steps p.tables e below (T30.setTop (mkF m 274 #[.val (.int p0), .val (.int p1), .val (.long q2), .second, .val (.int p3), .val (.int v1), .val (.int v3), .val (.ref b4), .val (.int m0), .val (.int m1), .val (.int m2), .val (.int y0), .val (.int y1), .val (.int y2), .unset, .unset] [(.int (1 : Int32))])) t
                        refine XS.goto X30.here hx rfl (pc0 := 274) (pc' := 278) rfl (hb hby at_274) (by decide) (by decide) ?_
                        show Steps p.tables e below (T30.setTop (mkF m 278 #[.val (.int p0), .val (.int p1), .val (.long q2), .second, .val (.int p3), .val (.int v1), .val (.int v3), .val (.ref b4), .val (.int m0), .val (.int m1), .val (.int m2), .val (.int y0), .val (.int y1), .val (.int y2), .unset, .unset] [(.int (1 : Int32))])) t
                        refine XS.istore X30.here hx rfl (hb hby at_278) rfl (l' := #[.val (.int p0), .val (.int p1), .val (.long q2), .second, .val (.int p3), .val (.int v1), .val (.int v3), .val (.ref b4), .val (.int m0), .val (.int m1), .val (.int m2), .val (.int y0), .val (.int y1), .val (.int y2), .val (.int (1 : Int32)), .unset]) rfl ?_
                        show Steps p.tables e below (T30.setTop (mkF m 280 #[.val (.int p0), .val (.int p1), .val (.long q2), .second, .val (.int p3), .val (.int v1), .val (.int v3), .val (.ref b4), .val (.int m0), .val (.int m1), .val (.int m2), .val (.int y0), .val (.int y1), .val (.int y2), .val (.int (1 : Int32)), .unset] [])) t
                        refine XS.iload X30.here hx rfl (hb hby at_280) rfl ?_
                        show Steps p.tables e below (T30.setTop (mkF m 282 #[.val (.int p0), .val (.int p1), .val (.long q2), .second, .val (.int p3), .val (.int v1), .val (.int v3), .val (.ref b4), .val (.int m0), .val (.int m1), .val (.int m2), .val (.int y0), .val (.int y1), .val (.int y2), .val (.int (1 : Int32)), .unset] [(.int (1 : Int32))])) t
                        refine XS.ifNo X30.here hx rfl (hb hby at_282) rfl (by decide) ?_
                        show Steps p.tables e below (T30.setTop (mkF m 285 #[.val (.int p0), .val (.int p1), .val (.long q2), .second, .val (.int p3), .val (.int v1), .val (.int v3), .val (.ref b4), .val (.int m0), .val (.int m1), .val (.int m2), .val (.int y0), .val (.int y1), .val (.int y2), .val (.int (1 : Int32)), .unset] [])) t
                        refine XS.iload X30.here hx rfl (hb hby at_285) rfl ?_
                        show Steps p.tables e below (T30.setTop (mkF m 287 #[.val (.int p0), .val (.int p1), .val (.long q2), .second, .val (.int p3), .val (.int v1), .val (.int v3), .val (.ref b4), .val (.int m0), .val (.int m1), .val (.int m2), .val (.int y0), .val (.int y1), .val (.int y2), .val (.int (1 : Int32)), .unset] [(.int v1)])) t
                        refine XS.iconst X30.here hx rfl (hb hby at_287) ?_
                        show Steps p.tables e below (T30.setTop (mkF m 288 #[.val (.int p0), .val (.int p1), .val (.long q2), .second, .val (.int p3), .val (.int v1), .val (.int v3), .val (.ref b4), .val (.int m0), .val (.int m1), .val (.int m2), .val (.int y0), .val (.int y1), .val (.int y2), .val (.int (1 : Int32)), .unset] [(.int (3 : Int32)), (.int v1)])) t
                        refine XS.iadd X30.here hx rfl (hb hby at_288) rfl ?_
                        show Steps p.tables e below (T30.setTop (mkF m 289 #[.val (.int p0), .val (.int p1), .val (.long q2), .second, .val (.int p3), .val (.int v1), .val (.int v3), .val (.ref b4), .val (.int m0), .val (.int m1), .val (.int m2), .val (.int y0), .val (.int y1), .val (.int y2), .val (.int (1 : Int32)), .unset] [(.int (v1 + (3 : Int32)))])) t
                        refine XS.goto X30.here hx rfl (pc0 := 289) (pc' := 294) rfl (hb hby at_289) (by decide) (by decide) ?_
                        show Steps p.tables e below (T30.setTop (mkF m 294 #[.val (.int p0), .val (.int p1), .val (.long q2), .second, .val (.int p3), .val (.int v1), .val (.int v3), .val (.ref b4), .val (.int m0), .val (.int m1), .val (.int m2), .val (.int y0), .val (.int y1), .val (.int y2), .val (.int (1 : Int32)), .unset] [(.int (v1 + (3 : Int32)))])) t
                        refine Own.nmI hv37 ?_
                        show Steps p.tables e below (T30.setTop (mkF m 294 #[.val (.int p0), .val (.int p1), .val (.long q2), .second, .val (.int p3), .val (.int v1), .val (.int v3), .val (.ref b4), .val (.int m0), .val (.int m1), .val (.int m2), .val (.int y0), .val (.int y1), .val (.int y2), .val (.int (1 : Int32)), .unset] [(.int v37)])) t
                        refine XS.istore X30.here hx rfl (hb hby at_294) rfl (l' := #[.val (.int p0), .val (.int p1), .val (.long q2), .second, .val (.int p3), .val (.int v1), .val (.int v3), .val (.ref b4), .val (.int m0), .val (.int m1), .val (.int m2), .val (.int y0), .val (.int y1), .val (.int y2), .val (.int (1 : Int32)), .val (.int v37)]) rfl ?_
                        show Steps p.tables e below (T30.setTop (mkF m 296 #[.val (.int p0), .val (.int p1), .val (.long q2), .second, .val (.int p3), .val (.int v1), .val (.int v3), .val (.ref b4), .val (.int m0), .val (.int m1), .val (.int m2), .val (.int y0), .val (.int y1), .val (.int y2), .val (.int (1 : Int32)), .val (.int v37)] [])) t
                        refine XS.aload X30.here hx rfl (hb hby at_296) rfl rfl ?_
                        show Steps p.tables e below (T30.setTop (mkF m 298 #[.val (.int p0), .val (.int p1), .val (.long q2), .second, .val (.int p3), .val (.int v1), .val (.int v3), .val (.ref b4), .val (.int m0), .val (.int m1), .val (.int m2), .val (.int y0), .val (.int y1), .val (.int y2), .val (.int (1 : Int32)), .val (.int v37)] [(.ref b4)])) t
                        refine XS.iload X30.here hx rfl (hb hby at_298) rfl ?_
                        show Steps p.tables e below (T30.setTop (mkF m 300 #[.val (.int p0), .val (.int p1), .val (.long q2), .second, .val (.int p3), .val (.int v1), .val (.int v3), .val (.ref b4), .val (.int m0), .val (.int m1), .val (.int m2), .val (.int y0), .val (.int y1), .val (.int y2), .val (.int (1 : Int32)), .val (.int v37)] [(.int v1), (.ref b4)])) t
                        refine XS.iload X30.here hx rfl (hb hby at_300) rfl ?_
                        show Steps p.tables e below (T30.setTop (mkF m 302 #[.val (.int p0), .val (.int p1), .val (.long q2), .second, .val (.int p3), .val (.int v1), .val (.int v3), .val (.ref b4), .val (.int m0), .val (.int m1), .val (.int m2), .val (.int y0), .val (.int y1), .val (.int y2), .val (.int (1 : Int32)), .val (.int v37)] [(.int v3), (.int v1), (.ref b4)])) t
                        refine st38 _ ?_
                        show Steps p.tables e below (T38.setTop (mkF m 305 #[.val (.int p0), .val (.int p1), .val (.long q2), .second, .val (.int p3), .val (.int v1), .val (.int v3), .val (.ref b4), .val (.int m0), .val (.int m1), .val (.int m2), .val (.int y0), .val (.int y1), .val (.int y2), .val (.int (1 : Int32)), .val (.int v37)] [(.int (if own_mark (own_put (own_put (own_put gb v1 y0) (v1 + (1 : Int32)) y1) (v1 + (2 : Int32)) y2) v1 v3 = true then v1 + 3 else v1))])) t
                        refine XS.iload X38.here hx rfl (hb hby at_305) rfl ?_
                        show Steps p.tables e below (T38.setTop (mkF m 307 #[.val (.int p0), .val (.int p1), .val (.long q2), .second, .val (.int p3), .val (.int v1), .val (.int v3), .val (.ref b4), .val (.int m0), .val (.int m1), .val (.int m2), .val (.int y0), .val (.int y1), .val (.int y2), .val (.int (1 : Int32)), .val (.int v37)] [(.int v37), (.int (if own_mark (own_put (own_put (own_put gb v1 y0) (v1 + (1 : Int32)) y1) (v1 + (2 : Int32)) y2) v1 v3 = true then v1 + 3 else v1))])) t
                        exact k
                      have hc39 : (if own_mark (own_put (own_put (own_put gb v1 y0) (v1 + (1 : Int32)) y1) (v1 + (2 : Int32)) y2) v1 v3 = true then v1 + 3 else v1) = v37 := by rw [own_fin hst hv0 hv1 hv2]; rw [hv37]; simp [hc31, hc34, hc35, hc36]
                      refine hD _ (T38.setTop (mkF m 315 #[.val (.int p0), .val (.int p1), .val (.long q2), .second, .val (.int p3), .val (.int v1), .val (.int v3), .val (.ref b4), .val (.int m0), .val (.int m1), .val (.int m2), .val (.int y0), .val (.int y1), .val (.int y2), .val (.int (1 : Int32)), .val (.int v37)] [(.int (1 : Int32))])) (fun t k => ?_) ?_
                      · show Steps p.tables e below (T38.setTop (mkF m 307 #[.val (.int p0), .val (.int p1), .val (.long q2), .second, .val (.int p3), .val (.int v1), .val (.int v3), .val (.ref b4), .val (.int m0), .val (.int m1), .val (.int m2), .val (.int y0), .val (.int y1), .val (.int y2), .val (.int (1 : Int32)), .val (.int v37)] [(.int v37), (.int (if own_mark (own_put (own_put (own_put gb v1 y0) (v1 + (1 : Int32)) y1) (v1 + (2 : Int32)) y2) v1 v3 = true then v1 + 3 else v1))])) t
                        refine XS.icmpNo X38.here hx rfl (hb hby at_307) rfl (teq hc39).2 ?_
                        show Steps p.tables e below (T38.setTop (mkF m 310 #[.val (.int p0), .val (.int p1), .val (.long q2), .second, .val (.int p3), .val (.int v1), .val (.int v3), .val (.ref b4), .val (.int m0), .val (.int m1), .val (.int m2), .val (.int y0), .val (.int y1), .val (.int y2), .val (.int (1 : Int32)), .val (.int v37)] [])) t
                        refine XS.iconst X38.here hx rfl (hb hby at_310) ?_
                        show Steps p.tables e below (T38.setTop (mkF m 311 #[.val (.int p0), .val (.int p1), .val (.long q2), .second, .val (.int p3), .val (.int v1), .val (.int v3), .val (.ref b4), .val (.int m0), .val (.int m1), .val (.int m2), .val (.int y0), .val (.int y1), .val (.int y2), .val (.int (1 : Int32)), .val (.int v37)] [(.int (1 : Int32))])) t
                        refine XS.goto X38.here hx rfl (pc0 := 311) (pc' := 315) rfl (hb hby at_311) (by decide) (by decide) ?_
                        show Steps p.tables e below (T38.setTop (mkF m 315 #[.val (.int p0), .val (.int p1), .val (.long q2), .second, .val (.int p3), .val (.int v1), .val (.int v3), .val (.ref b4), .val (.int m0), .val (.int m1), .val (.int m2), .val (.int y0), .val (.int y1), .val (.int y2), .val (.int (1 : Int32)), .val (.int v37)] [(.int (1 : Int32))])) t
                        exact k
                      exact Own.retN hR X38 hx (t := .boolean) hret (by simp) (hb hby at_315) (by decide) (by decide) (by decide) ⟨rfl, N38⟩
                    · obtain ⟨T40, _, L40, X40, ⟨rfl, Nq40, e40⟩, st40⟩ := Own.callS (y := (⟨"org/wireform/json/JsonReader", "pastByteOrderMark", "([BII)I"⟩ : MethodName)) (W := 0) (argsL := [(.ref b4), (.int v1), (.int v3)]) (rest := []) X30 hx hZ hown (hw _ (List.mem_of_getElem? (i := 9) rfl)) (hw _ (List.mem_of_getElem? (i := 10) rfl)) (hw _ (List.mem_of_getElem? (i := 11) rfl)) (hw _ (List.mem_of_getElem? (i := 12) rfl)) (by decide) rfl (rm3 l Z a0 hw [] b4 v1 v3 (own_put (own_put (own_put gb v1 y0) (v1 + (1 : Int32)) y1) (v1 + (2 : Int32)) y2) T30.heap n0 hst hen A30) (by decide) (by decide) (by decide) (by decide) (g := (mkF m 302 #[.val (.int p0), .val (.int p1), .val (.long q2), .second, .val (.int p3), .val (.int v1), .val (.int v3), .val (.ref b4), .val (.int m0), .val (.int m1), .val (.int m2), .val (.int y0), .val (.int y1), .val (.int y2), .val (.int (0 : Int32)), .val (.int v1)] [(.int v3), (.int v1), (.ref b4)])) rfl (by rw [hml]; rfl) (lenOf pd_1 rfl) rfl (by show 2 * 0 + _ ≤ _; exact Nat.le_of_eq rfl) (hb hby at_302)
                      have N40 := Fr.app N30 Nq40
                      refine hD _ (T40.setTop (mkF m 307 #[.val (.int p0), .val (.int p1), .val (.long q2), .second, .val (.int p3), .val (.int v1), .val (.int v3), .val (.ref b4), .val (.int m0), .val (.int m1), .val (.int m2), .val (.int y0), .val (.int y1), .val (.int y2), .val (.int (0 : Int32)), .val (.int v1)] [(.int v1), (.int (if own_mark (own_put (own_put (own_put gb v1 y0) (v1 + (1 : Int32)) y1) (v1 + (2 : Int32)) y2) v1 v3 = true then v1 + 3 else v1))])) (fun t k => ?_) ?_
                      · show Steps p.tables e below (T30.setTop (mkF m 270 #[.val (.int p0), .val (.int p1), .val (.long q2), .second, .val (.int p3), .val (.int v1), .val (.int v3), .val (.ref b4), .val (.int m0), .val (.int m1), .val (.int m2), .val (.int y0), .val (.int y1), .val (.int y2), .unset, .unset] [(.int (191 : Int32)), (.int y2)])) t
                        refine XS.icmpYes X30.here hx rfl (pc0 := 270) (pc' := 277) rfl (hb hby at_270) rfl (feq hc36).2 (by decide) (by decide) ?_
                        show Steps p.tables e below (T30.setTop (mkF m 277 #[.val (.int p0), .val (.int p1), .val (.long q2), .second, .val (.int p3), .val (.int v1), .val (.int v3), .val (.ref b4), .val (.int m0), .val (.int m1), .val (.int m2), .val (.int y0), .val (.int y1), .val (.int y2), .unset, .unset] [])) t
                        refine XS.iconst X30.here hx rfl (hb hby at_277) ?_
                        show Steps p.tables e below (T30.setTop (mkF m 278 #[.val (.int p0), .val (.int p1), .val (.long q2), .second, .val (.int p3), .val (.int v1), .val (.int v3), .val (.ref b4), .val (.int m0), .val (.int m1), .val (.int m2), .val (.int y0), .val (.int y1), .val (.int y2), .unset, .unset] [(.int (0 : Int32))])) t
                        refine XS.istore X30.here hx rfl (hb hby at_278) rfl (l' := #[.val (.int p0), .val (.int p1), .val (.long q2), .second, .val (.int p3), .val (.int v1), .val (.int v3), .val (.ref b4), .val (.int m0), .val (.int m1), .val (.int m2), .val (.int y0), .val (.int y1), .val (.int y2), .val (.int (0 : Int32)), .unset]) rfl ?_
                        show Steps p.tables e below (T30.setTop (mkF m 280 #[.val (.int p0), .val (.int p1), .val (.long q2), .second, .val (.int p3), .val (.int v1), .val (.int v3), .val (.ref b4), .val (.int m0), .val (.int m1), .val (.int m2), .val (.int y0), .val (.int y1), .val (.int y2), .val (.int (0 : Int32)), .unset] [])) t
                        refine XS.iload X30.here hx rfl (hb hby at_280) rfl ?_
                        show Steps p.tables e below (T30.setTop (mkF m 282 #[.val (.int p0), .val (.int p1), .val (.long q2), .second, .val (.int p3), .val (.int v1), .val (.int v3), .val (.ref b4), .val (.int m0), .val (.int m1), .val (.int m2), .val (.int y0), .val (.int y1), .val (.int y2), .val (.int (0 : Int32)), .unset] [(.int (0 : Int32))])) t
                        refine XS.ifYes X30.here hx rfl (pc0 := 282) (pc' := 292) rfl (hb hby at_282) rfl (by decide) (by decide) (by decide) ?_
                        show Steps p.tables e below (T30.setTop (mkF m 292 #[.val (.int p0), .val (.int p1), .val (.long q2), .second, .val (.int p3), .val (.int v1), .val (.int v3), .val (.ref b4), .val (.int m0), .val (.int m1), .val (.int m2), .val (.int y0), .val (.int y1), .val (.int y2), .val (.int (0 : Int32)), .unset] [])) t
                        refine XS.iload X30.here hx rfl (hb hby at_292) rfl ?_
                        show Steps p.tables e below (T30.setTop (mkF m 294 #[.val (.int p0), .val (.int p1), .val (.long q2), .second, .val (.int p3), .val (.int v1), .val (.int v3), .val (.ref b4), .val (.int m0), .val (.int m1), .val (.int m2), .val (.int y0), .val (.int y1), .val (.int y2), .val (.int (0 : Int32)), .unset] [(.int v1)])) t
                        refine XS.istore X30.here hx rfl (hb hby at_294) rfl (l' := #[.val (.int p0), .val (.int p1), .val (.long q2), .second, .val (.int p3), .val (.int v1), .val (.int v3), .val (.ref b4), .val (.int m0), .val (.int m1), .val (.int m2), .val (.int y0), .val (.int y1), .val (.int y2), .val (.int (0 : Int32)), .val (.int v1)]) rfl ?_
                        show Steps p.tables e below (T30.setTop (mkF m 296 #[.val (.int p0), .val (.int p1), .val (.long q2), .second, .val (.int p3), .val (.int v1), .val (.int v3), .val (.ref b4), .val (.int m0), .val (.int m1), .val (.int m2), .val (.int y0), .val (.int y1), .val (.int y2), .val (.int (0 : Int32)), .val (.int v1)] [])) t
                        refine XS.aload X30.here hx rfl (hb hby at_296) rfl rfl ?_
                        show Steps p.tables e below (T30.setTop (mkF m 298 #[.val (.int p0), .val (.int p1), .val (.long q2), .second, .val (.int p3), .val (.int v1), .val (.int v3), .val (.ref b4), .val (.int m0), .val (.int m1), .val (.int m2), .val (.int y0), .val (.int y1), .val (.int y2), .val (.int (0 : Int32)), .val (.int v1)] [(.ref b4)])) t
                        refine XS.iload X30.here hx rfl (hb hby at_298) rfl ?_
                        show Steps p.tables e below (T30.setTop (mkF m 300 #[.val (.int p0), .val (.int p1), .val (.long q2), .second, .val (.int p3), .val (.int v1), .val (.int v3), .val (.ref b4), .val (.int m0), .val (.int m1), .val (.int m2), .val (.int y0), .val (.int y1), .val (.int y2), .val (.int (0 : Int32)), .val (.int v1)] [(.int v1), (.ref b4)])) t
                        refine XS.iload X30.here hx rfl (hb hby at_300) rfl ?_
                        show Steps p.tables e below (T30.setTop (mkF m 302 #[.val (.int p0), .val (.int p1), .val (.long q2), .second, .val (.int p3), .val (.int v1), .val (.int v3), .val (.ref b4), .val (.int m0), .val (.int m1), .val (.int m2), .val (.int y0), .val (.int y1), .val (.int y2), .val (.int (0 : Int32)), .val (.int v1)] [(.int v3), (.int v1), (.ref b4)])) t
                        refine st40 _ ?_
                        show Steps p.tables e below (T40.setTop (mkF m 305 #[.val (.int p0), .val (.int p1), .val (.long q2), .second, .val (.int p3), .val (.int v1), .val (.int v3), .val (.ref b4), .val (.int m0), .val (.int m1), .val (.int m2), .val (.int y0), .val (.int y1), .val (.int y2), .val (.int (0 : Int32)), .val (.int v1)] [(.int (if own_mark (own_put (own_put (own_put gb v1 y0) (v1 + (1 : Int32)) y1) (v1 + (2 : Int32)) y2) v1 v3 = true then v1 + 3 else v1))])) t
                        refine XS.iload X40.here hx rfl (hb hby at_305) rfl ?_
                        show Steps p.tables e below (T40.setTop (mkF m 307 #[.val (.int p0), .val (.int p1), .val (.long q2), .second, .val (.int p3), .val (.int v1), .val (.int v3), .val (.ref b4), .val (.int m0), .val (.int m1), .val (.int m2), .val (.int y0), .val (.int y1), .val (.int y2), .val (.int (0 : Int32)), .val (.int v1)] [(.int v1), (.int (if own_mark (own_put (own_put (own_put gb v1 y0) (v1 + (1 : Int32)) y1) (v1 + (2 : Int32)) y2) v1 v3 = true then v1 + 3 else v1))])) t
                        exact k
                      have hc41 : (if own_mark (own_put (own_put (own_put gb v1 y0) (v1 + (1 : Int32)) y1) (v1 + (2 : Int32)) y2) v1 v3 = true then v1 + 3 else v1) = v1 := by rw [own_fin hst hv0 hv1 hv2]; simp [hc31, hc34, hc35, hc36]
                      refine hD _ (T40.setTop (mkF m 315 #[.val (.int p0), .val (.int p1), .val (.long q2), .second, .val (.int p3), .val (.int v1), .val (.int v3), .val (.ref b4), .val (.int m0), .val (.int m1), .val (.int m2), .val (.int y0), .val (.int y1), .val (.int y2), .val (.int (0 : Int32)), .val (.int v1)] [(.int (1 : Int32))])) (fun t k => ?_) ?_
                      · show Steps p.tables e below (T40.setTop (mkF m 307 #[.val (.int p0), .val (.int p1), .val (.long q2), .second, .val (.int p3), .val (.int v1), .val (.int v3), .val (.ref b4), .val (.int m0), .val (.int m1), .val (.int m2), .val (.int y0), .val (.int y1), .val (.int y2), .val (.int (0 : Int32)), .val (.int v1)] [(.int v1), (.int (if own_mark (own_put (own_put (own_put gb v1 y0) (v1 + (1 : Int32)) y1) (v1 + (2 : Int32)) y2) v1 v3 = true then v1 + 3 else v1))])) t
                        refine XS.icmpNo X40.here hx rfl (hb hby at_307) rfl (teq hc41).2 ?_
                        show Steps p.tables e below (T40.setTop (mkF m 310 #[.val (.int p0), .val (.int p1), .val (.long q2), .second, .val (.int p3), .val (.int v1), .val (.int v3), .val (.ref b4), .val (.int m0), .val (.int m1), .val (.int m2), .val (.int y0), .val (.int y1), .val (.int y2), .val (.int (0 : Int32)), .val (.int v1)] [])) t
                        refine XS.iconst X40.here hx rfl (hb hby at_310) ?_
                        show Steps p.tables e below (T40.setTop (mkF m 311 #[.val (.int p0), .val (.int p1), .val (.long q2), .second, .val (.int p3), .val (.int v1), .val (.int v3), .val (.ref b4), .val (.int m0), .val (.int m1), .val (.int m2), .val (.int y0), .val (.int y1), .val (.int y2), .val (.int (0 : Int32)), .val (.int v1)] [(.int (1 : Int32))])) t
                        refine XS.goto X40.here hx rfl (pc0 := 311) (pc' := 315) rfl (hb hby at_311) (by decide) (by decide) ?_
                        show Steps p.tables e below (T40.setTop (mkF m 315 #[.val (.int p0), .val (.int p1), .val (.long q2), .second, .val (.int p3), .val (.int v1), .val (.int v3), .val (.ref b4), .val (.int m0), .val (.int m1), .val (.int m2), .val (.int y0), .val (.int y1), .val (.int y2), .val (.int (0 : Int32)), .val (.int v1)] [(.int (1 : Int32))])) t
                        exact k
                      exact Own.retN hR X40 hx (t := .boolean) hret (by simp) (hb hby at_315) (by decide) (by decide) (by decide) ⟨rfl, N40⟩
                  · obtain ⟨T42, _, L42, X42, ⟨rfl, Nq42, e42⟩, st42⟩ := Own.callS (y := (⟨"org/wireform/json/JsonReader", "pastByteOrderMark", "([BII)I"⟩ : MethodName)) (W := 0) (argsL := [(.ref b4), (.int v1), (.int v3)]) (rest := []) X30 hx hZ hown (hw _ (List.mem_of_getElem? (i := 9) rfl)) (hw _ (List.mem_of_getElem? (i := 10) rfl)) (hw _ (List.mem_of_getElem? (i := 11) rfl)) (hw _ (List.mem_of_getElem? (i := 12) rfl)) (by decide) rfl (rm3 l Z a0 hw [] b4 v1 v3 (own_put (own_put (own_put gb v1 y0) (v1 + (1 : Int32)) y1) (v1 + (2 : Int32)) y2) T30.heap n0 hst hen A30) (by decide) (by decide) (by decide) (by decide) (g := (mkF m 302 #[.val (.int p0), .val (.int p1), .val (.long q2), .second, .val (.int p3), .val (.int v1), .val (.int v3), .val (.ref b4), .val (.int m0), .val (.int m1), .val (.int m2), .val (.int y0), .val (.int y1), .val (.int y2), .val (.int (0 : Int32)), .val (.int v1)] [(.int v3), (.int v1), (.ref b4)])) rfl (by rw [hml]; rfl) (lenOf pd_1 rfl) rfl (by show 2 * 0 + _ ≤ _; exact Nat.le_of_eq rfl) (hb hby at_302)
                    have N42 := Fr.app N30 Nq42
                    refine hD _ (T42.setTop (mkF m 307 #[.val (.int p0), .val (.int p1), .val (.long q2), .second, .val (.int p3), .val (.int v1), .val (.int v3), .val (.ref b4), .val (.int m0), .val (.int m1), .val (.int m2), .val (.int y0), .val (.int y1), .val (.int y2), .val (.int (0 : Int32)), .val (.int v1)] [(.int v1), (.int (if own_mark (own_put (own_put (own_put gb v1 y0) (v1 + (1 : Int32)) y1) (v1 + (2 : Int32)) y2) v1 v3 = true then v1 + 3 else v1))])) (fun t k => ?_) ?_
                    · show Steps p.tables e below (T30.setTop (mkF m 262 #[.val (.int p0), .val (.int p1), .val (.long q2), .second, .val (.int p3), .val (.int v1), .val (.int v3), .val (.ref b4), .val (.int m0), .val (.int m1), .val (.int m2), .val (.int y0), .val (.int y1), .val (.int y2), .unset, .unset] [(.int (187 : Int32)), (.int y1)])) t
                      refine XS.icmpYes X30.here hx rfl (pc0 := 262) (pc' := 277) rfl (hb hby at_262) rfl (feq hc35).2 (by decide) (by decide) ?_
                      show Steps p.tables e below (T30.setTop (mkF m 277 #[.val (.int p0), .val (.int p1), .val (.long q2), .second, .val (.int p3), .val (.int v1), .val (.int v3), .val (.ref b4), .val (.int m0), .val (.int m1), .val (.int m2), .val (.int y0), .val (.int y1), .val (.int y2), .unset, .unset] [])) t
                      refine XS.iconst X30.here hx rfl (hb hby at_277) ?_
                      show Steps p.tables e below (T30.setTop (mkF m 278 #[.val (.int p0), .val (.int p1), .val (.long q2), .second, .val (.int p3), .val (.int v1), .val (.int v3), .val (.ref b4), .val (.int m0), .val (.int m1), .val (.int m2), .val (.int y0), .val (.int y1), .val (.int y2), .unset, .unset] [(.int (0 : Int32))])) t
                      refine XS.istore X30.here hx rfl (hb hby at_278) rfl (l' := #[.val (.int p0), .val (.int p1), .val (.long q2), .second, .val (.int p3), .val (.int v1), .val (.int v3), .val (.ref b4), .val (.int m0), .val (.int m1), .val (.int m2), .val (.int y0), .val (.int y1), .val (.int y2), .val (.int (0 : Int32)), .unset]) rfl ?_
                      show Steps p.tables e below (T30.setTop (mkF m 280 #[.val (.int p0), .val (.int p1), .val (.long q2), .second, .val (.int p3), .val (.int v1), .val (.int v3), .val (.ref b4), .val (.int m0), .val (.int m1), .val (.int m2), .val (.int y0), .val (.int y1), .val (.int y2), .val (.int (0 : Int32)), .unset] [])) t
                      refine XS.iload X30.here hx rfl (hb hby at_280) rfl ?_
                      show Steps p.tables e below (T30.setTop (mkF m 282 #[.val (.int p0), .val (.int p1), .val (.long q2), .second, .val (.int p3), .val (.int v1), .val (.int v3), .val (.ref b4), .val (.int m0), .val (.int m1), .val (.int m2), .val (.int y0), .val (.int y1), .val (.int y2), .val (.int (0 : Int32)), .unset] [(.int (0 : Int32))])) t
                      refine XS.ifYes X30.here hx rfl (pc0 := 282) (pc' := 292) rfl (hb hby at_282) rfl (by decide) (by decide) (by decide) ?_
                      show Steps p.tables e below (T30.setTop (mkF m 292 #[.val (.int p0), .val (.int p1), .val (.long q2), .second, .val (.int p3), .val (.int v1), .val (.int v3), .val (.ref b4), .val (.int m0), .val (.int m1), .val (.int m2), .val (.int y0), .val (.int y1), .val (.int y2), .val (.int (0 : Int32)), .unset] [])) t
                      refine XS.iload X30.here hx rfl (hb hby at_292) rfl ?_
                      show Steps p.tables e below (T30.setTop (mkF m 294 #[.val (.int p0), .val (.int p1), .val (.long q2), .second, .val (.int p3), .val (.int v1), .val (.int v3), .val (.ref b4), .val (.int m0), .val (.int m1), .val (.int m2), .val (.int y0), .val (.int y1), .val (.int y2), .val (.int (0 : Int32)), .unset] [(.int v1)])) t
                      refine XS.istore X30.here hx rfl (hb hby at_294) rfl (l' := #[.val (.int p0), .val (.int p1), .val (.long q2), .second, .val (.int p3), .val (.int v1), .val (.int v3), .val (.ref b4), .val (.int m0), .val (.int m1), .val (.int m2), .val (.int y0), .val (.int y1), .val (.int y2), .val (.int (0 : Int32)), .val (.int v1)]) rfl ?_
                      show Steps p.tables e below (T30.setTop (mkF m 296 #[.val (.int p0), .val (.int p1), .val (.long q2), .second, .val (.int p3), .val (.int v1), .val (.int v3), .val (.ref b4), .val (.int m0), .val (.int m1), .val (.int m2), .val (.int y0), .val (.int y1), .val (.int y2), .val (.int (0 : Int32)), .val (.int v1)] [])) t
                      refine XS.aload X30.here hx rfl (hb hby at_296) rfl rfl ?_
                      show Steps p.tables e below (T30.setTop (mkF m 298 #[.val (.int p0), .val (.int p1), .val (.long q2), .second, .val (.int p3), .val (.int v1), .val (.int v3), .val (.ref b4), .val (.int m0), .val (.int m1), .val (.int m2), .val (.int y0), .val (.int y1), .val (.int y2), .val (.int (0 : Int32)), .val (.int v1)] [(.ref b4)])) t
                      refine XS.iload X30.here hx rfl (hb hby at_298) rfl ?_
                      show Steps p.tables e below (T30.setTop (mkF m 300 #[.val (.int p0), .val (.int p1), .val (.long q2), .second, .val (.int p3), .val (.int v1), .val (.int v3), .val (.ref b4), .val (.int m0), .val (.int m1), .val (.int m2), .val (.int y0), .val (.int y1), .val (.int y2), .val (.int (0 : Int32)), .val (.int v1)] [(.int v1), (.ref b4)])) t
                      refine XS.iload X30.here hx rfl (hb hby at_300) rfl ?_
                      show Steps p.tables e below (T30.setTop (mkF m 302 #[.val (.int p0), .val (.int p1), .val (.long q2), .second, .val (.int p3), .val (.int v1), .val (.int v3), .val (.ref b4), .val (.int m0), .val (.int m1), .val (.int m2), .val (.int y0), .val (.int y1), .val (.int y2), .val (.int (0 : Int32)), .val (.int v1)] [(.int v3), (.int v1), (.ref b4)])) t
                      refine st42 _ ?_
                      show Steps p.tables e below (T42.setTop (mkF m 305 #[.val (.int p0), .val (.int p1), .val (.long q2), .second, .val (.int p3), .val (.int v1), .val (.int v3), .val (.ref b4), .val (.int m0), .val (.int m1), .val (.int m2), .val (.int y0), .val (.int y1), .val (.int y2), .val (.int (0 : Int32)), .val (.int v1)] [(.int (if own_mark (own_put (own_put (own_put gb v1 y0) (v1 + (1 : Int32)) y1) (v1 + (2 : Int32)) y2) v1 v3 = true then v1 + 3 else v1))])) t
                      refine XS.iload X42.here hx rfl (hb hby at_305) rfl ?_
                      show Steps p.tables e below (T42.setTop (mkF m 307 #[.val (.int p0), .val (.int p1), .val (.long q2), .second, .val (.int p3), .val (.int v1), .val (.int v3), .val (.ref b4), .val (.int m0), .val (.int m1), .val (.int m2), .val (.int y0), .val (.int y1), .val (.int y2), .val (.int (0 : Int32)), .val (.int v1)] [(.int v1), (.int (if own_mark (own_put (own_put (own_put gb v1 y0) (v1 + (1 : Int32)) y1) (v1 + (2 : Int32)) y2) v1 v3 = true then v1 + 3 else v1))])) t
                      exact k
                    have hc43 : (if own_mark (own_put (own_put (own_put gb v1 y0) (v1 + (1 : Int32)) y1) (v1 + (2 : Int32)) y2) v1 v3 = true then v1 + 3 else v1) = v1 := by rw [own_fin hst hv0 hv1 hv2]; simp [hc31, hc34, hc35]
                    refine hD _ (T42.setTop (mkF m 315 #[.val (.int p0), .val (.int p1), .val (.long q2), .second, .val (.int p3), .val (.int v1), .val (.int v3), .val (.ref b4), .val (.int m0), .val (.int m1), .val (.int m2), .val (.int y0), .val (.int y1), .val (.int y2), .val (.int (0 : Int32)), .val (.int v1)] [(.int (1 : Int32))])) (fun t k => ?_) ?_
                    · show Steps p.tables e below (T42.setTop (mkF m 307 #[.val (.int p0), .val (.int p1), .val (.long q2), .second, .val (.int p3), .val (.int v1), .val (.int v3), .val (.ref b4), .val (.int m0), .val (.int m1), .val (.int m2), .val (.int y0), .val (.int y1), .val (.int y2), .val (.int (0 : Int32)), .val (.int v1)] [(.int v1), (.int (if own_mark (own_put (own_put (own_put gb v1 y0) (v1 + (1 : Int32)) y1) (v1 + (2 : Int32)) y2) v1 v3 = true then v1 + 3 else v1))])) t
                      refine XS.icmpNo X42.here hx rfl (hb hby at_307) rfl (teq hc43).2 ?_
                      show Steps p.tables e below (T42.setTop (mkF m 310 #[.val (.int p0), .val (.int p1), .val (.long q2), .second, .val (.int p3), .val (.int v1), .val (.int v3), .val (.ref b4), .val (.int m0), .val (.int m1), .val (.int m2), .val (.int y0), .val (.int y1), .val (.int y2), .val (.int (0 : Int32)), .val (.int v1)] [])) t
                      refine XS.iconst X42.here hx rfl (hb hby at_310) ?_
                      show Steps p.tables e below (T42.setTop (mkF m 311 #[.val (.int p0), .val (.int p1), .val (.long q2), .second, .val (.int p3), .val (.int v1), .val (.int v3), .val (.ref b4), .val (.int m0), .val (.int m1), .val (.int m2), .val (.int y0), .val (.int y1), .val (.int y2), .val (.int (0 : Int32)), .val (.int v1)] [(.int (1 : Int32))])) t
                      refine XS.goto X42.here hx rfl (pc0 := 311) (pc' := 315) rfl (hb hby at_311) (by decide) (by decide) ?_
                      show Steps p.tables e below (T42.setTop (mkF m 315 #[.val (.int p0), .val (.int p1), .val (.long q2), .second, .val (.int p3), .val (.int v1), .val (.int v3), .val (.ref b4), .val (.int m0), .val (.int m1), .val (.int m2), .val (.int y0), .val (.int y1), .val (.int y2), .val (.int (0 : Int32)), .val (.int v1)] [(.int (1 : Int32))])) t
                      exact k
                    exact Own.retN hR X42 hx (t := .boolean) hret (by simp) (hb hby at_315) (by decide) (by decide) (by decide) ⟨rfl, N42⟩
                · obtain ⟨T44, _, L44, X44, ⟨rfl, Nq44, e44⟩, st44⟩ := Own.callS (y := (⟨"org/wireform/json/JsonReader", "pastByteOrderMark", "([BII)I"⟩ : MethodName)) (W := 0) (argsL := [(.ref b4), (.int v1), (.int v3)]) (rest := []) X30 hx hZ hown (hw _ (List.mem_of_getElem? (i := 9) rfl)) (hw _ (List.mem_of_getElem? (i := 10) rfl)) (hw _ (List.mem_of_getElem? (i := 11) rfl)) (hw _ (List.mem_of_getElem? (i := 12) rfl)) (by decide) rfl (rm3 l Z a0 hw [] b4 v1 v3 (own_put (own_put (own_put gb v1 y0) (v1 + (1 : Int32)) y1) (v1 + (2 : Int32)) y2) T30.heap n0 hst hen A30) (by decide) (by decide) (by decide) (by decide) (g := (mkF m 302 #[.val (.int p0), .val (.int p1), .val (.long q2), .second, .val (.int p3), .val (.int v1), .val (.int v3), .val (.ref b4), .val (.int m0), .val (.int m1), .val (.int m2), .val (.int y0), .val (.int y1), .val (.int y2), .val (.int (0 : Int32)), .val (.int v1)] [(.int v3), (.int v1), (.ref b4)])) rfl (by rw [hml]; rfl) (lenOf pd_1 rfl) rfl (by show 2 * 0 + _ ≤ _; exact Nat.le_of_eq rfl) (hb hby at_302)
                  have N44 := Fr.app N30 Nq44
                  refine hD _ (T44.setTop (mkF m 307 #[.val (.int p0), .val (.int p1), .val (.long q2), .second, .val (.int p3), .val (.int v1), .val (.int v3), .val (.ref b4), .val (.int m0), .val (.int m1), .val (.int m2), .val (.int y0), .val (.int y1), .val (.int y2), .val (.int (0 : Int32)), .val (.int v1)] [(.int v1), (.int (if own_mark (own_put (own_put (own_put gb v1 y0) (v1 + (1 : Int32)) y1) (v1 + (2 : Int32)) y2) v1 v3 = true then v1 + 3 else v1))])) (fun t k => ?_) ?_
                  · show Steps p.tables e below (T30.setTop (mkF m 254 #[.val (.int p0), .val (.int p1), .val (.long q2), .second, .val (.int p3), .val (.int v1), .val (.int v3), .val (.ref b4), .val (.int m0), .val (.int m1), .val (.int m2), .val (.int y0), .val (.int y1), .val (.int y2), .unset, .unset] [(.int (239 : Int32)), (.int y0)])) t
                    refine XS.icmpYes X30.here hx rfl (pc0 := 254) (pc' := 277) rfl (hb hby at_254) rfl (feq hc34).2 (by decide) (by decide) ?_
                    show Steps p.tables e below (T30.setTop (mkF m 277 #[.val (.int p0), .val (.int p1), .val (.long q2), .second, .val (.int p3), .val (.int v1), .val (.int v3), .val (.ref b4), .val (.int m0), .val (.int m1), .val (.int m2), .val (.int y0), .val (.int y1), .val (.int y2), .unset, .unset] [])) t
                    refine XS.iconst X30.here hx rfl (hb hby at_277) ?_
                    show Steps p.tables e below (T30.setTop (mkF m 278 #[.val (.int p0), .val (.int p1), .val (.long q2), .second, .val (.int p3), .val (.int v1), .val (.int v3), .val (.ref b4), .val (.int m0), .val (.int m1), .val (.int m2), .val (.int y0), .val (.int y1), .val (.int y2), .unset, .unset] [(.int (0 : Int32))])) t
                    refine XS.istore X30.here hx rfl (hb hby at_278) rfl (l' := #[.val (.int p0), .val (.int p1), .val (.long q2), .second, .val (.int p3), .val (.int v1), .val (.int v3), .val (.ref b4), .val (.int m0), .val (.int m1), .val (.int m2), .val (.int y0), .val (.int y1), .val (.int y2), .val (.int (0 : Int32)), .unset]) rfl ?_
                    show Steps p.tables e below (T30.setTop (mkF m 280 #[.val (.int p0), .val (.int p1), .val (.long q2), .second, .val (.int p3), .val (.int v1), .val (.int v3), .val (.ref b4), .val (.int m0), .val (.int m1), .val (.int m2), .val (.int y0), .val (.int y1), .val (.int y2), .val (.int (0 : Int32)), .unset] [])) t
                    refine XS.iload X30.here hx rfl (hb hby at_280) rfl ?_
                    show Steps p.tables e below (T30.setTop (mkF m 282 #[.val (.int p0), .val (.int p1), .val (.long q2), .second, .val (.int p3), .val (.int v1), .val (.int v3), .val (.ref b4), .val (.int m0), .val (.int m1), .val (.int m2), .val (.int y0), .val (.int y1), .val (.int y2), .val (.int (0 : Int32)), .unset] [(.int (0 : Int32))])) t
                    refine XS.ifYes X30.here hx rfl (pc0 := 282) (pc' := 292) rfl (hb hby at_282) rfl (by decide) (by decide) (by decide) ?_
                    show Steps p.tables e below (T30.setTop (mkF m 292 #[.val (.int p0), .val (.int p1), .val (.long q2), .second, .val (.int p3), .val (.int v1), .val (.int v3), .val (.ref b4), .val (.int m0), .val (.int m1), .val (.int m2), .val (.int y0), .val (.int y1), .val (.int y2), .val (.int (0 : Int32)), .unset] [])) t
                    refine XS.iload X30.here hx rfl (hb hby at_292) rfl ?_
                    show Steps p.tables e below (T30.setTop (mkF m 294 #[.val (.int p0), .val (.int p1), .val (.long q2), .second, .val (.int p3), .val (.int v1), .val (.int v3), .val (.ref b4), .val (.int m0), .val (.int m1), .val (.int m2), .val (.int y0), .val (.int y1), .val (.int y2), .val (.int (0 : Int32)), .unset] [(.int v1)])) t
                    refine XS.istore X30.here hx rfl (hb hby at_294) rfl (l' := #[.val (.int p0), .val (.int p1), .val (.long q2), .second, .val (.int p3), .val (.int v1), .val (.int v3), .val (.ref b4), .val (.int m0), .val (.int m1), .val (.int m2), .val (.int y0), .val (.int y1), .val (.int y2), .val (.int (0 : Int32)), .val (.int v1)]) rfl ?_
                    show Steps p.tables e below (T30.setTop (mkF m 296 #[.val (.int p0), .val (.int p1), .val (.long q2), .second, .val (.int p3), .val (.int v1), .val (.int v3), .val (.ref b4), .val (.int m0), .val (.int m1), .val (.int m2), .val (.int y0), .val (.int y1), .val (.int y2), .val (.int (0 : Int32)), .val (.int v1)] [])) t
                    refine XS.aload X30.here hx rfl (hb hby at_296) rfl rfl ?_
                    show Steps p.tables e below (T30.setTop (mkF m 298 #[.val (.int p0), .val (.int p1), .val (.long q2), .second, .val (.int p3), .val (.int v1), .val (.int v3), .val (.ref b4), .val (.int m0), .val (.int m1), .val (.int m2), .val (.int y0), .val (.int y1), .val (.int y2), .val (.int (0 : Int32)), .val (.int v1)] [(.ref b4)])) t
                    refine XS.iload X30.here hx rfl (hb hby at_298) rfl ?_
                    show Steps p.tables e below (T30.setTop (mkF m 300 #[.val (.int p0), .val (.int p1), .val (.long q2), .second, .val (.int p3), .val (.int v1), .val (.int v3), .val (.ref b4), .val (.int m0), .val (.int m1), .val (.int m2), .val (.int y0), .val (.int y1), .val (.int y2), .val (.int (0 : Int32)), .val (.int v1)] [(.int v1), (.ref b4)])) t
                    refine XS.iload X30.here hx rfl (hb hby at_300) rfl ?_
                    show Steps p.tables e below (T30.setTop (mkF m 302 #[.val (.int p0), .val (.int p1), .val (.long q2), .second, .val (.int p3), .val (.int v1), .val (.int v3), .val (.ref b4), .val (.int m0), .val (.int m1), .val (.int m2), .val (.int y0), .val (.int y1), .val (.int y2), .val (.int (0 : Int32)), .val (.int v1)] [(.int v3), (.int v1), (.ref b4)])) t
                    refine st44 _ ?_
                    show Steps p.tables e below (T44.setTop (mkF m 305 #[.val (.int p0), .val (.int p1), .val (.long q2), .second, .val (.int p3), .val (.int v1), .val (.int v3), .val (.ref b4), .val (.int m0), .val (.int m1), .val (.int m2), .val (.int y0), .val (.int y1), .val (.int y2), .val (.int (0 : Int32)), .val (.int v1)] [(.int (if own_mark (own_put (own_put (own_put gb v1 y0) (v1 + (1 : Int32)) y1) (v1 + (2 : Int32)) y2) v1 v3 = true then v1 + 3 else v1))])) t
                    refine XS.iload X44.here hx rfl (hb hby at_305) rfl ?_
                    show Steps p.tables e below (T44.setTop (mkF m 307 #[.val (.int p0), .val (.int p1), .val (.long q2), .second, .val (.int p3), .val (.int v1), .val (.int v3), .val (.ref b4), .val (.int m0), .val (.int m1), .val (.int m2), .val (.int y0), .val (.int y1), .val (.int y2), .val (.int (0 : Int32)), .val (.int v1)] [(.int v1), (.int (if own_mark (own_put (own_put (own_put gb v1 y0) (v1 + (1 : Int32)) y1) (v1 + (2 : Int32)) y2) v1 v3 = true then v1 + 3 else v1))])) t
                    exact k
                  have hc45 : (if own_mark (own_put (own_put (own_put gb v1 y0) (v1 + (1 : Int32)) y1) (v1 + (2 : Int32)) y2) v1 v3 = true then v1 + 3 else v1) = v1 := by rw [own_fin hst hv0 hv1 hv2]; simp [hc31, hc34]
                  refine hD _ (T44.setTop (mkF m 315 #[.val (.int p0), .val (.int p1), .val (.long q2), .second, .val (.int p3), .val (.int v1), .val (.int v3), .val (.ref b4), .val (.int m0), .val (.int m1), .val (.int m2), .val (.int y0), .val (.int y1), .val (.int y2), .val (.int (0 : Int32)), .val (.int v1)] [(.int (1 : Int32))])) (fun t k => ?_) ?_
                  · show Steps p.tables e below (T44.setTop (mkF m 307 #[.val (.int p0), .val (.int p1), .val (.long q2), .second, .val (.int p3), .val (.int v1), .val (.int v3), .val (.ref b4), .val (.int m0), .val (.int m1), .val (.int m2), .val (.int y0), .val (.int y1), .val (.int y2), .val (.int (0 : Int32)), .val (.int v1)] [(.int v1), (.int (if own_mark (own_put (own_put (own_put gb v1 y0) (v1 + (1 : Int32)) y1) (v1 + (2 : Int32)) y2) v1 v3 = true then v1 + 3 else v1))])) t
                    refine XS.icmpNo X44.here hx rfl (hb hby at_307) rfl (teq hc45).2 ?_
                    show Steps p.tables e below (T44.setTop (mkF m 310 #[.val (.int p0), .val (.int p1), .val (.long q2), .second, .val (.int p3), .val (.int v1), .val (.int v3), .val (.ref b4), .val (.int m0), .val (.int m1), .val (.int m2), .val (.int y0), .val (.int y1), .val (.int y2), .val (.int (0 : Int32)), .val (.int v1)] [])) t
                    refine XS.iconst X44.here hx rfl (hb hby at_310) ?_
                    show Steps p.tables e below (T44.setTop (mkF m 311 #[.val (.int p0), .val (.int p1), .val (.long q2), .second, .val (.int p3), .val (.int v1), .val (.int v3), .val (.ref b4), .val (.int m0), .val (.int m1), .val (.int m2), .val (.int y0), .val (.int y1), .val (.int y2), .val (.int (0 : Int32)), .val (.int v1)] [(.int (1 : Int32))])) t
                    refine XS.goto X44.here hx rfl (pc0 := 311) (pc' := 315) rfl (hb hby at_311) (by decide) (by decide) ?_
                    show Steps p.tables e below (T44.setTop (mkF m 315 #[.val (.int p0), .val (.int p1), .val (.long q2), .second, .val (.int p3), .val (.int v1), .val (.int v3), .val (.ref b4), .val (.int m0), .val (.int m1), .val (.int m2), .val (.int y0), .val (.int y1), .val (.int y2), .val (.int (0 : Int32)), .val (.int v1)] [(.int (1 : Int32))])) t
                    exact k
                  exact Own.retN hR X44 hx (t := .boolean) hret (by simp) (hb hby at_315) (by decide) (by decide) (by decide) ⟨rfl, N44⟩
            refine hD _ (T26.setTop (mkF m 190 #[.val (.int p0), .val (.int p1), .val (.long q2), .second, .val (.int p3), .val (.int v1), .val (.int v3), .val (.ref b4), .val (.int m0), .val (.int m1), .val (.int m2), .val (.int y0), .val (.int y1), .unset, .unset, .unset] [(.int m2)])) (fun t k => ?_) ?_
            · show Steps p.tables e below (T26.setTop (mkF m 188 #[.val (.int p0), .val (.int p1), .val (.long q2), .second, .val (.int p3), .val (.int v1), .val (.int v3), .val (.ref b4), .val (.int m0), .val (.int m1), .val (.int m2), .val (.int y0), .val (.int y1), .unset, .unset, .unset] [])) t
              refine XS.iload X26.here hx rfl (hb hby at_188) rfl ?_
              show Steps p.tables e below (T26.setTop (mkF m 190 #[.val (.int p0), .val (.int p1), .val (.long q2), .second, .val (.int p3), .val (.int v1), .val (.int v3), .val (.ref b4), .val (.int m0), .val (.int m1), .val (.int m2), .val (.int y0), .val (.int y1), .unset, .unset, .unset] [(.int m2)])) t
              exact k
            by_cases hc46 : m2 = (0 : Int32)
            · obtain ⟨T47, _, L47, X47, ⟨⟨r47, rfl, hr47⟩, Nq47, e47⟩, st47⟩ := Own.callS (y := (⟨"org/wireform/json/JsonReaderPastByteOrderMarkPinLaw", "byteOf", "(JI)I"⟩ : MethodName)) (W := 0) (argsL := [(.long q2), (.int (v1 + (2 : Int32)))]) (rest := []) X26 hx hZ hown (hw _ (List.mem_of_getElem? (i := 2) rfl)) (hw _ (List.mem_of_getElem? (i := 3) rfl)) (hw _ (List.mem_of_getElem? (i := 4) rfl)) (hw _ (List.mem_of_getElem? (i := 5) rfl)) (by decide) e26 (rm1 l Z a0 hw [] q2 (v1 + (2 : Int32))  h21 n0 ) (by decide) (by decide) (by decide) (by decide) (g := (mkF m 204 #[.val (.int p0), .val (.int p1), .val (.long q2), .second, .val (.int p3), .val (.int v1), .val (.int v3), .val (.ref b4), .val (.int m0), .val (.int m1), .val (.int m2), .val (.int y0), .val (.int y1), .unset, .unset, .unset] [(.int (v1 + (2 : Int32))), (.long q2)])) rfl (by rw [hml]; rfl) (lenOf pd_2 rfl) rfl (by show 2 * 0 + _ ≤ _; exact Nat.le_of_eq rfl) (hb hby at_204)
              have N47 := Fr.app N26 Nq47
              refine hD _ (T47.setTop (mkF m 207 #[.val (.int p0), .val (.int p1), .val (.long q2), .second, .val (.int p3), .val (.int v1), .val (.int v3), .val (.ref b4), .val (.int m0), .val (.int m1), .val (.int m2), .val (.int y0), .val (.int y1), .unset, .unset, .unset] [(.int r47)])) (fun t k => ?_) ?_
              · show Steps p.tables e below (T26.setTop (mkF m 190 #[.val (.int p0), .val (.int p1), .val (.long q2), .second, .val (.int p3), .val (.int v1), .val (.int v3), .val (.ref b4), .val (.int m0), .val (.int m1), .val (.int m2), .val (.int y0), .val (.int y1), .unset, .unset, .unset] [(.int m2)])) t
                refine XS.ifYes X26.here hx rfl (pc0 := 190) (pc' := 199) rfl (hb hby at_190) rfl ((if0 _ _).trans (teq hc46).1) (by decide) (by decide) ?_
                show Steps p.tables e below (T26.setTop (mkF m 199 #[.val (.int p0), .val (.int p1), .val (.long q2), .second, .val (.int p3), .val (.int v1), .val (.int v3), .val (.ref b4), .val (.int m0), .val (.int m1), .val (.int m2), .val (.int y0), .val (.int y1), .unset, .unset, .unset] [])) t
                refine XS.lloadN X26.here hx rfl (hb hby at_199) rfl ?_
                show Steps p.tables e below (T26.setTop (mkF m 200 #[.val (.int p0), .val (.int p1), .val (.long q2), .second, .val (.int p3), .val (.int v1), .val (.int v3), .val (.ref b4), .val (.int m0), .val (.int m1), .val (.int m2), .val (.int y0), .val (.int y1), .unset, .unset, .unset] [(.long q2)])) t
                refine XS.iload X26.here hx rfl (hb hby at_200) rfl ?_
                show Steps p.tables e below (T26.setTop (mkF m 202 #[.val (.int p0), .val (.int p1), .val (.long q2), .second, .val (.int p3), .val (.int v1), .val (.int v3), .val (.ref b4), .val (.int m0), .val (.int m1), .val (.int m2), .val (.int y0), .val (.int y1), .unset, .unset, .unset] [(.int v1), (.long q2)])) t
                refine XS.iconst X26.here hx rfl (hb hby at_202) ?_
                show Steps p.tables e below (T26.setTop (mkF m 203 #[.val (.int p0), .val (.int p1), .val (.long q2), .second, .val (.int p3), .val (.int v1), .val (.int v3), .val (.ref b4), .val (.int m0), .val (.int m1), .val (.int m2), .val (.int y0), .val (.int y1), .unset, .unset, .unset] [(.int (2 : Int32)), (.int v1), (.long q2)])) t
                refine XS.iadd X26.here hx rfl (hb hby at_203) rfl ?_
                show Steps p.tables e below (T26.setTop (mkF m 204 #[.val (.int p0), .val (.int p1), .val (.long q2), .second, .val (.int p3), .val (.int v1), .val (.int v3), .val (.ref b4), .val (.int m0), .val (.int m1), .val (.int m2), .val (.int y0), .val (.int y1), .unset, .unset, .unset] [(.int (v1 + (2 : Int32))), (.long q2)])) t
                refine st47 _ ?_
                show Steps p.tables e below (T47.setTop (mkF m 207 #[.val (.int p0), .val (.int p1), .val (.long q2), .second, .val (.int p3), .val (.int v1), .val (.int v3), .val (.ref b4), .val (.int m0), .val (.int m1), .val (.int m2), .val (.int y0), .val (.int y1), .unset, .unset, .unset] [(.int r47)])) t
                exact k
              exact J207 T47 _ r47 X47 e47 N47 hr47
            · refine hD _ (T26.setTop (mkF m 207 #[.val (.int p0), .val (.int p1), .val (.long q2), .second, .val (.int p3), .val (.int v1), .val (.int v3), .val (.ref b4), .val (.int m0), .val (.int m1), .val (.int m2), .val (.int y0), .val (.int y1), .unset, .unset, .unset] [(.int (191 : Int32))])) (fun t k => ?_) ?_
              · show Steps p.tables e below (T26.setTop (mkF m 190 #[.val (.int p0), .val (.int p1), .val (.long q2), .second, .val (.int p3), .val (.int v1), .val (.int v3), .val (.ref b4), .val (.int m0), .val (.int m1), .val (.int m2), .val (.int y0), .val (.int y1), .unset, .unset, .unset] [(.int m2)])) t
                refine XS.ifNo X26.here hx rfl (hb hby at_190) rfl ((if0 _ _).trans (feq hc46).1) ?_
                show Steps p.tables e below (T26.setTop (mkF m 193 #[.val (.int p0), .val (.int p1), .val (.long q2), .second, .val (.int p3), .val (.int v1), .val (.int v3), .val (.ref b4), .val (.int m0), .val (.int m1), .val (.int m2), .val (.int y0), .val (.int y1), .unset, .unset, .unset] [])) t
                refine XS.sipush X26.here hx rfl (hb hby at_193) ?_
                show Steps p.tables e below (T26.setTop (mkF m 196 #[.val (.int p0), .val (.int p1), .val (.long q2), .second, .val (.int p3), .val (.int v1), .val (.int v3), .val (.ref b4), .val (.int m0), .val (.int m1), .val (.int m2), .val (.int y0), .val (.int y1), .unset, .unset, .unset] [(.int (191 : Int32))])) t
                refine XS.goto X26.here hx rfl (pc0 := 196) (pc' := 207) rfl (hb hby at_196) (by decide) (by decide) ?_
                show Steps p.tables e below (T26.setTop (mkF m 207 #[.val (.int p0), .val (.int p1), .val (.long q2), .second, .val (.int p3), .val (.int v1), .val (.int v3), .val (.ref b4), .val (.int m0), .val (.int m1), .val (.int m2), .val (.int y0), .val (.int y1), .unset, .unset, .unset] [(.int (191 : Int32))])) t
                exact k
              exact J207 T26 _ (191 : Int32) X26 e26 N26 ⟨by decide, by decide⟩
          refine hD _ (T25.setTop (mkF m 169 #[.val (.int p0), .val (.int p1), .val (.long q2), .second, .val (.int p3), .val (.int v1), .val (.int v3), .val (.ref b4), .val (.int m0), .val (.int m1), .val (.int m2), .val (.int y0), .unset, .unset, .unset, .unset] [(.int m1)])) (fun t k => ?_) ?_
          · show Steps p.tables e below (T25.setTop (mkF m 167 #[.val (.int p0), .val (.int p1), .val (.long q2), .second, .val (.int p3), .val (.int v1), .val (.int v3), .val (.ref b4), .val (.int m0), .val (.int m1), .val (.int m2), .val (.int y0), .unset, .unset, .unset, .unset] [])) t
            refine XS.iload X25.here hx rfl (hb hby at_167) rfl ?_
            show Steps p.tables e below (T25.setTop (mkF m 169 #[.val (.int p0), .val (.int p1), .val (.long q2), .second, .val (.int p3), .val (.int v1), .val (.int v3), .val (.ref b4), .val (.int m0), .val (.int m1), .val (.int m2), .val (.int y0), .unset, .unset, .unset, .unset] [(.int m1)])) t
            exact k
          by_cases hc48 : m1 = (0 : Int32)
          · obtain ⟨T49, _, L49, X49, ⟨⟨r49, rfl, hr49⟩, Nq49, e49⟩, st49⟩ := Own.callS (y := (⟨"org/wireform/json/JsonReaderPastByteOrderMarkPinLaw", "byteOf", "(JI)I"⟩ : MethodName)) (W := 0) (argsL := [(.long q2), (.int (v1 + (1 : Int32)))]) (rest := []) X25 hx hZ hown (hw _ (List.mem_of_getElem? (i := 2) rfl)) (hw _ (List.mem_of_getElem? (i := 3) rfl)) (hw _ (List.mem_of_getElem? (i := 4) rfl)) (hw _ (List.mem_of_getElem? (i := 5) rfl)) (by decide) e25 (rm1 l Z a0 hw [] q2 (v1 + (1 : Int32))  h21 n0 ) (by decide) (by decide) (by decide) (by decide) (g := (mkF m 183 #[.val (.int p0), .val (.int p1), .val (.long q2), .second, .val (.int p3), .val (.int v1), .val (.int v3), .val (.ref b4), .val (.int m0), .val (.int m1), .val (.int m2), .val (.int y0), .unset, .unset, .unset, .unset] [(.int (v1 + (1 : Int32))), (.long q2)])) rfl (by rw [hml]; rfl) (lenOf pd_2 rfl) rfl (by show 2 * 0 + _ ≤ _; exact Nat.le_of_eq rfl) (hb hby at_183)
            have N49 := Fr.app N25 Nq49
            refine hD _ (T49.setTop (mkF m 186 #[.val (.int p0), .val (.int p1), .val (.long q2), .second, .val (.int p3), .val (.int v1), .val (.int v3), .val (.ref b4), .val (.int m0), .val (.int m1), .val (.int m2), .val (.int y0), .unset, .unset, .unset, .unset] [(.int r49)])) (fun t k => ?_) ?_
            · show Steps p.tables e below (T25.setTop (mkF m 169 #[.val (.int p0), .val (.int p1), .val (.long q2), .second, .val (.int p3), .val (.int v1), .val (.int v3), .val (.ref b4), .val (.int m0), .val (.int m1), .val (.int m2), .val (.int y0), .unset, .unset, .unset, .unset] [(.int m1)])) t
              refine XS.ifYes X25.here hx rfl (pc0 := 169) (pc' := 178) rfl (hb hby at_169) rfl ((if0 _ _).trans (teq hc48).1) (by decide) (by decide) ?_
              show Steps p.tables e below (T25.setTop (mkF m 178 #[.val (.int p0), .val (.int p1), .val (.long q2), .second, .val (.int p3), .val (.int v1), .val (.int v3), .val (.ref b4), .val (.int m0), .val (.int m1), .val (.int m2), .val (.int y0), .unset, .unset, .unset, .unset] [])) t
              refine XS.lloadN X25.here hx rfl (hb hby at_178) rfl ?_
              show Steps p.tables e below (T25.setTop (mkF m 179 #[.val (.int p0), .val (.int p1), .val (.long q2), .second, .val (.int p3), .val (.int v1), .val (.int v3), .val (.ref b4), .val (.int m0), .val (.int m1), .val (.int m2), .val (.int y0), .unset, .unset, .unset, .unset] [(.long q2)])) t
              refine XS.iload X25.here hx rfl (hb hby at_179) rfl ?_
              show Steps p.tables e below (T25.setTop (mkF m 181 #[.val (.int p0), .val (.int p1), .val (.long q2), .second, .val (.int p3), .val (.int v1), .val (.int v3), .val (.ref b4), .val (.int m0), .val (.int m1), .val (.int m2), .val (.int y0), .unset, .unset, .unset, .unset] [(.int v1), (.long q2)])) t
              refine XS.iconst X25.here hx rfl (hb hby at_181) ?_
              show Steps p.tables e below (T25.setTop (mkF m 182 #[.val (.int p0), .val (.int p1), .val (.long q2), .second, .val (.int p3), .val (.int v1), .val (.int v3), .val (.ref b4), .val (.int m0), .val (.int m1), .val (.int m2), .val (.int y0), .unset, .unset, .unset, .unset] [(.int (1 : Int32)), (.int v1), (.long q2)])) t
              refine XS.iadd X25.here hx rfl (hb hby at_182) rfl ?_
              show Steps p.tables e below (T25.setTop (mkF m 183 #[.val (.int p0), .val (.int p1), .val (.long q2), .second, .val (.int p3), .val (.int v1), .val (.int v3), .val (.ref b4), .val (.int m0), .val (.int m1), .val (.int m2), .val (.int y0), .unset, .unset, .unset, .unset] [(.int (v1 + (1 : Int32))), (.long q2)])) t
              refine st49 _ ?_
              show Steps p.tables e below (T49.setTop (mkF m 186 #[.val (.int p0), .val (.int p1), .val (.long q2), .second, .val (.int p3), .val (.int v1), .val (.int v3), .val (.ref b4), .val (.int m0), .val (.int m1), .val (.int m2), .val (.int y0), .unset, .unset, .unset, .unset] [(.int r49)])) t
              exact k
            exact J186 T49 _ r49 X49 e49 N49 hr49
          · refine hD _ (T25.setTop (mkF m 186 #[.val (.int p0), .val (.int p1), .val (.long q2), .second, .val (.int p3), .val (.int v1), .val (.int v3), .val (.ref b4), .val (.int m0), .val (.int m1), .val (.int m2), .val (.int y0), .unset, .unset, .unset, .unset] [(.int (187 : Int32))])) (fun t k => ?_) ?_
            · show Steps p.tables e below (T25.setTop (mkF m 169 #[.val (.int p0), .val (.int p1), .val (.long q2), .second, .val (.int p3), .val (.int v1), .val (.int v3), .val (.ref b4), .val (.int m0), .val (.int m1), .val (.int m2), .val (.int y0), .unset, .unset, .unset, .unset] [(.int m1)])) t
              refine XS.ifNo X25.here hx rfl (hb hby at_169) rfl ((if0 _ _).trans (feq hc48).1) ?_
              show Steps p.tables e below (T25.setTop (mkF m 172 #[.val (.int p0), .val (.int p1), .val (.long q2), .second, .val (.int p3), .val (.int v1), .val (.int v3), .val (.ref b4), .val (.int m0), .val (.int m1), .val (.int m2), .val (.int y0), .unset, .unset, .unset, .unset] [])) t
              refine XS.sipush X25.here hx rfl (hb hby at_172) ?_
              show Steps p.tables e below (T25.setTop (mkF m 175 #[.val (.int p0), .val (.int p1), .val (.long q2), .second, .val (.int p3), .val (.int v1), .val (.int v3), .val (.ref b4), .val (.int m0), .val (.int m1), .val (.int m2), .val (.int y0), .unset, .unset, .unset, .unset] [(.int (187 : Int32))])) t
              refine XS.goto X25.here hx rfl (pc0 := 175) (pc' := 186) rfl (hb hby at_175) (by decide) (by decide) ?_
              show Steps p.tables e below (T25.setTop (mkF m 186 #[.val (.int p0), .val (.int p1), .val (.long q2), .second, .val (.int p3), .val (.int v1), .val (.int v3), .val (.ref b4), .val (.int m0), .val (.int m1), .val (.int m2), .val (.int y0), .unset, .unset, .unset, .unset] [(.int (187 : Int32))])) t
              exact k
            exact J186 T25 _ (187 : Int32) X25 e25 N25 ⟨by decide, by decide⟩
        refine hD _ (T24.setTop (mkF m 150 #[.val (.int p0), .val (.int p1), .val (.long q2), .second, .val (.int p3), .val (.int v1), .val (.int v3), .val (.ref b4), .val (.int m0), .val (.int m1), .val (.int m2), .unset, .unset, .unset, .unset, .unset] [(.int m0)])) (fun t k => ?_) ?_
        · show Steps p.tables e below (T24.setTop (mkF m 148 #[.val (.int p0), .val (.int p1), .val (.long q2), .second, .val (.int p3), .val (.int v1), .val (.int v3), .val (.ref b4), .val (.int m0), .val (.int m1), .val (.int m2), .unset, .unset, .unset, .unset, .unset] [])) t
          refine XS.iload X24.here hx rfl (hb hby at_148) rfl ?_
          show Steps p.tables e below (T24.setTop (mkF m 150 #[.val (.int p0), .val (.int p1), .val (.long q2), .second, .val (.int p3), .val (.int v1), .val (.int v3), .val (.ref b4), .val (.int m0), .val (.int m1), .val (.int m2), .unset, .unset, .unset, .unset, .unset] [(.int m0)])) t
          exact k
        by_cases hc50 : m0 = (0 : Int32)
        · obtain ⟨T51, _, L51, X51, ⟨⟨r51, rfl, hr51⟩, Nq51, e51⟩, st51⟩ := Own.callS (y := (⟨"org/wireform/json/JsonReaderPastByteOrderMarkPinLaw", "byteOf", "(JI)I"⟩ : MethodName)) (W := 0) (argsL := [(.long q2), (.int v1)]) (rest := []) X24 hx hZ hown (hw _ (List.mem_of_getElem? (i := 2) rfl)) (hw _ (List.mem_of_getElem? (i := 3) rfl)) (hw _ (List.mem_of_getElem? (i := 4) rfl)) (hw _ (List.mem_of_getElem? (i := 5) rfl)) (by decide) e24 (rm1 l Z a0 hw [] q2 v1  h21 n0 ) (by decide) (by decide) (by decide) (by decide) (g := (mkF m 162 #[.val (.int p0), .val (.int p1), .val (.long q2), .second, .val (.int p3), .val (.int v1), .val (.int v3), .val (.ref b4), .val (.int m0), .val (.int m1), .val (.int m2), .unset, .unset, .unset, .unset, .unset] [(.int v1), (.long q2)])) rfl (by rw [hml]; rfl) (lenOf pd_2 rfl) rfl (by show 2 * 0 + _ ≤ _; exact Nat.le_of_eq rfl) (hb hby at_162)
          have N51 := Fr.app N24 Nq51
          refine hD _ (T51.setTop (mkF m 165 #[.val (.int p0), .val (.int p1), .val (.long q2), .second, .val (.int p3), .val (.int v1), .val (.int v3), .val (.ref b4), .val (.int m0), .val (.int m1), .val (.int m2), .unset, .unset, .unset, .unset, .unset] [(.int r51)])) (fun t k => ?_) ?_
          · show Steps p.tables e below (T24.setTop (mkF m 150 #[.val (.int p0), .val (.int p1), .val (.long q2), .second, .val (.int p3), .val (.int v1), .val (.int v3), .val (.ref b4), .val (.int m0), .val (.int m1), .val (.int m2), .unset, .unset, .unset, .unset, .unset] [(.int m0)])) t
            refine XS.ifYes X24.here hx rfl (pc0 := 150) (pc' := 159) rfl (hb hby at_150) rfl ((if0 _ _).trans (teq hc50).1) (by decide) (by decide) ?_
            show Steps p.tables e below (T24.setTop (mkF m 159 #[.val (.int p0), .val (.int p1), .val (.long q2), .second, .val (.int p3), .val (.int v1), .val (.int v3), .val (.ref b4), .val (.int m0), .val (.int m1), .val (.int m2), .unset, .unset, .unset, .unset, .unset] [])) t
            refine XS.lloadN X24.here hx rfl (hb hby at_159) rfl ?_
            show Steps p.tables e below (T24.setTop (mkF m 160 #[.val (.int p0), .val (.int p1), .val (.long q2), .second, .val (.int p3), .val (.int v1), .val (.int v3), .val (.ref b4), .val (.int m0), .val (.int m1), .val (.int m2), .unset, .unset, .unset, .unset, .unset] [(.long q2)])) t
            refine XS.iload X24.here hx rfl (hb hby at_160) rfl ?_
            show Steps p.tables e below (T24.setTop (mkF m 162 #[.val (.int p0), .val (.int p1), .val (.long q2), .second, .val (.int p3), .val (.int v1), .val (.int v3), .val (.ref b4), .val (.int m0), .val (.int m1), .val (.int m2), .unset, .unset, .unset, .unset, .unset] [(.int v1), (.long q2)])) t
            refine st51 _ ?_
            show Steps p.tables e below (T51.setTop (mkF m 165 #[.val (.int p0), .val (.int p1), .val (.long q2), .second, .val (.int p3), .val (.int v1), .val (.int v3), .val (.ref b4), .val (.int m0), .val (.int m1), .val (.int m2), .unset, .unset, .unset, .unset, .unset] [(.int r51)])) t
            exact k
          exact J165 T51 _ r51 X51 e51 N51 hr51
        · refine hD _ (T24.setTop (mkF m 165 #[.val (.int p0), .val (.int p1), .val (.long q2), .second, .val (.int p3), .val (.int v1), .val (.int v3), .val (.ref b4), .val (.int m0), .val (.int m1), .val (.int m2), .unset, .unset, .unset, .unset, .unset] [(.int (239 : Int32))])) (fun t k => ?_) ?_
          · show Steps p.tables e below (T24.setTop (mkF m 150 #[.val (.int p0), .val (.int p1), .val (.long q2), .second, .val (.int p3), .val (.int v1), .val (.int v3), .val (.ref b4), .val (.int m0), .val (.int m1), .val (.int m2), .unset, .unset, .unset, .unset, .unset] [(.int m0)])) t
            refine XS.ifNo X24.here hx rfl (hb hby at_150) rfl ((if0 _ _).trans (feq hc50).1) ?_
            show Steps p.tables e below (T24.setTop (mkF m 153 #[.val (.int p0), .val (.int p1), .val (.long q2), .second, .val (.int p3), .val (.int v1), .val (.int v3), .val (.ref b4), .val (.int m0), .val (.int m1), .val (.int m2), .unset, .unset, .unset, .unset, .unset] [])) t
            refine XS.sipush X24.here hx rfl (hb hby at_153) ?_
            show Steps p.tables e below (T24.setTop (mkF m 156 #[.val (.int p0), .val (.int p1), .val (.long q2), .second, .val (.int p3), .val (.int v1), .val (.int v3), .val (.ref b4), .val (.int m0), .val (.int m1), .val (.int m2), .unset, .unset, .unset, .unset, .unset] [(.int (239 : Int32))])) t
            refine XS.goto X24.here hx rfl (pc0 := 156) (pc' := 165) rfl (hb hby at_156) (by decide) (by decide) ?_
            show Steps p.tables e below (T24.setTop (mkF m 165 #[.val (.int p0), .val (.int p1), .val (.long q2), .second, .val (.int p3), .val (.int v1), .val (.int v3), .val (.ref b4), .val (.int m0), .val (.int m1), .val (.int m2), .unset, .unset, .unset, .unset, .unset] [(.int (239 : Int32))])) t
            exact k
          exact J165 T24 _ (239 : Int32) X24 e24 N24 ⟨by decide, by decide⟩
      refine hD _ (T23.setTop (mkF m 138 #[.val (.int p0), .val (.int p1), .val (.long q2), .second, .val (.int p3), .val (.int v1), .val (.int v3), .val (.ref b4), .val (.int m0), .val (.int m1), .unset, .unset, .unset, .unset, .unset, .unset] [(.int (p3 &&& (4 : Int32)))])) (fun t k => ?_) ?_
      · show Steps p.tables e below (T23.setTop (mkF m 134 #[.val (.int p0), .val (.int p1), .val (.long q2), .second, .val (.int p3), .val (.int v1), .val (.int v3), .val (.ref b4), .val (.int m0), .val (.int m1), .unset, .unset, .unset, .unset, .unset, .unset] [])) t
        refine XS.iload X23.here hx rfl (hb hby at_134) rfl ?_
        show Steps p.tables e below (T23.setTop (mkF m 136 #[.val (.int p0), .val (.int p1), .val (.long q2), .second, .val (.int p3), .val (.int v1), .val (.int v3), .val (.ref b4), .val (.int m0), .val (.int m1), .unset, .unset, .unset, .unset, .unset, .unset] [(.int p3)])) t
        refine XS.iconst X23.here hx rfl (hb hby at_136) ?_
        show Steps p.tables e below (T23.setTop (mkF m 137 #[.val (.int p0), .val (.int p1), .val (.long q2), .second, .val (.int p3), .val (.int v1), .val (.int v3), .val (.ref b4), .val (.int m0), .val (.int m1), .unset, .unset, .unset, .unset, .unset, .unset] [(.int (4 : Int32)), (.int p3)])) t
        refine XS.iand X23.here hx rfl (hb hby at_137) rfl ?_
        show Steps p.tables e below (T23.setTop (mkF m 138 #[.val (.int p0), .val (.int p1), .val (.long q2), .second, .val (.int p3), .val (.int v1), .val (.int v3), .val (.ref b4), .val (.int m0), .val (.int m1), .unset, .unset, .unset, .unset, .unset, .unset] [(.int (p3 &&& (4 : Int32)))])) t
        exact k
      by_cases hc52 : (p3 &&& (4 : Int32)) = (0 : Int32)
      · refine hD _ (T23.setTop (mkF m 146 #[.val (.int p0), .val (.int p1), .val (.long q2), .second, .val (.int p3), .val (.int v1), .val (.int v3), .val (.ref b4), .val (.int m0), .val (.int m1), .unset, .unset, .unset, .unset, .unset, .unset] [(.int (0 : Int32))])) (fun t k => ?_) ?_
        · show Steps p.tables e below (T23.setTop (mkF m 138 #[.val (.int p0), .val (.int p1), .val (.long q2), .second, .val (.int p3), .val (.int v1), .val (.int v3), .val (.ref b4), .val (.int m0), .val (.int m1), .unset, .unset, .unset, .unset, .unset, .unset] [(.int (p3 &&& (4 : Int32)))])) t
          refine XS.ifYes X23.here hx rfl (pc0 := 138) (pc' := 145) rfl (hb hby at_138) rfl ((if0 _ _).trans (teq hc52).1) (by decide) (by decide) ?_
          show Steps p.tables e below (T23.setTop (mkF m 145 #[.val (.int p0), .val (.int p1), .val (.long q2), .second, .val (.int p3), .val (.int v1), .val (.int v3), .val (.ref b4), .val (.int m0), .val (.int m1), .unset, .unset, .unset, .unset, .unset, .unset] [])) t
          refine XS.iconst X23.here hx rfl (hb hby at_145) ?_
          show Steps p.tables e below (T23.setTop (mkF m 146 #[.val (.int p0), .val (.int p1), .val (.long q2), .second, .val (.int p3), .val (.int v1), .val (.int v3), .val (.ref b4), .val (.int m0), .val (.int m1), .unset, .unset, .unset, .unset, .unset, .unset] [(.int (0 : Int32))])) t
          exact k
        exact J146 T23 _ (0 : Int32) X23 e23 N23 
      · refine hD _ (T23.setTop (mkF m 146 #[.val (.int p0), .val (.int p1), .val (.long q2), .second, .val (.int p3), .val (.int v1), .val (.int v3), .val (.ref b4), .val (.int m0), .val (.int m1), .unset, .unset, .unset, .unset, .unset, .unset] [(.int (1 : Int32))])) (fun t k => ?_) ?_
        · show Steps p.tables e below (T23.setTop (mkF m 138 #[.val (.int p0), .val (.int p1), .val (.long q2), .second, .val (.int p3), .val (.int v1), .val (.int v3), .val (.ref b4), .val (.int m0), .val (.int m1), .unset, .unset, .unset, .unset, .unset, .unset] [(.int (p3 &&& (4 : Int32)))])) t
          refine XS.ifNo X23.here hx rfl (hb hby at_138) rfl ((if0 _ _).trans (feq hc52).1) ?_
          show Steps p.tables e below (T23.setTop (mkF m 141 #[.val (.int p0), .val (.int p1), .val (.long q2), .second, .val (.int p3), .val (.int v1), .val (.int v3), .val (.ref b4), .val (.int m0), .val (.int m1), .unset, .unset, .unset, .unset, .unset, .unset] [])) t
          refine XS.iconst X23.here hx rfl (hb hby at_141) ?_
          show Steps p.tables e below (T23.setTop (mkF m 142 #[.val (.int p0), .val (.int p1), .val (.long q2), .second, .val (.int p3), .val (.int v1), .val (.int v3), .val (.ref b4), .val (.int m0), .val (.int m1), .unset, .unset, .unset, .unset, .unset, .unset] [(.int (1 : Int32))])) t
          refine XS.goto X23.here hx rfl (pc0 := 142) (pc' := 146) rfl (hb hby at_142) (by decide) (by decide) ?_
          show Steps p.tables e below (T23.setTop (mkF m 146 #[.val (.int p0), .val (.int p1), .val (.long q2), .second, .val (.int p3), .val (.int v1), .val (.int v3), .val (.ref b4), .val (.int m0), .val (.int m1), .unset, .unset, .unset, .unset, .unset, .unset] [(.int (1 : Int32))])) t
          exact k
        exact J146 T23 _ (1 : Int32) X23 e23 N23 
    refine hD _ (T22.setTop (mkF m 124 #[.val (.int p0), .val (.int p1), .val (.long q2), .second, .val (.int p3), .val (.int v1), .val (.int v3), .val (.ref b4), .val (.int m0), .unset, .unset, .unset, .unset, .unset, .unset, .unset] [(.int (p3 &&& (2 : Int32)))])) (fun t k => ?_) ?_
    · show Steps p.tables e below (T22.setTop (mkF m 120 #[.val (.int p0), .val (.int p1), .val (.long q2), .second, .val (.int p3), .val (.int v1), .val (.int v3), .val (.ref b4), .val (.int m0), .unset, .unset, .unset, .unset, .unset, .unset, .unset] [])) t
      refine XS.iload X22.here hx rfl (hb hby at_120) rfl ?_
      show Steps p.tables e below (T22.setTop (mkF m 122 #[.val (.int p0), .val (.int p1), .val (.long q2), .second, .val (.int p3), .val (.int v1), .val (.int v3), .val (.ref b4), .val (.int m0), .unset, .unset, .unset, .unset, .unset, .unset, .unset] [(.int p3)])) t
      refine XS.iconst X22.here hx rfl (hb hby at_122) ?_
      show Steps p.tables e below (T22.setTop (mkF m 123 #[.val (.int p0), .val (.int p1), .val (.long q2), .second, .val (.int p3), .val (.int v1), .val (.int v3), .val (.ref b4), .val (.int m0), .unset, .unset, .unset, .unset, .unset, .unset, .unset] [(.int (2 : Int32)), (.int p3)])) t
      refine XS.iand X22.here hx rfl (hb hby at_123) rfl ?_
      show Steps p.tables e below (T22.setTop (mkF m 124 #[.val (.int p0), .val (.int p1), .val (.long q2), .second, .val (.int p3), .val (.int v1), .val (.int v3), .val (.ref b4), .val (.int m0), .unset, .unset, .unset, .unset, .unset, .unset, .unset] [(.int (p3 &&& (2 : Int32)))])) t
      exact k
    by_cases hc53 : (p3 &&& (2 : Int32)) = (0 : Int32)
    · refine hD _ (T22.setTop (mkF m 132 #[.val (.int p0), .val (.int p1), .val (.long q2), .second, .val (.int p3), .val (.int v1), .val (.int v3), .val (.ref b4), .val (.int m0), .unset, .unset, .unset, .unset, .unset, .unset, .unset] [(.int (0 : Int32))])) (fun t k => ?_) ?_
      · show Steps p.tables e below (T22.setTop (mkF m 124 #[.val (.int p0), .val (.int p1), .val (.long q2), .second, .val (.int p3), .val (.int v1), .val (.int v3), .val (.ref b4), .val (.int m0), .unset, .unset, .unset, .unset, .unset, .unset, .unset] [(.int (p3 &&& (2 : Int32)))])) t
        refine XS.ifYes X22.here hx rfl (pc0 := 124) (pc' := 131) rfl (hb hby at_124) rfl ((if0 _ _).trans (teq hc53).1) (by decide) (by decide) ?_
        show Steps p.tables e below (T22.setTop (mkF m 131 #[.val (.int p0), .val (.int p1), .val (.long q2), .second, .val (.int p3), .val (.int v1), .val (.int v3), .val (.ref b4), .val (.int m0), .unset, .unset, .unset, .unset, .unset, .unset, .unset] [])) t
        refine XS.iconst X22.here hx rfl (hb hby at_131) ?_
        show Steps p.tables e below (T22.setTop (mkF m 132 #[.val (.int p0), .val (.int p1), .val (.long q2), .second, .val (.int p3), .val (.int v1), .val (.int v3), .val (.ref b4), .val (.int m0), .unset, .unset, .unset, .unset, .unset, .unset, .unset] [(.int (0 : Int32))])) t
        exact k
      exact J132 T22 _ (0 : Int32) X22 e22 N22 
    · refine hD _ (T22.setTop (mkF m 132 #[.val (.int p0), .val (.int p1), .val (.long q2), .second, .val (.int p3), .val (.int v1), .val (.int v3), .val (.ref b4), .val (.int m0), .unset, .unset, .unset, .unset, .unset, .unset, .unset] [(.int (1 : Int32))])) (fun t k => ?_) ?_
      · show Steps p.tables e below (T22.setTop (mkF m 124 #[.val (.int p0), .val (.int p1), .val (.long q2), .second, .val (.int p3), .val (.int v1), .val (.int v3), .val (.ref b4), .val (.int m0), .unset, .unset, .unset, .unset, .unset, .unset, .unset] [(.int (p3 &&& (2 : Int32)))])) t
        refine XS.ifNo X22.here hx rfl (hb hby at_124) rfl ((if0 _ _).trans (feq hc53).1) ?_
        show Steps p.tables e below (T22.setTop (mkF m 127 #[.val (.int p0), .val (.int p1), .val (.long q2), .second, .val (.int p3), .val (.int v1), .val (.int v3), .val (.ref b4), .val (.int m0), .unset, .unset, .unset, .unset, .unset, .unset, .unset] [])) t
        refine XS.iconst X22.here hx rfl (hb hby at_127) ?_
        show Steps p.tables e below (T22.setTop (mkF m 128 #[.val (.int p0), .val (.int p1), .val (.long q2), .second, .val (.int p3), .val (.int v1), .val (.int v3), .val (.ref b4), .val (.int m0), .unset, .unset, .unset, .unset, .unset, .unset, .unset] [(.int (1 : Int32))])) t
        refine XS.goto X22.here hx rfl (pc0 := 128) (pc' := 132) rfl (hb hby at_128) (by decide) (by decide) ?_
        show Steps p.tables e below (T22.setTop (mkF m 132 #[.val (.int p0), .val (.int p1), .val (.long q2), .second, .val (.int p3), .val (.int v1), .val (.int v3), .val (.ref b4), .val (.int m0), .unset, .unset, .unset, .unset, .unset, .unset, .unset] [(.int (1 : Int32))])) t
        exact k
      exact J132 T22 _ (1 : Int32) X22 e22 N22 
  refine hD _ (T21.setTop (mkF m 110 #[.val (.int p0), .val (.int p1), .val (.long q2), .second, .val (.int p3), .val (.int v1), .val (.int v3), .val (.ref b4), .unset, .unset, .unset, .unset, .unset, .unset, .unset, .unset] [(.int (p3 &&& (1 : Int32)))])) (fun t k => ?_) ?_
  · show Steps p.tables e below (T21.setTop (mkF m 106 #[.val (.int p0), .val (.int p1), .val (.long q2), .second, .val (.int p3), .val (.int v1), .val (.int v3), .val (.ref b4), .unset, .unset, .unset, .unset, .unset, .unset, .unset, .unset] [])) t
    refine XS.iload X21.here hx rfl (hb hby at_106) rfl ?_
    show Steps p.tables e below (T21.setTop (mkF m 108 #[.val (.int p0), .val (.int p1), .val (.long q2), .second, .val (.int p3), .val (.int v1), .val (.int v3), .val (.ref b4), .unset, .unset, .unset, .unset, .unset, .unset, .unset, .unset] [(.int p3)])) t
    refine XS.iconst X21.here hx rfl (hb hby at_108) ?_
    show Steps p.tables e below (T21.setTop (mkF m 109 #[.val (.int p0), .val (.int p1), .val (.long q2), .second, .val (.int p3), .val (.int v1), .val (.int v3), .val (.ref b4), .unset, .unset, .unset, .unset, .unset, .unset, .unset, .unset] [(.int (1 : Int32)), (.int p3)])) t
    refine XS.iand X21.here hx rfl (hb hby at_109) rfl ?_
    show Steps p.tables e below (T21.setTop (mkF m 110 #[.val (.int p0), .val (.int p1), .val (.long q2), .second, .val (.int p3), .val (.int v1), .val (.int v3), .val (.ref b4), .unset, .unset, .unset, .unset, .unset, .unset, .unset, .unset] [(.int (p3 &&& (1 : Int32)))])) t
    exact k
  by_cases hc54 : (p3 &&& (1 : Int32)) = (0 : Int32)
  · refine hD _ (T21.setTop (mkF m 118 #[.val (.int p0), .val (.int p1), .val (.long q2), .second, .val (.int p3), .val (.int v1), .val (.int v3), .val (.ref b4), .unset, .unset, .unset, .unset, .unset, .unset, .unset, .unset] [(.int (0 : Int32))])) (fun t k => ?_) ?_
    · show Steps p.tables e below (T21.setTop (mkF m 110 #[.val (.int p0), .val (.int p1), .val (.long q2), .second, .val (.int p3), .val (.int v1), .val (.int v3), .val (.ref b4), .unset, .unset, .unset, .unset, .unset, .unset, .unset, .unset] [(.int (p3 &&& (1 : Int32)))])) t
      refine XS.ifYes X21.here hx rfl (pc0 := 110) (pc' := 117) rfl (hb hby at_110) rfl ((if0 _ _).trans (teq hc54).1) (by decide) (by decide) ?_
      show Steps p.tables e below (T21.setTop (mkF m 117 #[.val (.int p0), .val (.int p1), .val (.long q2), .second, .val (.int p3), .val (.int v1), .val (.int v3), .val (.ref b4), .unset, .unset, .unset, .unset, .unset, .unset, .unset, .unset] [])) t
      refine XS.iconst X21.here hx rfl (hb hby at_117) ?_
      show Steps p.tables e below (T21.setTop (mkF m 118 #[.val (.int p0), .val (.int p1), .val (.long q2), .second, .val (.int p3), .val (.int v1), .val (.int v3), .val (.ref b4), .unset, .unset, .unset, .unset, .unset, .unset, .unset, .unset] [(.int (0 : Int32))])) t
      exact k
    exact J118 T21 _ (0 : Int32) X21 e21 N21 
  · refine hD _ (T21.setTop (mkF m 118 #[.val (.int p0), .val (.int p1), .val (.long q2), .second, .val (.int p3), .val (.int v1), .val (.int v3), .val (.ref b4), .unset, .unset, .unset, .unset, .unset, .unset, .unset, .unset] [(.int (1 : Int32))])) (fun t k => ?_) ?_
    · show Steps p.tables e below (T21.setTop (mkF m 110 #[.val (.int p0), .val (.int p1), .val (.long q2), .second, .val (.int p3), .val (.int v1), .val (.int v3), .val (.ref b4), .unset, .unset, .unset, .unset, .unset, .unset, .unset, .unset] [(.int (p3 &&& (1 : Int32)))])) t
      refine XS.ifNo X21.here hx rfl (hb hby at_110) rfl ((if0 _ _).trans (feq hc54).1) ?_
      show Steps p.tables e below (T21.setTop (mkF m 113 #[.val (.int p0), .val (.int p1), .val (.long q2), .second, .val (.int p3), .val (.int v1), .val (.int v3), .val (.ref b4), .unset, .unset, .unset, .unset, .unset, .unset, .unset, .unset] [])) t
      refine XS.iconst X21.here hx rfl (hb hby at_113) ?_
      show Steps p.tables e below (T21.setTop (mkF m 114 #[.val (.int p0), .val (.int p1), .val (.long q2), .second, .val (.int p3), .val (.int v1), .val (.int v3), .val (.ref b4), .unset, .unset, .unset, .unset, .unset, .unset, .unset, .unset] [(.int (1 : Int32))])) t
      refine XS.goto X21.here hx rfl (pc0 := 114) (pc' := 118) rfl (hb hby at_114) (by decide) (by decide) ?_
      show Steps p.tables e below (T21.setTop (mkF m 118 #[.val (.int p0), .val (.int p1), .val (.long q2), .second, .val (.int p3), .val (.int v1), .val (.int v3), .val (.ref b4), .unset, .unset, .unset, .unset, .unset, .unset, .unset, .unset] [(.int (1 : Int32))])) t
      exact k
    exact J118 T21 _ (1 : Int32) X21 e21 N21 
set_option maxRecDepth 65536 in
set_option maxHeartbeats 40000000 in
theorem comes_1 {Post : Tables → Env → Array Value → State → Outcome → State → Prop} (hpost : ∀ tb e args s v u, (limb_1_1.after args s (.returned v) u = true ∧ limb_1_2.after args s (.returned v) u = true ∧ True) → FrameEnd s (.returned v) u (Jvm.fieldLocs frame_1_writes args s ++ Jvm.arrayLocs frame_1_arrays args s ++ Jvm.staticLocs frame_1_statics s) 16 128 → Post tb e args s (.returned v) u) :
    ArmFor flags0 classFile x code maxLocals ret World_1 tables_1 room_1 Calls_1 rest_1 Pre_1 Post := by
  intro l hfl _ _ p e ha hc hk s m args below hf hA hF happ hP
  obtain ⟨hcalls, hrest, hpre⟩ := hP
  obtain ⟨-, -, -, hnamed, -, -, -, hat⟩ := (Spec.applies_iff hf).mp happ
  obtain ⟨hg, hn⟩ := and_e (Cond.before_iff.mp (show (Jvm.Cond.and given_1 narrow_1).before args s = true from hpre))
  obtain ⟨hcnt, hg0⟩ := and_e hg
  obtain ⟨ga0, hg1⟩ := and_e hg0
  obtain ⟨ga1, hg2⟩ := and_e hg1
  obtain ⟨ga2, hg3⟩ := and_e hg2
  obtain ⟨w0, w1, w2, w3, rfl⟩ : ∃ w0 w1 w2 w3 : Value, args = #[w0, w1, w2, w3] := by
    have hs : args.size = 4 := by simpa [Cond.value, given_1] using hcnt
    obtain ⟨L⟩ := args
    match L, hs with
    | [w0, w1, w2, w3], _ => exact ⟨w0, w1, w2, w3, rfl⟩
  have hw := fun d (hd : d ∈ tables_1) => atoms_spec (ws := Jvm.Cond.code x code maxLocals ret :: tables_1) hat d (List.mem_cons_of_mem _ hd)
  obtain ⟨i0, ei0⟩ := is_v ga0
  obtain rfl : w0 = (.int i0) := Option.some.inj ei0
  obtain ⟨i1, ei1⟩ := is_v ga1
  obtain rfl : w1 = (.int i1) := Option.some.inj ei1
  obtain ⟨i2, ei2⟩ := isL_v ga2
  obtain rfl : w2 = (.long i2) := Option.some.inj ei2
  obtain ⟨i3, ei3⟩ := is_v hg3
  obtain rfl : w3 = (.int i3) := Option.some.inj ei3
  obtain ⟨n, o, h1, h2, h3, _, L, rfl, ⟨rfl, N⟩, hq⟩ := rm0 l s _ hw tables_1 i0 i1 i2 i3 s.heap s.heap.size (Nat.le_refl _) p e ha hc hk s m _ below hf ((Spec.applies_iff_loose hf).mp happ).1 ⟨rfl, State.Warmed39.refl s, rfl⟩ trivial
  refine ⟨n, _, h1, h2, h3, hpost _ _ _ _ _ _ ⟨Cond.after_iff.mpr rfl, Cond.after_iff.mpr (eq_i res_at (Term.int_eval (1)) rfl), trivial⟩ ⟨hq.1, hq.2.1, (hq.2.2.sift fun y hy => Or.inr (N y hy)).mono (by decide) (by decide)⟩⟩
theorem main_1_1 : Claimed_1_1 := comes_1 fun _ _ _ _ _ _ h hF => ⟨h.1, hF⟩
theorem main_1_2 : Claimed_1_2 := comes_1 fun _ _ _ _ _ _ h hF => ⟨h.2.1, hF⟩
end Jvm.Pilot.@@N@@
namespace Jvm.Pilot.@@N@@
open Jvm Jvm.ClassFile Sem Op Lib Jvm.Free Jvm.Stand Jvm.Pilot.@@N@@.Jvm.D
/-! MADE BY PROGRAM (witnessworld.py) out of the Statement's table words and the real class files: 9 classes; the members and pool entries that the words name. The judged class is class 1, her method 1. -/
namespace start1
open Jvm.ClassFile
def u (s : String) : CpInfo := .utf8 (stringToUtf16 s)
/-- a pool by its gaps: so many unusable entries, then the entry; so many at the end -/
def gap : Nat → List CpInfo → List CpInfo
  | 0, r => r
  | n + 1, r => .unusable :: gap n r
def poolList (es : List (Nat × CpInfo)) (last : Nat) : List CpInfo := es.foldr (fun e r => gap e.1 (e.2 :: r)) (gap last [])
def pool (es : List (Nat × CpInfo)) (last : Nat) : Array CpInfo := ⟨poolList es last⟩
def fileOf (pool : Array CpInfo) (this : Nat) (attrs : Array Attribute := #[]) (ms : Array MethodInfo := #[]) (fl : Nat := 33) (sup : Nat := 0) (ifs : Array Nat := #[]) (fds : Array FieldInfo := #[]) : ClassFile where
  minorVersion := 0
  majorVersion := 65
  constantPool := pool
  accessFlags := fl
  thisClass := this
  superClass := sup
  interfaces := ifs
  fields := fds
  methods := ms
  attributes := attrs
def plain (name : String) (sup : Option ClassId) : Class where
  name := name
  kind := .ordinary
  loader := none
  accessFlags := 33
  super := sup
  interfaces := #[]
  cf := none
  fields := #[]
  methods := #[]
  instanceTypes := #[]
  staticTypes := #[]
  resolved := #[]
  callSites := []
  init := .initialized
  statics := none
  mirror := none

def pool0 : Array CpInfo := pool [(5, u "<init>"), (0, u "()V"), (1, .class_ 10), (1, u "java/lang/Object")] 113

def k0m0 : Method := { name := "<init>", desc := "()V", sig := { parameters := [], returnType := none }, accessFlags := 1, code := none }
/-- java/lang/Object -/
def k0 : Class := { plain "java/lang/Object" none with
  accessFlags := 33
  interfaces := #[]
  cf := some (fileOf pool0 8 #[] #[{ accessFlags := 1, nameIndex := 5, descriptorIndex := 6, attributes := #[] }] 33 0 #[] #[])
  fields := #[]
  methods := #[k0m0]
  instanceTypes := #[]
  staticTypes := #[]
  resolved := Array.replicate 124 none
  statics := none }

def pool1 : Array CpInfo := pool [(2, .class_ 4), (1, u "java/lang/Object"), (0, u "<init>"), (0, u "()V"), (0, .integer 2147483647), (0, .methodref 9 10), (0, .class_ 11), (0, .nameAndType 12 13), (0, u "org/wireform/json/JsonReaderPastByteOrderMarkPinLaw"), (0, u "byteOf"), (0, u "(JI)I"), (0, .methodref 9 15), (0, .nameAndType 16 17), (0, u "put"), (0, u "([BII)V"), (0, .methodref 19 20), (0, .class_ 21), (0, .nameAndType 22 23), (0, u "org/wireform/json/JsonReader"), (0, u "pastByteOrderMark"), (0, u "([BII)I"), (2, u "law"), (0, u "(IIJI)Z")] 5

def k1m0 : Method := { name := "<init>", desc := "()V", sig := { parameters := [], returnType := none }, accessFlags := 1, code := none }
def k1c1 : Code := { maxStack := 5, maxLocals := 16, code := code, exceptionTable := #[], attributes := #[] }
def k1m1 : Method := { name := "law", desc := "(IIJI)Z", sig := { parameters := [.int, .int, .long, .int], returnType := some .boolean }, accessFlags := 9, code := some k1c1 }
def k1c2 : Code := { maxStack := 4, maxLocals := 3, code := method_3_code, exceptionTable := #[], attributes := #[] }
def k1m2 : Method := { name := "byteOf", desc := "(JI)I", sig := { parameters := [.long, .int], returnType := some .int }, accessFlags := 10, code := some k1c2 }
def k1c3 : Code := { maxStack := 3, maxLocals := 3, code := method_4_code, exceptionTable := #[], attributes := #[] }
def k1m3 : Method := { name := "put", desc := "([BII)V", sig := { parameters := [(.array .byte), .int, .int], returnType := none }, accessFlags := 10, code := some k1c3 }
/-- org/wireform/json/JsonReaderPastByteOrderMarkPinLaw -/
def k1 : Class := { plain "org/wireform/json/JsonReaderPastByteOrderMarkPinLaw" (some 0) with
  accessFlags := 49
  interfaces := #[]
  cf := some (fileOf pool1 9 #[] #[{ accessFlags := 1, nameIndex := 5, descriptorIndex := 6, attributes := #[] }, { accessFlags := 9, nameIndex := 26, descriptorIndex := 27, attributes := #[] }, { accessFlags := 10, nameIndex := 12, descriptorIndex := 13, attributes := #[] }, { accessFlags := 10, nameIndex := 16, descriptorIndex := 17, attributes := #[] }] 49 2 #[] #[])
  fields := #[]
  methods := #[k1m0, k1m1, k1m2, k1m3]
  instanceTypes := #[]
  staticTypes := #[]
  resolved := Array.replicate 33 none
  statics := none }

def pool2 : Array CpInfo := pool [(1, .class_ 2), (0, u "org/wireform/json/JsonReader"), (3, .class_ 8), (1, u "java/lang/Object"), (4, u "decoded"), (0, u "[B"), (4, u "memberNames"), (0, u "[Ljava/lang/String;"), (4, u "memberValues"), (0, u "[Lorg/wireform/json/JsonValue;"), (2, u "items"), (0, .class_ 31), (0, u "org/wireform/json/JsonReader$Container"), (2, u "containers"), (0, u "[Lorg/wireform/json/JsonReader$Container;"), (8, u "names"), (0, u "Lorg/wireform/json/Names;"), (2, u "text"), (2, u "end"), (0, u "I"), (2, u "pos"), (7, u "locator"), (0, u "Lorg/wireform/json/Locator;"), (7, u "places"), (0, u "Lorg/wireform/json/Places;"), (2, u "pastByteOrderMark"), (0, u "([BII)I"), (45, u "depth"), (3, u "Z"), (18, u "unusual"), (40, u "memberCount"), (17, u "itemCount"), (161, u "DIGITS"), (0, u "[Lorg/wireform/json/JsonNumber;"), (76, u "ESCAPED"), (5, u "PLAIN"), (0, u "[Z"), (10, u "decodedLength"), (63, u "HEX"), (61, u "MAX_DEPTH"), (2, u "NESTED_ON_THREAD"), (1, u "TOO_DEEP"), (0, u "Ljava/lang/String;"), (0, u "TOO_DEEP_MESSAGE"), (0, u "INVALID_JSON"), (0, u "COMMENT"), (0, u "INVALID_UNICODE"), (0, u "DUPLICATE_PROPERTY"), (0, u "LINEAR_NAME_SEARCH"), (1, u "LONGEST_PROBE"), (1, u "LONGEST_ARRAY"), (1, u "STEP")] 37

def k2c0 : Code := { maxStack := 3, maxLocals := 4, code := prog_82_method_5_code, exceptionTable := #[], attributes := #[] }
def k2m0 : Method := { name := "pastByteOrderMark", desc := "([BII)I", sig := { parameters := [(.array .byte), .int, .int], returnType := some .int }, accessFlags := 8, code := some k2c0 }
/-- org/wireform/json/JsonReader -/
def k2 : Class := { plain "org/wireform/json/JsonReader" (some 0) with
  accessFlags := 49
  interfaces := #[]
  cf := some (fileOf pool2 1 #[.nestMembers #[30]] #[{ accessFlags := 8, nameIndex := 76, descriptorIndex := 77, attributes := #[] }] 49 6 #[] #[{ accessFlags := 25, nameIndex := 589, descriptorIndex := 52, attributes := #[] }, { accessFlags := 25, nameIndex := 592, descriptorIndex := 52, attributes := #[] }, { accessFlags := 25, nameIndex := 594, descriptorIndex := 595, attributes := #[] }, { accessFlags := 25, nameIndex := 596, descriptorIndex := 595, attributes := #[] }, { accessFlags := 26, nameIndex := 597, descriptorIndex := 595, attributes := #[] }, { accessFlags := 26, nameIndex := 598, descriptorIndex := 595, attributes := #[] }, { accessFlags := 26, nameIndex := 599, descriptorIndex := 595, attributes := #[] }, { accessFlags := 26, nameIndex := 600, descriptorIndex := 595, attributes := #[] }, { accessFlags := 26, nameIndex := 601, descriptorIndex := 52, attributes := #[] }, { accessFlags := 26, nameIndex := 603, descriptorIndex := 52, attributes := #[] }, { accessFlags := 26, nameIndex := 451, descriptorIndex := 452, attributes := #[] }, { accessFlags := 26, nameIndex := 445, descriptorIndex := 14, attributes := #[] }, { accessFlags := 26, nameIndex := 527, descriptorIndex := 14, attributes := #[] }, { accessFlags := 26, nameIndex := 367, descriptorIndex := 368, attributes := #[] }, { accessFlags := 26, nameIndex := 605, descriptorIndex := 52, attributes := #[] }, { accessFlags := 26, nameIndex := 607, descriptorIndex := 52, attributes := #[] }, { accessFlags := 18, nameIndex := 48, descriptorIndex := 14, attributes := #[] }, { accessFlags := 18, nameIndex := 51, descriptorIndex := 52, attributes := #[] }, { accessFlags := 18, nameIndex := 63, descriptorIndex := 64, attributes := #[] }, { accessFlags := 2, nameIndex := 55, descriptorIndex := 52, attributes := #[] }, { accessFlags := 2, nameIndex := 123, descriptorIndex := 52, attributes := #[] }, { accessFlags := 18, nameIndex := 72, descriptorIndex := 73, attributes := #[] }, { accessFlags := 2, nameIndex := 146, descriptorIndex := 127, attributes := #[] }, { accessFlags := 2, nameIndex := 13, descriptorIndex := 14, attributes := #[] }, { accessFlags := 2, nameIndex := 463, descriptorIndex := 52, attributes := #[] }, { accessFlags := 2, nameIndex := 19, descriptorIndex := 20, attributes := #[] }, { accessFlags := 2, nameIndex := 25, descriptorIndex := 26, attributes := #[] }, { accessFlags := 2, nameIndex := 187, descriptorIndex := 52, attributes := #[] }, { accessFlags := 2, nameIndex := 29, descriptorIndex := 26, attributes := #[] }, { accessFlags := 2, nameIndex := 205, descriptorIndex := 52, attributes := #[] }, { accessFlags := 2, nameIndex := 34, descriptorIndex := 35, attributes := #[] }, { accessFlags := 18, nameIndex := 44, descriptorIndex := 45, attributes := #[] }])
  fields := #[{ name := "MAX_DEPTH", type := .int, accessFlags := 25, slot := 0, constantValue := 0 }, { name := "NESTED_ON_THREAD", type := .int, accessFlags := 25, slot := 1, constantValue := 0 }, { name := "TOO_DEEP", type := (.object "java/lang/String"), accessFlags := 25, slot := 2, constantValue := 0 }, { name := "TOO_DEEP_MESSAGE", type := (.object "java/lang/String"), accessFlags := 25, slot := 3, constantValue := 0 }, { name := "INVALID_JSON", type := (.object "java/lang/String"), accessFlags := 26, slot := 4, constantValue := 0 }, { name := "COMMENT", type := (.object "java/lang/String"), accessFlags := 26, slot := 5, constantValue := 0 }, { name := "INVALID_UNICODE", type := (.object "java/lang/String"), accessFlags := 26, slot := 6, constantValue := 0 }, { name := "DUPLICATE_PROPERTY", type := (.object "java/lang/String"), accessFlags := 26, slot := 7, constantValue := 0 }, { name := "LINEAR_NAME_SEARCH", type := .int, accessFlags := 26, slot := 8, constantValue := 0 }, { name := "LONGEST_PROBE", type := .int, accessFlags := 26, slot := 9, constantValue := 0 }, { name := "PLAIN", type := (.array .boolean), accessFlags := 26, slot := 10, constantValue := 0 }, { name := "ESCAPED", type := (.array .byte), accessFlags := 26, slot := 11, constantValue := 0 }, { name := "HEX", type := (.array .byte), accessFlags := 26, slot := 12, constantValue := 0 }, { name := "DIGITS", type := (.array (.object "org/wireform/json/JsonNumber")), accessFlags := 26, slot := 13, constantValue := 0 }, { name := "LONGEST_ARRAY", type := .int, accessFlags := 26, slot := 14, constantValue := 0 }, { name := "STEP", type := .int, accessFlags := 26, slot := 15, constantValue := 0 }, { name := "text", type := (.array .byte), accessFlags := 18, slot := 0, constantValue := 0 }, { name := "end", type := .int, accessFlags := 18, slot := 1, constantValue := 0 }, { name := "locator", type := (.object "org/wireform/json/Locator"), accessFlags := 18, slot := 2, constantValue := 0 }, { name := "pos", type := .int, accessFlags := 2, slot := 3, constantValue := 0 }, { name := "depth", type := .int, accessFlags := 2, slot := 4, constantValue := 0 }, { name := "places", type := (.object "org/wireform/json/Places"), accessFlags := 18, slot := 5, constantValue := 0 }, { name := "unusual", type := .boolean, accessFlags := 2, slot := 6, constantValue := 0 }, { name := "decoded", type := (.array .byte), accessFlags := 2, slot := 7, constantValue := 0 }, { name := "decodedLength", type := .int, accessFlags := 2, slot := 8, constantValue := 0 }, { name := "memberNames", type := (.array (.object "java/lang/String")), accessFlags := 2, slot := 9, constantValue := 0 }, { name := "memberValues", type := (.array (.object "org/wireform/json/JsonValue")), accessFlags := 2, slot := 10, constantValue := 0 }, { name := "memberCount", type := .int, accessFlags := 2, slot := 11, constantValue := 0 }, { name := "items", type := (.array (.object "org/wireform/json/JsonValue")), accessFlags := 2, slot := 12, constantValue := 0 }, { name := "itemCount", type := .int, accessFlags := 2, slot := 13, constantValue := 0 }, { name := "containers", type := (.array (.object "org/wireform/json/JsonReader$Container")), accessFlags := 2, slot := 14, constantValue := 0 }, { name := "names", type := (.object "org/wireform/json/Names"), accessFlags := 18, slot := 15, constantValue := 0 }]
  methods := #[k2m0]
  instanceTypes := #[(.array .byte), .int, (.object "org/wireform/json/Locator"), .int, .int, (.object "org/wireform/json/Places"), .boolean, (.array .byte), .int, (.array (.object "java/lang/String")), (.array (.object "org/wireform/json/JsonValue")), .int, (.array (.object "org/wireform/json/JsonValue")), .int, (.array (.object "org/wireform/json/JsonReader$Container")), (.object "org/wireform/json/Names")]
  staticTypes := #[.int, .int, (.object "java/lang/String"), (.object "java/lang/String"), (.object "java/lang/String"), (.object "java/lang/String"), (.object "java/lang/String"), (.object "java/lang/String"), .int, .int, (.array .boolean), (.array .byte), (.array .byte), (.array (.object "org/wireform/json/JsonNumber")), .int, .int]
  resolved := Array.replicate 645 none
  statics := none }

def pool3 : Array CpInfo := pool [(1, u "java/lang/Cloneable"), (0, .class_ 1), (0, u "java/lang/Object"), (0, .class_ 3)] 3

/-- java/lang/Cloneable -/
def k3 : Class := { plain "java/lang/Cloneable" (some 0) with
  accessFlags := 1537
  interfaces := #[]
  cf := some (fileOf pool3 2 #[] #[] 1537 4 #[] #[])
  fields := #[]
  methods := #[]
  instanceTypes := #[]
  staticTypes := #[]
  resolved := Array.replicate 8 none
  statics := none }

def pool4 : Array CpInfo := pool [(1, u "java/io/Serializable"), (0, .class_ 1), (0, u "java/lang/Object"), (0, .class_ 3)] 3

/-- java/io/Serializable -/
def k4 : Class := { plain "java/io/Serializable" (some 0) with
  accessFlags := 1537
  interfaces := #[]
  cf := some (fileOf pool4 2 #[] #[] 1537 4 #[] #[])
  fields := #[]
  methods := #[]
  instanceTypes := #[]
  staticTypes := #[]
  resolved := Array.replicate 8 none
  statics := none }

/-- the primitive byte -/
def k5 : Class := { plain "byte" none with kind := .primitive 'B', accessFlags := 0x411 }
/-- [B -/
def k6 : Class := { plain "[B" (some 0) with kind := .array 5 .byte, interfaces := #[3, 4], accessFlags := 1041 }

/-- the primitive int -/
def k7 : Class := { plain "int" none with kind := .primitive 'I', accessFlags := 0x411 }
/-- [I -/
def k8 : Class := { plain "[I" (some 0) with kind := .array 7 .int, interfaces := #[3, 4], accessFlags := 1041 }

def heap : Heap := #[]
def classes : Array Class := #[k0, k1, k2, k3, k4, k5, k6, k7, k8]
def interned : List (Array UInt16 × Addr) := []
def slotsUsed : Nat := 0
def theMethod : MethodId := ⟨1, 1⟩
def args0 : Array Value := #[.int 1, .int 5, .long 77, .int 3]
def aboutOver (below : List Frame) : State where
  vm := { classes := classes, interned := interned.toArray }
  heap := heap
  slotsUsed := slotsUsed
  threads := #[{ frames := .invoking theMethod args0 :: below }]
def below0 : List Frame := [.native { method := ⟨0, 0⟩, args := #[] }]
def about1 : State := aboutOver below0
def p0 : Program := .bare "" "" ""
def e0 : Env := launch0.env 0 0 0
theorem w_frames : about1.frames = Frame.invoking theMethod args0 :: below0 := rfl
set_option maxRecDepth 65536 in
theorem w_args : argsFit about1.vm theMethod args0 = true := by decide +kernel
set_option maxRecDepth 65536 in
theorem w_heap : heapFits about1 = true := by decide +kernel
set_option maxRecDepth 65536 in
theorem w_runnable : about1.curStatus? = some .runnable := by decide +kernel
set_option maxRecDepth 65536 in
theorem w_alone : about1.alone = true := by decide +kernel
set_option maxRecDepth 65536 in
theorem w_named : about1.methodNamed? x = some theMethod := by decide +kernel
set_option maxRecDepth 65536 in
theorem w_hears : about1.hears theMethod below0 = true := by decide +kernel
set_option maxRecDepth 65536 in
theorem w_ripe : about1.ripe theMethod args0 below0 = true := by decide +kernel
theorem w_running : about1.status = .running := rfl
set_option maxRecDepth 65536 in
theorem w_room : about1.hasRoom e0.platform room_1 = true :=
  launch0.hasRoom_least _ room_1 (by decide +kernel) (by decide +kernel) (by decide +kernel) (by decide +kernel) (by decide +kernel) (by decide +kernel)
theorem allAtoms_all (ts : List Jvm.Cond) (a : Array Jvm.Value) (st : Jvm.State) : (allAtoms ts).before a st = ts.all (fun c => c.before a st) := by
  induction ts with
  | nil => rfl
  | cons c t ih =>
    show (Jvm.Cond.and c (allAtoms t)).before a st = _
    rw [Jvm.Cond.before_and, ih, List.all_cons]
def words1 : List Jvm.Cond := Jvm.Cond.code x code maxLocals ret :: tables_1
/-- a 'code' word, met by the world's own term for the bytes: nothing is compared byte by byte -/
theorem code_word {y : MethodName} {bytes : ByteArray} {mx : Nat} {rt : Option FieldType} {a : Array Value} {s : State} {m : MethodId} {meth : Method} {c : Code} (h1 : s.methodNamed? y = some m) (h2 : s.vm.method? m = some meth) (h3 : meth.code = some c) (h4 : c.code = bytes)
    (h5 : (c.maxLocals == mx && c.exceptionTable.isEmpty && decide (c.maxStack ≤ mostOperands) && decide (meth.sig.returnType = rt) && !meth.locks && decide (parseMethodDescriptor y.desc = some meth.sig)) = true) : (Jvm.Cond.code y bytes mx rt).before a s = true := by
  simp only [Bool.and_eq_true, beq_iff_eq, Bool.not_eq_true', decide_eq_true_eq] at h5
  obtain ⟨⟨⟨⟨⟨g1, g2⟩, g3⟩, g4⟩, g5⟩, g6⟩ := h5
  simp [Cond.before, Cond.holds, Cond.value, h1, h2, h3, h4, g1, g2, g3, g4, g5, g6]
def isCode : Jvm.Cond → Bool
  | .code _ _ _ _ => true
  | _ => false
theorem all_split {L : List Jvm.Cond} {P : Jvm.Cond → Bool} (h1 : L.all (fun c => isCode c || P c) = true) (h2 : ∀ c ∈ L.filter isCode, P c = true) : L.all P = true := by
  refine List.all_eq_true.mpr fun c hc => ?_
  have h := List.all_eq_true.mp h1 c hc
  rcases Bool.eq_false_or_eq_true (isCode c) with hi | hi
  · exact h2 c (List.mem_filter.mpr ⟨hc, hi⟩)
  · simpa [hi] using h
set_option maxRecDepth 65536 in
theorem w_c0 : (Jvm.Cond.code x code maxLocals ret).before args0 about1 = true := code_word (m := ⟨1, 1⟩) (meth := k1m1) (c := k1c1) (by decide +kernel) rfl rfl rfl (by decide +kernel)
set_option maxRecDepth 65536 in
theorem w_c1 : (Jvm.Cond.code ({ cls := "org/wireform/json/JsonReaderPastByteOrderMarkPinLaw", name := "byteOf", desc := "(JI)I" } : Jvm.MethodName) method_3_code (3 : Nat) (Option.some Jvm.ClassFile.FieldType.int)).before args0 about1 = true := code_word (m := ⟨1, 2⟩) (meth := k1m2) (c := k1c2) (by decide +kernel) rfl rfl rfl (by decide +kernel)
set_option maxRecDepth 65536 in
theorem w_c2 : (Jvm.Cond.code ({ cls := "org/wireform/json/JsonReaderPastByteOrderMarkPinLaw", name := "put", desc := "([BII)V" } : Jvm.MethodName) method_4_code (3 : Nat) (Option.none : Option Jvm.ClassFile.FieldType)).before args0 about1 = true := code_word (m := ⟨1, 3⟩) (meth := k1m3) (c := k1c3) (by decide +kernel) rfl rfl rfl (by decide +kernel)
set_option maxRecDepth 65536 in
theorem w_c3 : (Jvm.Cond.code ({ cls := "org/wireform/json/JsonReader", name := "pastByteOrderMark", desc := "([BII)I" } : Jvm.MethodName) prog_82_method_5_code (4 : Nat) (Option.some Jvm.ClassFile.FieldType.int)).before args0 about1 = true := code_word (m := ⟨2, 0⟩) (meth := k2m0) (c := k2c0) (by decide +kernel) rfl rfl rfl (by decide +kernel)
def codes1 : List Jvm.Cond := [Jvm.Cond.code x code maxLocals ret, Jvm.Cond.code ({ cls := "org/wireform/json/JsonReaderPastByteOrderMarkPinLaw", name := "byteOf", desc := "(JI)I" } : Jvm.MethodName) method_3_code (3 : Nat) (Option.some Jvm.ClassFile.FieldType.int), Jvm.Cond.code ({ cls := "org/wireform/json/JsonReaderPastByteOrderMarkPinLaw", name := "put", desc := "([BII)V" } : Jvm.MethodName) method_4_code (3 : Nat) (Option.none : Option Jvm.ClassFile.FieldType), Jvm.Cond.code ({ cls := "org/wireform/json/JsonReader", name := "pastByteOrderMark", desc := "([BII)I" } : Jvm.MethodName) prog_82_method_5_code (4 : Nat) (Option.some Jvm.ClassFile.FieldType.int)]
set_option maxRecDepth 65536 in
theorem codes_eq : words1.filter isCode = codes1 := rfl
theorem w_codes : ∀ c ∈ words1.filter isCode, c.before args0 about1 = true := by
  rw [codes_eq]
  intro c hc
  simp only [codes1, List.mem_cons, List.not_mem_nil, or_false] at hc
  rcases hc with rfl | rfl | rfl | rfl
  · exact w_c0
  · exact w_c1
  · exact w_c2
  · exact w_c3
set_option maxRecDepth 65536 in
theorem w_t1 : words1.all (fun c => isCode c || c.before args0 about1) = true := by decide +kernel
theorem w_tables : (allAtoms (Jvm.Cond.code x code maxLocals ret :: tables_1)).before args0 about1 = true := by
  rw [allAtoms_all]
  show words1.all (fun c => c.before args0 about1) = true
  refine all_split ?_ w_codes
  rw [w_t1]
set_option maxRecDepth 65536 in
theorem w_case : (Jvm.Cond.and given_1 narrow_1).before args0 about1 = true := by decide +kernel
theorem w_applies : (headSpec (Jvm.Cond.code x code maxLocals ret :: tables_1) room_1).applies x e0.platform about1 = true :=
  (Spec.applies_iff w_frames).mpr ⟨w_running, w_runnable, w_alone, w_named, w_hears, w_ripe, w_room, w_tables⟩
theorem atStart : AtStart classFile x code maxLocals ret World_1 tables_1 room_1 Calls_1 rest_1 Pre_1 launch0 p0 e0 about1 theMethod args0 below0 :=
  ⟨lists_1, trivial, launch0.admits_env _ _ _, launch0.least_env, fairChoices_fair.cas, fairChoices_fair.clock, w_frames, w_args, w_heap, w_applies, trivial, trivial, w_case⟩
end start1
theorem witness_1 : WitnessClaimed_1 := ⟨start1.p0, start1.e0, start1.about1, start1.theMethod, start1.args0, start1.below0, start1.atStart⟩
end Jvm.Pilot.@@N@@
