import JvmDerived
import JvmDerived.Pilot.@@N@@Statement
import JvmDerived.Pilot.@@N@@Code
set_option linter.unusedVariables false
set_option linter.unusedSimpArgs false
@@BLOCK:NumsL.lean.txt@@
namespace Jvm.Own
open Sem ClassFile Op Lib Jvm.Stand Jvm.Free Jvm.LawKit Jvm.RoadKit
section Kit
variable {p : Program} {l : Launch} {e : Env} {R : Room} {s : State} {m : MethodId} {args : Array Value} {below : List Frame} {meth : Method} {c : Code} {T : State} {locs : List Loc} {cells slots : Nat} {Z : State} {a0 : Array Value} {h : Heap}
/-- D is closed under going back over steps -/
def Clo (p : Program) (e : Env) (below : List Frame) (D : State → Prop) : Prop := ∀ (U U' : State), (∀ t, Steps p.tables e below U' t → Steps p.tables e below U t) → D U' → D U
/-- D holds wherever the body returns with what Q says -/
def Ret (p : Program) (l : Launch) (e : Env) (R : Room) (s : State) (m : MethodId) (args : Array Value) (below : List Frame) (meth : Method) (c : Code) (Q : Option Value → Heap → List Loc → Prop) (C N : Nat) (D : State → Prop) : Prop :=
  ∀ (T : State) (locs : List Loc) (cells slots : Nat) (v : Option Value) (U : State), Stand p l e R s m args below meth c T locs cells slots → (meth.sig.returnType = none → v = none) → cells ≤ C → slots ≤ N → Q v T.heap locs →
    (∀ fs, (∀ (f : JFrame) (acts : List Action), f.method = m → f.locked = none → f.entered = [] → (doReturn e (T.setTop f) acts v).1 = T.setFrames fs) → Steps p.tables e below U (T.setFrames fs)) → D U
theorem enter {y : MethodName} {code : ByteArray} {maxL : Nat} {ret : Option FieldType} {ws : List Cond} {rm : Room} {as' : Array Value} {h0 : Heap} {Q : Option Value → Heap → List Loc → Prop} {C N : Nat} (hpl : plainFor y = true)
    (body : ∀ (p : Program) (e : Env) (s : State) (m : MethodId) (below : List Frame) (meth : Method) (c : Code) (s₁ : State) (D : State → Prop),
      p.tables.exec = Jvm.exec → c.code = code → c.maxLocals = maxL → s.vm.findClass y.cls = some m.cls → meth.name = y.name → meth.sig.returnType = ret → Z.Warmed39 s.vm → Stand p l e rm s m as' below meth c s₁ [] 0 0 → s₁.heap = h0 →
      Clo p e below D → Ret p l e rm s m as' below meth c Q C N D → D (s₁.setTop (entryFrame m as' maxL))) :
    MetFree l y (head1 (Jvm.Cond.code y code maxL ret :: ws) rm) (fun a U => a = as' ∧ Z.Warmed39 U.vm ∧ U.heap = h0) (fun _ _ _ _ _ => True) (fun _ U o U' => ∃ v L, o = .returned v ∧ Q v U'.heap L ∧ FrameEnd U o U' L C N) := by
  refine MetFree.of_bodySF hpl hisR ?_
  intro p e s m args below meth c s₁ Bd hml hP hK
  obtain ⟨rfl, hZ, hh⟩ := hP
  have X0 : Stand p l e rm s m args below meth c s₁ [] 0 0 := Stand.of_body Bd
  refine body p e s m below meth c s₁ (fun U => ∃ s₂ o, Steps p.tables e below U s₂ ∧ s₂.status = .running ∧ Ended s₂ below o ∧ ∃ v L, o = .returned v ∧ Q v s₂.heap L ∧ FrameEnd s o s₂ L C N) Bd.exec Bd.bytes hml (findClass_of_methodNamed Bd.named) (name_of_methodNamed Bd.named Bd.method).1 Bd.returns hZ X0 (by rw [← hh, Bd.state]; rfl) ?_ ?_
  · rintro U U' k ⟨s₂, o, st, r⟩
    exact ⟨s₂, o, k _ st, r⟩
  · intro T locs cells slots v U X hv hc hn hQ k
    obtain ⟨fs, hr, hrun, hended, hW, hsame⟩ := X.leave (v := v) hv
    exact ⟨_, _, k fs hr, hrun, hended, v, locs, rfl, hQ, ⟨_, rfl⟩, hW, hsame.mono hc hn⟩
theorem mono {c' n' : Nat} (X : Stand p l e R s m args below meth c T locs cells slots) (hc : cells ≤ c') (hn : slots ≤ n') : Stand p l e R s m args below meth c T locs c' n' :=
  { X with same := X.same.weaken (fun _ hy _ => hy) hc hn }
theorem forget {k : Nat} (X : Stand p l e R s m args below meth c T locs cells slots) (N : Fr k locs) (hk : s.heap.size ≤ k) : Stand p l e R s m args below meth c T [] cells slots :=
  { X with same := X.same.weaken (fun y hy hlt => absurd hlt (Nat.not_lt.mpr (Nat.le_trans hk (N y hy)))) (Nat.le_refl _) (Nat.le_refl _) }
variable {Q : Option Value → Heap → List Loc → Prop} {C N : Nat} {D : State → Prop}
theorem retI (hR : Ret p l e R s m args below meth c Q C N D) (X : Stand p l e R s m args below meth c T locs cells slots) (hx : p.tables.exec = Jvm.exec) {pc : Nat} {Ls : Array Slot} {z : Int32} {rest : List Value} (hret : meth.sig.returnType = some .int) (hd : decode c.code pc = .ok (.ireturn, 1)) (hc : cells ≤ C) (hn : slots ≤ N) (hQ : Q (some (.int z)) T.heap locs) : D (T.setTop (mkF m pc Ls (.int z :: rest))) := by
  refine hR T locs cells slots (some (.int z)) _ X (fun h => by rw [hret] at h; cases h) hc hn hQ fun fs hl => ?_
  have hm' : T.vm.method? m = some meth := X.method'
  have hn : narrow .int (.int z) = .int z := rfl
  show Steps p.tables e below (T.setTop { method := m, pc := pc, locals := Ls, stack := _ :: rest, locked := none }) _
  jvm_step X.here [X.here.top, hx, hd, hm', hret, hn]
  first | (intro acts; rw [hl _ acts rfl rfl rfl]) | rw [hl _ _ rfl rfl rfl]
  exact Steps.refl _
theorem retN (hR : Ret p l e R s m args below meth c Q C N D) (X : Stand p l e R s m args below meth c T locs cells slots) (hx : p.tables.exec = Jvm.exec) {pc : Nat} {Ls : Array Slot} {z : Int32} {t : FieldType} {rest : List Value} (hret : meth.sig.returnType = some t) (ht : t = .boolean ∨ t = .byte ∨ t = .char ∨ t = .short) (hd : decode c.code pc = .ok (.ireturn, 1)) (hc : cells ≤ C) (hn : slots ≤ N) (hz : nar t z = z) (hQ : Q (some (.int z)) T.heap locs) : D (T.setTop (mkF m pc Ls (.int z :: rest))) := by
  refine hR T locs cells slots (some (.int z)) _ X (fun h => by rw [hret] at h; cases h) hc hn hQ fun fs hl => ?_
  exact Jvm.RoadKit.retN X hx hret ht hd (by rw [hz]; exact hl)
theorem retJ (hR : Ret p l e R s m args below meth c Q C N D) (X : Stand p l e R s m args below meth c T locs cells slots) (hx : p.tables.exec = Jvm.exec) {pc : Nat} {Ls : Array Slot} {z : Int64} (hret : meth.sig.returnType = some .long) (hd : decode c.code pc = .ok (.lreturn, 1)) (hc : cells ≤ C) (hn : slots ≤ N) (hQ : Q (some (.long z)) T.heap locs) : D (T.setTop (mkF m pc Ls [.long z])) :=
  hR T locs cells slots (some (.long z)) _ X (fun h => by rw [hret] at h; cases h) hc hn hQ fun fs hl => X.lreturnOut hx hret hd hl
theorem retA (hR : Ret p l e R s m args below meth c Q C N D) (X : Stand p l e R s m args below meth c T locs cells slots) (hx : p.tables.exec = Jvm.exec) {pc : Nat} {Ls : Array Slot} {w : Value} {t : FieldType} (hw : w.isRef = true) (hret : meth.sig.returnType = some t) (ht : t.isReference = true) (hd : decode c.code pc = .ok (.areturn, 1)) (hc : cells ≤ C) (hn : slots ≤ N) (hQ : Q (some w) T.heap locs) : D (T.setTop (mkF m pc Ls [w])) :=
  hR T locs cells slots (some w) _ X (fun h => by rw [hret] at h; cases h) hc hn hQ fun fs hl => X.areturnOut hx hw hret ht hd hl
theorem retV (hR : Ret p l e R s m args below meth c Q C N D) (X : Stand p l e R s m args below meth c T locs cells slots) (hx : p.tables.exec = Jvm.exec) {pc : Nat} {Ls : Array Slot} (hret : meth.sig.returnType = none) (hd : decode c.code pc = .ok (.return_, 1)) (hc : cells ≤ C) (hn : slots ≤ N) (hQ : Q none T.heap locs) : D (T.setTop (mkF m pc Ls [])) :=
  hR T locs cells slots none _ X (fun _ => rfl) hc hn hQ fun fs hl => X.returnOut hx hret hd hl
/-! calls -/
variable {y z : MethodName} {bytes : ByteArray} {maxL : Nat} {ret : Option FieldType} {rm : Room} {W : Nat} {Qc : Option Value → Heap → List Loc → Prop} {own Cn : String} {index : Nat} {g : JFrame} {argsL rest : List Value} {a : Addr}
theorem callS (X : Stand p l e R s m args below meth c T locs cells slots) (hx : p.tables.exec = Jvm.exec) (hZ : Z.Warmed39 s.vm) (hown : s.vm.findClass own = some m.cls)
    (w1 : (Cond.methodLink own index y).before a0 Z = true) (w2 : (Cond.static y).before a0 Z = true) (w3 : (Cond.initialized y.cls).before a0 Z = true) (w4 : (Cond.code y bytes maxL ret).before a0 Z = true)
    (hy : y.cls ≠ "java/lang/invoke/MethodHandle" ∧ y.cls ≠ "java/lang/invoke/VarHandle") (e0 : T.heap = h)
    (hM : MetFree l y (head1 [Cond.code y bytes maxL ret] rm) (fun a U => a = argsL.toArray ∧ Z.Warmed39 U.vm ∧ U.heap = h) (fun _ _ _ _ _ => True) (fun _ U o U' => ∃ v L, o = .returned v ∧ Qc v U'.heap L ∧ FrameEnd U o U' L rm.cells rm.slots))
    (hf : rm.frames + 1 ≤ R.frames) (hl : W + (maxL + 11) + rm.locals ≤ R.locals) (hcells : cells + rm.cells ≤ R.cells) (hslots : slots + rm.slots ≤ R.slots)
    (hg : g.method = m) (hsize : g.locals.size = c.maxLocals) (hlen : ∀ sig, parseMethodDescriptor y.desc = some sig → argsL.length = sig.parameters.length)
    (hstack : g.stack = argsL.reverse ++ rest) (hW : 2 * g.monitorRoom + (rest.map fun v => v.category).sum ≤ W) (hdg : decode c.code g.pc = .ok (.invokestatic index, 3)) :
    ∃ (T' : State) (v : Option Value) (L : List Loc), Stand p l e R s m args below meth c T' (locs ++ L) (cells + rm.cells) (slots + rm.slots) ∧ Qc v T'.heap L ∧
      ∀ t, Steps p.tables e below (T'.setTop { g with pc := g.pc + 3, stack := v.toList ++ rest }) t → Steps p.tables e below (T.setTop g) t := by
  obtain ⟨v, _, ⟨T', L', k', n'⟩, -, X', ⟨Lc, hQ, l1, y1, z1⟩, st⟩ := Jvm.LawKit.callS X hx (y := y) hown (mvT hZ w1) (mvT hZ w2) (mvT hZ w3) (mvT hZ w4) hy (backOf (W := W) hM hZ w4 w3 hf hl) hg hsize hlen hstack hW hdg (fun _ _ => ⟨rfl, e0, hcells, hslots⟩)
  dsimp only [Pt.U, Pt.locs, Pt.cells, Pt.slots] at X' l1 y1 z1 st hQ
  subst l1 y1 z1
  exact ⟨T', v, Lc, X', hQ, st⟩
theorem callI (X : Stand p l e R s m args below meth c T locs cells slots) (hx : p.tables.exec = Jvm.exec) (hZ : Z.Warmed39 s.vm) (hown : s.vm.findClass own = some m.cls) (hy1 : y.name = "<init>")
    (w1 : (Cond.methodLink own index y).before a0 Z = true) (w2 : (Cond.instanceMethod y).before a0 Z = true) (w3 : (Cond.initialized y.cls).before a0 Z = true) (w4 : (Cond.code y bytes maxL none).before a0 Z = true)
    (hy : y.cls ≠ "java/lang/invoke/MethodHandle" ∧ y.cls ≠ "java/lang/invoke/VarHandle") (e0 : T.heap = h)
    (hM : MetFree l y (head1 [Cond.code y bytes maxL none] rm) (fun q U => q = (.ref a :: argsL).toArray ∧ Z.Warmed39 U.vm ∧ U.heap = h) (fun _ _ _ _ _ => True) (fun _ U o U' => ∃ v L, o = .returned v ∧ Qc v U'.heap L ∧ FrameEnd U o U' L rm.cells rm.slots))
    (hf : rm.frames + 1 ≤ R.frames) (hl : W + (maxL + 11) + rm.locals ≤ R.locals) (hcells : cells + rm.cells ≤ R.cells) (hslots : slots + rm.slots ≤ R.slots)
    (hg : g.method = m) (hsize : g.locals.size = c.maxLocals) (hlen : ∀ sig, parseMethodDescriptor y.desc = some sig → argsL.length = sig.parameters.length)
    (hstack : g.stack = argsL.reverse ++ .ref a :: rest) (hW : 2 * g.monitorRoom + (rest.map fun v => v.category).sum ≤ W) (hdg : decode c.code g.pc = .ok (.invokespecial index, 3)) :
    ∃ (T' : State) (v : Option Value) (L : List Loc), Stand p l e R s m args below meth c T' (locs ++ L) (cells + rm.cells) (slots + rm.slots) ∧ Qc v T'.heap L ∧
      ∀ t, Steps p.tables e below (T'.setTop { g with pc := g.pc + 3, stack := v.toList ++ rest }) t → Steps p.tables e below (T.setTop g) t := by
  obtain ⟨v, _, ⟨T', L', k', n'⟩, -, X', ⟨Lc, hQ, l1, y1, z1⟩, st⟩ := X.specialBack hx (y := y) hy1 hown (mvT hZ w1) (mvT hZ w2) (mvT hZ w4) hy (backOf (W := W) hM hZ w4 w3 hf hl) hg hsize (Steps.refl _) hlen hstack hW hdg (fun _ _ => ⟨rfl, e0, hcells, hslots⟩)
  dsimp only [Pt.U, Pt.locs, Pt.cells, Pt.slots] at X' l1 y1 z1 st hQ
  subst l1 y1 z1
  exact ⟨T', v, Lc, X', hQ, fun t k => st.trans k⟩
theorem callV (X : Stand p l e R s m args below meth c T locs cells slots) (hx : p.tables.exec = Jvm.exec) (hZ : Z.Warmed39 s.vm) (hown : s.vm.findClass own = some m.cls)
    (w1 : (Cond.methodLink own index y).before a0 Z = true) (w5 : (Cond.declares y).before a0 Z = true) (w6 : (Cond.selects Cn y y).before a0 Z = true) (w2 : (Cond.instanceMethod y).before a0 Z = true) (w3 : (Cond.initialized y.cls).before a0 Z = true) (w4 : (Cond.code y bytes maxL ret).before a0 Z = true)
    (hy : y.cls ≠ "java/lang/invoke/MethodHandle" ∧ y.cls ≠ "java/lang/invoke/VarHandle") (e0 : T.heap = h) (E : Exa Z h a Cn)
    (hM : MetFree l y (head1 [Cond.code y bytes maxL ret] rm) (fun q U => q = (.ref a :: argsL).toArray ∧ Z.Warmed39 U.vm ∧ U.heap = h) (fun _ _ _ _ _ => True) (fun _ U o U' => ∃ v L, o = .returned v ∧ Qc v U'.heap L ∧ FrameEnd U o U' L rm.cells rm.slots))
    (hf : rm.frames + 1 ≤ R.frames) (hl : W + (maxL + 11) + rm.locals ≤ R.locals) (hcells : cells + rm.cells ≤ R.cells) (hslots : slots + rm.slots ≤ R.slots)
    (hg : g.method = m) (hsize : g.locals.size = c.maxLocals) (hlen : ∀ sig, parseMethodDescriptor y.desc = some sig → argsL.length = sig.parameters.length)
    (hstack : g.stack = argsL.reverse ++ .ref a :: rest) (hW : 2 * g.monitorRoom + (rest.map fun v => v.category).sum ≤ W) (hdg : decode c.code g.pc = .ok (.invokevirtual index, 3)) :
    ∃ (T' : State) (v : Option Value) (L : List Loc), Stand p l e R s m args below meth c T' (locs ++ L) (cells + rm.cells) (slots + rm.slots) ∧ Qc v T'.heap L ∧
      ∀ t, Steps p.tables e below (T'.setTop { g with pc := g.pc + 3, stack := v.toList ++ rest }) t → Steps p.tables e below (T.setTop g) t := by
  obtain ⟨cq, kq, q1, q2, q3⟩ := isOf hZ e0 E
  obtain ⟨v, _, ⟨T', L', k', n'⟩, -, X', ⟨Lc, hQ, l1, y1, z1⟩, st⟩ := X.virtualBack hx (y := y) (z := y) hown (mvT hZ w1) (mvT hZ w5) (notFace_of_selects (args := #[]) (mvT hZ w6)) (mvT hZ w6) (mvT hZ w2) hy (backOf (W := W) hM hZ w4 w3 hf hl) q1 q3 hg hsize (Steps.refl _) hlen hstack hW hdg (fun _ _ => ⟨rfl, e0, hcells, hslots⟩)
  dsimp only [Pt.U, Pt.locs, Pt.cells, Pt.slots] at X' l1 y1 z1 st hQ
  subst l1 y1 z1
  exact ⟨T', v, Lc, X', hQ, fun t k => st.trans k⟩
/-! arrays, as functions of the place -/
def AvI (Z : State) (h : Heap) (a : Addr) (ty : FieldType) (n : Nat) (f : Nat → Int32) : Prop := ∃ c : Cell, Arr Z h a c ty ∧ c.slots.size = n ∧ n < 2 ^ 31 ∧ ∀ i, i < n → c.slots[i]? = some (.int (f i))
def AvJ (Z : State) (h : Heap) (a : Addr) (n : Nat) (f : Nat → Int64) : Prop := ∃ c : Cell, Arr Z h a c .long ∧ c.slots.size = n ∧ n < 2 ^ 31 ∧ ∀ i, i < n → c.slots[i]? = some (.long (f i))
variable {h' : Heap} {ty : FieldType} {n : Nat} {f f' : Nat → Int32} {fj fj' : Nat → Int64} {j x : Int32} {xl : Int64} {b : Addr} {sl : Nat} {v : Value} {ws : List Addr}
theorem clamp (hj : 0 ≤ j.toInt ∧ j.toInt < n) : j.toNatClampNeg = j.toInt.toNat ∧ ¬ j < 0 := by
  refine ⟨rfl, ?_⟩
  rw [Int32.lt_iff_toInt_lt, Int32.toInt_zero]; omega
theorem inb {c : Cell} (S : c.slots.size = n) (hj : 0 ≤ j.toInt ∧ j.toInt < n) : ¬ (j < 0 ∨ c.slots.size ≤ j.toNatClampNeg) := by
  have q := clamp hj
  rw [q.1, S]
  intro w
  rcases w with w | w
  · exact q.2 w
  · omega
theorem AvI.lt (A : AvI Z h a ty n f) : a < h.size := by obtain ⟨c, A, -⟩ := A; exact A.lt
theorem AvJ.lt (A : AvJ Z h a n fj) : a < h.size := by obtain ⟨c, A, -⟩ := A; exact A.lt
theorem AvI.ext (A : AvI Z h a ty n f) (E : Ext h h') : AvI Z h' a ty n f := by obtain ⟨c, A, r⟩ := A; exact ⟨c, A.ext E, r⟩
theorem AvJ.ext (A : AvJ Z h a n fj) (E : Ext h h') : AvJ Z h' a n fj := by obtain ⟨c, A, r⟩ := A; exact ⟨c, A.ext E, r⟩
theorem AvI.other (A : AvI Z h b ty n f) (W : Wr h h' a sl v) (q : b ≠ a) : AvI Z h' b ty n f := by obtain ⟨c, A, r⟩ := A; exact ⟨c, A.other W q, r⟩
theorem AvJ.other (A : AvJ Z h b n fj) (W : Wr h h' a sl v) (q : b ≠ a) : AvJ Z h' b n fj := by obtain ⟨c, A, r⟩ := A; exact ⟨c, A.other W q, r⟩
theorem AvI.keep (A : AvI Z h a ty n f) (K : Keep h h' ws) (q : a ∉ ws) : AvI Z h' a ty n f := by obtain ⟨c, A, r⟩ := A; exact ⟨c, ⟨K.2.1 a c A.1 q, A.2⟩, r⟩
theorem AvJ.keep (A : AvJ Z h a n fj) (K : Keep h h' ws) (q : a ∉ ws) : AvJ Z h' a n fj := by obtain ⟨c, A, r⟩ := A; exact ⟨c, ⟨K.2.1 a c A.1 q, A.2⟩, r⟩
theorem AvI.congr (A : AvI Z h a ty n f) (q : ∀ i, i < n → f' i = f i) : AvI Z h a ty n f' := by obtain ⟨c, A, S, M, H⟩ := A; exact ⟨c, A, S, M, fun i hi => by rw [q i hi]; exact H i hi⟩
theorem AvJ.congr (A : AvJ Z h a n fj) (q : ∀ i, i < n → fj' i = fj i) : AvJ Z h a n fj' := by obtain ⟨c, A, S, M, H⟩ := A; exact ⟨c, A, S, M, fun i hi => by rw [q i hi]; exact H i hi⟩
theorem AvI.new {cA : ClassId} {z : Int32} (A : Arr Z h a (newA cA ty z) ty) (hz : z.toInt = n) (hd : defaultValue ty = .int 0) : AvI Z h a ty n (fun _ => 0) := by
  have q : z.toNatClampNeg = n := by show z.toInt.toNat = n; omega
  refine ⟨_, A, by rw [sz_new]; exact q, by have := z.toInt_lt; omega, fun i hi => ?_⟩
  simp [newA, q, hi, hd]
theorem AvJ.new {cA : ClassId} {z : Int32} (A : Arr Z h a (newA cA .long z) .long) (hz : z.toInt = n) : AvJ Z h a n (fun _ => 0) := by
  have q : z.toNatClampNeg = n := by show z.toInt.toNat = n; omega
  refine ⟨_, A, by rw [sz_new]; exact q, by have := z.toInt_lt; omega, fun i hi => ?_⟩
  simp [newA, q, hi, defaultValue]
theorem len_nat {c : Cell} (S : c.slots.size = n) (M : n < 2 ^ 31) : c.slots.size.toInt32 = Int32.ofNat n := by rw [S]
theorem lenI (X : Stand p l e R s m args below meth c T locs cells slots) (hx : p.tables.exec = Jvm.exec) (hZ : Z.Warmed39 s.vm) (e0 : T.heap = h) (A : AvI Z h a ty n f) (hg : g.method = m) (hs : g.stack = .ref a :: rest) (hd : decode c.code g.pc = .ok (.arraylength, 1)) :
    ∀ t, Steps p.tables e below (T.setTop { g with pc := g.pc + 1, stack := .int (Int32.ofNat n) :: rest }) t → Steps p.tables e below (T.setTop g) t := by
  obtain ⟨c, A, S, M, H⟩ := A
  intro t k
  refine X.arraylength hx (by rw [e0]; exact A.1) (State.isArrayOf_alike hZ.alike A.2.1) hg hs hd _ ?_
  rw [len_nat S M]; exact k
theorem lenJ (X : Stand p l e R s m args below meth c T locs cells slots) (hx : p.tables.exec = Jvm.exec) (hZ : Z.Warmed39 s.vm) (e0 : T.heap = h) (A : AvJ Z h a n fj) (hg : g.method = m) (hs : g.stack = .ref a :: rest) (hd : decode c.code g.pc = .ok (.arraylength, 1)) :
    ∀ t, Steps p.tables e below (T.setTop { g with pc := g.pc + 1, stack := .int (Int32.ofNat n) :: rest }) t → Steps p.tables e below (T.setTop g) t := by
  obtain ⟨c, A, S, M, H⟩ := A
  intro t k
  refine X.arraylength hx (by rw [e0]; exact A.1) (State.isArrayOf_alike hZ.alike A.2.1) hg hs hd _ ?_
  rw [len_nat S M]; exact k
theorem ldI (X : Stand p l e R s m args below meth c T locs cells slots) (hx : p.tables.exec = Jvm.exec) (hZ : Z.Warmed39 s.vm) (e0 : T.heap = h) (A : AvI Z h a .int n f) (hj : 0 ≤ j.toInt ∧ j.toInt < n) (hg : g.method = m) (hs : g.stack = .int j :: .ref a :: rest) (hd : decode c.code g.pc = .ok (.iaload, 1)) :
    ∀ t, Steps p.tables e below (T.setTop { g with pc := g.pc + 1, stack := .int (f j.toInt.toNat) :: rest }) t → Steps p.tables e below (T.setTop g) t := by
  obtain ⟨c, A, S, M, H⟩ := A
  exact fun t k => X.iaload hx (by rw [e0]; exact A.1) (State.isArrayOf_alike hZ.alike A.2.1) A.2.2 (inb S hj) (by rw [(clamp hj).1]; exact H _ (by omega)) hg hs hd _ k
theorem ldJ (X : Stand p l e R s m args below meth c T locs cells slots) (hx : p.tables.exec = Jvm.exec) (hZ : Z.Warmed39 s.vm) (e0 : T.heap = h) (A : AvJ Z h a n fj) (hj : 0 ≤ j.toInt ∧ j.toInt < n) (hg : g.method = m) (hs : g.stack = .int j :: .ref a :: rest) (hd : decode c.code g.pc = .ok (.laload, 1)) :
    ∀ t, Steps p.tables e below (T.setTop { g with pc := g.pc + 1, stack := .long (fj j.toInt.toNat) :: rest }) t → Steps p.tables e below (T.setTop g) t := by
  obtain ⟨c, A, S, M, H⟩ := A
  exact fun t k => X.laload hx (by rw [e0]; exact A.1) (State.isArrayOf_alike hZ.alike A.2.1) A.2.2 (inb S hj) (by rw [(clamp hj).1]; exact H _ (by omega)) hg hs hd _ k
theorem ldB (X : Stand p l e R s m args below meth c T locs cells slots) (hx : p.tables.exec = Jvm.exec) (hZ : Z.Warmed39 s.vm) (e0 : T.heap = h) (A : AvI Z h a .byte n f) (hj : 0 ≤ j.toInt ∧ j.toInt < n) (hg : g.method = m) (hs : g.stack = .int j :: .ref a :: rest) (hd : decode c.code g.pc = .ok (.baload, 1)) :
    ∀ t, Steps p.tables e below (T.setTop { g with pc := g.pc + 1, stack := .int (f j.toInt.toNat) :: rest }) t → Steps p.tables e below (T.setTop g) t := by
  obtain ⟨c, A, S, M, H⟩ := A
  exact fun t k => X.baloadBytes hx (by rw [e0]; exact A.1) (State.isArrayOf_alike hZ.alike A.2.1) A.2.2 (inb S hj) (by rw [(clamp hj).1]; exact H _ (by omega)) hg hs hd _ k
theorem AvI.set (A : AvI Z h a ty n f) (hj : 0 ≤ j.toInt ∧ j.toInt < n) (W : Wr h h' a j.toNatClampNeg (.int x)) : AvI Z h' a ty n (fun i => if i = j.toInt.toNat then x else f i) := by
  obtain ⟨c, A, S, M, H⟩ := A
  refine ⟨_, A.same W, by rw [sz_set]; exact S, M, fun i hi => ?_⟩
  rw [(clamp hj).1]
  by_cases q : i = j.toInt.toNat
  · subst q
    simp only [Cell.setSlot, if_true]
    show (c.slots.setIfInBounds j.toInt.toNat _)[j.toInt.toNat]? = _
    rw [Array.getElem?_setIfInBounds, if_pos rfl, if_pos (by rw [S]; exact hi)]
  · simp only [Cell.setSlot, q, if_false]
    rw [Array.getElem?_setIfInBounds_ne (Ne.symm q)]; exact H i hi
theorem AvJ.set (A : AvJ Z h a n fj) (hj : 0 ≤ j.toInt ∧ j.toInt < n) (W : Wr h h' a j.toNatClampNeg (.long xl)) : AvJ Z h' a n (fun i => if i = j.toInt.toNat then xl else fj i) := by
  obtain ⟨c, A, S, M, H⟩ := A
  refine ⟨_, A.same W, by rw [sz_set]; exact S, M, fun i hi => ?_⟩
  rw [(clamp hj).1]
  by_cases q : i = j.toInt.toNat
  · subst q
    simp only [Cell.setSlot, if_true]
    show (c.slots.setIfInBounds j.toInt.toNat _)[j.toInt.toNat]? = _
    rw [Array.getElem?_setIfInBounds, if_pos rfl, if_pos (by rw [S]; exact hi)]
  · simp only [Cell.setSlot, q, if_false]
    rw [Array.getElem?_setIfInBounds_ne (Ne.symm q)]; exact H i hi
theorem stoI (X : Stand p l e R s m args below meth c T locs cells slots) (hx : p.tables.exec = Jvm.exec) (hZ : Z.Warmed39 s.vm) (e0 : T.heap = h) (A : AvI Z h a .int n f) (hj : 0 ≤ j.toInt ∧ j.toInt < n) (hg : g.method = m) (hs : g.stack = .int x :: .int j :: .ref a :: rest) (hd : decode c.code g.pc = .ok (.iastore, 1)) :
    ∃ T' h', Stand p l e R s m args below meth c T' (locs ++ [⟨a, j.toNatClampNeg⟩]) cells slots ∧ T'.heap = h' ∧ AvI Z h' a .int n (fun i => if i = j.toInt.toNat then x else f i) ∧ Wr h h' a j.toNatClampNeg (.int x) ∧ ∀ t, Steps p.tables e below (T'.setTop { g with pc := g.pc + 1, stack := rest }) t → Steps p.tables e below (T.setTop g) t := by
  obtain ⟨c, A', S, M, H⟩ := id A
  obtain ⟨T', h', X', e', W, st⟩ := stI X hx hZ e0 A' (inb S hj) hg hs hd
  exact ⟨T', h', X', e', A.set hj W, W, st⟩
theorem stoJ (X : Stand p l e R s m args below meth c T locs cells slots) (hx : p.tables.exec = Jvm.exec) (hZ : Z.Warmed39 s.vm) (e0 : T.heap = h) (A : AvJ Z h a n fj) (hj : 0 ≤ j.toInt ∧ j.toInt < n) (hg : g.method = m) (hs : g.stack = .long xl :: .int j :: .ref a :: rest) (hd : decode c.code g.pc = .ok (.lastore, 1)) :
    ∃ T' h', Stand p l e R s m args below meth c T' (locs ++ [⟨a, j.toNatClampNeg⟩]) cells slots ∧ T'.heap = h' ∧ AvJ Z h' a n (fun i => if i = j.toInt.toNat then xl else fj i) ∧ Wr h h' a j.toNatClampNeg (.long xl) ∧ ∀ t, Steps p.tables e below (T'.setTop { g with pc := g.pc + 1, stack := rest }) t → Steps p.tables e below (T.setTop g) t := by
  obtain ⟨c, A', S, M, H⟩ := id A
  obtain ⟨T', h', X', e', W, st⟩ := stJ X hx hZ e0 A' (inb S hj) hg hs hd
  exact ⟨T', h', X', e', A.set hj W, W, st⟩
theorem stoB (X : Stand p l e R s m args below meth c T locs cells slots) (hx : p.tables.exec = Jvm.exec) (hZ : Z.Warmed39 s.vm) (e0 : T.heap = h) (A : AvI Z h a .byte n f) (hj : 0 ≤ j.toInt ∧ j.toInt < n) (hg : g.method = m) (hs : g.stack = .int x :: .int j :: .ref a :: rest) (hd : decode c.code g.pc = .ok (.bastore, 1)) :
    ∃ T' h', Stand p l e R s m args below meth c T' (locs ++ [⟨a, j.toNatClampNeg⟩]) cells slots ∧ T'.heap = h' ∧ AvI Z h' a .byte n (fun i => if i = j.toInt.toNat then nar .byte x else f i) ∧ Wr h h' a j.toNatClampNeg (.int (nar .byte x)) ∧ ∀ t, Steps p.tables e below (T'.setTop { g with pc := g.pc + 1, stack := rest }) t → Steps p.tables e below (T.setTop g) t := by
  obtain ⟨c, A', S, M, H⟩ := id A
  obtain ⟨T', h', X', e', W, st⟩ := stB X hx hZ e0 A' (inb S hj) hg hs hd
  exact ⟨T', h', X', e', A.set hj W, W, st⟩
theorem stoZ (X : Stand p l e R s m args below meth c T locs cells slots) (hx : p.tables.exec = Jvm.exec) (hZ : Z.Warmed39 s.vm) (e0 : T.heap = h) (A : AvI Z h a .boolean n f) (hj : 0 ≤ j.toInt ∧ j.toInt < n) (hg : g.method = m) (hs : g.stack = .int x :: .int j :: .ref a :: rest) (hd : decode c.code g.pc = .ok (.bastore, 1)) :
    ∃ T' h', Stand p l e R s m args below meth c T' (locs ++ [⟨a, j.toNatClampNeg⟩]) cells slots ∧ T'.heap = h' ∧ AvI Z h' a .boolean n (fun i => if i = j.toInt.toNat then nar .boolean x else f i) ∧ Wr h h' a j.toNatClampNeg (.int (nar .boolean x)) ∧ ∀ t, Steps p.tables e below (T'.setTop { g with pc := g.pc + 1, stack := rest }) t → Steps p.tables e below (T.setTop g) t := by
  obtain ⟨c, A', S, M, H⟩ := id A
  obtain ⟨T', h', X', e', W, st⟩ := stZ X hx hZ e0 A' (inb S hj) hg hs hd
  exact ⟨T', h', X', e', A.set hj W, W, st⟩
theorem snoc {k : Nat} (N : Fr k locs) (q : k ≤ a) : Fr k (locs ++ [⟨a, sl⟩]) := N.app fun y hy => by cases List.mem_singleton.mp hy; exact q
theorem nmI {v x : Int32} {pc : Nat} {ls : Array Slot} {st : List Value} {t : State} (q : v = x) (k : Steps p.tables e below (T.setTop (mkF m pc ls (.int v :: st))) t) : Steps p.tables e below (T.setTop (mkF m pc ls (.int x :: st))) t := by subst q; exact k
theorem nmJ {v x : Int64} {pc : Nat} {ls : Array Slot} {st : List Value} {t : State} (q : v = x) (k : Steps p.tables e below (T.setTop (mkF m pc ls (.long v :: st))) t) : Steps p.tables e below (T.setTop (mkF m pc ls (.long x :: st))) t := by subst q; exact k
theorem ne_of {x y : Nat} (q : @Ne Nat x y) : @Ne Addr x y := q
theorem ldZ (X : Stand p l e R s m args below meth c T locs cells slots) (hx : p.tables.exec = Jvm.exec) (hZ : Z.Warmed39 s.vm) (e0 : T.heap = h) (A : AvI Z h a .boolean n f) (hj : 0 ≤ j.toInt ∧ j.toInt < n) (hg : g.method = m) (hs : g.stack = .int j :: .ref a :: rest) (hd : decode c.code g.pc = .ok (.baload, 1)) :
    ∀ t, Steps p.tables e below (T.setTop { g with pc := g.pc + 1, stack := .int (f j.toInt.toNat) :: rest }) t → Steps p.tables e below (T.setTop g) t := by
  obtain ⟨c, A, S, M, H⟩ := A
  exact fun t k => X.baloadBooleans hx (by rw [e0]; exact A.1) (State.isArrayOf_alike hZ.alike A.2.1) A.2.2 (inb S hj) (by rw [(clamp hj).1]; exact H _ (by omega)) hg hs hd _ k
theorem lrem_eq (x y : Int64) : x - x / y * y = x % y := by
  apply Int64.toInt_inj.mp
  have hy := Int64.toInt_mod x y
  have q := Int64.toInt_div x y
  rw [hy, Int64.toInt_sub, Int64.toInt_mul, q]
  have h1 := Int.tmod_add_mul_tdiv x.toInt y.toInt
  have h2 : x.toInt.tmod y.toInt = x.toInt - x.toInt.tdiv y.toInt * y.toInt := by rw [Int.mul_comm]; omega
  have h3 := rng64 x
  have h4 := rng64 y
  have h5 : (x.toInt.tmod y.toInt) % (2 ^ 64) = (x.toInt - x.toInt.tdiv y.toInt * y.toInt) % (2 ^ 64) := by rw [h2]
  have h6 : -2 ^ 63 ≤ x.toInt.tmod y.toInt ∧ x.toInt.tmod y.toInt < 2 ^ 63 := by rw [← hy]; exact ⟨(x % y).le_toInt, (x % y).toInt_lt⟩
  rw [← Int.bmod_eq_of_le (n := x.toInt.tmod y.toInt) (m := 2 ^ 64) (by omega) (by omega), h2]
  simp only [Int.bmod_sub_bmod, Int.sub_bmod_bmod, Int.bmod_mul_bmod, Int.mul_bmod_bmod]
theorem lremM {t : State} (X : Stand p l e R s m args below meth c T locs cells slots) (hx : p.tables.exec = Jvm.exec) (hg : g.method = m) {x y : Int64} (hd : decode c.code g.pc = .ok (.lrem, 1)) (hs : g.stack = .long y :: .long x :: rest) (hy : y ≠ 0)
    (hr : Steps p.tables e below (T.setTop { g with pc := g.pc + 1, stack := .long (x % y) :: rest }) t) : Steps p.tables e below (T.setTop g) t :=
  XS.lrem X.here hx hg hd hs hy (by rw [lrem_eq]; exact hr)
/-- a boolean as an int -/
def b2i (b : Bool) : Int32 := if b then 1 else 0
theorem b2i_t : b2i true = 1 := rfl
theorem b2i_f : b2i false = 0 := rfl
theorem b2i_nar (b : Bool) : nar .boolean (b2i b) = b2i b := by cases b <;> decide
theorem b2i_eq0 {b : Bool} : b2i b = 0 ↔ ¬ b = true := by cases b <;> decide
theorem b2i_inj {b b' : Bool} : b2i b = b2i b' ↔ b = b' := by cases b <;> cases b' <;> decide
end Kit
end Jvm.Own
namespace Jvm.Pilot.@@N@@
open Jvm Jvm.ClassFile Sem Op Lib Jvm.Free Jvm.Stand Jvm.LawKit Jvm.RoadKit Bundle Jvm.Pilot.@@N@@.Jvm.D
def own_min (a b : Int64) : Int64 := if b < a then b else a
def own_max (a b : Int32) : Int32 := if a < b then b else a
def own_grow (a b : Int32) : Int32 := own_max b ((own_min (2 * a.toInt64) 2147483639).toInt32)
theorem own_eq {a b : Int32} : a = b ↔ a.toInt = b.toInt := Int32.toInt_inj.symm
theorem own_lt {a b : Int32} : a < b ↔ a.toInt < b.toInt := Int32.lt_iff_toInt_lt
theorem own_maxT (a b : Int32) : (own_max a b).toInt = if a.toInt < b.toInt then b.toInt else a.toInt := by
  unfold own_max; simp only [own_lt]; split <;> rfl
theorem own_mask {v x : Int32} (h : v = x &&& 2147483647) : 0 ≤ v.toInt ∧ v.toInt < 2147483648 := by
  rw [h, Jvm.Kit.i32_mask x 2147483647 (k := 31) (by decide) (by decide)]; omega
theorem own_growT {a b g : Int32} (hg : g = own_grow a b) (ha : 0 ≤ a.toInt ∧ a.toInt < 2147483648) : g.toInt = if 2 * a.toInt ≤ 2147483639 then (if b.toInt < 2 * a.toInt then 2 * a.toInt else b.toInt) else (if b.toInt < 2147483639 then 2147483639 else b.toInt) := by
  have e0 : (2 * a.toInt64 : Int64).toInt = 2 * a.toInt := by
    rw [Jvm.Kit.i64_mul] <;> rw [Jvm.Kit.i64_of_i32] <;> simp <;> omega
  have e1 : (own_min (2 * a.toInt64) 2147483639).toInt = if 2147483639 < 2 * a.toInt then 2147483639 else 2 * a.toInt := by
    unfold own_min
    have q : (2147483639 : Int64) < 2 * a.toInt64 ↔ 2147483639 < 2 * a.toInt := by rw [Int64.lt_iff_toInt_lt, e0, show (2147483639 : Int64).toInt = 2147483639 from by decide]
    simp only [q]
    split
    · decide
    · exact e0
  have e2 : ((own_min (2 * a.toInt64) 2147483639).toInt32).toInt = if 2147483639 < 2 * a.toInt then 2147483639 else 2 * a.toInt := by
    rw [Jvm.Kit.i32_of_i64, e1] <;> rw [e1] <;> split <;> omega
  subst hg
  rw [own_grow, own_maxT, e2]
  split <;> split <;> split <;> omega
theorem d1_0 : decode jdk_29_method_70_code 0 = .ok (.lload_n 0, 1) := by decide +kernel
theorem d1_1 : decode jdk_29_method_70_code 1 = .ok (.lload_n 2, 1) := by decide +kernel
theorem d1_2 : decode jdk_29_method_70_code 2 = .ok (.lcmp, 1) := by decide +kernel
theorem d1_3 : decode jdk_29_method_70_code 3 = .ok (.ifCond .gt 7, 3) := by decide +kernel
theorem d1_6 : decode jdk_29_method_70_code 6 = .ok (.lload_n 0, 1) := by decide +kernel
theorem d1_7 : decode jdk_29_method_70_code 7 = .ok (.goto 4, 3) := by decide +kernel
theorem d1_10 : decode jdk_29_method_70_code 10 = .ok (.lload_n 2, 1) := by decide +kernel
theorem d1_11 : decode jdk_29_method_70_code 11 = .ok (.lreturn, 1) := by decide +kernel
theorem ef_1 (m : MethodId) (q0 : Int64) (q1 : Int64) : entryFrame m #[(.long q0), (.long q1)] 4 = mkF m 0 #[.val (.long q0), .second, .val (.long q1), .second] [] := by first | (simp [entryFrame, mkF, argsToLocals, Value.category]; done) | rfl
def Q1 (Z : State) (q0 : Int64) (q1 : Int64) (h0 : Heap) (n0 : Nat) (v : Option Value) (h : Heap) (L : List Loc) : Prop := v = some (.long (own_min q0 q1)) ∧ Fr n0 L ∧ h = h0
set_option maxRecDepth 65536 in
set_option maxHeartbeats 40000000 in
theorem rm1 (l : Launch) (Z : State) (a0 : Array Value) (hw : ∀ d ∈ tables_1, d.before a0 Z = true) (ws : List Jvm.Cond) (q0 : Int64) (q1 : Int64) (h0 : Heap) (n0 : Nat) :
    MetFree l (⟨"java/lang/Math", "min", "(JJ)J"⟩ : MethodName) (head1 (Jvm.Cond.code (⟨"java/lang/Math", "min", "(JJ)J"⟩ : MethodName) jdk_29_method_70_code 4 (some .long) :: ws) ({ frames := 0, cells := 0, slots := 0, locals := 0 } : Room)) (fun a U => a = #[(.long q0), (.long q1)] ∧ Z.Warmed39 U.vm ∧ U.heap = h0) (fun _ _ _ _ _ => True) (fun _ U o U' => ∃ v L, o = .returned v ∧ Q1 Z q0 q1 h0 n0 v U'.heap L ∧ FrameEnd U o U' L ({ frames := 0, cells := 0, slots := 0, locals := 0 } : Room).cells ({ frames := 0, cells := 0, slots := 0, locals := 0 } : Room).slots) := by
  refine Own.enter (Q := Q1 Z q0 q1 h0 n0) (Jvm.Free.JP.mathPlain rfl (by decide +kernel)) ?_
  intro p e s m below meth c s₁ D hx hby hml hown hnm hret hZ X0 e0 hD hR
  have N0 := Fr.nil n0
  rw [show entryFrame m #[(.long q0), (.long q1)] 4 = mkF m 0 #[.val (.long q0), .second, .val (.long q1), .second] [] from ef_1 m q0 q1]
  refine hD _ (s₁.setTop (mkF m 3 #[.val (.long q0), .second, .val (.long q1), .second] [(.int (lcmpW q0 q1))])) (fun t k => ?_) ?_
  · show Steps p.tables e below (s₁.setTop (mkF m 0 #[.val (.long q0), .second, .val (.long q1), .second] [])) t
    refine XS.lloadN X0.here hx rfl (hb hby d1_0) rfl ?_
    show Steps p.tables e below (s₁.setTop (mkF m 1 #[.val (.long q0), .second, .val (.long q1), .second] [(.long q0)])) t
    refine XS.lloadN X0.here hx rfl (hb hby d1_1) rfl ?_
    show Steps p.tables e below (s₁.setTop (mkF m 2 #[.val (.long q0), .second, .val (.long q1), .second] [(.long q1), (.long q0)])) t
    refine XS.lcmp X0.here hx rfl (hb hby d1_2) rfl ?_
    show Steps p.tables e below (s₁.setTop (mkF m 3 #[.val (.long q0), .second, .val (.long q1), .second] [(.int (lcmpW q0 q1))])) t
    exact k
  by_cases hc1 : q1 < q0
  · refine hD _ (s₁.setTop (mkF m 11 #[.val (.long q0), .second, .val (.long q1), .second] [(.long q1)])) (fun t k => ?_) ?_
    · show Steps p.tables e below (s₁.setTop (mkF m 3 #[.val (.long q0), .second, .val (.long q1), .second] [(.int (lcmpW q0 q1))])) t
      refine XS.ifYes X0.here hx rfl (pc0 := 3) (pc' := 10) rfl (hb hby d1_3) rfl ((if0 _ _).trans (tlt ((lw_gt q0 q1).mpr hc1)).2.2.1) (by decide) (by decide) ?_
      show Steps p.tables e below (s₁.setTop (mkF m 10 #[.val (.long q0), .second, .val (.long q1), .second] [])) t
      refine XS.lloadN X0.here hx rfl (hb hby d1_10) rfl ?_
      show Steps p.tables e below (s₁.setTop (mkF m 11 #[.val (.long q0), .second, .val (.long q1), .second] [(.long q1)])) t
      exact k
    exact Own.retJ hR X0 hx hret (hb hby d1_11) (by decide) (by decide) ⟨by simp [own_min, hc1], N0, e0⟩
  · refine hD _ (s₁.setTop (mkF m 11 #[.val (.long q0), .second, .val (.long q1), .second] [(.long q0)])) (fun t k => ?_) ?_
    · show Steps p.tables e below (s₁.setTop (mkF m 3 #[.val (.long q0), .second, .val (.long q1), .second] [(.int (lcmpW q0 q1))])) t
      refine XS.ifNo X0.here hx rfl (hb hby d1_3) rfl ((if0 _ _).trans (flt (fun q => hc1 ((lw_gt q0 q1).mp q))).2.2.1) ?_
      show Steps p.tables e below (s₁.setTop (mkF m 6 #[.val (.long q0), .second, .val (.long q1), .second] [])) t
      refine XS.lloadN X0.here hx rfl (hb hby d1_6) rfl ?_
      show Steps p.tables e below (s₁.setTop (mkF m 7 #[.val (.long q0), .second, .val (.long q1), .second] [(.long q0)])) t
      refine XS.goto X0.here hx rfl (pc0 := 7) (pc' := 11) rfl (hb hby d1_7) (by decide) (by decide) ?_
      show Steps p.tables e below (s₁.setTop (mkF m 11 #[.val (.long q0), .second, .val (.long q1), .second] [(.long q0)])) t
      exact k
    exact Own.retJ hR X0 hx hret (hb hby d1_11) (by decide) (by decide) ⟨by simp [own_min, hc1], N0, e0⟩
theorem d2_0 : decode jdk_29_method_65_code 0 = .ok (.iload_n 0, 1) := by decide +kernel
theorem d2_1 : decode jdk_29_method_65_code 1 = .ok (.iload_n 1, 1) := by decide +kernel
theorem d2_2 : decode jdk_29_method_65_code 2 = .ok (.if_icmp .lt 7, 3) := by decide +kernel
theorem d2_5 : decode jdk_29_method_65_code 5 = .ok (.iload_n 0, 1) := by decide +kernel
theorem d2_6 : decode jdk_29_method_65_code 6 = .ok (.goto 4, 3) := by decide +kernel
theorem d2_9 : decode jdk_29_method_65_code 9 = .ok (.iload_n 1, 1) := by decide +kernel
theorem d2_10 : decode jdk_29_method_65_code 10 = .ok (.ireturn, 1) := by decide +kernel
theorem ef_2 (m : MethodId) (p0 : Int32) (p1 : Int32) : entryFrame m #[(.int p0), (.int p1)] 2 = mkF m 0 #[.val (.int p0), .val (.int p1)] [] := by first | (simp [entryFrame, mkF, argsToLocals, Value.category]; done) | rfl
def Q2 (Z : State) (p0 : Int32) (p1 : Int32) (h0 : Heap) (n0 : Nat) (v : Option Value) (h : Heap) (L : List Loc) : Prop := v = some (.int (own_max p0 p1)) ∧ Fr n0 L ∧ h = h0
set_option maxRecDepth 65536 in
set_option maxHeartbeats 40000000 in
theorem rm2 (l : Launch) (Z : State) (a0 : Array Value) (hw : ∀ d ∈ tables_1, d.before a0 Z = true) (ws : List Jvm.Cond) (p0 : Int32) (p1 : Int32) (h0 : Heap) (n0 : Nat) :
    MetFree l (⟨"java/lang/Math", "max", "(II)I"⟩ : MethodName) (head1 (Jvm.Cond.code (⟨"java/lang/Math", "max", "(II)I"⟩ : MethodName) jdk_29_method_65_code 2 (some .int) :: ws) ({ frames := 0, cells := 0, slots := 0, locals := 0 } : Room)) (fun a U => a = #[(.int p0), (.int p1)] ∧ Z.Warmed39 U.vm ∧ U.heap = h0) (fun _ _ _ _ _ => True) (fun _ U o U' => ∃ v L, o = .returned v ∧ Q2 Z p0 p1 h0 n0 v U'.heap L ∧ FrameEnd U o U' L ({ frames := 0, cells := 0, slots := 0, locals := 0 } : Room).cells ({ frames := 0, cells := 0, slots := 0, locals := 0 } : Room).slots) := by
  refine Own.enter (Q := Q2 Z p0 p1 h0 n0) (Jvm.Free.JP.mathPlain rfl (by decide +kernel)) ?_
  intro p e s m below meth c s₁ D hx hby hml hown hnm hret hZ X0 e0 hD hR
  have N0 := Fr.nil n0
  rw [show entryFrame m #[(.int p0), (.int p1)] 2 = mkF m 0 #[.val (.int p0), .val (.int p1)] [] from ef_2 m p0 p1]
  refine hD _ (s₁.setTop (mkF m 2 #[.val (.int p0), .val (.int p1)] [(.int p1), (.int p0)])) (fun t k => ?_) ?_
  · show Steps p.tables e below (s₁.setTop (mkF m 0 #[.val (.int p0), .val (.int p1)] [])) t
    refine XS.iloadN X0.here hx rfl (hb hby d2_0) rfl ?_
    show Steps p.tables e below (s₁.setTop (mkF m 1 #[.val (.int p0), .val (.int p1)] [(.int p0)])) t
    refine XS.iloadN X0.here hx rfl (hb hby d2_1) rfl ?_
    show Steps p.tables e below (s₁.setTop (mkF m 2 #[.val (.int p0), .val (.int p1)] [(.int p1), (.int p0)])) t
    exact k
  by_cases hc1 : p0 < p1
  · refine hD _ (s₁.setTop (mkF m 10 #[.val (.int p0), .val (.int p1)] [(.int p1)])) (fun t k => ?_) ?_
    · show Steps p.tables e below (s₁.setTop (mkF m 2 #[.val (.int p0), .val (.int p1)] [(.int p1), (.int p0)])) t
      refine XS.icmpYes X0.here hx rfl (pc0 := 2) (pc' := 9) rfl (hb hby d2_2) rfl (tlt hc1).1 (by decide) (by decide) ?_
      show Steps p.tables e below (s₁.setTop (mkF m 9 #[.val (.int p0), .val (.int p1)] [])) t
      refine XS.iloadN X0.here hx rfl (hb hby d2_9) rfl ?_
      show Steps p.tables e below (s₁.setTop (mkF m 10 #[.val (.int p0), .val (.int p1)] [(.int p1)])) t
      exact k
    exact Own.retI hR X0 hx hret (hb hby d2_10) (by decide) (by decide) ⟨by simp [own_max, hc1], N0, e0⟩
  · refine hD _ (s₁.setTop (mkF m 10 #[.val (.int p0), .val (.int p1)] [(.int p0)])) (fun t k => ?_) ?_
    · show Steps p.tables e below (s₁.setTop (mkF m 2 #[.val (.int p0), .val (.int p1)] [(.int p1), (.int p0)])) t
      refine XS.icmpNo X0.here hx rfl (hb hby d2_2) rfl (flt hc1).1 ?_
      show Steps p.tables e below (s₁.setTop (mkF m 5 #[.val (.int p0), .val (.int p1)] [])) t
      refine XS.iloadN X0.here hx rfl (hb hby d2_5) rfl ?_
      show Steps p.tables e below (s₁.setTop (mkF m 6 #[.val (.int p0), .val (.int p1)] [(.int p0)])) t
      refine XS.goto X0.here hx rfl (pc0 := 6) (pc' := 10) rfl (hb hby d2_6) (by decide) (by decide) ?_
      show Steps p.tables e below (s₁.setTop (mkF m 10 #[.val (.int p0), .val (.int p1)] [(.int p0)])) t
      exact k
    exact Own.retI hR X0 hx hret (hb hby d2_10) (by decide) (by decide) ⟨by simp [own_max, hc1], N0, e0⟩
theorem d3_0 : decode prog_13_method_2_code 0 = .ok (.iload_n 1, 1) := by decide +kernel
theorem d3_1 : decode prog_13_method_2_code 1 = .ok (.ldc2_w 9, 3) := by decide +kernel
theorem d3_4 : decode prog_13_method_2_code 4 = .ok (.iload_n 0, 1) := by decide +kernel
theorem d3_5 : decode prog_13_method_2_code 5 = .ok (.i2l, 1) := by decide +kernel
theorem d3_6 : decode prog_13_method_2_code 6 = .ok (.lmul, 1) := by decide +kernel
theorem d3_7 : decode prog_13_method_2_code 7 = .ok (.ldc2_w 13, 3) := by decide +kernel
theorem d3_10 : decode prog_13_method_2_code 10 = .ok (.invokestatic 15, 3) := by decide +kernel
theorem d3_13 : decode prog_13_method_2_code 13 = .ok (.l2i, 1) := by decide +kernel
theorem d3_14 : decode prog_13_method_2_code 14 = .ok (.invokestatic 21, 3) := by decide +kernel
theorem d3_17 : decode prog_13_method_2_code 17 = .ok (.ireturn, 1) := by decide +kernel
theorem pd_0 : parseMethodDescriptor "(JJ)J" = some ⟨[.long, .long], some .long⟩ := by decide +kernel
theorem pd_1 : parseMethodDescriptor "(II)I" = some ⟨[.int, .int], some .int⟩ := by decide +kernel
theorem pn_0 : plainName "com/example/edom/edom/mapping/ArrayGrowth" = true := by first | (simp [plainName, overriddenIn]; done) | decide +kernel
theorem ef_3 (m : MethodId) (p0 : Int32) (p1 : Int32) : entryFrame m #[(.int p0), (.int p1)] 2 = mkF m 0 #[.val (.int p0), .val (.int p1)] [] := by first | (simp [entryFrame, mkF, argsToLocals, Value.category]; done) | rfl
def Q3 (Z : State) (p0 : Int32) (p1 : Int32) (h0 : Heap) (n0 : Nat) (v : Option Value) (h : Heap) (L : List Loc) : Prop := v = some (.int (own_grow p0 p1)) ∧ Fr n0 L ∧ h = h0
set_option maxRecDepth 65536 in
set_option maxHeartbeats 40000000 in
theorem rm3 (l : Launch) (Z : State) (a0 : Array Value) (hw : ∀ d ∈ tables_1, d.before a0 Z = true) (ws : List Jvm.Cond) (p0 : Int32) (p1 : Int32) (h0 : Heap) (n0 : Nat) :
    MetFree l (⟨"com/example/edom/edom/mapping/ArrayGrowth", "grownLength", "(II)I"⟩ : MethodName) (head1 (Jvm.Cond.code (⟨"com/example/edom/edom/mapping/ArrayGrowth", "grownLength", "(II)I"⟩ : MethodName) prog_13_method_2_code 2 (some .int) :: ws) ({ frames := 1, cells := 0, slots := 0, locals := 16 } : Room)) (fun a U => a = #[(.int p0), (.int p1)] ∧ Z.Warmed39 U.vm ∧ U.heap = h0) (fun _ _ _ _ _ => True) (fun _ U o U' => ∃ v L, o = .returned v ∧ Q3 Z p0 p1 h0 n0 v U'.heap L ∧ FrameEnd U o U' L ({ frames := 1, cells := 0, slots := 0, locals := 16 } : Room).cells ({ frames := 1, cells := 0, slots := 0, locals := 16 } : Room).slots) := by
  refine Own.enter (Q := Q3 Z p0 p1 h0 n0) (plainFor_of_name pn_0) ?_
  intro p e s m below meth c s₁ D hx hby hml hown hnm hret hZ X0 e0 hD hR
  have N0 := Fr.nil n0
  rw [show entryFrame m #[(.int p0), (.int p1)] 2 = mkF m 0 #[.val (.int p0), .val (.int p1)] [] from ef_3 m p0 p1]
  obtain ⟨T1, _, L1, X1, ⟨rfl, Nq1, e1⟩, st1⟩ := Own.callS (y := (⟨"java/lang/Math", "min", "(JJ)J"⟩ : MethodName)) (W := 1) (argsL := [(.long ((2 : Int64) * (p0.toInt64))), (.long (2147483639 : Int64))]) (rest := [(.int p1)]) X0 hx hZ hown (hw _ (List.mem_of_getElem? (i := 9) rfl)) (hw _ (List.mem_of_getElem? (i := 10) rfl)) (hw _ (List.mem_of_getElem? (i := 11) rfl)) (hw _ (List.mem_of_getElem? (i := 12) rfl)) (by decide) e0 (rm1 l Z a0 hw [] ((2 : Int64) * (p0.toInt64)) (2147483639 : Int64)  h0 n0 ) (by decide) (by decide) (by decide) (by decide) (g := (mkF m 10 #[.val (.int p0), .val (.int p1)] [(.long (2147483639 : Int64)), (.long ((2 : Int64) * (p0.toInt64))), (.int p1)])) rfl (by rw [hml]; rfl) (lenOf pd_0 rfl) rfl (by show 2 * 0 + _ ≤ _; exact Nat.le_of_eq rfl) (hb hby d3_10)
  have N1 := Fr.app N0 Nq1
  obtain ⟨T2, _, L2, X2, ⟨rfl, Nq2, e2⟩, st2⟩ := Own.callS (y := (⟨"java/lang/Math", "max", "(II)I"⟩ : MethodName)) (W := 0) (argsL := [(.int p1), (.int ((own_min ((2 : Int64) * (p0.toInt64)) (2147483639 : Int64)).toInt32))]) (rest := []) X1 hx hZ hown (hw _ (List.mem_of_getElem? (i := 13) rfl)) (hw _ (List.mem_of_getElem? (i := 14) rfl)) (hw _ (List.mem_of_getElem? (i := 11) rfl)) (hw _ (List.mem_of_getElem? (i := 15) rfl)) (by decide) e1 (rm2 l Z a0 hw [] p1 ((own_min ((2 : Int64) * (p0.toInt64)) (2147483639 : Int64)).toInt32)  h0 n0 ) (by decide) (by decide) (by decide) (by decide) (g := (mkF m 14 #[.val (.int p0), .val (.int p1)] [(.int ((own_min ((2 : Int64) * (p0.toInt64)) (2147483639 : Int64)).toInt32)), (.int p1)])) rfl (by rw [hml]; rfl) (lenOf pd_1 rfl) rfl (by show 2 * 0 + _ ≤ _; exact Nat.le_of_eq rfl) (hb hby d3_14)
  have N2 := Fr.app N1 Nq2
  refine hD _ (T2.setTop (mkF m 17 #[.val (.int p0), .val (.int p1)] [(.int (own_max p1 ((own_min ((2 : Int64) * (p0.toInt64)) (2147483639 : Int64)).toInt32)))])) (fun t k => ?_) ?_
  · show Steps p.tables e below (s₁.setTop (mkF m 0 #[.val (.int p0), .val (.int p1)] [])) t
    refine XS.iloadN X0.here hx rfl (hb hby d3_0) rfl ?_
    show Steps p.tables e below (s₁.setTop (mkF m 1 #[.val (.int p0), .val (.int p1)] [(.int p1)])) t
    refine X0.ldc2Long hx hown (mvT hZ (hw _ (List.mem_of_getElem? (i := 7) rfl))) (g := (mkF m 1 #[.val (.int p0), .val (.int p1)] [(.int p1)])) rfl (hb hby d3_1) _ ?_
    show Steps p.tables e below (s₁.setTop (mkF m 4 #[.val (.int p0), .val (.int p1)] [(.long (2 : Int64)), (.int p1)])) t
    refine XS.iloadN X0.here hx rfl (hb hby d3_4) rfl ?_
    show Steps p.tables e below (s₁.setTop (mkF m 5 #[.val (.int p0), .val (.int p1)] [(.int p0), (.long (2 : Int64)), (.int p1)])) t
    refine XS.i2l X0.here hx rfl (hb hby d3_5) rfl ?_
    show Steps p.tables e below (s₁.setTop (mkF m 6 #[.val (.int p0), .val (.int p1)] [(.long (p0.toInt64)), (.long (2 : Int64)), (.int p1)])) t
    refine XS.lmul X0.here hx rfl (hb hby d3_6) rfl ?_
    show Steps p.tables e below (s₁.setTop (mkF m 7 #[.val (.int p0), .val (.int p1)] [(.long ((2 : Int64) * (p0.toInt64))), (.int p1)])) t
    refine X0.ldc2Long hx hown (mvT hZ (hw _ (List.mem_of_getElem? (i := 8) rfl))) (g := (mkF m 7 #[.val (.int p0), .val (.int p1)] [(.long ((2 : Int64) * (p0.toInt64))), (.int p1)])) rfl (hb hby d3_7) _ ?_
    show Steps p.tables e below (s₁.setTop (mkF m 10 #[.val (.int p0), .val (.int p1)] [(.long (2147483639 : Int64)), (.long ((2 : Int64) * (p0.toInt64))), (.int p1)])) t
    refine st1 _ ?_
    show Steps p.tables e below (T1.setTop (mkF m 13 #[.val (.int p0), .val (.int p1)] [(.long (own_min ((2 : Int64) * (p0.toInt64)) (2147483639 : Int64))), (.int p1)])) t
    refine XS.l2i X1.here hx rfl (hb hby d3_13) rfl ?_
    show Steps p.tables e below (T1.setTop (mkF m 14 #[.val (.int p0), .val (.int p1)] [(.int ((own_min ((2 : Int64) * (p0.toInt64)) (2147483639 : Int64)).toInt32)), (.int p1)])) t
    refine st2 _ ?_
    show Steps p.tables e below (T2.setTop (mkF m 17 #[.val (.int p0), .val (.int p1)] [(.int (own_max p1 ((own_min ((2 : Int64) * (p0.toInt64)) (2147483639 : Int64)).toInt32)))])) t
    exact k
  exact Own.retI hR X2 hx hret (hb hby d3_17) (by decide) (by decide) ⟨rfl, N2, e2⟩
theorem pn_1 : plainName "com/example/edom/edom/mapping/ArrayGrowthGrownLengthPinLaw" = true := by first | (simp [plainName, overriddenIn]; done) | decide +kernel
theorem ef_0 (m : MethodId) (p0 : Int32) (p1 : Int32) : entryFrame m #[(.int p0), (.int p1)] maxLocals = mkF m 0 #[.val (.int p0), .val (.int p1), .unset, .unset, .unset, .unset, .unset] [] := by first | (simp [entryFrame, mkF, argsToLocals, Value.category, maxLocals]; done) | rfl
def Q0 (Z : State) (p0 : Int32) (p1 : Int32) (h0 : Heap) (n0 : Nat) (v : Option Value) (h : Heap) (L : List Loc) : Prop := v = some (.int 1) ∧ Fr n0 L
set_option maxRecDepth 65536 in
set_option maxHeartbeats 40000000 in
theorem rm0 (l : Launch) (Z : State) (a0 : Array Value) (hw : ∀ d ∈ tables_1, d.before a0 Z = true) (ws : List Jvm.Cond) (p0 : Int32) (p1 : Int32) (h0 : Heap) (n0 : Nat) :
    MetFree l x (head1 (Jvm.Cond.code x code maxLocals ret :: ws) room_1) (fun a U => a = #[(.int p0), (.int p1)] ∧ Z.Warmed39 U.vm ∧ U.heap = h0) (fun _ _ _ _ _ => True) (fun _ U o U' => ∃ v L, o = .returned v ∧ Q0 Z p0 p1 h0 n0 v U'.heap L ∧ FrameEnd U o U' L room_1.cells room_1.slots) := by
  refine Own.enter (Q := Q0 Z p0 p1 h0 n0) (plainFor_of_name pn_1) ?_
  intro p e s m below meth c s₁ D hx hby hml hown hnm hret hZ X0 e0 hD hR
  have N0 := Fr.nil n0
  rw [show entryFrame m #[(.int p0), (.int p1)] maxLocals = mkF m 0 #[.val (.int p0), .val (.int p1), .unset, .unset, .unset, .unset, .unset] [] from ef_0 m p0 p1]
  obtain ⟨v1, hv1⟩ : ∃ z : Int32, z = (p0 &&& (2147483647 : Int32)) := ⟨_, rfl⟩
  refine hD _ (s₁.setTop (mkF m 11 #[.val (.int p0), .val (.int p1), .val (.int v1), .val (.int (2147483639 : Int32)), .unset, .unset, .unset] [(.int (1073741819 : Int32)), (.int v1)])) (fun t k => ?_) ?_
  · show Steps p.tables e below (s₁.setTop (mkF m 0 #[.val (.int p0), .val (.int p1), .unset, .unset, .unset, .unset, .unset] [])) t
    refine XS.iloadN X0.here hx rfl (hb hby at_0) rfl ?_
    show Steps p.tables e below (s₁.setTop (mkF m 1 #[.val (.int p0), .val (.int p1), .unset, .unset, .unset, .unset, .unset] [(.int p0)])) t
    refine X0.ldcInt hx hown (mvT hZ (hw _ (List.mem_of_getElem? (i := 0) rfl))) (g := (mkF m 1 #[.val (.int p0), .val (.int p1), .unset, .unset, .unset, .unset, .unset] [(.int p0)])) rfl (hb hby at_1) _ ?_
    show Steps p.tables e below (s₁.setTop (mkF m 3 #[.val (.int p0), .val (.int p1), .unset, .unset, .unset, .unset, .unset] [(.int (2147483647 : Int32)), (.int p0)])) t
    refine XS.iand X0.here hx rfl (hb hby at_3) rfl ?_
    show Steps p.tables e below (s₁.setTop (mkF m 4 #[.val (.int p0), .val (.int p1), .unset, .unset, .unset, .unset, .unset] [(.int (p0 &&& (2147483647 : Int32)))])) t
    refine Own.nmI hv1 ?_
    show Steps p.tables e below (s₁.setTop (mkF m 4 #[.val (.int p0), .val (.int p1), .unset, .unset, .unset, .unset, .unset] [(.int v1)])) t
    refine XS.istoreN X0.here hx rfl (hb hby at_4) rfl (l' := #[.val (.int p0), .val (.int p1), .val (.int v1), .unset, .unset, .unset, .unset]) rfl ?_
    show Steps p.tables e below (s₁.setTop (mkF m 5 #[.val (.int p0), .val (.int p1), .val (.int v1), .unset, .unset, .unset, .unset] [])) t
    refine X0.ldcInt hx hown (mvT hZ (hw _ (List.mem_of_getElem? (i := 1) rfl))) (g := (mkF m 5 #[.val (.int p0), .val (.int p1), .val (.int v1), .unset, .unset, .unset, .unset] [])) rfl (hb hby at_5) _ ?_
    show Steps p.tables e below (s₁.setTop (mkF m 7 #[.val (.int p0), .val (.int p1), .val (.int v1), .unset, .unset, .unset, .unset] [(.int (2147483639 : Int32))])) t
    refine XS.istoreN X0.here hx rfl (hb hby at_7) rfl (l' := #[.val (.int p0), .val (.int p1), .val (.int v1), .val (.int (2147483639 : Int32)), .unset, .unset, .unset]) rfl ?_
    show Steps p.tables e below (s₁.setTop (mkF m 8 #[.val (.int p0), .val (.int p1), .val (.int v1), .val (.int (2147483639 : Int32)), .unset, .unset, .unset] [])) t
    refine XS.iloadN X0.here hx rfl (hb hby at_8) rfl ?_
    show Steps p.tables e below (s₁.setTop (mkF m 9 #[.val (.int p0), .val (.int p1), .val (.int v1), .val (.int (2147483639 : Int32)), .unset, .unset, .unset] [(.int v1)])) t
    refine X0.ldcInt hx hown (mvT hZ (hw _ (List.mem_of_getElem? (i := 2) rfl))) (g := (mkF m 9 #[.val (.int p0), .val (.int p1), .val (.int v1), .val (.int (2147483639 : Int32)), .unset, .unset, .unset] [(.int v1)])) rfl (hb hby at_9) _ ?_
    show Steps p.tables e below (s₁.setTop (mkF m 11 #[.val (.int p0), .val (.int p1), .val (.int v1), .val (.int (2147483639 : Int32)), .unset, .unset, .unset] [(.int (1073741819 : Int32)), (.int v1)])) t
    exact k
  by_cases hc2 : (1073741819 : Int32) < v1
  · refine hD _ (s₁.setTop (mkF m 28 #[.val (.int p0), .val (.int p1), .val (.int v1), .val (.int (2147483639 : Int32)), .val (.int (2147483639 : Int32)), .unset, .unset] [(.int (2147483639 : Int32)), (.int p1)])) (fun t k => ?_) ?_
    · show Steps p.tables e below (s₁.setTop (mkF m 11 #[.val (.int p0), .val (.int p1), .val (.int v1), .val (.int (2147483639 : Int32)), .unset, .unset, .unset] [(.int (1073741819 : Int32)), (.int v1)])) t
      refine XS.icmpYes X0.here hx rfl (pc0 := 11) (pc' := 22) rfl (hb hby at_11) rfl (tlt hc2).2.2.1 (by decide) (by decide) ?_
      show Steps p.tables e below (s₁.setTop (mkF m 22 #[.val (.int p0), .val (.int p1), .val (.int v1), .val (.int (2147483639 : Int32)), .unset, .unset, .unset] [])) t
      refine XS.iloadN X0.here hx rfl (hb hby at_22) rfl ?_
      show Steps p.tables e below (s₁.setTop (mkF m 23 #[.val (.int p0), .val (.int p1), .val (.int v1), .val (.int (2147483639 : Int32)), .unset, .unset, .unset] [(.int (2147483639 : Int32))])) t
      refine XS.istore X0.here hx rfl (hb hby at_23) rfl (l' := #[.val (.int p0), .val (.int p1), .val (.int v1), .val (.int (2147483639 : Int32)), .val (.int (2147483639 : Int32)), .unset, .unset]) rfl ?_
      show Steps p.tables e below (s₁.setTop (mkF m 25 #[.val (.int p0), .val (.int p1), .val (.int v1), .val (.int (2147483639 : Int32)), .val (.int (2147483639 : Int32)), .unset, .unset] [])) t
      refine XS.iloadN X0.here hx rfl (hb hby at_25) rfl ?_
      show Steps p.tables e below (s₁.setTop (mkF m 26 #[.val (.int p0), .val (.int p1), .val (.int v1), .val (.int (2147483639 : Int32)), .val (.int (2147483639 : Int32)), .unset, .unset] [(.int p1)])) t
      refine XS.iload X0.here hx rfl (hb hby at_26) rfl ?_
      show Steps p.tables e below (s₁.setTop (mkF m 28 #[.val (.int p0), .val (.int p1), .val (.int v1), .val (.int (2147483639 : Int32)), .val (.int (2147483639 : Int32)), .unset, .unset] [(.int (2147483639 : Int32)), (.int p1)])) t
      exact k
    by_cases hc3 : (2147483639 : Int32) < p1
    · obtain ⟨T4, _, L4, X4, ⟨rfl, Nq4, e4⟩, st4⟩ := Own.callS (y := (⟨"com/example/edom/edom/mapping/ArrayGrowth", "grownLength", "(II)I"⟩ : MethodName)) (W := 0) (argsL := [(.int v1), (.int p1)]) (rest := []) X0 hx hZ hown (hw _ (List.mem_of_getElem? (i := 3) rfl)) (hw _ (List.mem_of_getElem? (i := 4) rfl)) (hw _ (List.mem_of_getElem? (i := 5) rfl)) (hw _ (List.mem_of_getElem? (i := 6) rfl)) (by decide) e0 (rm3 l Z a0 hw [] v1 p1  h0 n0 ) (by decide) (by decide) (by decide) (by decide) (g := (mkF m 43 #[.val (.int p0), .val (.int p1), .val (.int v1), .val (.int (2147483639 : Int32)), .val (.int (2147483639 : Int32)), .val (.int p1), .unset] [(.int p1), (.int v1)])) rfl (by rw [hml]; rfl) (lenOf pd_1 rfl) rfl (by show 2 * 0 + _ ≤ _; exact Nat.le_of_eq rfl) (hb hby at_43)
      have N4 := Fr.app N0 Nq4
      obtain ⟨v5, hv5⟩ : ∃ z : Int32, z = (own_grow v1 p1) := ⟨_, rfl⟩
      refine hD _ (T4.setTop (mkF m 52 #[.val (.int p0), .val (.int p1), .val (.int v1), .val (.int (2147483639 : Int32)), .val (.int (2147483639 : Int32)), .val (.int p1), .val (.int v5)] [(.int p1), (.int v5)])) (fun t k => ?_) ?_
      · show Steps p.tables e below (s₁.setTop (mkF m 28 #[.val (.int p0), .val (.int p1), .val (.int v1), .val (.int (2147483639 : Int32)), .val (.int (2147483639 : Int32)), .unset, .unset] [(.int (2147483639 : Int32)), (.int p1)])) t
        refine XS.icmpNo X0.here hx rfl (hb hby at_28) rfl (tlt hc3).2.2.2 ?_
        show Steps p.tables e below (s₁.setTop (mkF m 31 #[.val (.int p0), .val (.int p1), .val (.int v1), .val (.int (2147483639 : Int32)), .val (.int (2147483639 : Int32)), .unset, .unset] [])) t
        refine XS.iloadN X0.here hx rfl (hb hby at_31) rfl ?_
        show Steps p.tables e below (s₁.setTop (mkF m 32 #[.val (.int p0), .val (.int p1), .val (.int v1), .val (.int (2147483639 : Int32)), .val (.int (2147483639 : Int32)), .unset, .unset] [(.int p1)])) t
        refine XS.istore X0.here hx rfl (hb hby at_32) rfl (l' := #[.val (.int p0), .val (.int p1), .val (.int v1), .val (.int (2147483639 : Int32)), .val (.int (2147483639 : Int32)), .val (.int p1), .unset]) rfl ?_
        show Steps p.tables e below (s₁.setTop (mkF m 34 #[.val (.int p0), .val (.int p1), .val (.int v1), .val (.int (2147483639 : Int32)), .val (.int (2147483639 : Int32)), .val (.int p1), .unset] [])) t
        refine XS.goto X0.here hx rfl (pc0 := 34) (pc' := 41) rfl (hb hby at_34) (by decide) (by decide) ?_
        show Steps p.tables e below (s₁.setTop (mkF m 41 #[.val (.int p0), .val (.int p1), .val (.int v1), .val (.int (2147483639 : Int32)), .val (.int (2147483639 : Int32)), .val (.int p1), .unset] [])) t
        refine XS.iloadN X0.here hx rfl (hb hby at_41) rfl ?_
        show Steps p.tables e below (s₁.setTop (mkF m 42 #[.val (.int p0), .val (.int p1), .val (.int v1), .val (.int (2147483639 : Int32)), .val (.int (2147483639 : Int32)), .val (.int p1), .unset] [(.int v1)])) t
        refine XS.iloadN X0.here hx rfl (hb hby at_42) rfl ?_
        show Steps p.tables e below (s₁.setTop (mkF m 43 #[.val (.int p0), .val (.int p1), .val (.int v1), .val (.int (2147483639 : Int32)), .val (.int (2147483639 : Int32)), .val (.int p1), .unset] [(.int p1), (.int v1)])) t
        refine st4 _ ?_
        show Steps p.tables e below (T4.setTop (mkF m 46 #[.val (.int p0), .val (.int p1), .val (.int v1), .val (.int (2147483639 : Int32)), .val (.int (2147483639 : Int32)), .val (.int p1), .unset] [(.int (own_grow v1 p1))])) t
        refine Own.nmI hv5 ?_
        show Steps p.tables e below (T4.setTop (mkF m 46 #[.val (.int p0), .val (.int p1), .val (.int v1), .val (.int (2147483639 : Int32)), .val (.int (2147483639 : Int32)), .val (.int p1), .unset] [(.int v5)])) t
        refine XS.istore X4.here hx rfl (hb hby at_46) rfl (l' := #[.val (.int p0), .val (.int p1), .val (.int v1), .val (.int (2147483639 : Int32)), .val (.int (2147483639 : Int32)), .val (.int p1), .val (.int v5)]) rfl ?_
        show Steps p.tables e below (T4.setTop (mkF m 48 #[.val (.int p0), .val (.int p1), .val (.int v1), .val (.int (2147483639 : Int32)), .val (.int (2147483639 : Int32)), .val (.int p1), .val (.int v5)] [])) t
        refine XS.iload X4.here hx rfl (hb hby at_48) rfl ?_
        show Steps p.tables e below (T4.setTop (mkF m 50 #[.val (.int p0), .val (.int p1), .val (.int v1), .val (.int (2147483639 : Int32)), .val (.int (2147483639 : Int32)), .val (.int p1), .val (.int v5)] [(.int v5)])) t
        refine XS.iload X4.here hx rfl (hb hby at_50) rfl ?_
        show Steps p.tables e below (T4.setTop (mkF m 52 #[.val (.int p0), .val (.int p1), .val (.int v1), .val (.int (2147483639 : Int32)), .val (.int (2147483639 : Int32)), .val (.int p1), .val (.int v5)] [(.int p1), (.int v5)])) t
        exact k
      have hc6 : v5 = p1 := by
        have hl := own_mask hv1
        have hg := own_growT hv5 hl
        have e1 : (2147483639 : Int32).toInt = 2147483639 := by decide
        have e2 : (1073741819 : Int32).toInt = 1073741819 := by decide
        have a1 := hc2
        have a2 := hc3
        simp only [own_lt] at a1 a2
        rw [own_eq]
        split at hg <;> split at hg <;> omega
      refine hD _ (T4.setTop (mkF m 58 #[.val (.int p0), .val (.int p1), .val (.int v1), .val (.int (2147483639 : Int32)), .val (.int (2147483639 : Int32)), .val (.int p1), .val (.int v5)] [(.int p1), (.int v5)])) (fun t k => ?_) ?_
      · show Steps p.tables e below (T4.setTop (mkF m 52 #[.val (.int p0), .val (.int p1), .val (.int v1), .val (.int (2147483639 : Int32)), .val (.int (2147483639 : Int32)), .val (.int p1), .val (.int v5)] [(.int p1), (.int v5)])) t
        refine XS.icmpNo X4.here hx rfl (hb hby at_52) rfl (teq hc6).2 ?_
        show Steps p.tables e below (T4.setTop (mkF m 55 #[.val (.int p0), .val (.int p1), .val (.int v1), .val (.int (2147483639 : Int32)), .val (.int (2147483639 : Int32)), .val (.int p1), .val (.int v5)] [])) t
        refine XS.iload X4.here hx rfl (hb hby at_55) rfl ?_
        show Steps p.tables e below (T4.setTop (mkF m 57 #[.val (.int p0), .val (.int p1), .val (.int v1), .val (.int (2147483639 : Int32)), .val (.int (2147483639 : Int32)), .val (.int p1), .val (.int v5)] [(.int v5)])) t
        refine XS.iloadN X4.here hx rfl (hb hby at_57) rfl ?_
        show Steps p.tables e below (T4.setTop (mkF m 58 #[.val (.int p0), .val (.int p1), .val (.int v1), .val (.int (2147483639 : Int32)), .val (.int (2147483639 : Int32)), .val (.int p1), .val (.int v5)] [(.int p1), (.int v5)])) t
        exact k
      have hc7 : ¬ (v5 < p1) := by
        have hl := own_mask hv1
        have hg := own_growT hv5 hl
        have e1 : (2147483639 : Int32).toInt = 2147483639 := by decide
        have e2 : (1073741819 : Int32).toInt = 1073741819 := by decide
        have a1 := hc2
        have a2 := hc3
        simp only [own_lt] at a1 a2
        rw [own_lt]
        split at hg <;> split at hg <;> omega
      obtain ⟨T8, _, L8, X8, ⟨rfl, Nq8, e8⟩, st8⟩ := Own.callS (y := (⟨"java/lang/Math", "max", "(II)I"⟩ : MethodName)) (W := 1) (argsL := [(.int p1), (.int (2147483639 : Int32))]) (rest := [(.int v5)]) X4 hx hZ hown (hw _ (List.mem_of_getElem? (i := 16) rfl)) (hw _ (List.mem_of_getElem? (i := 14) rfl)) (hw _ (List.mem_of_getElem? (i := 11) rfl)) (hw _ (List.mem_of_getElem? (i := 15) rfl)) (by decide) e4 (rm2 l Z a0 hw [] p1 (2147483639 : Int32)  h0 n0 ) (by decide) (by decide) (by decide) (by decide) (g := (mkF m 65 #[.val (.int p0), .val (.int p1), .val (.int v1), .val (.int (2147483639 : Int32)), .val (.int (2147483639 : Int32)), .val (.int p1), .val (.int v5)] [(.int (2147483639 : Int32)), (.int p1), (.int v5)])) rfl (by rw [hml]; rfl) (lenOf pd_1 rfl) rfl (by show 2 * 0 + _ ≤ _; exact Nat.le_of_eq rfl) (hb hby at_65)
      have N8 := Fr.app N4 Nq8
      refine hD _ (T8.setTop (mkF m 68 #[.val (.int p0), .val (.int p1), .val (.int v1), .val (.int (2147483639 : Int32)), .val (.int (2147483639 : Int32)), .val (.int p1), .val (.int v5)] [(.int (own_max p1 (2147483639 : Int32))), (.int v5)])) (fun t k => ?_) ?_
      · show Steps p.tables e below (T4.setTop (mkF m 58 #[.val (.int p0), .val (.int p1), .val (.int v1), .val (.int (2147483639 : Int32)), .val (.int (2147483639 : Int32)), .val (.int p1), .val (.int v5)] [(.int p1), (.int v5)])) t
        refine XS.icmpNo X4.here hx rfl (hb hby at_58) rfl (flt hc7).1 ?_
        show Steps p.tables e below (T4.setTop (mkF m 61 #[.val (.int p0), .val (.int p1), .val (.int v1), .val (.int (2147483639 : Int32)), .val (.int (2147483639 : Int32)), .val (.int p1), .val (.int v5)] [])) t
        refine XS.iload X4.here hx rfl (hb hby at_61) rfl ?_
        show Steps p.tables e below (T4.setTop (mkF m 63 #[.val (.int p0), .val (.int p1), .val (.int v1), .val (.int (2147483639 : Int32)), .val (.int (2147483639 : Int32)), .val (.int p1), .val (.int v5)] [(.int v5)])) t
        refine XS.iloadN X4.here hx rfl (hb hby at_63) rfl ?_
        show Steps p.tables e below (T4.setTop (mkF m 64 #[.val (.int p0), .val (.int p1), .val (.int v1), .val (.int (2147483639 : Int32)), .val (.int (2147483639 : Int32)), .val (.int p1), .val (.int v5)] [(.int p1), (.int v5)])) t
        refine XS.iloadN X4.here hx rfl (hb hby at_64) rfl ?_
        show Steps p.tables e below (T4.setTop (mkF m 65 #[.val (.int p0), .val (.int p1), .val (.int v1), .val (.int (2147483639 : Int32)), .val (.int (2147483639 : Int32)), .val (.int p1), .val (.int v5)] [(.int (2147483639 : Int32)), (.int p1), (.int v5)])) t
        refine st8 _ ?_
        show Steps p.tables e below (T8.setTop (mkF m 68 #[.val (.int p0), .val (.int p1), .val (.int v1), .val (.int (2147483639 : Int32)), .val (.int (2147483639 : Int32)), .val (.int p1), .val (.int v5)] [(.int (own_max p1 (2147483639 : Int32))), (.int v5)])) t
        exact k
      have hc9 : ¬ ((own_max p1 (2147483639 : Int32)) < v5) := by
        have hl := own_mask hv1
        have hg := own_growT hv5 hl
        have e1 : (2147483639 : Int32).toInt = 2147483639 := by decide
        have e2 : (1073741819 : Int32).toInt = 1073741819 := by decide
        have a1 := hc2
        have a2 := hc3
        simp only [own_lt] at a1 a2
        rw [own_lt, own_maxT]
        split at hg <;> split at hg <;> split <;> omega
      refine hD _ (T8.setTop (mkF m 76 #[.val (.int p0), .val (.int p1), .val (.int v1), .val (.int (2147483639 : Int32)), .val (.int (2147483639 : Int32)), .val (.int p1), .val (.int v5)] [(.int (1 : Int32))])) (fun t k => ?_) ?_
      · show Steps p.tables e below (T8.setTop (mkF m 68 #[.val (.int p0), .val (.int p1), .val (.int v1), .val (.int (2147483639 : Int32)), .val (.int (2147483639 : Int32)), .val (.int p1), .val (.int v5)] [(.int (own_max p1 (2147483639 : Int32))), (.int v5)])) t
        refine XS.icmpNo X8.here hx rfl (hb hby at_68) rfl (flt hc9).2.2.1 ?_
        show Steps p.tables e below (T8.setTop (mkF m 71 #[.val (.int p0), .val (.int p1), .val (.int v1), .val (.int (2147483639 : Int32)), .val (.int (2147483639 : Int32)), .val (.int p1), .val (.int v5)] [])) t
        refine XS.iconst X8.here hx rfl (hb hby at_71) ?_
        show Steps p.tables e below (T8.setTop (mkF m 72 #[.val (.int p0), .val (.int p1), .val (.int v1), .val (.int (2147483639 : Int32)), .val (.int (2147483639 : Int32)), .val (.int p1), .val (.int v5)] [(.int (1 : Int32))])) t
        refine XS.goto X8.here hx rfl (pc0 := 72) (pc' := 76) rfl (hb hby at_72) (by decide) (by decide) ?_
        show Steps p.tables e below (T8.setTop (mkF m 76 #[.val (.int p0), .val (.int p1), .val (.int v1), .val (.int (2147483639 : Int32)), .val (.int (2147483639 : Int32)), .val (.int p1), .val (.int v5)] [(.int (1 : Int32))])) t
        exact k
      exact Own.retN hR X8 hx (t := .boolean) hret (by simp) (hb hby at_76) (by decide) (by decide) (by decide) ⟨rfl, N8⟩
    · obtain ⟨T10, _, L10, X10, ⟨rfl, Nq10, e10⟩, st10⟩ := Own.callS (y := (⟨"com/example/edom/edom/mapping/ArrayGrowth", "grownLength", "(II)I"⟩ : MethodName)) (W := 0) (argsL := [(.int v1), (.int p1)]) (rest := []) X0 hx hZ hown (hw _ (List.mem_of_getElem? (i := 3) rfl)) (hw _ (List.mem_of_getElem? (i := 4) rfl)) (hw _ (List.mem_of_getElem? (i := 5) rfl)) (hw _ (List.mem_of_getElem? (i := 6) rfl)) (by decide) e0 (rm3 l Z a0 hw [] v1 p1  h0 n0 ) (by decide) (by decide) (by decide) (by decide) (g := (mkF m 43 #[.val (.int p0), .val (.int p1), .val (.int v1), .val (.int (2147483639 : Int32)), .val (.int (2147483639 : Int32)), .val (.int (2147483639 : Int32)), .unset] [(.int p1), (.int v1)])) rfl (by rw [hml]; rfl) (lenOf pd_1 rfl) rfl (by show 2 * 0 + _ ≤ _; exact Nat.le_of_eq rfl) (hb hby at_43)
      have N10 := Fr.app N0 Nq10
      obtain ⟨v11, hv11⟩ : ∃ z : Int32, z = (own_grow v1 p1) := ⟨_, rfl⟩
      refine hD _ (T10.setTop (mkF m 52 #[.val (.int p0), .val (.int p1), .val (.int v1), .val (.int (2147483639 : Int32)), .val (.int (2147483639 : Int32)), .val (.int (2147483639 : Int32)), .val (.int v11)] [(.int (2147483639 : Int32)), (.int v11)])) (fun t k => ?_) ?_
      · show Steps p.tables e below (s₁.setTop (mkF m 28 #[.val (.int p0), .val (.int p1), .val (.int v1), .val (.int (2147483639 : Int32)), .val (.int (2147483639 : Int32)), .unset, .unset] [(.int (2147483639 : Int32)), (.int p1)])) t
        refine XS.icmpYes X0.here hx rfl (pc0 := 28) (pc' := 37) rfl (hb hby at_28) rfl (flt hc3).2.2.2 (by decide) (by decide) ?_
        show Steps p.tables e below (s₁.setTop (mkF m 37 #[.val (.int p0), .val (.int p1), .val (.int v1), .val (.int (2147483639 : Int32)), .val (.int (2147483639 : Int32)), .unset, .unset] [])) t
        refine XS.iload X0.here hx rfl (hb hby at_37) rfl ?_
        show Steps p.tables e below (s₁.setTop (mkF m 39 #[.val (.int p0), .val (.int p1), .val (.int v1), .val (.int (2147483639 : Int32)), .val (.int (2147483639 : Int32)), .unset, .unset] [(.int (2147483639 : Int32))])) t
        refine XS.istore X0.here hx rfl (hb hby at_39) rfl (l' := #[.val (.int p0), .val (.int p1), .val (.int v1), .val (.int (2147483639 : Int32)), .val (.int (2147483639 : Int32)), .val (.int (2147483639 : Int32)), .unset]) rfl ?_
        show Steps p.tables e below (s₁.setTop (mkF m 41 #[.val (.int p0), .val (.int p1), .val (.int v1), .val (.int (2147483639 : Int32)), .val (.int (2147483639 : Int32)), .val (.int (2147483639 : Int32)), .unset] [])) t
        refine XS.iloadN X0.here hx rfl (hb hby at_41) rfl ?_
        show Steps p.tables e below (s₁.setTop (mkF m 42 #[.val (.int p0), .val (.int p1), .val (.int v1), .val (.int (2147483639 : Int32)), .val (.int (2147483639 : Int32)), .val (.int (2147483639 : Int32)), .unset] [(.int v1)])) t
        refine XS.iloadN X0.here hx rfl (hb hby at_42) rfl ?_
        show Steps p.tables e below (s₁.setTop (mkF m 43 #[.val (.int p0), .val (.int p1), .val (.int v1), .val (.int (2147483639 : Int32)), .val (.int (2147483639 : Int32)), .val (.int (2147483639 : Int32)), .unset] [(.int p1), (.int v1)])) t
        refine st10 _ ?_
        show Steps p.tables e below (T10.setTop (mkF m 46 #[.val (.int p0), .val (.int p1), .val (.int v1), .val (.int (2147483639 : Int32)), .val (.int (2147483639 : Int32)), .val (.int (2147483639 : Int32)), .unset] [(.int (own_grow v1 p1))])) t
        refine Own.nmI hv11 ?_
        show Steps p.tables e below (T10.setTop (mkF m 46 #[.val (.int p0), .val (.int p1), .val (.int v1), .val (.int (2147483639 : Int32)), .val (.int (2147483639 : Int32)), .val (.int (2147483639 : Int32)), .unset] [(.int v11)])) t
        refine XS.istore X10.here hx rfl (hb hby at_46) rfl (l' := #[.val (.int p0), .val (.int p1), .val (.int v1), .val (.int (2147483639 : Int32)), .val (.int (2147483639 : Int32)), .val (.int (2147483639 : Int32)), .val (.int v11)]) rfl ?_
        show Steps p.tables e below (T10.setTop (mkF m 48 #[.val (.int p0), .val (.int p1), .val (.int v1), .val (.int (2147483639 : Int32)), .val (.int (2147483639 : Int32)), .val (.int (2147483639 : Int32)), .val (.int v11)] [])) t
        refine XS.iload X10.here hx rfl (hb hby at_48) rfl ?_
        show Steps p.tables e below (T10.setTop (mkF m 50 #[.val (.int p0), .val (.int p1), .val (.int v1), .val (.int (2147483639 : Int32)), .val (.int (2147483639 : Int32)), .val (.int (2147483639 : Int32)), .val (.int v11)] [(.int v11)])) t
        refine XS.iload X10.here hx rfl (hb hby at_50) rfl ?_
        show Steps p.tables e below (T10.setTop (mkF m 52 #[.val (.int p0), .val (.int p1), .val (.int v1), .val (.int (2147483639 : Int32)), .val (.int (2147483639 : Int32)), .val (.int (2147483639 : Int32)), .val (.int v11)] [(.int (2147483639 : Int32)), (.int v11)])) t
        exact k
      have hc12 : v11 = (2147483639 : Int32) := by
        have hl := own_mask hv1
        have hg := own_growT hv11 hl
        have e1 : (2147483639 : Int32).toInt = 2147483639 := by decide
        have e2 : (1073741819 : Int32).toInt = 1073741819 := by decide
        have a1 := hc2
        have a2 := hc3
        simp only [own_lt] at a1 a2
        rw [own_eq]
        split at hg <;> split at hg <;> omega
      refine hD _ (T10.setTop (mkF m 58 #[.val (.int p0), .val (.int p1), .val (.int v1), .val (.int (2147483639 : Int32)), .val (.int (2147483639 : Int32)), .val (.int (2147483639 : Int32)), .val (.int v11)] [(.int p1), (.int v11)])) (fun t k => ?_) ?_
      · show Steps p.tables e below (T10.setTop (mkF m 52 #[.val (.int p0), .val (.int p1), .val (.int v1), .val (.int (2147483639 : Int32)), .val (.int (2147483639 : Int32)), .val (.int (2147483639 : Int32)), .val (.int v11)] [(.int (2147483639 : Int32)), (.int v11)])) t
        refine XS.icmpNo X10.here hx rfl (hb hby at_52) rfl (teq hc12).2 ?_
        show Steps p.tables e below (T10.setTop (mkF m 55 #[.val (.int p0), .val (.int p1), .val (.int v1), .val (.int (2147483639 : Int32)), .val (.int (2147483639 : Int32)), .val (.int (2147483639 : Int32)), .val (.int v11)] [])) t
        refine XS.iload X10.here hx rfl (hb hby at_55) rfl ?_
        show Steps p.tables e below (T10.setTop (mkF m 57 #[.val (.int p0), .val (.int p1), .val (.int v1), .val (.int (2147483639 : Int32)), .val (.int (2147483639 : Int32)), .val (.int (2147483639 : Int32)), .val (.int v11)] [(.int v11)])) t
        refine XS.iloadN X10.here hx rfl (hb hby at_57) rfl ?_
        show Steps p.tables e below (T10.setTop (mkF m 58 #[.val (.int p0), .val (.int p1), .val (.int v1), .val (.int (2147483639 : Int32)), .val (.int (2147483639 : Int32)), .val (.int (2147483639 : Int32)), .val (.int v11)] [(.int p1), (.int v11)])) t
        exact k
      have hc13 : ¬ (v11 < p1) := by
        have hl := own_mask hv1
        have hg := own_growT hv11 hl
        have e1 : (2147483639 : Int32).toInt = 2147483639 := by decide
        have e2 : (1073741819 : Int32).toInt = 1073741819 := by decide
        have a1 := hc2
        have a2 := hc3
        simp only [own_lt] at a1 a2
        rw [own_lt]
        split at hg <;> split at hg <;> omega
      obtain ⟨T14, _, L14, X14, ⟨rfl, Nq14, e14⟩, st14⟩ := Own.callS (y := (⟨"java/lang/Math", "max", "(II)I"⟩ : MethodName)) (W := 1) (argsL := [(.int p1), (.int (2147483639 : Int32))]) (rest := [(.int v11)]) X10 hx hZ hown (hw _ (List.mem_of_getElem? (i := 16) rfl)) (hw _ (List.mem_of_getElem? (i := 14) rfl)) (hw _ (List.mem_of_getElem? (i := 11) rfl)) (hw _ (List.mem_of_getElem? (i := 15) rfl)) (by decide) e10 (rm2 l Z a0 hw [] p1 (2147483639 : Int32)  h0 n0 ) (by decide) (by decide) (by decide) (by decide) (g := (mkF m 65 #[.val (.int p0), .val (.int p1), .val (.int v1), .val (.int (2147483639 : Int32)), .val (.int (2147483639 : Int32)), .val (.int (2147483639 : Int32)), .val (.int v11)] [(.int (2147483639 : Int32)), (.int p1), (.int v11)])) rfl (by rw [hml]; rfl) (lenOf pd_1 rfl) rfl (by show 2 * 0 + _ ≤ _; exact Nat.le_of_eq rfl) (hb hby at_65)
      have N14 := Fr.app N10 Nq14
      refine hD _ (T14.setTop (mkF m 68 #[.val (.int p0), .val (.int p1), .val (.int v1), .val (.int (2147483639 : Int32)), .val (.int (2147483639 : Int32)), .val (.int (2147483639 : Int32)), .val (.int v11)] [(.int (own_max p1 (2147483639 : Int32))), (.int v11)])) (fun t k => ?_) ?_
      · show Steps p.tables e below (T10.setTop (mkF m 58 #[.val (.int p0), .val (.int p1), .val (.int v1), .val (.int (2147483639 : Int32)), .val (.int (2147483639 : Int32)), .val (.int (2147483639 : Int32)), .val (.int v11)] [(.int p1), (.int v11)])) t
        refine XS.icmpNo X10.here hx rfl (hb hby at_58) rfl (flt hc13).1 ?_
        show Steps p.tables e below (T10.setTop (mkF m 61 #[.val (.int p0), .val (.int p1), .val (.int v1), .val (.int (2147483639 : Int32)), .val (.int (2147483639 : Int32)), .val (.int (2147483639 : Int32)), .val (.int v11)] [])) t
        refine XS.iload X10.here hx rfl (hb hby at_61) rfl ?_
        show Steps p.tables e below (T10.setTop (mkF m 63 #[.val (.int p0), .val (.int p1), .val (.int v1), .val (.int (2147483639 : Int32)), .val (.int (2147483639 : Int32)), .val (.int (2147483639 : Int32)), .val (.int v11)] [(.int v11)])) t
        refine XS.iloadN X10.here hx rfl (hb hby at_63) rfl ?_
        show Steps p.tables e below (T10.setTop (mkF m 64 #[.val (.int p0), .val (.int p1), .val (.int v1), .val (.int (2147483639 : Int32)), .val (.int (2147483639 : Int32)), .val (.int (2147483639 : Int32)), .val (.int v11)] [(.int p1), (.int v11)])) t
        refine XS.iloadN X10.here hx rfl (hb hby at_64) rfl ?_
        show Steps p.tables e below (T10.setTop (mkF m 65 #[.val (.int p0), .val (.int p1), .val (.int v1), .val (.int (2147483639 : Int32)), .val (.int (2147483639 : Int32)), .val (.int (2147483639 : Int32)), .val (.int v11)] [(.int (2147483639 : Int32)), (.int p1), (.int v11)])) t
        refine st14 _ ?_
        show Steps p.tables e below (T14.setTop (mkF m 68 #[.val (.int p0), .val (.int p1), .val (.int v1), .val (.int (2147483639 : Int32)), .val (.int (2147483639 : Int32)), .val (.int (2147483639 : Int32)), .val (.int v11)] [(.int (own_max p1 (2147483639 : Int32))), (.int v11)])) t
        exact k
      have hc15 : ¬ ((own_max p1 (2147483639 : Int32)) < v11) := by
        have hl := own_mask hv1
        have hg := own_growT hv11 hl
        have e1 : (2147483639 : Int32).toInt = 2147483639 := by decide
        have e2 : (1073741819 : Int32).toInt = 1073741819 := by decide
        have a1 := hc2
        have a2 := hc3
        simp only [own_lt] at a1 a2
        rw [own_lt, own_maxT]
        split at hg <;> split at hg <;> split <;> omega
      refine hD _ (T14.setTop (mkF m 76 #[.val (.int p0), .val (.int p1), .val (.int v1), .val (.int (2147483639 : Int32)), .val (.int (2147483639 : Int32)), .val (.int (2147483639 : Int32)), .val (.int v11)] [(.int (1 : Int32))])) (fun t k => ?_) ?_
      · show Steps p.tables e below (T14.setTop (mkF m 68 #[.val (.int p0), .val (.int p1), .val (.int v1), .val (.int (2147483639 : Int32)), .val (.int (2147483639 : Int32)), .val (.int (2147483639 : Int32)), .val (.int v11)] [(.int (own_max p1 (2147483639 : Int32))), (.int v11)])) t
        refine XS.icmpNo X14.here hx rfl (hb hby at_68) rfl (flt hc15).2.2.1 ?_
        show Steps p.tables e below (T14.setTop (mkF m 71 #[.val (.int p0), .val (.int p1), .val (.int v1), .val (.int (2147483639 : Int32)), .val (.int (2147483639 : Int32)), .val (.int (2147483639 : Int32)), .val (.int v11)] [])) t
        refine XS.iconst X14.here hx rfl (hb hby at_71) ?_
        show Steps p.tables e below (T14.setTop (mkF m 72 #[.val (.int p0), .val (.int p1), .val (.int v1), .val (.int (2147483639 : Int32)), .val (.int (2147483639 : Int32)), .val (.int (2147483639 : Int32)), .val (.int v11)] [(.int (1 : Int32))])) t
        refine XS.goto X14.here hx rfl (pc0 := 72) (pc' := 76) rfl (hb hby at_72) (by decide) (by decide) ?_
        show Steps p.tables e below (T14.setTop (mkF m 76 #[.val (.int p0), .val (.int p1), .val (.int v1), .val (.int (2147483639 : Int32)), .val (.int (2147483639 : Int32)), .val (.int (2147483639 : Int32)), .val (.int v11)] [(.int (1 : Int32))])) t
        exact k
      exact Own.retN hR X14 hx (t := .boolean) hret (by simp) (hb hby at_76) (by decide) (by decide) (by decide) ⟨rfl, N14⟩
  · obtain ⟨v16, hv16⟩ : ∃ z : Int32, z = (v1 + v1) := ⟨_, rfl⟩
    refine hD _ (s₁.setTop (mkF m 28 #[.val (.int p0), .val (.int p1), .val (.int v1), .val (.int (2147483639 : Int32)), .val (.int v16), .unset, .unset] [(.int v16), (.int p1)])) (fun t k => ?_) ?_
    · show Steps p.tables e below (s₁.setTop (mkF m 11 #[.val (.int p0), .val (.int p1), .val (.int v1), .val (.int (2147483639 : Int32)), .unset, .unset, .unset] [(.int (1073741819 : Int32)), (.int v1)])) t
      refine XS.icmpNo X0.here hx rfl (hb hby at_11) rfl (flt hc2).2.2.1 ?_
      show Steps p.tables e below (s₁.setTop (mkF m 14 #[.val (.int p0), .val (.int p1), .val (.int v1), .val (.int (2147483639 : Int32)), .unset, .unset, .unset] [])) t
      refine XS.iloadN X0.here hx rfl (hb hby at_14) rfl ?_
      show Steps p.tables e below (s₁.setTop (mkF m 15 #[.val (.int p0), .val (.int p1), .val (.int v1), .val (.int (2147483639 : Int32)), .unset, .unset, .unset] [(.int v1)])) t
      refine XS.iloadN X0.here hx rfl (hb hby at_15) rfl ?_
      show Steps p.tables e below (s₁.setTop (mkF m 16 #[.val (.int p0), .val (.int p1), .val (.int v1), .val (.int (2147483639 : Int32)), .unset, .unset, .unset] [(.int v1), (.int v1)])) t
      refine XS.iadd X0.here hx rfl (hb hby at_16) rfl ?_
      show Steps p.tables e below (s₁.setTop (mkF m 17 #[.val (.int p0), .val (.int p1), .val (.int v1), .val (.int (2147483639 : Int32)), .unset, .unset, .unset] [(.int (v1 + v1))])) t
      refine Own.nmI hv16 ?_
      show Steps p.tables e below (s₁.setTop (mkF m 17 #[.val (.int p0), .val (.int p1), .val (.int v1), .val (.int (2147483639 : Int32)), .unset, .unset, .unset] [(.int v16)])) t
      refine XS.istore X0.here hx rfl (hb hby at_17) rfl (l' := #[.val (.int p0), .val (.int p1), .val (.int v1), .val (.int (2147483639 : Int32)), .val (.int v16), .unset, .unset]) rfl ?_
      show Steps p.tables e below (s₁.setTop (mkF m 19 #[.val (.int p0), .val (.int p1), .val (.int v1), .val (.int (2147483639 : Int32)), .val (.int v16), .unset, .unset] [])) t
      refine XS.goto X0.here hx rfl (pc0 := 19) (pc' := 25) rfl (hb hby at_19) (by decide) (by decide) ?_
      show Steps p.tables e below (s₁.setTop (mkF m 25 #[.val (.int p0), .val (.int p1), .val (.int v1), .val (.int (2147483639 : Int32)), .val (.int v16), .unset, .unset] [])) t
      refine XS.iloadN X0.here hx rfl (hb hby at_25) rfl ?_
      show Steps p.tables e below (s₁.setTop (mkF m 26 #[.val (.int p0), .val (.int p1), .val (.int v1), .val (.int (2147483639 : Int32)), .val (.int v16), .unset, .unset] [(.int p1)])) t
      refine XS.iload X0.here hx rfl (hb hby at_26) rfl ?_
      show Steps p.tables e below (s₁.setTop (mkF m 28 #[.val (.int p0), .val (.int p1), .val (.int v1), .val (.int (2147483639 : Int32)), .val (.int v16), .unset, .unset] [(.int v16), (.int p1)])) t
      exact k
    by_cases hc17 : v16 < p1
    · obtain ⟨T18, _, L18, X18, ⟨rfl, Nq18, e18⟩, st18⟩ := Own.callS (y := (⟨"com/example/edom/edom/mapping/ArrayGrowth", "grownLength", "(II)I"⟩ : MethodName)) (W := 0) (argsL := [(.int v1), (.int p1)]) (rest := []) X0 hx hZ hown (hw _ (List.mem_of_getElem? (i := 3) rfl)) (hw _ (List.mem_of_getElem? (i := 4) rfl)) (hw _ (List.mem_of_getElem? (i := 5) rfl)) (hw _ (List.mem_of_getElem? (i := 6) rfl)) (by decide) e0 (rm3 l Z a0 hw [] v1 p1  h0 n0 ) (by decide) (by decide) (by decide) (by decide) (g := (mkF m 43 #[.val (.int p0), .val (.int p1), .val (.int v1), .val (.int (2147483639 : Int32)), .val (.int v16), .val (.int p1), .unset] [(.int p1), (.int v1)])) rfl (by rw [hml]; rfl) (lenOf pd_1 rfl) rfl (by show 2 * 0 + _ ≤ _; exact Nat.le_of_eq rfl) (hb hby at_43)
      have N18 := Fr.app N0 Nq18
      obtain ⟨v19, hv19⟩ : ∃ z : Int32, z = (own_grow v1 p1) := ⟨_, rfl⟩
      refine hD _ (T18.setTop (mkF m 52 #[.val (.int p0), .val (.int p1), .val (.int v1), .val (.int (2147483639 : Int32)), .val (.int v16), .val (.int p1), .val (.int v19)] [(.int p1), (.int v19)])) (fun t k => ?_) ?_
      · show Steps p.tables e below (s₁.setTop (mkF m 28 #[.val (.int p0), .val (.int p1), .val (.int v1), .val (.int (2147483639 : Int32)), .val (.int v16), .unset, .unset] [(.int v16), (.int p1)])) t
        refine XS.icmpNo X0.here hx rfl (hb hby at_28) rfl (tlt hc17).2.2.2 ?_
        show Steps p.tables e below (s₁.setTop (mkF m 31 #[.val (.int p0), .val (.int p1), .val (.int v1), .val (.int (2147483639 : Int32)), .val (.int v16), .unset, .unset] [])) t
        refine XS.iloadN X0.here hx rfl (hb hby at_31) rfl ?_
        show Steps p.tables e below (s₁.setTop (mkF m 32 #[.val (.int p0), .val (.int p1), .val (.int v1), .val (.int (2147483639 : Int32)), .val (.int v16), .unset, .unset] [(.int p1)])) t
        refine XS.istore X0.here hx rfl (hb hby at_32) rfl (l' := #[.val (.int p0), .val (.int p1), .val (.int v1), .val (.int (2147483639 : Int32)), .val (.int v16), .val (.int p1), .unset]) rfl ?_
        show Steps p.tables e below (s₁.setTop (mkF m 34 #[.val (.int p0), .val (.int p1), .val (.int v1), .val (.int (2147483639 : Int32)), .val (.int v16), .val (.int p1), .unset] [])) t
        refine XS.goto X0.here hx rfl (pc0 := 34) (pc' := 41) rfl (hb hby at_34) (by decide) (by decide) ?_
        show Steps p.tables e below (s₁.setTop (mkF m 41 #[.val (.int p0), .val (.int p1), .val (.int v1), .val (.int (2147483639 : Int32)), .val (.int v16), .val (.int p1), .unset] [])) t
        refine XS.iloadN X0.here hx rfl (hb hby at_41) rfl ?_
        show Steps p.tables e below (s₁.setTop (mkF m 42 #[.val (.int p0), .val (.int p1), .val (.int v1), .val (.int (2147483639 : Int32)), .val (.int v16), .val (.int p1), .unset] [(.int v1)])) t
        refine XS.iloadN X0.here hx rfl (hb hby at_42) rfl ?_
        show Steps p.tables e below (s₁.setTop (mkF m 43 #[.val (.int p0), .val (.int p1), .val (.int v1), .val (.int (2147483639 : Int32)), .val (.int v16), .val (.int p1), .unset] [(.int p1), (.int v1)])) t
        refine st18 _ ?_
        show Steps p.tables e below (T18.setTop (mkF m 46 #[.val (.int p0), .val (.int p1), .val (.int v1), .val (.int (2147483639 : Int32)), .val (.int v16), .val (.int p1), .unset] [(.int (own_grow v1 p1))])) t
        refine Own.nmI hv19 ?_
        show Steps p.tables e below (T18.setTop (mkF m 46 #[.val (.int p0), .val (.int p1), .val (.int v1), .val (.int (2147483639 : Int32)), .val (.int v16), .val (.int p1), .unset] [(.int v19)])) t
        refine XS.istore X18.here hx rfl (hb hby at_46) rfl (l' := #[.val (.int p0), .val (.int p1), .val (.int v1), .val (.int (2147483639 : Int32)), .val (.int v16), .val (.int p1), .val (.int v19)]) rfl ?_
        show Steps p.tables e below (T18.setTop (mkF m 48 #[.val (.int p0), .val (.int p1), .val (.int v1), .val (.int (2147483639 : Int32)), .val (.int v16), .val (.int p1), .val (.int v19)] [])) t
        refine XS.iload X18.here hx rfl (hb hby at_48) rfl ?_
        show Steps p.tables e below (T18.setTop (mkF m 50 #[.val (.int p0), .val (.int p1), .val (.int v1), .val (.int (2147483639 : Int32)), .val (.int v16), .val (.int p1), .val (.int v19)] [(.int v19)])) t
        refine XS.iload X18.here hx rfl (hb hby at_50) rfl ?_
        show Steps p.tables e below (T18.setTop (mkF m 52 #[.val (.int p0), .val (.int p1), .val (.int v1), .val (.int (2147483639 : Int32)), .val (.int v16), .val (.int p1), .val (.int v19)] [(.int p1), (.int v19)])) t
        exact k
      have hc20 : v19 = p1 := by
        have hl := own_mask hv1
        have hg := own_growT hv19 hl
        have e1 : (2147483639 : Int32).toInt = 2147483639 := by decide
        have e2 : (1073741819 : Int32).toInt = 1073741819 := by decide
        have a1 := hc2
        have a2 := hc17
        simp only [own_lt] at a1 a2
        have hd : v16.toInt = 2 * v1.toInt := by rw [hv16, Jvm.Kit.i32_add] <;> omega
        rw [own_eq]
        split at hg <;> split at hg <;> omega
      refine hD _ (T18.setTop (mkF m 58 #[.val (.int p0), .val (.int p1), .val (.int v1), .val (.int (2147483639 : Int32)), .val (.int v16), .val (.int p1), .val (.int v19)] [(.int p1), (.int v19)])) (fun t k => ?_) ?_
      · show Steps p.tables e below (T18.setTop (mkF m 52 #[.val (.int p0), .val (.int p1), .val (.int v1), .val (.int (2147483639 : Int32)), .val (.int v16), .val (.int p1), .val (.int v19)] [(.int p1), (.int v19)])) t
        refine XS.icmpNo X18.here hx rfl (hb hby at_52) rfl (teq hc20).2 ?_
        show Steps p.tables e below (T18.setTop (mkF m 55 #[.val (.int p0), .val (.int p1), .val (.int v1), .val (.int (2147483639 : Int32)), .val (.int v16), .val (.int p1), .val (.int v19)] [])) t
        refine XS.iload X18.here hx rfl (hb hby at_55) rfl ?_
        show Steps p.tables e below (T18.setTop (mkF m 57 #[.val (.int p0), .val (.int p1), .val (.int v1), .val (.int (2147483639 : Int32)), .val (.int v16), .val (.int p1), .val (.int v19)] [(.int v19)])) t
        refine XS.iloadN X18.here hx rfl (hb hby at_57) rfl ?_
        show Steps p.tables e below (T18.setTop (mkF m 58 #[.val (.int p0), .val (.int p1), .val (.int v1), .val (.int (2147483639 : Int32)), .val (.int v16), .val (.int p1), .val (.int v19)] [(.int p1), (.int v19)])) t
        exact k
      have hc21 : ¬ (v19 < p1) := by
        have hl := own_mask hv1
        have hg := own_growT hv19 hl
        have e1 : (2147483639 : Int32).toInt = 2147483639 := by decide
        have e2 : (1073741819 : Int32).toInt = 1073741819 := by decide
        have a1 := hc2
        have a2 := hc17
        simp only [own_lt] at a1 a2
        have hd : v16.toInt = 2 * v1.toInt := by rw [hv16, Jvm.Kit.i32_add] <;> omega
        rw [own_lt]
        split at hg <;> split at hg <;> omega
      obtain ⟨T22, _, L22, X22, ⟨rfl, Nq22, e22⟩, st22⟩ := Own.callS (y := (⟨"java/lang/Math", "max", "(II)I"⟩ : MethodName)) (W := 1) (argsL := [(.int p1), (.int (2147483639 : Int32))]) (rest := [(.int v19)]) X18 hx hZ hown (hw _ (List.mem_of_getElem? (i := 16) rfl)) (hw _ (List.mem_of_getElem? (i := 14) rfl)) (hw _ (List.mem_of_getElem? (i := 11) rfl)) (hw _ (List.mem_of_getElem? (i := 15) rfl)) (by decide) e18 (rm2 l Z a0 hw [] p1 (2147483639 : Int32)  h0 n0 ) (by decide) (by decide) (by decide) (by decide) (g := (mkF m 65 #[.val (.int p0), .val (.int p1), .val (.int v1), .val (.int (2147483639 : Int32)), .val (.int v16), .val (.int p1), .val (.int v19)] [(.int (2147483639 : Int32)), (.int p1), (.int v19)])) rfl (by rw [hml]; rfl) (lenOf pd_1 rfl) rfl (by show 2 * 0 + _ ≤ _; exact Nat.le_of_eq rfl) (hb hby at_65)
      have N22 := Fr.app N18 Nq22
      refine hD _ (T22.setTop (mkF m 68 #[.val (.int p0), .val (.int p1), .val (.int v1), .val (.int (2147483639 : Int32)), .val (.int v16), .val (.int p1), .val (.int v19)] [(.int (own_max p1 (2147483639 : Int32))), (.int v19)])) (fun t k => ?_) ?_
      · show Steps p.tables e below (T18.setTop (mkF m 58 #[.val (.int p0), .val (.int p1), .val (.int v1), .val (.int (2147483639 : Int32)), .val (.int v16), .val (.int p1), .val (.int v19)] [(.int p1), (.int v19)])) t
        refine XS.icmpNo X18.here hx rfl (hb hby at_58) rfl (flt hc21).1 ?_
        show Steps p.tables e below (T18.setTop (mkF m 61 #[.val (.int p0), .val (.int p1), .val (.int v1), .val (.int (2147483639 : Int32)), .val (.int v16), .val (.int p1), .val (.int v19)] [])) t
        refine XS.iload X18.here hx rfl (hb hby at_61) rfl ?_
        show Steps p.tables e below (T18.setTop (mkF m 63 #[.val (.int p0), .val (.int p1), .val (.int v1), .val (.int (2147483639 : Int32)), .val (.int v16), .val (.int p1), .val (.int v19)] [(.int v19)])) t
        refine XS.iloadN X18.here hx rfl (hb hby at_63) rfl ?_
        show Steps p.tables e below (T18.setTop (mkF m 64 #[.val (.int p0), .val (.int p1), .val (.int v1), .val (.int (2147483639 : Int32)), .val (.int v16), .val (.int p1), .val (.int v19)] [(.int p1), (.int v19)])) t
        refine XS.iloadN X18.here hx rfl (hb hby at_64) rfl ?_
        show Steps p.tables e below (T18.setTop (mkF m 65 #[.val (.int p0), .val (.int p1), .val (.int v1), .val (.int (2147483639 : Int32)), .val (.int v16), .val (.int p1), .val (.int v19)] [(.int (2147483639 : Int32)), (.int p1), (.int v19)])) t
        refine st22 _ ?_
        show Steps p.tables e below (T22.setTop (mkF m 68 #[.val (.int p0), .val (.int p1), .val (.int v1), .val (.int (2147483639 : Int32)), .val (.int v16), .val (.int p1), .val (.int v19)] [(.int (own_max p1 (2147483639 : Int32))), (.int v19)])) t
        exact k
      have hc23 : ¬ ((own_max p1 (2147483639 : Int32)) < v19) := by
        have hl := own_mask hv1
        have hg := own_growT hv19 hl
        have e1 : (2147483639 : Int32).toInt = 2147483639 := by decide
        have e2 : (1073741819 : Int32).toInt = 1073741819 := by decide
        have a1 := hc2
        have a2 := hc17
        simp only [own_lt] at a1 a2
        have hd : v16.toInt = 2 * v1.toInt := by rw [hv16, Jvm.Kit.i32_add] <;> omega
        rw [own_lt, own_maxT]
        split at hg <;> split at hg <;> split <;> omega
      refine hD _ (T22.setTop (mkF m 76 #[.val (.int p0), .val (.int p1), .val (.int v1), .val (.int (2147483639 : Int32)), .val (.int v16), .val (.int p1), .val (.int v19)] [(.int (1 : Int32))])) (fun t k => ?_) ?_
      · show Steps p.tables e below (T22.setTop (mkF m 68 #[.val (.int p0), .val (.int p1), .val (.int v1), .val (.int (2147483639 : Int32)), .val (.int v16), .val (.int p1), .val (.int v19)] [(.int (own_max p1 (2147483639 : Int32))), (.int v19)])) t
        refine XS.icmpNo X22.here hx rfl (hb hby at_68) rfl (flt hc23).2.2.1 ?_
        show Steps p.tables e below (T22.setTop (mkF m 71 #[.val (.int p0), .val (.int p1), .val (.int v1), .val (.int (2147483639 : Int32)), .val (.int v16), .val (.int p1), .val (.int v19)] [])) t
        refine XS.iconst X22.here hx rfl (hb hby at_71) ?_
        show Steps p.tables e below (T22.setTop (mkF m 72 #[.val (.int p0), .val (.int p1), .val (.int v1), .val (.int (2147483639 : Int32)), .val (.int v16), .val (.int p1), .val (.int v19)] [(.int (1 : Int32))])) t
        refine XS.goto X22.here hx rfl (pc0 := 72) (pc' := 76) rfl (hb hby at_72) (by decide) (by decide) ?_
        show Steps p.tables e below (T22.setTop (mkF m 76 #[.val (.int p0), .val (.int p1), .val (.int v1), .val (.int (2147483639 : Int32)), .val (.int v16), .val (.int p1), .val (.int v19)] [(.int (1 : Int32))])) t
        exact k
      exact Own.retN hR X22 hx (t := .boolean) hret (by simp) (hb hby at_76) (by decide) (by decide) (by decide) ⟨rfl, N22⟩
    · obtain ⟨T24, _, L24, X24, ⟨rfl, Nq24, e24⟩, st24⟩ := Own.callS (y := (⟨"com/example/edom/edom/mapping/ArrayGrowth", "grownLength", "(II)I"⟩ : MethodName)) (W := 0) (argsL := [(.int v1), (.int p1)]) (rest := []) X0 hx hZ hown (hw _ (List.mem_of_getElem? (i := 3) rfl)) (hw _ (List.mem_of_getElem? (i := 4) rfl)) (hw _ (List.mem_of_getElem? (i := 5) rfl)) (hw _ (List.mem_of_getElem? (i := 6) rfl)) (by decide) e0 (rm3 l Z a0 hw [] v1 p1  h0 n0 ) (by decide) (by decide) (by decide) (by decide) (g := (mkF m 43 #[.val (.int p0), .val (.int p1), .val (.int v1), .val (.int (2147483639 : Int32)), .val (.int v16), .val (.int v16), .unset] [(.int p1), (.int v1)])) rfl (by rw [hml]; rfl) (lenOf pd_1 rfl) rfl (by show 2 * 0 + _ ≤ _; exact Nat.le_of_eq rfl) (hb hby at_43)
      have N24 := Fr.app N0 Nq24
      obtain ⟨v25, hv25⟩ : ∃ z : Int32, z = (own_grow v1 p1) := ⟨_, rfl⟩
      refine hD _ (T24.setTop (mkF m 52 #[.val (.int p0), .val (.int p1), .val (.int v1), .val (.int (2147483639 : Int32)), .val (.int v16), .val (.int v16), .val (.int v25)] [(.int v16), (.int v25)])) (fun t k => ?_) ?_
      · show Steps p.tables e below (s₁.setTop (mkF m 28 #[.val (.int p0), .val (.int p1), .val (.int v1), .val (.int (2147483639 : Int32)), .val (.int v16), .unset, .unset] [(.int v16), (.int p1)])) t
        refine XS.icmpYes X0.here hx rfl (pc0 := 28) (pc' := 37) rfl (hb hby at_28) rfl (flt hc17).2.2.2 (by decide) (by decide) ?_
        show Steps p.tables e below (s₁.setTop (mkF m 37 #[.val (.int p0), .val (.int p1), .val (.int v1), .val (.int (2147483639 : Int32)), .val (.int v16), .unset, .unset] [])) t
        refine XS.iload X0.here hx rfl (hb hby at_37) rfl ?_
        show Steps p.tables e below (s₁.setTop (mkF m 39 #[.val (.int p0), .val (.int p1), .val (.int v1), .val (.int (2147483639 : Int32)), .val (.int v16), .unset, .unset] [(.int v16)])) t
        refine XS.istore X0.here hx rfl (hb hby at_39) rfl (l' := #[.val (.int p0), .val (.int p1), .val (.int v1), .val (.int (2147483639 : Int32)), .val (.int v16), .val (.int v16), .unset]) rfl ?_
        show Steps p.tables e below (s₁.setTop (mkF m 41 #[.val (.int p0), .val (.int p1), .val (.int v1), .val (.int (2147483639 : Int32)), .val (.int v16), .val (.int v16), .unset] [])) t
        refine XS.iloadN X0.here hx rfl (hb hby at_41) rfl ?_
        show Steps p.tables e below (s₁.setTop (mkF m 42 #[.val (.int p0), .val (.int p1), .val (.int v1), .val (.int (2147483639 : Int32)), .val (.int v16), .val (.int v16), .unset] [(.int v1)])) t
        refine XS.iloadN X0.here hx rfl (hb hby at_42) rfl ?_
        show Steps p.tables e below (s₁.setTop (mkF m 43 #[.val (.int p0), .val (.int p1), .val (.int v1), .val (.int (2147483639 : Int32)), .val (.int v16), .val (.int v16), .unset] [(.int p1), (.int v1)])) t
        refine st24 _ ?_
        show Steps p.tables e below (T24.setTop (mkF m 46 #[.val (.int p0), .val (.int p1), .val (.int v1), .val (.int (2147483639 : Int32)), .val (.int v16), .val (.int v16), .unset] [(.int (own_grow v1 p1))])) t
        refine Own.nmI hv25 ?_
        show Steps p.tables e below (T24.setTop (mkF m 46 #[.val (.int p0), .val (.int p1), .val (.int v1), .val (.int (2147483639 : Int32)), .val (.int v16), .val (.int v16), .unset] [(.int v25)])) t
        refine XS.istore X24.here hx rfl (hb hby at_46) rfl (l' := #[.val (.int p0), .val (.int p1), .val (.int v1), .val (.int (2147483639 : Int32)), .val (.int v16), .val (.int v16), .val (.int v25)]) rfl ?_
        show Steps p.tables e below (T24.setTop (mkF m 48 #[.val (.int p0), .val (.int p1), .val (.int v1), .val (.int (2147483639 : Int32)), .val (.int v16), .val (.int v16), .val (.int v25)] [])) t
        refine XS.iload X24.here hx rfl (hb hby at_48) rfl ?_
        show Steps p.tables e below (T24.setTop (mkF m 50 #[.val (.int p0), .val (.int p1), .val (.int v1), .val (.int (2147483639 : Int32)), .val (.int v16), .val (.int v16), .val (.int v25)] [(.int v25)])) t
        refine XS.iload X24.here hx rfl (hb hby at_50) rfl ?_
        show Steps p.tables e below (T24.setTop (mkF m 52 #[.val (.int p0), .val (.int p1), .val (.int v1), .val (.int (2147483639 : Int32)), .val (.int v16), .val (.int v16), .val (.int v25)] [(.int v16), (.int v25)])) t
        exact k
      have hc26 : v25 = v16 := by
        have hl := own_mask hv1
        have hg := own_growT hv25 hl
        have e1 : (2147483639 : Int32).toInt = 2147483639 := by decide
        have e2 : (1073741819 : Int32).toInt = 1073741819 := by decide
        have a1 := hc2
        have a2 := hc17
        simp only [own_lt] at a1 a2
        have hd : v16.toInt = 2 * v1.toInt := by rw [hv16, Jvm.Kit.i32_add] <;> omega
        rw [own_eq]
        split at hg <;> split at hg <;> omega
      refine hD _ (T24.setTop (mkF m 58 #[.val (.int p0), .val (.int p1), .val (.int v1), .val (.int (2147483639 : Int32)), .val (.int v16), .val (.int v16), .val (.int v25)] [(.int p1), (.int v25)])) (fun t k => ?_) ?_
      · show Steps p.tables e below (T24.setTop (mkF m 52 #[.val (.int p0), .val (.int p1), .val (.int v1), .val (.int (2147483639 : Int32)), .val (.int v16), .val (.int v16), .val (.int v25)] [(.int v16), (.int v25)])) t
        refine XS.icmpNo X24.here hx rfl (hb hby at_52) rfl (teq hc26).2 ?_
        show Steps p.tables e below (T24.setTop (mkF m 55 #[.val (.int p0), .val (.int p1), .val (.int v1), .val (.int (2147483639 : Int32)), .val (.int v16), .val (.int v16), .val (.int v25)] [])) t
        refine XS.iload X24.here hx rfl (hb hby at_55) rfl ?_
        show Steps p.tables e below (T24.setTop (mkF m 57 #[.val (.int p0), .val (.int p1), .val (.int v1), .val (.int (2147483639 : Int32)), .val (.int v16), .val (.int v16), .val (.int v25)] [(.int v25)])) t
        refine XS.iloadN X24.here hx rfl (hb hby at_57) rfl ?_
        show Steps p.tables e below (T24.setTop (mkF m 58 #[.val (.int p0), .val (.int p1), .val (.int v1), .val (.int (2147483639 : Int32)), .val (.int v16), .val (.int v16), .val (.int v25)] [(.int p1), (.int v25)])) t
        exact k
      have hc27 : ¬ (v25 < p1) := by
        have hl := own_mask hv1
        have hg := own_growT hv25 hl
        have e1 : (2147483639 : Int32).toInt = 2147483639 := by decide
        have e2 : (1073741819 : Int32).toInt = 1073741819 := by decide
        have a1 := hc2
        have a2 := hc17
        simp only [own_lt] at a1 a2
        have hd : v16.toInt = 2 * v1.toInt := by rw [hv16, Jvm.Kit.i32_add] <;> omega
        rw [own_lt]
        split at hg <;> split at hg <;> omega
      obtain ⟨T28, _, L28, X28, ⟨rfl, Nq28, e28⟩, st28⟩ := Own.callS (y := (⟨"java/lang/Math", "max", "(II)I"⟩ : MethodName)) (W := 1) (argsL := [(.int p1), (.int (2147483639 : Int32))]) (rest := [(.int v25)]) X24 hx hZ hown (hw _ (List.mem_of_getElem? (i := 16) rfl)) (hw _ (List.mem_of_getElem? (i := 14) rfl)) (hw _ (List.mem_of_getElem? (i := 11) rfl)) (hw _ (List.mem_of_getElem? (i := 15) rfl)) (by decide) e24 (rm2 l Z a0 hw [] p1 (2147483639 : Int32)  h0 n0 ) (by decide) (by decide) (by decide) (by decide) (g := (mkF m 65 #[.val (.int p0), .val (.int p1), .val (.int v1), .val (.int (2147483639 : Int32)), .val (.int v16), .val (.int v16), .val (.int v25)] [(.int (2147483639 : Int32)), (.int p1), (.int v25)])) rfl (by rw [hml]; rfl) (lenOf pd_1 rfl) rfl (by show 2 * 0 + _ ≤ _; exact Nat.le_of_eq rfl) (hb hby at_65)
      have N28 := Fr.app N24 Nq28
      refine hD _ (T28.setTop (mkF m 68 #[.val (.int p0), .val (.int p1), .val (.int v1), .val (.int (2147483639 : Int32)), .val (.int v16), .val (.int v16), .val (.int v25)] [(.int (own_max p1 (2147483639 : Int32))), (.int v25)])) (fun t k => ?_) ?_
      · show Steps p.tables e below (T24.setTop (mkF m 58 #[.val (.int p0), .val (.int p1), .val (.int v1), .val (.int (2147483639 : Int32)), .val (.int v16), .val (.int v16), .val (.int v25)] [(.int p1), (.int v25)])) t
        refine XS.icmpNo X24.here hx rfl (hb hby at_58) rfl (flt hc27).1 ?_
        show Steps p.tables e below (T24.setTop (mkF m 61 #[.val (.int p0), .val (.int p1), .val (.int v1), .val (.int (2147483639 : Int32)), .val (.int v16), .val (.int v16), .val (.int v25)] [])) t
        refine XS.iload X24.here hx rfl (hb hby at_61) rfl ?_
        show Steps p.tables e below (T24.setTop (mkF m 63 #[.val (.int p0), .val (.int p1), .val (.int v1), .val (.int (2147483639 : Int32)), .val (.int v16), .val (.int v16), .val (.int v25)] [(.int v25)])) t
        refine XS.iloadN X24.here hx rfl (hb hby at_63) rfl ?_
        show Steps p.tables e below (T24.setTop (mkF m 64 #[.val (.int p0), .val (.int p1), .val (.int v1), .val (.int (2147483639 : Int32)), .val (.int v16), .val (.int v16), .val (.int v25)] [(.int p1), (.int v25)])) t
        refine XS.iloadN X24.here hx rfl (hb hby at_64) rfl ?_
        show Steps p.tables e below (T24.setTop (mkF m 65 #[.val (.int p0), .val (.int p1), .val (.int v1), .val (.int (2147483639 : Int32)), .val (.int v16), .val (.int v16), .val (.int v25)] [(.int (2147483639 : Int32)), (.int p1), (.int v25)])) t
        refine st28 _ ?_
        show Steps p.tables e below (T28.setTop (mkF m 68 #[.val (.int p0), .val (.int p1), .val (.int v1), .val (.int (2147483639 : Int32)), .val (.int v16), .val (.int v16), .val (.int v25)] [(.int (own_max p1 (2147483639 : Int32))), (.int v25)])) t
        exact k
      have hc29 : ¬ ((own_max p1 (2147483639 : Int32)) < v25) := by
        have hl := own_mask hv1
        have hg := own_growT hv25 hl
        have e1 : (2147483639 : Int32).toInt = 2147483639 := by decide
        have e2 : (1073741819 : Int32).toInt = 1073741819 := by decide
        have a1 := hc2
        have a2 := hc17
        simp only [own_lt] at a1 a2
        have hd : v16.toInt = 2 * v1.toInt := by rw [hv16, Jvm.Kit.i32_add] <;> omega
        rw [own_lt, own_maxT]
        split at hg <;> split at hg <;> split <;> omega
      refine hD _ (T28.setTop (mkF m 76 #[.val (.int p0), .val (.int p1), .val (.int v1), .val (.int (2147483639 : Int32)), .val (.int v16), .val (.int v16), .val (.int v25)] [(.int (1 : Int32))])) (fun t k => ?_) ?_
      · show Steps p.tables e below (T28.setTop (mkF m 68 #[.val (.int p0), .val (.int p1), .val (.int v1), .val (.int (2147483639 : Int32)), .val (.int v16), .val (.int v16), .val (.int v25)] [(.int (own_max p1 (2147483639 : Int32))), (.int v25)])) t
        refine XS.icmpNo X28.here hx rfl (hb hby at_68) rfl (flt hc29).2.2.1 ?_
        show Steps p.tables e below (T28.setTop (mkF m 71 #[.val (.int p0), .val (.int p1), .val (.int v1), .val (.int (2147483639 : Int32)), .val (.int v16), .val (.int v16), .val (.int v25)] [])) t
        refine XS.iconst X28.here hx rfl (hb hby at_71) ?_
        show Steps p.tables e below (T28.setTop (mkF m 72 #[.val (.int p0), .val (.int p1), .val (.int v1), .val (.int (2147483639 : Int32)), .val (.int v16), .val (.int v16), .val (.int v25)] [(.int (1 : Int32))])) t
        refine XS.goto X28.here hx rfl (pc0 := 72) (pc' := 76) rfl (hb hby at_72) (by decide) (by decide) ?_
        show Steps p.tables e below (T28.setTop (mkF m 76 #[.val (.int p0), .val (.int p1), .val (.int v1), .val (.int (2147483639 : Int32)), .val (.int v16), .val (.int v16), .val (.int v25)] [(.int (1 : Int32))])) t
        exact k
      exact Own.retN hR X28 hx (t := .boolean) hret (by simp) (hb hby at_76) (by decide) (by decide) (by decide) ⟨rfl, N28⟩
set_option maxRecDepth 65536 in
set_option maxHeartbeats 40000000 in
theorem comes_1 {Post : Tables → Env → Array Value → State → Outcome → State → Prop} (hpost : ∀ tb e args s v u, (limb_1_1.after args s (.returned v) u = true ∧ limb_1_2.after args s (.returned v) u = true ∧ True) → FrameEnd s (.returned v) u (Jvm.fieldLocs frame_1_writes args s ++ Jvm.arrayLocs frame_1_arrays args s ++ Jvm.staticLocs frame_1_statics s) 0 0 → Post tb e args s (.returned v) u) :
    ArmFor flags0 classFile x code maxLocals ret World_1 tables_1 room_1 Calls_1 rest_1 Pre_1 Post := by
  intro l hfl _ _ p e ha hc hk s m args below hf hA hF happ hP
  obtain ⟨hcalls, hrest, hpre⟩ := hP
  obtain ⟨-, -, -, hnamed, -, -, -, hat⟩ := (Spec.applies_iff hf).mp happ
  obtain ⟨hg, hn⟩ := and_e (Cond.before_iff.mp (show (Jvm.Cond.and given_1 narrow_1).before args s = true from hpre))
  obtain ⟨hcnt, hg0⟩ := and_e hg
  obtain ⟨ga0, hg1⟩ := and_e hg0
  obtain ⟨w0, w1, rfl⟩ : ∃ w0 w1 : Value, args = #[w0, w1] := by
    have hs : args.size = 2 := by simpa [Cond.value, given_1] using hcnt
    obtain ⟨L⟩ := args
    match L, hs with
    | [w0, w1], _ => exact ⟨w0, w1, rfl⟩
  have hw := fun d (hd : d ∈ tables_1) => atoms_spec (ws := Jvm.Cond.code x code maxLocals ret :: tables_1) hat d (List.mem_cons_of_mem _ hd)
  obtain ⟨i0, ei0⟩ := is_v ga0
  obtain rfl : w0 = (.int i0) := Option.some.inj ei0
  obtain ⟨i1, ei1⟩ := is_v hg1
  obtain rfl : w1 = (.int i1) := Option.some.inj ei1
  obtain ⟨n, o, h1, h2, h3, _, L, rfl, ⟨rfl, N⟩, hq⟩ := rm0 l s _ hw tables_1 i0 i1 s.heap s.heap.size  p e ha hc hk s m _ below hf ((Spec.applies_iff_loose hf).mp happ).1 ⟨rfl, State.Warmed39.refl s, rfl⟩ trivial
  refine ⟨n, _, h1, h2, h3, hpost _ _ _ _ _ _ ⟨Cond.after_iff.mpr rfl, Cond.after_iff.mpr (eq_i res_at (Term.int_eval (1)) rfl), trivial⟩ ⟨hq.1, hq.2.1, (hq.2.2.sift fun y hy => Or.inr (N y hy)).mono (by decide) (by decide)⟩⟩
theorem main_1_1 : Claimed_1_1 := comes_1 fun _ _ _ _ _ _ h hF => ⟨h.1, hF⟩
theorem main_1_2 : Claimed_1_2 := comes_1 fun _ _ _ _ _ _ h hF => ⟨h.2.1, hF⟩
end Jvm.Pilot.@@N@@
namespace Jvm.Pilot.@@N@@
open Jvm Jvm.ClassFile Sem Op Lib Jvm.Free Jvm.Stand Jvm.Pilot.@@N@@.Jvm.D
/-! MADE BY PROGRAM (witnessworld.py) out of the Statement's table words and the real class files: 10 classes; the members and pool entries that the words name. The judged class is class 1, her method 1. -/
namespace start1
open Jvm.ClassFile
def u (s : String) : CpInfo := .utf8 (stringToUtf16 s)
/-- a pool by its gaps: so many unusable entries, then the entry; so many at the end -/
def gap : Nat → List CpInfo → List CpInfo
  | 0, r => r
  | n + 1, r => .unusable :: gap n r
def poolList (es : List (Nat × CpInfo)) (last : Nat) : List CpInfo := es.foldr (fun e r => gap e.1 (e.2 :: r)) (gap last [])
def pool (es : List (Nat × CpInfo)) (last : Nat) : Array CpInfo := ⟨poolList es last⟩
def fileOf (pool : Array CpInfo) (this : Nat) (attrs : Array Attribute := #[]) (ms : Array MethodInfo := #[]) (fl : Nat := 33) (sup : Nat := 0) (ifs : Array Nat := #[]) (fds : Array FieldInfo := #[]) : ClassFile where
  minorVersion := 0
  majorVersion := 65
  constantPool := pool
  accessFlags := fl
  thisClass := this
  superClass := sup
  interfaces := ifs
  fields := fds
  methods := ms
  attributes := attrs
def plain (name : String) (sup : Option ClassId) : Class where
  name := name
  kind := .ordinary
  loader := none
  accessFlags := 33
  super := sup
  interfaces := #[]
  cf := none
  fields := #[]
  methods := #[]
  instanceTypes := #[]
  staticTypes := #[]
  resolved := #[]
  callSites := []
  init := .initialized
  statics := none
  mirror := none

def pool0 : Array CpInfo := pool [(5, u "<init>"), (0, u "()V"), (1, .class_ 10), (1, u "java/lang/Object")] 113

def k0m0 : Method := { name := "<init>", desc := "()V", sig := { parameters := [], returnType := none }, accessFlags := 1, code := none }
/-- java/lang/Object -/
def k0 : Class := { plain "java/lang/Object" none with
  accessFlags := 33
  interfaces := #[]
  cf := some (fileOf pool0 8 #[] #[{ accessFlags := 1, nameIndex := 5, descriptorIndex := 6, attributes := #[] }] 33 0 #[] #[])
  fields := #[]
  methods := #[k0m0]
  instanceTypes := #[]
  staticTypes := #[]
  resolved := Array.replicate 124 none
  statics := none }

def pool1 : Array CpInfo := pool [(2, .class_ 4), (1, u "java/lang/Object"), (0, u "<init>"), (0, u "()V"), (0, .integer 2147483647), (0, .integer 2147483639), (0, .integer 1073741819), (0, .methodref 11 12), (0, .class_ 13), (0, .nameAndType 14 15), (0, u "com/example/edom/edom/mapping/ArrayGrowth"), (0, u "grownLength"), (0, u "(II)I"), (0, .methodref 17 18), (0, .class_ 19), (0, .nameAndType 20 15), (0, u "java/lang/Math"), (0, u "max"), (0, .class_ 22), (0, u "com/example/edom/edom/mapping/ArrayGrowthGrownLengthPinLaw"), (2, u "law"), (0, u "(II)Z")] 3

def k1m0 : Method := { name := "<init>", desc := "()V", sig := { parameters := [], returnType := none }, accessFlags := 2, code := none }
def k1c1 : Code := { maxStack := 3, maxLocals := 7, code := code, exceptionTable := #[], attributes := #[] }
def k1m1 : Method := { name := "law", desc := "(II)Z", sig := { parameters := [.int, .int], returnType := some .boolean }, accessFlags := 9, code := some k1c1 }
/-- com/example/edom/edom/mapping/ArrayGrowthGrownLengthPinLaw -/
def k1 : Class := { plain "com/example/edom/edom/mapping/ArrayGrowthGrownLengthPinLaw" (some 0) with
  accessFlags := 49
  interfaces := #[]
  cf := some (fileOf pool1 21 #[] #[{ accessFlags := 2, nameIndex := 5, descriptorIndex := 6, attributes := #[] }, { accessFlags := 9, nameIndex := 25, descriptorIndex := 26, attributes := #[] }] 49 2 #[] #[])
  fields := #[]
  methods := #[k1m0, k1m1]
  instanceTypes := #[]
  staticTypes := #[]
  resolved := Array.replicate 30 none
  statics := none }

def pool2 : Array CpInfo := pool [(4, .class_ 6), (1, u "java/lang/Object"), (0, u "<init>"), (0, u "()V"), (0, .long 2), (1, .class_ 12), (0, u "com/example/edom/edom/mapping/ArrayGrowth"), (0, .long 2147483639), (1, .methodref 16 17), (0, .class_ 18), (0, .nameAndType 19 20), (0, u "java/lang/Math"), (0, u "min"), (0, u "(JJ)J"), (0, .methodref 16 22), (0, .nameAndType 23 24), (0, u "max"), (0, u "(II)I"), (0, u "LONGEST"), (0, u "I"), (4, u "grownLength")] 2

def k2m0 : Method := { name := "<init>", desc := "()V", sig := { parameters := [], returnType := none }, accessFlags := 2, code := none }
def k2c1 : Code := { maxStack := 5, maxLocals := 2, code := prog_13_method_2_code, exceptionTable := #[], attributes := #[] }
def k2m1 : Method := { name := "grownLength", desc := "(II)I", sig := { parameters := [.int, .int], returnType := some .int }, accessFlags := 8, code := some k2c1 }
/-- com/example/edom/edom/mapping/ArrayGrowth -/
def k2 : Class := { plain "com/example/edom/edom/mapping/ArrayGrowth" (some 0) with
  accessFlags := 32
  interfaces := #[]
  cf := some (fileOf pool2 11 #[] #[{ accessFlags := 2, nameIndex := 7, descriptorIndex := 8, attributes := #[] }, { accessFlags := 8, nameIndex := 31, descriptorIndex := 24, attributes := #[] }] 32 4 #[] #[{ accessFlags := 26, nameIndex := 25, descriptorIndex := 26, attributes := #[] }])
  fields := #[{ name := "LONGEST", type := .int, accessFlags := 26, slot := 0, constantValue := 0 }]
  methods := #[k2m0, k2m1]
  instanceTypes := #[]
  staticTypes := #[.int]
  resolved := Array.replicate 34 none
  statics := none }

def pool3 : Array CpInfo := pool [(1, .class_ 2), (0, u "java/lang/Math"), (1, .class_ 6), (1, u "java/lang/Object"), (0, u "<init>"), (0, u "()V"), (89, .class_ 100), (1, u "java/lang/Math$RandomNumberGeneratorHolder"), (20, u "(JJ)J"), (50, u "negativeZeroFloatBits"), (0, u "J"), (2, u "negativeZeroDoubleBits"), (21, u "max"), (2, u "min"), (43, u "$assertionsDisabled"), (0, u "Z"), (88, u "(II)I"), (2, u "twoToTheDoubleScaleDown"), (0, u "D"), (4, u "twoToTheDoubleScaleUp"), (9, u "E"), (3, u "PI"), (2, u "TAU"), (2, u "DEGREES_TO_RADIANS"), (0, u "RADIANS_TO_DEGREES")] 94

def k3m0 : Method := { name := "<init>", desc := "()V", sig := { parameters := [], returnType := none }, accessFlags := 2, code := none }
def k3c1 : Code := { maxStack := 2, maxLocals := 2, code := jdk_29_method_65_code, exceptionTable := #[], attributes := #[] }
def k3m1 : Method := { name := "max", desc := "(II)I", sig := { parameters := [.int, .int], returnType := some .int }, accessFlags := 9, code := some k3c1 }
def k3c2 : Code := { maxStack := 4, maxLocals := 4, code := jdk_29_method_70_code, exceptionTable := #[], attributes := #[] }
def k3m2 : Method := { name := "min", desc := "(JJ)J", sig := { parameters := [.long, .long], returnType := some .long }, accessFlags := 9, code := some k3c2 }
/-- java/lang/Math -/
def k3 : Class := { plain "java/lang/Math" (some 0) with
  accessFlags := 49
  interfaces := #[]
  cf := some (fileOf pool3 1 #[.nestMembers #[98]] #[{ accessFlags := 2, nameIndex := 7, descriptorIndex := 8, attributes := #[] }, { accessFlags := 9, nameIndex := 198, descriptorIndex := 335, attributes := #[] }, { accessFlags := 9, nameIndex := 201, descriptorIndex := 121, attributes := #[] }] 49 4 #[] #[{ accessFlags := 25, nameIndex := 354, descriptorIndex := 339, attributes := #[] }, { accessFlags := 25, nameIndex := 358, descriptorIndex := 339, attributes := #[] }, { accessFlags := 25, nameIndex := 361, descriptorIndex := 339, attributes := #[] }, { accessFlags := 26, nameIndex := 364, descriptorIndex := 339, attributes := #[] }, { accessFlags := 26, nameIndex := 365, descriptorIndex := 339, attributes := #[] }, { accessFlags := 26, nameIndex := 172, descriptorIndex := 173, attributes := #[] }, { accessFlags := 26, nameIndex := 176, descriptorIndex := 173, attributes := #[] }, { accessFlags := 8, nameIndex := 344, descriptorIndex := 339, attributes := #[] }, { accessFlags := 8, nameIndex := 338, descriptorIndex := 339, attributes := #[] }, { accessFlags := 4120, nameIndex := 245, descriptorIndex := 246, attributes := #[] }])
  fields := #[{ name := "E", type := .double, accessFlags := 25, slot := 0, constantValue := 0 }, { name := "PI", type := .double, accessFlags := 25, slot := 1, constantValue := 0 }, { name := "TAU", type := .double, accessFlags := 25, slot := 2, constantValue := 0 }, { name := "DEGREES_TO_RADIANS", type := .double, accessFlags := 26, slot := 3, constantValue := 0 }, { name := "RADIANS_TO_DEGREES", type := .double, accessFlags := 26, slot := 4, constantValue := 0 }, { name := "negativeZeroFloatBits", type := .long, accessFlags := 26, slot := 5, constantValue := 0 }, { name := "negativeZeroDoubleBits", type := .long, accessFlags := 26, slot := 6, constantValue := 0 }, { name := "twoToTheDoubleScaleUp", type := .double, accessFlags := 8, slot := 7, constantValue := 0 }, { name := "twoToTheDoubleScaleDown", type := .double, accessFlags := 8, slot := 8, constantValue := 0 }, { name := "$assertionsDisabled", type := .boolean, accessFlags := 4120, slot := 9, constantValue := 0 }]
  methods := #[k3m0, k3m1, k3m2]
  instanceTypes := #[]
  staticTypes := #[.double, .double, .double, .double, .double, .long, .long, .double, .double, .boolean]
  resolved := Array.replicate 460 none
  statics := none }

def pool4 : Array CpInfo := pool [(1, u "java/lang/Cloneable"), (0, .class_ 1), (0, u "java/lang/Object"), (0, .class_ 3)] 3

/-- java/lang/Cloneable -/
def k4 : Class := { plain "java/lang/Cloneable" (some 0) with
  accessFlags := 1537
  interfaces := #[]
  cf := some (fileOf pool4 2 #[] #[] 1537 4 #[] #[])
  fields := #[]
  methods := #[]
  instanceTypes := #[]
  staticTypes := #[]
  resolved := Array.replicate 8 none
  statics := none }

def pool5 : Array CpInfo := pool [(1, u "java/io/Serializable"), (0, .class_ 1), (0, u "java/lang/Object"), (0, .class_ 3)] 3

/-- java/io/Serializable -/
def k5 : Class := { plain "java/io/Serializable" (some 0) with
  accessFlags := 1537
  interfaces := #[]
  cf := some (fileOf pool5 2 #[] #[] 1537 4 #[] #[])
  fields := #[]
  methods := #[]
  instanceTypes := #[]
  staticTypes := #[]
  resolved := Array.replicate 8 none
  statics := none }

/-- the primitive byte -/
def k6 : Class := { plain "byte" none with kind := .primitive 'B', accessFlags := 0x411 }
/-- [B -/
def k7 : Class := { plain "[B" (some 0) with kind := .array 6 .byte, interfaces := #[4, 5], accessFlags := 1041 }

/-- the primitive int -/
def k8 : Class := { plain "int" none with kind := .primitive 'I', accessFlags := 0x411 }
/-- [I -/
def k9 : Class := { plain "[I" (some 0) with kind := .array 8 .int, interfaces := #[4, 5], accessFlags := 1041 }

def heap : Heap := #[]
def classes : Array Class := #[k0, k1, k2, k3, k4, k5, k6, k7, k8, k9]
def interned : List (Array UInt16 × Addr) := []
def slotsUsed : Nat := 0
def theMethod : MethodId := ⟨1, 1⟩
def args0 : Array Value := #[.int 7, .int 9]
def aboutOver (below : List Frame) : State where
  vm := { classes := classes, interned := interned.toArray }
  heap := heap
  slotsUsed := slotsUsed
  threads := #[{ frames := .invoking theMethod args0 :: below }]
def below0 : List Frame := [.native { method := ⟨0, 0⟩, args := #[] }]
def about1 : State := aboutOver below0
def p0 : Program := .bare "" "" ""
def e0 : Env := launch0.env 0 0 0
theorem w_frames : about1.frames = Frame.invoking theMethod args0 :: below0 := rfl
set_option maxRecDepth 65536 in
theorem w_args : argsFit about1.vm theMethod args0 = true := by decide +kernel
set_option maxRecDepth 65536 in
theorem w_heap : heapFits about1 = true := by decide +kernel
set_option maxRecDepth 65536 in
theorem w_runnable : about1.curStatus? = some .runnable := by decide +kernel
set_option maxRecDepth 65536 in
theorem w_alone : about1.alone = true := by decide +kernel
set_option maxRecDepth 65536 in
theorem w_named : about1.methodNamed? x = some theMethod := by decide +kernel
set_option maxRecDepth 65536 in
theorem w_hears : about1.hears theMethod below0 = true := by decide +kernel
set_option maxRecDepth 65536 in
theorem w_ripe : about1.ripe theMethod args0 below0 = true := by decide +kernel
theorem w_running : about1.status = .running := rfl
set_option maxRecDepth 65536 in
theorem w_room : about1.hasRoom e0.platform room_1 = true :=
  launch0.hasRoom_least _ room_1 (by decide +kernel) (by decide +kernel) (by decide +kernel) (by decide +kernel) (by decide +kernel) (by decide +kernel)
theorem allAtoms_all (ts : List Jvm.Cond) (a : Array Jvm.Value) (st : Jvm.State) : (allAtoms ts).before a st = ts.all (fun c => c.before a st) := by
  induction ts with
  | nil => rfl
  | cons c t ih =>
    show (Jvm.Cond.and c (allAtoms t)).before a st = _
    rw [Jvm.Cond.before_and, ih, List.all_cons]
def words1 : List Jvm.Cond := Jvm.Cond.code x code maxLocals ret :: tables_1
/-- a 'code' word, met by the world's own term for the bytes: nothing is compared byte by byte -/
theorem code_word {y : MethodName} {bytes : ByteArray} {mx : Nat} {rt : Option FieldType} {a : Array Value} {s : State} {m : MethodId} {meth : Method} {c : Code} (h1 : s.methodNamed? y = some m) (h2 : s.vm.method? m = some meth) (h3 : meth.code = some c) (h4 : c.code = bytes)
    (h5 : (c.maxLocals == mx && c.exceptionTable.isEmpty && decide (c.maxStack ≤ mostOperands) && decide (meth.sig.returnType = rt) && !meth.locks && decide (parseMethodDescriptor y.desc = some meth.sig)) = true) : (Jvm.Cond.code y bytes mx rt).before a s = true := by
  simp only [Bool.and_eq_true, beq_iff_eq, Bool.not_eq_true', decide_eq_true_eq] at h5
  obtain ⟨⟨⟨⟨⟨g1, g2⟩, g3⟩, g4⟩, g5⟩, g6⟩ := h5
  simp [Cond.before, Cond.holds, Cond.value, h1, h2, h3, h4, g1, g2, g3, g4, g5, g6]
def isCode : Jvm.Cond → Bool
  | .code _ _ _ _ => true
  | _ => false
theorem all_split {L : List Jvm.Cond} {P : Jvm.Cond → Bool} (h1 : L.all (fun c => isCode c || P c) = true) (h2 : ∀ c ∈ L.filter isCode, P c = true) : L.all P = true := by
  refine List.all_eq_true.mpr fun c hc => ?_
  have h := List.all_eq_true.mp h1 c hc
  rcases Bool.eq_false_or_eq_true (isCode c) with hi | hi
  · exact h2 c (List.mem_filter.mpr ⟨hc, hi⟩)
  · simpa [hi] using h
set_option maxRecDepth 65536 in
theorem w_c0 : (Jvm.Cond.code x code maxLocals ret).before args0 about1 = true := code_word (m := ⟨1, 1⟩) (meth := k1m1) (c := k1c1) (by decide +kernel) rfl rfl rfl (by decide +kernel)
set_option maxRecDepth 65536 in
theorem w_c1 : (Jvm.Cond.code ({ cls := "com/example/edom/edom/mapping/ArrayGrowth", name := "grownLength", desc := "(II)I" } : Jvm.MethodName) prog_13_method_2_code (2 : Nat) (Option.some Jvm.ClassFile.FieldType.int)).before args0 about1 = true := code_word (m := ⟨2, 1⟩) (meth := k2m1) (c := k2c1) (by decide +kernel) rfl rfl rfl (by decide +kernel)
set_option maxRecDepth 65536 in
theorem w_c2 : (Jvm.Cond.code ({ cls := "java/lang/Math", name := "min", desc := "(JJ)J" } : Jvm.MethodName) jdk_29_method_70_code (4 : Nat) (Option.some Jvm.ClassFile.FieldType.long)).before args0 about1 = true := code_word (m := ⟨3, 2⟩) (meth := k3m2) (c := k3c2) (by decide +kernel) rfl rfl rfl (by decide +kernel)
set_option maxRecDepth 65536 in
theorem w_c3 : (Jvm.Cond.code ({ cls := "java/lang/Math", name := "max", desc := "(II)I" } : Jvm.MethodName) jdk_29_method_65_code (2 : Nat) (Option.some Jvm.ClassFile.FieldType.int)).before args0 about1 = true := code_word (m := ⟨3, 1⟩) (meth := k3m1) (c := k3c1) (by decide +kernel) rfl rfl rfl (by decide +kernel)
def codes1 : List Jvm.Cond := [Jvm.Cond.code x code maxLocals ret, Jvm.Cond.code ({ cls := "com/example/edom/edom/mapping/ArrayGrowth", name := "grownLength", desc := "(II)I" } : Jvm.MethodName) prog_13_method_2_code (2 : Nat) (Option.some Jvm.ClassFile.FieldType.int), Jvm.Cond.code ({ cls := "java/lang/Math", name := "min", desc := "(JJ)J" } : Jvm.MethodName) jdk_29_method_70_code (4 : Nat) (Option.some Jvm.ClassFile.FieldType.long), Jvm.Cond.code ({ cls := "java/lang/Math", name := "max", desc := "(II)I" } : Jvm.MethodName) jdk_29_method_65_code (2 : Nat) (Option.some Jvm.ClassFile.FieldType.int)]
set_option maxRecDepth 65536 in
theorem codes_eq : words1.filter isCode = codes1 := rfl
theorem w_codes : ∀ c ∈ words1.filter isCode, c.before args0 about1 = true := by
  rw [codes_eq]
  intro c hc
  simp only [codes1, List.mem_cons, List.not_mem_nil, or_false] at hc
  rcases hc with rfl | rfl | rfl | rfl
  · exact w_c0
  · exact w_c1
  · exact w_c2
  · exact w_c3
set_option maxRecDepth 65536 in
theorem w_t1 : words1.all (fun c => isCode c || c.before args0 about1) = true := by decide +kernel
theorem w_tables : (allAtoms (Jvm.Cond.code x code maxLocals ret :: tables_1)).before args0 about1 = true := by
  rw [allAtoms_all]
  show words1.all (fun c => c.before args0 about1) = true
  refine all_split ?_ w_codes
  rw [w_t1]
set_option maxRecDepth 65536 in
theorem w_case : (Jvm.Cond.and given_1 narrow_1).before args0 about1 = true := by decide +kernel
theorem w_applies : (headSpec (Jvm.Cond.code x code maxLocals ret :: tables_1) room_1).applies x e0.platform about1 = true :=
  (Spec.applies_iff w_frames).mpr ⟨w_running, w_runnable, w_alone, w_named, w_hears, w_ripe, w_room, w_tables⟩
theorem atStart : AtStart classFile x code maxLocals ret World_1 tables_1 room_1 Calls_1 rest_1 Pre_1 launch0 p0 e0 about1 theMethod args0 below0 :=
  ⟨lists_1, trivial, launch0.admits_env _ _ _, launch0.least_env, fairChoices_fair.cas, fairChoices_fair.clock, w_frames, w_args, w_heap, w_applies, trivial, trivial, w_case⟩
end start1
theorem witness_1 : WitnessClaimed_1 := ⟨start1.p0, start1.e0, start1.about1, start1.theMethod, start1.args0, start1.below0, start1.atStart⟩
end Jvm.Pilot.@@N@@
