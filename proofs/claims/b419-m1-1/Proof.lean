import JvmDerived
import JvmDerived.Pilot.@@N@@Statement
import JvmDerived.Pilot.@@N@@Code
set_option linter.unusedVariables false
set_option linter.unusedSimpArgs false
@@BLOCK:NumsL.lean.txt@@
namespace Jvm.Own
open Sem ClassFile Op Lib Jvm.Stand Jvm.Free Jvm.LawKit Jvm.RoadKit
section Kit
variable {p : Program} {l : Launch} {e : Env} {R : Room} {s : State} {m : MethodId} {args : Array Value} {below : List Frame} {meth : Method} {c : Code} {T : State} {locs : List Loc} {cells slots : Nat} {Z : State} {a0 : Array Value} {h : Heap}
/-- D is closed under going back over steps -/
def Clo (p : Program) (e : Env) (below : List Frame) (D : State → Prop) : Prop := ∀ (U U' : State), (∀ t, Steps p.tables e below U' t → Steps p.tables e below U t) → D U' → D U
/-- D holds wherever the body returns with what Q says -/
def Ret (p : Program) (l : Launch) (e : Env) (R : Room) (s : State) (m : MethodId) (args : Array Value) (below : List Frame) (meth : Method) (c : Code) (Q : Option Value → Heap → List Loc → Prop) (C N : Nat) (D : State → Prop) : Prop :=
  ∀ (T : State) (locs : List Loc) (cells slots : Nat) (v : Option Value) (U : State), Stand p l e R s m args below meth c T locs cells slots → (meth.sig.returnType = none → v = none) → cells ≤ C → slots ≤ N → Q v T.heap locs →
    (∀ fs, (∀ (f : JFrame) (acts : List Action), f.method = m → f.locked = none → f.entered = [] → (doReturn e (T.setTop f) acts v).1 = T.setFrames fs) → Steps p.tables e below U (T.setFrames fs)) → D U
theorem enter {y : MethodName} {code : ByteArray} {maxL : Nat} {ret : Option FieldType} {ws : List Cond} {rm : Room} {as' : Array Value} {h0 : Heap} {Q : Option Value → Heap → List Loc → Prop} {C N : Nat} (hpl : plainFor y = true)
    (body : ∀ (p : Program) (e : Env) (s : State) (m : MethodId) (below : List Frame) (meth : Method) (c : Code) (s₁ : State) (D : State → Prop),
      p.tables.exec = Jvm.exec → c.code = code → c.maxLocals = maxL → s.vm.findClass y.cls = some m.cls → meth.name = y.name → meth.sig.returnType = ret → Z.Warmed39 s.vm → Stand p l e rm s m as' below meth c s₁ [] 0 0 → s₁.heap = h0 →
      Clo p e below D → Ret p l e rm s m as' below meth c Q C N D → D (s₁.setTop (entryFrame m as' maxL))) :
    MetFree l y (head1 (Jvm.Cond.code y code maxL ret :: ws) rm) (fun a U => a = as' ∧ Z.Warmed39 U.vm ∧ U.heap = h0) (fun _ _ _ _ _ => True) (fun _ U o U' => ∃ v L, o = .returned v ∧ Q v U'.heap L ∧ FrameEnd U o U' L C N) := by
  refine MetFree.of_bodySF hpl hisR ?_
  intro p e s m args below meth c s₁ Bd hml hP hK
  obtain ⟨rfl, hZ, hh⟩ := hP
  have X0 : Stand p l e rm s m args below meth c s₁ [] 0 0 := Stand.of_body Bd
  refine body p e s m below meth c s₁ (fun U => ∃ s₂ o, Steps p.tables e below U s₂ ∧ s₂.status = .running ∧ Ended s₂ below o ∧ ∃ v L, o = .returned v ∧ Q v s₂.heap L ∧ FrameEnd s o s₂ L C N) Bd.exec Bd.bytes hml (findClass_of_methodNamed Bd.named) (name_of_methodNamed Bd.named Bd.method).1 Bd.returns hZ X0 (by rw [← hh, Bd.state]; rfl) ?_ ?_
  · rintro U U' k ⟨s₂, o, st, r⟩
    exact ⟨s₂, o, k _ st, r⟩
  · intro T locs cells slots v U X hv hc hn hQ k
    obtain ⟨fs, hr, hrun, hended, hW, hsame⟩ := X.leave (v := v) hv
    exact ⟨_, _, k fs hr, hrun, hended, v, locs, rfl, hQ, ⟨_, rfl⟩, hW, hsame.mono hc hn⟩
theorem mono {c' n' : Nat} (X : Stand p l e R s m args below meth c T locs cells slots) (hc : cells ≤ c') (hn : slots ≤ n') : Stand p l e R s m args below meth c T locs c' n' :=
  { X with same := X.same.weaken (fun _ hy _ => hy) hc hn }
theorem forget {k : Nat} (X : Stand p l e R s m args below meth c T locs cells slots) (N : Fr k locs) (hk : s.heap.size ≤ k) : Stand p l e R s m args below meth c T [] cells slots :=
  { X with same := X.same.weaken (fun y hy hlt => absurd hlt (Nat.not_lt.mpr (Nat.le_trans hk (N y hy)))) (Nat.le_refl _) (Nat.le_refl _) }
variable {Q : Option Value → Heap → List Loc → Prop} {C N : Nat} {D : State → Prop}
theorem retI (hR : Ret p l e R s m args below meth c Q C N D) (X : Stand p l e R s m args below meth c T locs cells slots) (hx : p.tables.exec = Jvm.exec) {pc : Nat} {Ls : Array Slot} {z : Int32} {rest : List Value} (hret : meth.sig.returnType = some .int) (hd : decode c.code pc = .ok (.ireturn, 1)) (hc : cells ≤ C) (hn : slots ≤ N) (hQ : Q (some (.int z)) T.heap locs) : D (T.setTop (mkF m pc Ls (.int z :: rest))) := by
  refine hR T locs cells slots (some (.int z)) _ X (fun h => by rw [hret] at h; cases h) hc hn hQ fun fs hl => ?_
  have hm' : T.vm.method? m = some meth := X.method'
  have hn : narrow .int (.int z) = .int z := rfl
  show Steps p.tables e below (T.setTop { method := m, pc := pc, locals := Ls, stack := _ :: rest, locked := none }) _
  jvm_step X.here [X.here.top, hx, hd, hm', hret, hn]
  first | (intro acts; rw [hl _ acts rfl rfl rfl]) | rw [hl _ _ rfl rfl rfl]
  exact Steps.refl _
theorem retN (hR : Ret p l e R s m args below meth c Q C N D) (X : Stand p l e R s m args below meth c T locs cells slots) (hx : p.tables.exec = Jvm.exec) {pc : Nat} {Ls : Array Slot} {z : Int32} {t : FieldType} {rest : List Value} (hret : meth.sig.returnType = some t) (ht : t = .boolean ∨ t = .byte ∨ t = .char ∨ t = .short) (hd : decode c.code pc = .ok (.ireturn, 1)) (hc : cells ≤ C) (hn : slots ≤ N) (hz : nar t z = z) (hQ : Q (some (.int z)) T.heap locs) : D (T.setTop (mkF m pc Ls (.int z :: rest))) := by
  refine hR T locs cells slots (some (.int z)) _ X (fun h => by rw [hret] at h; cases h) hc hn hQ fun fs hl => ?_
  exact Jvm.RoadKit.retN X hx hret ht hd (by rw [hz]; exact hl)
theorem retJ (hR : Ret p l e R s m args below meth c Q C N D) (X : Stand p l e R s m args below meth c T locs cells slots) (hx : p.tables.exec = Jvm.exec) {pc : Nat} {Ls : Array Slot} {z : Int64} (hret : meth.sig.returnType = some .long) (hd : decode c.code pc = .ok (.lreturn, 1)) (hc : cells ≤ C) (hn : slots ≤ N) (hQ : Q (some (.long z)) T.heap locs) : D (T.setTop (mkF m pc Ls [.long z])) :=
  hR T locs cells slots (some (.long z)) _ X (fun h => by rw [hret] at h; cases h) hc hn hQ fun fs hl => X.lreturnOut hx hret hd hl
theorem retA (hR : Ret p l e R s m args below meth c Q C N D) (X : Stand p l e R s m args below meth c T locs cells slots) (hx : p.tables.exec = Jvm.exec) {pc : Nat} {Ls : Array Slot} {w : Value} {t : FieldType} (hw : w.isRef = true) (hret : meth.sig.returnType = some t) (ht : t.isReference = true) (hd : decode c.code pc = .ok (.areturn, 1)) (hc : cells ≤ C) (hn : slots ≤ N) (hQ : Q (some w) T.heap locs) : D (T.setTop (mkF m pc Ls [w])) :=
  hR T locs cells slots (some w) _ X (fun h => by rw [hret] at h; cases h) hc hn hQ fun fs hl => X.areturnOut hx hw hret ht hd hl
theorem retV (hR : Ret p l e R s m args below meth c Q C N D) (X : Stand p l e R s m args below meth c T locs cells slots) (hx : p.tables.exec = Jvm.exec) {pc : Nat} {Ls : Array Slot} (hret : meth.sig.returnType = none) (hd : decode c.code pc = .ok (.return_, 1)) (hc : cells ≤ C) (hn : slots ≤ N) (hQ : Q none T.heap locs) : D (T.setTop (mkF m pc Ls [])) :=
  hR T locs cells slots none _ X (fun _ => rfl) hc hn hQ fun fs hl => X.returnOut hx hret hd hl
/-! calls -/
variable {y z : MethodName} {bytes : ByteArray} {maxL : Nat} {ret : Option FieldType} {rm : Room} {W : Nat} {Qc : Option Value → Heap → List Loc → Prop} {own Cn : String} {index : Nat} {g : JFrame} {argsL rest : List Value} {a : Addr}
theorem callS (X : Stand p l e R s m args below meth c T locs cells slots) (hx : p.tables.exec = Jvm.exec) (hZ : Z.Warmed39 s.vm) (hown : s.vm.findClass own = some m.cls)
    (w1 : (Cond.methodLink own index y).before a0 Z = true) (w2 : (Cond.static y).before a0 Z = true) (w3 : (Cond.initialized y.cls).before a0 Z = true) (w4 : (Cond.code y bytes maxL ret).before a0 Z = true)
    (hy : y.cls ≠ "java/lang/invoke/MethodHandle" ∧ y.cls ≠ "java/lang/invoke/VarHandle") (e0 : T.heap = h)
    (hM : MetFree l y (head1 [Cond.code y bytes maxL ret] rm) (fun a U => a = argsL.toArray ∧ Z.Warmed39 U.vm ∧ U.heap = h) (fun _ _ _ _ _ => True) (fun _ U o U' => ∃ v L, o = .returned v ∧ Qc v U'.heap L ∧ FrameEnd U o U' L rm.cells rm.slots))
    (hf : rm.frames + 1 ≤ R.frames) (hl : W + (maxL + 11) + rm.locals ≤ R.locals) (hcells : cells + rm.cells ≤ R.cells) (hslots : slots + rm.slots ≤ R.slots)
    (hg : g.method = m) (hsize : g.locals.size = c.maxLocals) (hlen : ∀ sig, parseMethodDescriptor y.desc = some sig → argsL.length = sig.parameters.length)
    (hstack : g.stack = argsL.reverse ++ rest) (hW : 2 * g.monitorRoom + (rest.map fun v => v.category).sum ≤ W) (hdg : decode c.code g.pc = .ok (.invokestatic index, 3)) :
    ∃ (T' : State) (v : Option Value) (L : List Loc), Stand p l e R s m args below meth c T' (locs ++ L) (cells + rm.cells) (slots + rm.slots) ∧ Qc v T'.heap L ∧
      ∀ t, Steps p.tables e below (T'.setTop { g with pc := g.pc + 3, stack := v.toList ++ rest }) t → Steps p.tables e below (T.setTop g) t := by
  obtain ⟨v, _, ⟨T', L', k', n'⟩, -, X', ⟨Lc, hQ, l1, y1, z1⟩, st⟩ := Jvm.LawKit.callS X hx (y := y) hown (mvT hZ w1) (mvT hZ w2) (mvT hZ w3) (mvT hZ w4) hy (backOf (W := W) hM hZ w4 w3 hf hl) hg hsize hlen hstack hW hdg (fun _ _ => ⟨rfl, e0, hcells, hslots⟩)
  dsimp only [Pt.U, Pt.locs, Pt.cells, Pt.slots] at X' l1 y1 z1 st hQ
  subst l1 y1 z1
  exact ⟨T', v, Lc, X', hQ, st⟩
theorem callI (X : Stand p l e R s m args below meth c T locs cells slots) (hx : p.tables.exec = Jvm.exec) (hZ : Z.Warmed39 s.vm) (hown : s.vm.findClass own = some m.cls) (hy1 : y.name = "<init>")
    (w1 : (Cond.methodLink own index y).before a0 Z = true) (w2 : (Cond.instanceMethod y).before a0 Z = true) (w3 : (Cond.initialized y.cls).before a0 Z = true) (w4 : (Cond.code y bytes maxL none).before a0 Z = true)
    (hy : y.cls ≠ "java/lang/invoke/MethodHandle" ∧ y.cls ≠ "java/lang/invoke/VarHandle") (e0 : T.heap = h)
    (hM : MetFree l y (head1 [Cond.code y bytes maxL none] rm) (fun q U => q = (.ref a :: argsL).toArray ∧ Z.Warmed39 U.vm ∧ U.heap = h) (fun _ _ _ _ _ => True) (fun _ U o U' => ∃ v L, o = .returned v ∧ Qc v U'.heap L ∧ FrameEnd U o U' L rm.cells rm.slots))
    (hf : rm.frames + 1 ≤ R.frames) (hl : W + (maxL + 11) + rm.locals ≤ R.locals) (hcells : cells + rm.cells ≤ R.cells) (hslots : slots + rm.slots ≤ R.slots)
    (hg : g.method = m) (hsize : g.locals.size = c.maxLocals) (hlen : ∀ sig, parseMethodDescriptor y.desc = some sig → argsL.length = sig.parameters.length)
    (hstack : g.stack = argsL.reverse ++ .ref a :: rest) (hW : 2 * g.monitorRoom + (rest.map fun v => v.category).sum ≤ W) (hdg : decode c.code g.pc = .ok (.invokespecial index, 3)) :
    ∃ (T' : State) (v : Option Value) (L : List Loc), Stand p l e R s m args below meth c T' (locs ++ L) (cells + rm.cells) (slots + rm.slots) ∧ Qc v T'.heap L ∧
      ∀ t, Steps p.tables e below (T'.setTop { g with pc := g.pc + 3, stack := v.toList ++ rest }) t → Steps p.tables e below (T.setTop g) t := by
  obtain ⟨v, _, ⟨T', L', k', n'⟩, -, X', ⟨Lc, hQ, l1, y1, z1⟩, st⟩ := X.specialBack hx (y := y) hy1 hown (mvT hZ w1) (mvT hZ w2) (mvT hZ w4) hy (backOf (W := W) hM hZ w4 w3 hf hl) hg hsize (Steps.refl _) hlen hstack hW hdg (fun _ _ => ⟨rfl, e0, hcells, hslots⟩)
  dsimp only [Pt.U, Pt.locs, Pt.cells, Pt.slots] at X' l1 y1 z1 st hQ
  subst l1 y1 z1
  exact ⟨T', v, Lc, X', hQ, fun t k => st.trans k⟩
theorem callV (X : Stand p l e R s m args below meth c T locs cells slots) (hx : p.tables.exec = Jvm.exec) (hZ : Z.Warmed39 s.vm) (hown : s.vm.findClass own = some m.cls)
    (w1 : (Cond.methodLink own index y).before a0 Z = true) (w5 : (Cond.declares y).before a0 Z = true) (w6 : (Cond.selects Cn y y).before a0 Z = true) (w2 : (Cond.instanceMethod y).before a0 Z = true) (w3 : (Cond.initialized y.cls).before a0 Z = true) (w4 : (Cond.code y bytes maxL ret).before a0 Z = true)
    (hy : y.cls ≠ "java/lang/invoke/MethodHandle" ∧ y.cls ≠ "java/lang/invoke/VarHandle") (e0 : T.heap = h) (E : Exa Z h a Cn)
    (hM : MetFree l y (head1 [Cond.code y bytes maxL ret] rm) (fun q U => q = (.ref a :: argsL).toArray ∧ Z.Warmed39 U.vm ∧ U.heap = h) (fun _ _ _ _ _ => True) (fun _ U o U' => ∃ v L, o = .returned v ∧ Qc v U'.heap L ∧ FrameEnd U o U' L rm.cells rm.slots))
    (hf : rm.frames + 1 ≤ R.frames) (hl : W + (maxL + 11) + rm.locals ≤ R.locals) (hcells : cells + rm.cells ≤ R.cells) (hslots : slots + rm.slots ≤ R.slots)
    (hg : g.method = m) (hsize : g.locals.size = c.maxLocals) (hlen : ∀ sig, parseMethodDescriptor y.desc = some sig → argsL.length = sig.parameters.length)
    (hstack : g.stack = argsL.reverse ++ .ref a :: rest) (hW : 2 * g.monitorRoom + (rest.map fun v => v.category).sum ≤ W) (hdg : decode c.code g.pc = .ok (.invokevirtual index, 3)) :
    ∃ (T' : State) (v : Option Value) (L : List Loc), Stand p l e R s m args below meth c T' (locs ++ L) (cells + rm.cells) (slots + rm.slots) ∧ Qc v T'.heap L ∧
      ∀ t, Steps p.tables e below (T'.setTop { g with pc := g.pc + 3, stack := v.toList ++ rest }) t → Steps p.tables e below (T.setTop g) t := by
  obtain ⟨cq, kq, q1, q2, q3⟩ := isOf hZ e0 E
  obtain ⟨v, _, ⟨T', L', k', n'⟩, -, X', ⟨Lc, hQ, l1, y1, z1⟩, st⟩ := X.virtualBack hx (y := y) (z := y) hown (mvT hZ w1) (mvT hZ w5) (notFace_of_selects (args := #[]) (mvT hZ w6)) (mvT hZ w6) (mvT hZ w2) hy (backOf (W := W) hM hZ w4 w3 hf hl) q1 q3 hg hsize (Steps.refl _) hlen hstack hW hdg (fun _ _ => ⟨rfl, e0, hcells, hslots⟩)
  dsimp only [Pt.U, Pt.locs, Pt.cells, Pt.slots] at X' l1 y1 z1 st hQ
  subst l1 y1 z1
  exact ⟨T', v, Lc, X', hQ, fun t k => st.trans k⟩
/-! arrays, as functions of the place -/
def AvI (Z : State) (h : Heap) (a : Addr) (ty : FieldType) (n : Nat) (f : Nat → Int32) : Prop := ∃ c : Cell, Arr Z h a c ty ∧ c.slots.size = n ∧ n < 2 ^ 31 ∧ ∀ i, i < n → c.slots[i]? = some (.int (f i))
def AvJ (Z : State) (h : Heap) (a : Addr) (n : Nat) (f : Nat → Int64) : Prop := ∃ c : Cell, Arr Z h a c .long ∧ c.slots.size = n ∧ n < 2 ^ 31 ∧ ∀ i, i < n → c.slots[i]? = some (.long (f i))
variable {h' : Heap} {ty : FieldType} {n : Nat} {f f' : Nat → Int32} {fj fj' : Nat → Int64} {j x : Int32} {xl : Int64} {b : Addr} {sl : Nat} {v : Value} {ws : List Addr}
theorem clamp (hj : 0 ≤ j.toInt ∧ j.toInt < n) : j.toNatClampNeg = j.toInt.toNat ∧ ¬ j < 0 := by
  refine ⟨rfl, ?_⟩
  rw [Int32.lt_iff_toInt_lt, Int32.toInt_zero]; omega
theorem inb {c : Cell} (S : c.slots.size = n) (hj : 0 ≤ j.toInt ∧ j.toInt < n) : ¬ (j < 0 ∨ c.slots.size ≤ j.toNatClampNeg) := by
  have q := clamp hj
  rw [q.1, S]
  intro w
  rcases w with w | w
  · exact q.2 w
  · omega
theorem AvI.lt (A : AvI Z h a ty n f) : a < h.size := by obtain ⟨c, A, -⟩ := A; exact A.lt
theorem AvJ.lt (A : AvJ Z h a n fj) : a < h.size := by obtain ⟨c, A, -⟩ := A; exact A.lt
theorem AvI.ext (A : AvI Z h a ty n f) (E : Ext h h') : AvI Z h' a ty n f := by obtain ⟨c, A, r⟩ := A; exact ⟨c, A.ext E, r⟩
theorem AvJ.ext (A : AvJ Z h a n fj) (E : Ext h h') : AvJ Z h' a n fj := by obtain ⟨c, A, r⟩ := A; exact ⟨c, A.ext E, r⟩
theorem AvI.other (A : AvI Z h b ty n f) (W : Wr h h' a sl v) (q : b ≠ a) : AvI Z h' b ty n f := by obtain ⟨c, A, r⟩ := A; exact ⟨c, A.other W q, r⟩
theorem AvJ.other (A : AvJ Z h b n fj) (W : Wr h h' a sl v) (q : b ≠ a) : AvJ Z h' b n fj := by obtain ⟨c, A, r⟩ := A; exact ⟨c, A.other W q, r⟩
theorem AvI.keep (A : AvI Z h a ty n f) (K : Keep h h' ws) (q : a ∉ ws) : AvI Z h' a ty n f := by obtain ⟨c, A, r⟩ := A; exact ⟨c, ⟨K.2.1 a c A.1 q, A.2⟩, r⟩
theorem AvJ.keep (A : AvJ Z h a n fj) (K : Keep h h' ws) (q : a ∉ ws) : AvJ Z h' a n fj := by obtain ⟨c, A, r⟩ := A; exact ⟨c, ⟨K.2.1 a c A.1 q, A.2⟩, r⟩
theorem AvI.congr (A : AvI Z h a ty n f) (q : ∀ i, i < n → f' i = f i) : AvI Z h a ty n f' := by obtain ⟨c, A, S, M, H⟩ := A; exact ⟨c, A, S, M, fun i hi => by rw [q i hi]; exact H i hi⟩
theorem AvJ.congr (A : AvJ Z h a n fj) (q : ∀ i, i < n → fj' i = fj i) : AvJ Z h a n fj' := by obtain ⟨c, A, S, M, H⟩ := A; exact ⟨c, A, S, M, fun i hi => by rw [q i hi]; exact H i hi⟩
theorem AvI.new {cA : ClassId} {z : Int32} (A : Arr Z h a (newA cA ty z) ty) (hz : z.toInt = n) (hd : defaultValue ty = .int 0) : AvI Z h a ty n (fun _ => 0) := by
  have q : z.toNatClampNeg = n := by show z.toInt.toNat = n; omega
  refine ⟨_, A, by rw [sz_new]; exact q, by have := z.toInt_lt; omega, fun i hi => ?_⟩
  simp [newA, q, hi, hd]
theorem AvJ.new {cA : ClassId} {z : Int32} (A : Arr Z h a (newA cA .long z) .long) (hz : z.toInt = n) : AvJ Z h a n (fun _ => 0) := by
  have q : z.toNatClampNeg = n := by show z.toInt.toNat = n; omega
  refine ⟨_, A, by rw [sz_new]; exact q, by have := z.toInt_lt; omega, fun i hi => ?_⟩
  simp [newA, q, hi, defaultValue]
theorem len_nat {c : Cell} (S : c.slots.size = n) (M : n < 2 ^ 31) : c.slots.size.toInt32 = Int32.ofNat n := by rw [S]
theorem lenI (X : Stand p l e R s m args below meth c T locs cells slots) (hx : p.tables.exec = Jvm.exec) (hZ : Z.Warmed39 s.vm) (e0 : T.heap = h) (A : AvI Z h a ty n f) (hg : g.method = m) (hs : g.stack = .ref a :: rest) (hd : decode c.code g.pc = .ok (.arraylength, 1)) :
    ∀ t, Steps p.tables e below (T.setTop { g with pc := g.pc + 1, stack := .int (Int32.ofNat n) :: rest }) t → Steps p.tables e below (T.setTop g) t := by
  obtain ⟨c, A, S, M, H⟩ := A
  intro t k
  refine X.arraylength hx (by rw [e0]; exact A.1) (State.isArrayOf_alike hZ.alike A.2.1) hg hs hd _ ?_
  rw [len_nat S M]; exact k
theorem lenJ (X : Stand p l e R s m args below meth c T locs cells slots) (hx : p.tables.exec = Jvm.exec) (hZ : Z.Warmed39 s.vm) (e0 : T.heap = h) (A : AvJ Z h a n fj) (hg : g.method = m) (hs : g.stack = .ref a :: rest) (hd : decode c.code g.pc = .ok (.arraylength, 1)) :
    ∀ t, Steps p.tables e below (T.setTop { g with pc := g.pc + 1, stack := .int (Int32.ofNat n) :: rest }) t → Steps p.tables e below (T.setTop g) t := by
  obtain ⟨c, A, S, M, H⟩ := A
  intro t k
  refine X.arraylength hx (by rw [e0]; exact A.1) (State.isArrayOf_alike hZ.alike A.2.1) hg hs hd _ ?_
  rw [len_nat S M]; exact k
theorem ldI (X : Stand p l e R s m args below meth c T locs cells slots) (hx : p.tables.exec = Jvm.exec) (hZ : Z.Warmed39 s.vm) (e0 : T.heap = h) (A : AvI Z h a .int n f) (hj : 0 ≤ j.toInt ∧ j.toInt < n) (hg : g.method = m) (hs : g.stack = .int j :: .ref a :: rest) (hd : decode c.code g.pc = .ok (.iaload, 1)) :
    ∀ t, Steps p.tables e below (T.setTop { g with pc := g.pc + 1, stack := .int (f j.toInt.toNat) :: rest }) t → Steps p.tables e below (T.setTop g) t := by
  obtain ⟨c, A, S, M, H⟩ := A
  exact fun t k => X.iaload hx (by rw [e0]; exact A.1) (State.isArrayOf_alike hZ.alike A.2.1) A.2.2 (inb S hj) (by rw [(clamp hj).1]; exact H _ (by omega)) hg hs hd _ k
theorem ldJ (X : Stand p l e R s m args below meth c T locs cells slots) (hx : p.tables.exec = Jvm.exec) (hZ : Z.Warmed39 s.vm) (e0 : T.heap = h) (A : AvJ Z h a n fj) (hj : 0 ≤ j.toInt ∧ j.toInt < n) (hg : g.method = m) (hs : g.stack = .int j :: .ref a :: rest) (hd : decode c.code g.pc = .ok (.laload, 1)) :
    ∀ t, Steps p.tables e below (T.setTop { g with pc := g.pc + 1, stack := .long (fj j.toInt.toNat) :: rest }) t → Steps p.tables e below (T.setTop g) t := by
  obtain ⟨c, A, S, M, H⟩ := A
  exact fun t k => X.laload hx (by rw [e0]; exact A.1) (State.isArrayOf_alike hZ.alike A.2.1) A.2.2 (inb S hj) (by rw [(clamp hj).1]; exact H _ (by omega)) hg hs hd _ k
theorem ldB (X : Stand p l e R s m args below meth c T locs cells slots) (hx : p.tables.exec = Jvm.exec) (hZ : Z.Warmed39 s.vm) (e0 : T.heap = h) (A : AvI Z h a .byte n f) (hj : 0 ≤ j.toInt ∧ j.toInt < n) (hg : g.method = m) (hs : g.stack = .int j :: .ref a :: rest) (hd : decode c.code g.pc = .ok (.baload, 1)) :
    ∀ t, Steps p.tables e below (T.setTop { g with pc := g.pc + 1, stack := .int (f j.toInt.toNat) :: rest }) t → Steps p.tables e below (T.setTop g) t := by
  obtain ⟨c, A, S, M, H⟩ := A
  exact fun t k => X.baloadBytes hx (by rw [e0]; exact A.1) (State.isArrayOf_alike hZ.alike A.2.1) A.2.2 (inb S hj) (by rw [(clamp hj).1]; exact H _ (by omega)) hg hs hd _ k
theorem AvI.set (A : AvI Z h a ty n f) (hj : 0 ≤ j.toInt ∧ j.toInt < n) (W : Wr h h' a j.toNatClampNeg (.int x)) : AvI Z h' a ty n (fun i => if i = j.toInt.toNat then x else f i) := by
  obtain ⟨c, A, S, M, H⟩ := A
  refine ⟨_, A.same W, by rw [sz_set]; exact S, M, fun i hi => ?_⟩
  rw [(clamp hj).1]
  by_cases q : i = j.toInt.toNat
  · subst q
    simp only [Cell.setSlot, if_true]
    show (c.slots.setIfInBounds j.toInt.toNat _)[j.toInt.toNat]? = _
    rw [Array.getElem?_setIfInBounds, if_pos rfl, if_pos (by rw [S]; exact hi)]
  · simp only [Cell.setSlot, q, if_false]
    rw [Array.getElem?_setIfInBounds_ne (Ne.symm q)]; exact H i hi
theorem AvJ.set (A : AvJ Z h a n fj) (hj : 0 ≤ j.toInt ∧ j.toInt < n) (W : Wr h h' a j.toNatClampNeg (.long xl)) : AvJ Z h' a n (fun i => if i = j.toInt.toNat then xl else fj i) := by
  obtain ⟨c, A, S, M, H⟩ := A
  refine ⟨_, A.same W, by rw [sz_set]; exact S, M, fun i hi => ?_⟩
  rw [(clamp hj).1]
  by_cases q : i = j.toInt.toNat
  · subst q
    simp only [Cell.setSlot, if_true]
    show (c.slots.setIfInBounds j.toInt.toNat _)[j.toInt.toNat]? = _
    rw [Array.getElem?_setIfInBounds, if_pos rfl, if_pos (by rw [S]; exact hi)]
  · simp only [Cell.setSlot, q, if_false]
    rw [Array.getElem?_setIfInBounds_ne (Ne.symm q)]; exact H i hi
theorem stoI (X : Stand p l e R s m args below meth c T locs cells slots) (hx : p.tables.exec = Jvm.exec) (hZ : Z.Warmed39 s.vm) (e0 : T.heap = h) (A : AvI Z h a .int n f) (hj : 0 ≤ j.toInt ∧ j.toInt < n) (hg : g.method = m) (hs : g.stack = .int x :: .int j :: .ref a :: rest) (hd : decode c.code g.pc = .ok (.iastore, 1)) :
    ∃ T' h', Stand p l e R s m args below meth c T' (locs ++ [⟨a, j.toNatClampNeg⟩]) cells slots ∧ T'.heap = h' ∧ AvI Z h' a .int n (fun i => if i = j.toInt.toNat then x else f i) ∧ Wr h h' a j.toNatClampNeg (.int x) ∧ ∀ t, Steps p.tables e below (T'.setTop { g with pc := g.pc + 1, stack := rest }) t → Steps p.tables e below (T.setTop g) t := by
  obtain ⟨c, A', S, M, H⟩ := id A
  obtain ⟨T', h', X', e', W, st⟩ := stI X hx hZ e0 A' (inb S hj) hg hs hd
  exact ⟨T', h', X', e', A.set hj W, W, st⟩
theorem stoJ (X : Stand p l e R s m args below meth c T locs cells slots) (hx : p.tables.exec = Jvm.exec) (hZ : Z.Warmed39 s.vm) (e0 : T.heap = h) (A : AvJ Z h a n fj) (hj : 0 ≤ j.toInt ∧ j.toInt < n) (hg : g.method = m) (hs : g.stack = .long xl :: .int j :: .ref a :: rest) (hd : decode c.code g.pc = .ok (.lastore, 1)) :
    ∃ T' h', Stand p l e R s m args below meth c T' (locs ++ [⟨a, j.toNatClampNeg⟩]) cells slots ∧ T'.heap = h' ∧ AvJ Z h' a n (fun i => if i = j.toInt.toNat then xl else fj i) ∧ Wr h h' a j.toNatClampNeg (.long xl) ∧ ∀ t, Steps p.tables e below (T'.setTop { g with pc := g.pc + 1, stack := rest }) t → Steps p.tables e below (T.setTop g) t := by
  obtain ⟨c, A', S, M, H⟩ := id A
  obtain ⟨T', h', X', e', W, st⟩ := stJ X hx hZ e0 A' (inb S hj) hg hs hd
  exact ⟨T', h', X', e', A.set hj W, W, st⟩
theorem stoB (X : Stand p l e R s m args below meth c T locs cells slots) (hx : p.tables.exec = Jvm.exec) (hZ : Z.Warmed39 s.vm) (e0 : T.heap = h) (A : AvI Z h a .byte n f) (hj : 0 ≤ j.toInt ∧ j.toInt < n) (hg : g.method = m) (hs : g.stack = .int x :: .int j :: .ref a :: rest) (hd : decode c.code g.pc = .ok (.bastore, 1)) :
    ∃ T' h', Stand p l e R s m args below meth c T' (locs ++ [⟨a, j.toNatClampNeg⟩]) cells slots ∧ T'.heap = h' ∧ AvI Z h' a .byte n (fun i => if i = j.toInt.toNat then nar .byte x else f i) ∧ Wr h h' a j.toNatClampNeg (.int (nar .byte x)) ∧ ∀ t, Steps p.tables e below (T'.setTop { g with pc := g.pc + 1, stack := rest }) t → Steps p.tables e below (T.setTop g) t := by
  obtain ⟨c, A', S, M, H⟩ := id A
  obtain ⟨T', h', X', e', W, st⟩ := stB X hx hZ e0 A' (inb S hj) hg hs hd
  exact ⟨T', h', X', e', A.set hj W, W, st⟩
theorem stoZ (X : Stand p l e R s m args below meth c T locs cells slots) (hx : p.tables.exec = Jvm.exec) (hZ : Z.Warmed39 s.vm) (e0 : T.heap = h) (A : AvI Z h a .boolean n f) (hj : 0 ≤ j.toInt ∧ j.toInt < n) (hg : g.method = m) (hs : g.stack = .int x :: .int j :: .ref a :: rest) (hd : decode c.code g.pc = .ok (.bastore, 1)) :
    ∃ T' h', Stand p l e R s m args below meth c T' (locs ++ [⟨a, j.toNatClampNeg⟩]) cells slots ∧ T'.heap = h' ∧ AvI Z h' a .boolean n (fun i => if i = j.toInt.toNat then nar .boolean x else f i) ∧ Wr h h' a j.toNatClampNeg (.int (nar .boolean x)) ∧ ∀ t, Steps p.tables e below (T'.setTop { g with pc := g.pc + 1, stack := rest }) t → Steps p.tables e below (T.setTop g) t := by
  obtain ⟨c, A', S, M, H⟩ := id A
  obtain ⟨T', h', X', e', W, st⟩ := stZ X hx hZ e0 A' (inb S hj) hg hs hd
  exact ⟨T', h', X', e', A.set hj W, W, st⟩
theorem snoc {k : Nat} (N : Fr k locs) (q : k ≤ a) : Fr k (locs ++ [⟨a, sl⟩]) := N.app fun y hy => by cases List.mem_singleton.mp hy; exact q
theorem nmI {v x : Int32} {pc : Nat} {ls : Array Slot} {st : List Value} {t : State} (q : v = x) (k : Steps p.tables e below (T.setTop (mkF m pc ls (.int v :: st))) t) : Steps p.tables e below (T.setTop (mkF m pc ls (.int x :: st))) t := by subst q; exact k
theorem nmJ {v x : Int64} {pc : Nat} {ls : Array Slot} {st : List Value} {t : State} (q : v = x) (k : Steps p.tables e below (T.setTop (mkF m pc ls (.long v :: st))) t) : Steps p.tables e below (T.setTop (mkF m pc ls (.long x :: st))) t := by subst q; exact k
theorem ne_of {x y : Nat} (q : @Ne Nat x y) : @Ne Addr x y := q
theorem ldZ (X : Stand p l e R s m args below meth c T locs cells slots) (hx : p.tables.exec = Jvm.exec) (hZ : Z.Warmed39 s.vm) (e0 : T.heap = h) (A : AvI Z h a .boolean n f) (hj : 0 ≤ j.toInt ∧ j.toInt < n) (hg : g.method = m) (hs : g.stack = .int j :: .ref a :: rest) (hd : decode c.code g.pc = .ok (.baload, 1)) :
    ∀ t, Steps p.tables e below (T.setTop { g with pc := g.pc + 1, stack := .int (f j.toInt.toNat) :: rest }) t → Steps p.tables e below (T.setTop g) t := by
  obtain ⟨c, A, S, M, H⟩ := A
  exact fun t k => X.baloadBooleans hx (by rw [e0]; exact A.1) (State.isArrayOf_alike hZ.alike A.2.1) A.2.2 (inb S hj) (by rw [(clamp hj).1]; exact H _ (by omega)) hg hs hd _ k
theorem lrem_eq (x y : Int64) : x - x / y * y = x % y := by
  apply Int64.toInt_inj.mp
  have hy := Int64.toInt_mod x y
  have q := Int64.toInt_div x y
  rw [hy, Int64.toInt_sub, Int64.toInt_mul, q]
  have h1 := Int.tmod_add_mul_tdiv x.toInt y.toInt
  have h2 : x.toInt.tmod y.toInt = x.toInt - x.toInt.tdiv y.toInt * y.toInt := by rw [Int.mul_comm]; omega
  have h3 := rng64 x
  have h4 := rng64 y
  have h5 : (x.toInt.tmod y.toInt) % (2 ^ 64) = (x.toInt - x.toInt.tdiv y.toInt * y.toInt) % (2 ^ 64) := by rw [h2]
  have h6 : -2 ^ 63 ≤ x.toInt.tmod y.toInt ∧ x.toInt.tmod y.toInt < 2 ^ 63 := by rw [← hy]; exact ⟨(x % y).le_toInt, (x % y).toInt_lt⟩
  rw [← Int.bmod_eq_of_le (n := x.toInt.tmod y.toInt) (m := 2 ^ 64) (by omega) (by omega), h2]
  simp only [Int.bmod_sub_bmod, Int.sub_bmod_bmod, Int.bmod_mul_bmod, Int.mul_bmod_bmod]
theorem lremM {t : State} (X : Stand p l e R s m args below meth c T locs cells slots) (hx : p.tables.exec = Jvm.exec) (hg : g.method = m) {x y : Int64} (hd : decode c.code g.pc = .ok (.lrem, 1)) (hs : g.stack = .long y :: .long x :: rest) (hy : y ≠ 0)
    (hr : Steps p.tables e below (T.setTop { g with pc := g.pc + 1, stack := .long (x % y) :: rest }) t) : Steps p.tables e below (T.setTop g) t :=
  XS.lrem X.here hx hg hd hs hy (by rw [lrem_eq]; exact hr)
/-- a boolean as an int -/
def b2i (b : Bool) : Int32 := if b then 1 else 0
theorem b2i_t : b2i true = 1 := rfl
theorem b2i_f : b2i false = 0 := rfl
theorem b2i_nar (b : Bool) : nar .boolean (b2i b) = b2i b := by cases b <;> decide
theorem b2i_eq0 {b : Bool} : b2i b = 0 ↔ ¬ b = true := by cases b <;> decide
theorem b2i_inj {b b' : Bool} : b2i b = b2i b' ↔ b = b' := by cases b <;> cases b' <;> decide
end Kit
end Jvm.Own
namespace Jvm.Pilot.@@N@@
open Jvm Jvm.ClassFile Sem Op Lib Jvm.Free Jvm.Stand Jvm.LawKit Jvm.RoadKit Bundle Jvm.Pilot.@@N@@.Jvm.D
theorem own_mask {v x : Int64} (h : v = x &&& 9223372036854775807) : 0 ≤ v.toInt := by
  rw [h, Jvm.Kit.i64_mask x 9223372036854775807 (k := 63) (by decide) (by decide)]; omega
theorem own_pow (k : Nat) : 1 ≤ 2 ^ k ∧ 2 ^ (k + 1) = 2 * 2 ^ k := ⟨Nat.one_le_two_pow, by rw [Nat.pow_succ, Nat.mul_comm]⟩
theorem own_bit {b : Int64} {k : Nat} (h2 : b.toInt = ((2 ^ (k + 1) : Nat) : Int) / 2) : b.toInt = ((2 ^ k : Nat) : Int) ∧ 0 < b := by
  have p := own_pow k
  have e : b.toInt = ((2 ^ k : Nat) : Int) := by rw [h2, p.2]; omega
  refine ⟨e, ?_⟩
  rw [Int64.lt_iff_toInt_lt, e]
  have : (0 : Int64).toInt = 0 := by decide
  rw [this]; omega
theorem own_cand {r b c : Int64} {k : Nat} (h1 : 0 ≤ r.toInt) (h2 : b.toInt = ((2 ^ (k + 1) : Nat) : Int) / 2) (h5 : r.toInt + ((2 ^ (k + 1) : Nat) : Int) ≤ 4294967296) (hc : c = r + b) : c.toInt = r.toInt + ((2 ^ k : Nat) : Int) ∧ 0 < c.toInt := by
  have p := own_pow k
  have e := (own_bit h2).1
  rw [p.2] at h5
  have : c.toInt = r.toInt + ((2 ^ k : Nat) : Int) := by rw [hc, Jvm.Kit.i64_add, e] <;> rw [e] <;> omega
  exact ⟨this, by omega⟩
theorem own_nz {c : Int64} (h : 0 < c.toInt) : c ≠ 0 := fun q => by rw [q] at h; exact absurd h (by decide)
theorem own_half {b d : Int64} {k : Nat} (h2 : b.toInt = ((2 ^ (k + 1) : Nat) : Int) / 2) (hd : d = b >>> ((1 : Int32) &&& 0x3f).toInt64) : d.toInt = ((2 ^ k : Nat) : Int) / 2 := by
  rw [hd, Jvm.Kit.i64_shr b _ (k := 1) (by decide), (own_bit h2).1]; rfl
theorem own_div {v c : Int64} (hv : 0 ≤ v.toInt) (hc : 0 < c.toInt) : (v / c).toInt = v.toInt / c.toInt := by
  rw [Jvm.Kit.i64_div (by rintro ⟨q, -⟩; omega), Int.tdiv_eq_ediv_of_nonneg hv]
theorem own_gt {v c : Int64} (hv : 0 ≤ v.toInt) (hc : 0 < c.toInt) : v / c < c ↔ v.toInt < c.toInt * c.toInt := by
  rw [Int64.lt_iff_toInt_lt, own_div hv hc, Int.ediv_lt_iff_lt_mul hc]
theorem own_up (r p : Int) : r + ((2 * p : Int)) = (r + p) + p := by omega
theorem own_end {r v : Int} (h1 : 0 ≤ r) (h3 : r * r ≤ v) (hv : v < 9223372036854775808) : r ≤ 3037000499 := by
  refine Int.not_lt.mp fun q => ?_
  have := Int.mul_le_mul (show (3037000500 : Int) ≤ r by omega) (show (3037000500 : Int) ≤ r by omega) (by omega) h1
  omega
theorem d1_0 : decode prog_2_method_3_code 0 = .ok (.lconst 0, 1) := by decide +kernel
theorem d1_1 : decode prog_2_method_3_code 1 = .ok (.lstore_n 2, 1) := by decide +kernel
theorem d1_2 : decode prog_2_method_3_code 2 = .ok (.ldc2_w 7, 3) := by decide +kernel
theorem d1_5 : decode prog_2_method_3_code 5 = .ok (.lstore 4, 2) := by decide +kernel
theorem d1_7 : decode prog_2_method_3_code 7 = .ok (.lload 4, 2) := by decide +kernel
theorem d1_9 : decode prog_2_method_3_code 9 = .ok (.lconst 0, 1) := by decide +kernel
theorem d1_10 : decode prog_2_method_3_code 10 = .ok (.lcmp, 1) := by decide +kernel
theorem d1_11 : decode prog_2_method_3_code 11 = .ok (.ifCond .le 31, 3) := by decide +kernel
theorem d1_14 : decode prog_2_method_3_code 14 = .ok (.lload_n 2, 1) := by decide +kernel
theorem d1_15 : decode prog_2_method_3_code 15 = .ok (.lload 4, 2) := by decide +kernel
theorem d1_17 : decode prog_2_method_3_code 17 = .ok (.ladd, 1) := by decide +kernel
theorem d1_18 : decode prog_2_method_3_code 18 = .ok (.lstore 6, 2) := by decide +kernel
theorem d1_20 : decode prog_2_method_3_code 20 = .ok (.lload 6, 2) := by decide +kernel
theorem d1_22 : decode prog_2_method_3_code 22 = .ok (.lload_n 0, 1) := by decide +kernel
theorem d1_23 : decode prog_2_method_3_code 23 = .ok (.lload 6, 2) := by decide +kernel
theorem d1_25 : decode prog_2_method_3_code 25 = .ok (.ldiv, 1) := by decide +kernel
theorem d1_26 : decode prog_2_method_3_code 26 = .ok (.lcmp, 1) := by decide +kernel
theorem d1_27 : decode prog_2_method_3_code 27 = .ok (.ifCond .gt 6, 3) := by decide +kernel
theorem d1_30 : decode prog_2_method_3_code 30 = .ok (.lload 6, 2) := by decide +kernel
theorem d1_32 : decode prog_2_method_3_code 32 = .ok (.lstore_n 2, 1) := by decide +kernel
theorem d1_33 : decode prog_2_method_3_code 33 = .ok (.lload 4, 2) := by decide +kernel
theorem d1_35 : decode prog_2_method_3_code 35 = .ok (.iconst 1, 1) := by decide +kernel
theorem d1_36 : decode prog_2_method_3_code 36 = .ok (.lshr, 1) := by decide +kernel
theorem d1_37 : decode prog_2_method_3_code 37 = .ok (.lstore 4, 2) := by decide +kernel
theorem d1_39 : decode prog_2_method_3_code 39 = .ok (.goto (-32), 3) := by decide +kernel
theorem d1_42 : decode prog_2_method_3_code 42 = .ok (.lload_n 2, 1) := by decide +kernel
theorem d1_43 : decode prog_2_method_3_code 43 = .ok (.lreturn, 1) := by decide +kernel
theorem pn_0 : plainName "com/example/request_throttle/requestthrottle/Arithmetic" = true := by first | (simp [plainName, overriddenIn]; done) | decide +kernel
theorem ef_1 (m : MethodId) (q0 : Int64) : entryFrame m #[(.long q0)] 8 = mkF m 0 #[.val (.long q0), .second, .unset, .unset, .unset, .unset, .unset, .unset] [] := by first | (simp [entryFrame, mkF, argsToLocals, Value.category]; done) | rfl
def Q1 (Z : State) (q0 : Int64) (h0 : Heap) (n0 : Nat) (v : Option Value) (h : Heap) (L : List Loc) : Prop := (∃ r : Int64, v = some (.long r) ∧ 0 ≤ r.toInt ∧ r.toInt ≤ 3037000499 ∧ r.toInt * r.toInt ≤ q0.toInt ∧ q0.toInt < (r.toInt + 1) * (r.toInt + 1)) ∧ Fr n0 L ∧ h = h0
set_option maxRecDepth 65536 in
set_option maxHeartbeats 40000000 in
theorem rm1 (l : Launch) (Z : State) (a0 : Array Value) (hw : ∀ d ∈ tables_1, d.before a0 Z = true) (ws : List Jvm.Cond) (q0 : Int64) (h0 : Heap) (n0 : Nat) (hv : 0 ≤ q0.toInt) :
    MetFree l (⟨"com/example/request_throttle/requestthrottle/Arithmetic", "floorSqrt", "(J)J"⟩ : MethodName) (head1 (Jvm.Cond.code (⟨"com/example/request_throttle/requestthrottle/Arithmetic", "floorSqrt", "(J)J"⟩ : MethodName) prog_2_method_3_code 8 (some .long) :: ws) ({ frames := 0, cells := 0, slots := 0, locals := 0 } : Room)) (fun a U => a = #[(.long q0)] ∧ Z.Warmed39 U.vm ∧ U.heap = h0) (fun _ _ _ _ _ => True) (fun _ U o U' => ∃ v L, o = .returned v ∧ Q1 Z q0 h0 n0 v U'.heap L ∧ FrameEnd U o U' L ({ frames := 0, cells := 0, slots := 0, locals := 0 } : Room).cells ({ frames := 0, cells := 0, slots := 0, locals := 0 } : Room).slots) := by
  refine Own.enter (Q := Q1 Z q0 h0 n0) (plainFor_of_name pn_0) ?_
  intro p e s m below meth c s₁ D hx hby hml hown hnm hret hZ X0 e0 hD hR
  have N0 := Fr.nil n0
  rw [show entryFrame m #[(.long q0)] 8 = mkF m 0 #[.val (.long q0), .second, .unset, .unset, .unset, .unset, .unset, .unset] [] from ef_1 m q0]
  refine hD _ (s₁.setTop (mkF m 7 #[.val (.long q0), .second, .val (.long (0 : Int64)), .second, .val (.long (2147483648 : Int64)), .second, .unset, .unset] [])) (fun t k => ?_) ?_
  · show Steps p.tables e below (s₁.setTop (mkF m 0 #[.val (.long q0), .second, .unset, .unset, .unset, .unset, .unset, .unset] [])) t
    refine XS.lconst X0.here hx rfl (hb hby d1_0) ?_
    show Steps p.tables e below (s₁.setTop (mkF m 1 #[.val (.long q0), .second, .unset, .unset, .unset, .unset, .unset, .unset] [(.long (0 : Int64))])) t
    refine XS.lstoreN X0.here hx rfl (hb hby d1_1) rfl (l' := #[.val (.long q0), .second, .val (.long (0 : Int64)), .second, .unset, .unset, .unset, .unset]) rfl ?_
    show Steps p.tables e below (s₁.setTop (mkF m 2 #[.val (.long q0), .second, .val (.long (0 : Int64)), .second, .unset, .unset, .unset, .unset] [])) t
    refine X0.ldc2Long hx hown (mvT hZ (hw _ (List.mem_of_getElem? (i := 5) rfl))) (g := (mkF m 2 #[.val (.long q0), .second, .val (.long (0 : Int64)), .second, .unset, .unset, .unset, .unset] [])) rfl (hb hby d1_2) _ ?_
    show Steps p.tables e below (s₁.setTop (mkF m 5 #[.val (.long q0), .second, .val (.long (0 : Int64)), .second, .unset, .unset, .unset, .unset] [(.long (2147483648 : Int64))])) t
    refine XS.lstore X0.here hx rfl (hb hby d1_5) rfl (l' := #[.val (.long q0), .second, .val (.long (0 : Int64)), .second, .val (.long (2147483648 : Int64)), .second, .unset, .unset]) rfl ?_
    show Steps p.tables e below (s₁.setTop (mkF m 7 #[.val (.long q0), .second, .val (.long (0 : Int64)), .second, .val (.long (2147483648 : Int64)), .second, .unset, .unset] [])) t
    exact k
  have J7 : ∀ (n : Nat) (T1 : State) (locs1 : List Loc) (r : Int64) (bt : Int64) (c6 : Int64), Stand p l e ({ frames := 0, cells := 0, slots := 0, locals := 0 } : Room) s m #[(.long q0)] below meth c T1 locs1 0 0 → T1.heap = h0 → Fr n0 locs1 → 0 ≤ r.toInt → bt.toInt = ((2 ^ n : Nat) : Int) / 2 → r.toInt * r.toInt ≤ q0.toInt → q0.toInt < (r.toInt + ((2 ^ n : Nat) : Int)) * (r.toInt + ((2 ^ n : Nat) : Int)) → r.toInt + ((2 ^ n : Nat) : Int) ≤ 4294967296 → D (T1.setTop (mkF m 7 #[.val (.long q0), .second, .val (.long r), .second, .val (.long bt), .second, .val (.long c6), .second] [])) := by
    intro n
    induction n with
    | zero => 
      intro T1 locs1 r bt c6 X1 e1 N1 h1 h2 h3 h4 h5
      refine hD _ (T1.setTop (mkF m 11 #[.val (.long q0), .second, .val (.long r), .second, .val (.long bt), .second, .val (.long c6), .second] [(.int (lcmpW bt (0 : Int64)))])) (fun t k => ?_) ?_
      · show Steps p.tables e below (T1.setTop (mkF m 7 #[.val (.long q0), .second, .val (.long r), .second, .val (.long bt), .second, .val (.long c6), .second] [])) t
        refine XS.lload X1.here hx rfl (hb hby d1_7) rfl ?_
        show Steps p.tables e below (T1.setTop (mkF m 9 #[.val (.long q0), .second, .val (.long r), .second, .val (.long bt), .second, .val (.long c6), .second] [(.long bt)])) t
        refine XS.lconst X1.here hx rfl (hb hby d1_9) ?_
        show Steps p.tables e below (T1.setTop (mkF m 10 #[.val (.long q0), .second, .val (.long r), .second, .val (.long bt), .second, .val (.long c6), .second] [(.long (0 : Int64)), (.long bt)])) t
        refine XS.lcmp X1.here hx rfl (hb hby d1_10) rfl ?_
        show Steps p.tables e below (T1.setTop (mkF m 11 #[.val (.long q0), .second, .val (.long r), .second, .val (.long bt), .second, .val (.long c6), .second] [(.int (lcmpW bt (0 : Int64)))])) t
        exact k
      have hc2 : ¬ ((0 : Int64) < bt) := by rw [Int64.lt_iff_toInt_lt, h2]; decide
      refine hD _ (T1.setTop (mkF m 43 #[.val (.long q0), .second, .val (.long r), .second, .val (.long bt), .second, .val (.long c6), .second] [(.long r)])) (fun t k => ?_) ?_
      · show Steps p.tables e below (T1.setTop (mkF m 11 #[.val (.long q0), .second, .val (.long r), .second, .val (.long bt), .second, .val (.long c6), .second] [(.int (lcmpW bt (0 : Int64)))])) t
        refine XS.ifYes X1.here hx rfl (pc0 := 11) (pc' := 42) rfl (hb hby d1_11) rfl ((if0 _ _).trans (flt (fun q => hc2 ((lw_gt bt (0 : Int64)).mp q))).2.2.2) (by decide) (by decide) ?_
        show Steps p.tables e below (T1.setTop (mkF m 42 #[.val (.long q0), .second, .val (.long r), .second, .val (.long bt), .second, .val (.long c6), .second] [])) t
        refine XS.lloadN X1.here hx rfl (hb hby d1_42) rfl ?_
        show Steps p.tables e below (T1.setTop (mkF m 43 #[.val (.long q0), .second, .val (.long r), .second, .val (.long bt), .second, .val (.long c6), .second] [(.long r)])) t
        exact k
      exact Own.retJ hR X1 hx hret (hb hby d1_43) (by decide) (by decide) ⟨⟨_, rfl, h1, own_end h1 h3 (rng64 q0).2, h3, (by simpa using h4)⟩, N1, e1⟩
    | succ n ih => 
      intro T1 locs1 r bt c6 X1 e1 N1 h1 h2 h3 h4 h5
      refine hD _ (T1.setTop (mkF m 11 #[.val (.long q0), .second, .val (.long r), .second, .val (.long bt), .second, .val (.long c6), .second] [(.int (lcmpW bt (0 : Int64)))])) (fun t k => ?_) ?_
      · show Steps p.tables e below (T1.setTop (mkF m 7 #[.val (.long q0), .second, .val (.long r), .second, .val (.long bt), .second, .val (.long c6), .second] [])) t
        refine XS.lload X1.here hx rfl (hb hby d1_7) rfl ?_
        show Steps p.tables e below (T1.setTop (mkF m 9 #[.val (.long q0), .second, .val (.long r), .second, .val (.long bt), .second, .val (.long c6), .second] [(.long bt)])) t
        refine XS.lconst X1.here hx rfl (hb hby d1_9) ?_
        show Steps p.tables e below (T1.setTop (mkF m 10 #[.val (.long q0), .second, .val (.long r), .second, .val (.long bt), .second, .val (.long c6), .second] [(.long (0 : Int64)), (.long bt)])) t
        refine XS.lcmp X1.here hx rfl (hb hby d1_10) rfl ?_
        show Steps p.tables e below (T1.setTop (mkF m 11 #[.val (.long q0), .second, .val (.long r), .second, .val (.long bt), .second, .val (.long c6), .second] [(.int (lcmpW bt (0 : Int64)))])) t
        exact k
      have hc3 : (0 : Int64) < bt := (own_bit h2).2
      obtain ⟨v4, hv4⟩ : ∃ z : Int64, z = (r + bt) := ⟨_, rfl⟩
      have hnz5 : v4 ≠ 0 := own_nz (own_cand h1 h2 h5 hv4).2
      refine hD _ (T1.setTop (mkF m 27 #[.val (.long q0), .second, .val (.long r), .second, .val (.long bt), .second, .val (.long v4), .second] [(.int (lcmpW v4 (q0 / v4)))])) (fun t k => ?_) ?_
      · show Steps p.tables e below (T1.setTop (mkF m 11 #[.val (.long q0), .second, .val (.long r), .second, .val (.long bt), .second, .val (.long c6), .second] [(.int (lcmpW bt (0 : Int64)))])) t
        refine XS.ifNo X1.here hx rfl (hb hby d1_11) rfl ((if0 _ _).trans (tlt ((lw_gt bt (0 : Int64)).mpr hc3)).2.2.2) ?_
        show Steps p.tables e below (T1.setTop (mkF m 14 #[.val (.long q0), .second, .val (.long r), .second, .val (.long bt), .second, .val (.long c6), .second] [])) t
        refine XS.lloadN X1.here hx rfl (hb hby d1_14) rfl ?_
        show Steps p.tables e below (T1.setTop (mkF m 15 #[.val (.long q0), .second, .val (.long r), .second, .val (.long bt), .second, .val (.long c6), .second] [(.long r)])) t
        refine XS.lload X1.here hx rfl (hb hby d1_15) rfl ?_
        show Steps p.tables e below (T1.setTop (mkF m 17 #[.val (.long q0), .second, .val (.long r), .second, .val (.long bt), .second, .val (.long c6), .second] [(.long bt), (.long r)])) t
        refine XS.ladd X1.here hx rfl (hb hby d1_17) rfl ?_
        show Steps p.tables e below (T1.setTop (mkF m 18 #[.val (.long q0), .second, .val (.long r), .second, .val (.long bt), .second, .val (.long c6), .second] [(.long (r + bt))])) t
        refine Own.nmJ hv4 ?_
        show Steps p.tables e below (T1.setTop (mkF m 18 #[.val (.long q0), .second, .val (.long r), .second, .val (.long bt), .second, .val (.long c6), .second] [(.long v4)])) t
        refine XS.lstore X1.here hx rfl (hb hby d1_18) rfl (l' := #[.val (.long q0), .second, .val (.long r), .second, .val (.long bt), .second, .val (.long v4), .second]) rfl ?_
        show Steps p.tables e below (T1.setTop (mkF m 20 #[.val (.long q0), .second, .val (.long r), .second, .val (.long bt), .second, .val (.long v4), .second] [])) t
        refine XS.lload X1.here hx rfl (hb hby d1_20) rfl ?_
        show Steps p.tables e below (T1.setTop (mkF m 22 #[.val (.long q0), .second, .val (.long r), .second, .val (.long bt), .second, .val (.long v4), .second] [(.long v4)])) t
        refine XS.lloadN X1.here hx rfl (hb hby d1_22) rfl ?_
        show Steps p.tables e below (T1.setTop (mkF m 23 #[.val (.long q0), .second, .val (.long r), .second, .val (.long bt), .second, .val (.long v4), .second] [(.long q0), (.long v4)])) t
        refine XS.lload X1.here hx rfl (hb hby d1_23) rfl ?_
        show Steps p.tables e below (T1.setTop (mkF m 25 #[.val (.long q0), .second, .val (.long r), .second, .val (.long bt), .second, .val (.long v4), .second] [(.long v4), (.long q0), (.long v4)])) t
        refine XS.ldiv X1.here hx rfl (hb hby d1_25) rfl hnz5 ?_
        show Steps p.tables e below (T1.setTop (mkF m 26 #[.val (.long q0), .second, .val (.long r), .second, .val (.long bt), .second, .val (.long v4), .second] [(.long (q0 / v4)), (.long v4)])) t
        refine XS.lcmp X1.here hx rfl (hb hby d1_26) rfl ?_
        show Steps p.tables e below (T1.setTop (mkF m 27 #[.val (.long q0), .second, .val (.long r), .second, .val (.long bt), .second, .val (.long v4), .second] [(.int (lcmpW v4 (q0 / v4)))])) t
        exact k
      by_cases hc6 : (q0 / v4) < v4
      · obtain ⟨v7, hv7⟩ : ∃ z : Int64, z = (bt >>> ((1 : Int32) &&& 0x3f).toInt64) := ⟨_, rfl⟩
        have hcq := hv4
        have hcd := own_cand h1 h2 h5 hcq
        have pk := own_pow n
        rw [pk.2] at h4 h5
        have pc : ((2 * 2 ^ n : Nat) : Int) = 2 * ((2 ^ n : Nat) : Int) := by omega
        have hlt := (own_gt hv hcd.2).mp hc6
        rw [hcd.1] at hlt
        refine hD _ (T1.setTop (mkF m 7 #[.val (.long q0), .second, .val (.long r), .second, .val (.long v7), .second, .val (.long v4), .second] [])) (fun t k => ?_) ?_
        · show Steps p.tables e below (T1.setTop (mkF m 27 #[.val (.long q0), .second, .val (.long r), .second, .val (.long bt), .second, .val (.long v4), .second] [(.int (lcmpW v4 (q0 / v4)))])) t
          refine XS.ifYes X1.here hx rfl (pc0 := 27) (pc' := 33) rfl (hb hby d1_27) rfl ((if0 _ _).trans (tlt ((lw_gt v4 (q0 / v4)).mpr hc6)).2.2.1) (by decide) (by decide) ?_
          show Steps p.tables e below (T1.setTop (mkF m 33 #[.val (.long q0), .second, .val (.long r), .second, .val (.long bt), .second, .val (.long v4), .second] [])) t
          refine XS.lload X1.here hx rfl (hb hby d1_33) rfl ?_
          show Steps p.tables e below (T1.setTop (mkF m 35 #[.val (.long q0), .second, .val (.long r), .second, .val (.long bt), .second, .val (.long v4), .second] [(.long bt)])) t
          refine XS.iconst X1.here hx rfl (hb hby d1_35) ?_
          show Steps p.tables e below (T1.setTop (mkF m 36 #[.val (.long q0), .second, .val (.long r), .second, .val (.long bt), .second, .val (.long v4), .second] [(.int (1 : Int32)), (.long bt)])) t
          refine XS.lshr X1.here hx rfl (hb hby d1_36) rfl ?_
          show Steps p.tables e below (T1.setTop (mkF m 37 #[.val (.long q0), .second, .val (.long r), .second, .val (.long bt), .second, .val (.long v4), .second] [(.long (bt >>> ((1 : Int32) &&& 0x3f).toInt64))])) t
          refine Own.nmJ hv7 ?_
          show Steps p.tables e below (T1.setTop (mkF m 37 #[.val (.long q0), .second, .val (.long r), .second, .val (.long bt), .second, .val (.long v4), .second] [(.long v7)])) t
          refine XS.lstore X1.here hx rfl (hb hby d1_37) rfl (l' := #[.val (.long q0), .second, .val (.long r), .second, .val (.long v7), .second, .val (.long v4), .second]) rfl ?_
          show Steps p.tables e below (T1.setTop (mkF m 39 #[.val (.long q0), .second, .val (.long r), .second, .val (.long v7), .second, .val (.long v4), .second] [])) t
          refine XS.goto X1.here hx rfl (pc0 := 39) (pc' := 7) rfl (hb hby d1_39) (by decide) (by decide) ?_
          show Steps p.tables e below (T1.setTop (mkF m 7 #[.val (.long q0), .second, .val (.long r), .second, .val (.long v7), .second, .val (.long v4), .second] [])) t
          exact k
        exact ih T1 _ r v7 v4 X1 e1 N1 h1 (own_half h2 hv7) h3 hlt (by omega)
      · obtain ⟨v8, hv8⟩ : ∃ z : Int64, z = (bt >>> ((1 : Int32) &&& 0x3f).toInt64) := ⟨_, rfl⟩
        have hcq := hv4
        have hcd := own_cand h1 h2 h5 hcq
        have pk := own_pow n
        rw [pk.2] at h4 h5
        have pc : ((2 * 2 ^ n : Nat) : Int) = 2 * ((2 ^ n : Nat) : Int) := by omega
        have hge := Int.not_lt.mp (fun q => hc6 ((own_gt hv hcd.2).mpr q))
        rw [pc, own_up, ← hcd.1] at h4
        refine hD _ (T1.setTop (mkF m 7 #[.val (.long q0), .second, .val (.long v4), .second, .val (.long v8), .second, .val (.long v4), .second] [])) (fun t k => ?_) ?_
        · show Steps p.tables e below (T1.setTop (mkF m 27 #[.val (.long q0), .second, .val (.long r), .second, .val (.long bt), .second, .val (.long v4), .second] [(.int (lcmpW v4 (q0 / v4)))])) t
          refine XS.ifNo X1.here hx rfl (hb hby d1_27) rfl ((if0 _ _).trans (flt (fun q => hc6 ((lw_gt v4 (q0 / v4)).mp q))).2.2.1) ?_
          show Steps p.tables e below (T1.setTop (mkF m 30 #[.val (.long q0), .second, .val (.long r), .second, .val (.long bt), .second, .val (.long v4), .second] [])) t
          refine XS.lload X1.here hx rfl (hb hby d1_30) rfl ?_
          show Steps p.tables e below (T1.setTop (mkF m 32 #[.val (.long q0), .second, .val (.long r), .second, .val (.long bt), .second, .val (.long v4), .second] [(.long v4)])) t
          refine XS.lstoreN X1.here hx rfl (hb hby d1_32) rfl (l' := #[.val (.long q0), .second, .val (.long v4), .second, .val (.long bt), .second, .val (.long v4), .second]) rfl ?_
          show Steps p.tables e below (T1.setTop (mkF m 33 #[.val (.long q0), .second, .val (.long v4), .second, .val (.long bt), .second, .val (.long v4), .second] [])) t
          refine XS.lload X1.here hx rfl (hb hby d1_33) rfl ?_
          show Steps p.tables e below (T1.setTop (mkF m 35 #[.val (.long q0), .second, .val (.long v4), .second, .val (.long bt), .second, .val (.long v4), .second] [(.long bt)])) t
          refine XS.iconst X1.here hx rfl (hb hby d1_35) ?_
          show Steps p.tables e below (T1.setTop (mkF m 36 #[.val (.long q0), .second, .val (.long v4), .second, .val (.long bt), .second, .val (.long v4), .second] [(.int (1 : Int32)), (.long bt)])) t
          refine XS.lshr X1.here hx rfl (hb hby d1_36) rfl ?_
          show Steps p.tables e below (T1.setTop (mkF m 37 #[.val (.long q0), .second, .val (.long v4), .second, .val (.long bt), .second, .val (.long v4), .second] [(.long (bt >>> ((1 : Int32) &&& 0x3f).toInt64))])) t
          refine Own.nmJ hv8 ?_
          show Steps p.tables e below (T1.setTop (mkF m 37 #[.val (.long q0), .second, .val (.long v4), .second, .val (.long bt), .second, .val (.long v4), .second] [(.long v8)])) t
          refine XS.lstore X1.here hx rfl (hb hby d1_37) rfl (l' := #[.val (.long q0), .second, .val (.long v4), .second, .val (.long v8), .second, .val (.long v4), .second]) rfl ?_
          show Steps p.tables e below (T1.setTop (mkF m 39 #[.val (.long q0), .second, .val (.long v4), .second, .val (.long v8), .second, .val (.long v4), .second] [])) t
          refine XS.goto X1.here hx rfl (pc0 := 39) (pc' := 7) rfl (hb hby d1_39) (by decide) (by decide) ?_
          show Steps p.tables e below (T1.setTop (mkF m 7 #[.val (.long q0), .second, .val (.long v4), .second, .val (.long v8), .second, .val (.long v4), .second] [])) t
          exact k
        exact ih T1 _ v4 v8 v4 X1 e1 N1 (by omega) (own_half h2 hv8) hge h4 (by omega)
  refine hD _ (s₁.setTop (mkF m 11 #[.val (.long q0), .second, .val (.long (0 : Int64)), .second, .val (.long (2147483648 : Int64)), .second, .unset, .unset] [(.int (lcmpW (2147483648 : Int64) (0 : Int64)))])) (fun t k => ?_) ?_
  · show Steps p.tables e below (s₁.setTop (mkF m 7 #[.val (.long q0), .second, .val (.long (0 : Int64)), .second, .val (.long (2147483648 : Int64)), .second, .unset, .unset] [])) t
    refine XS.lload X0.here hx rfl (hb hby d1_7) rfl ?_
    show Steps p.tables e below (s₁.setTop (mkF m 9 #[.val (.long q0), .second, .val (.long (0 : Int64)), .second, .val (.long (2147483648 : Int64)), .second, .unset, .unset] [(.long (2147483648 : Int64))])) t
    refine XS.lconst X0.here hx rfl (hb hby d1_9) ?_
    show Steps p.tables e below (s₁.setTop (mkF m 10 #[.val (.long q0), .second, .val (.long (0 : Int64)), .second, .val (.long (2147483648 : Int64)), .second, .unset, .unset] [(.long (0 : Int64)), (.long (2147483648 : Int64))])) t
    refine XS.lcmp X0.here hx rfl (hb hby d1_10) rfl ?_
    show Steps p.tables e below (s₁.setTop (mkF m 11 #[.val (.long q0), .second, .val (.long (0 : Int64)), .second, .val (.long (2147483648 : Int64)), .second, .unset, .unset] [(.int (lcmpW (2147483648 : Int64) (0 : Int64)))])) t
    exact k
  have hc9 : (0 : Int64) < (2147483648 : Int64) := by decide
  have hnz10 : (2147483648 : Int64) ≠ 0 := by decide
  refine hD _ (s₁.setTop (mkF m 27 #[.val (.long q0), .second, .val (.long (0 : Int64)), .second, .val (.long (2147483648 : Int64)), .second, .val (.long (2147483648 : Int64)), .second] [(.int (lcmpW (2147483648 : Int64) (q0 / (2147483648 : Int64))))])) (fun t k => ?_) ?_
  · show Steps p.tables e below (s₁.setTop (mkF m 11 #[.val (.long q0), .second, .val (.long (0 : Int64)), .second, .val (.long (2147483648 : Int64)), .second, .unset, .unset] [(.int (lcmpW (2147483648 : Int64) (0 : Int64)))])) t
    refine XS.ifNo X0.here hx rfl (hb hby d1_11) rfl ((if0 _ _).trans (tlt ((lw_gt (2147483648 : Int64) (0 : Int64)).mpr hc9)).2.2.2) ?_
    show Steps p.tables e below (s₁.setTop (mkF m 14 #[.val (.long q0), .second, .val (.long (0 : Int64)), .second, .val (.long (2147483648 : Int64)), .second, .unset, .unset] [])) t
    refine XS.lloadN X0.here hx rfl (hb hby d1_14) rfl ?_
    show Steps p.tables e below (s₁.setTop (mkF m 15 #[.val (.long q0), .second, .val (.long (0 : Int64)), .second, .val (.long (2147483648 : Int64)), .second, .unset, .unset] [(.long (0 : Int64))])) t
    refine XS.lload X0.here hx rfl (hb hby d1_15) rfl ?_
    show Steps p.tables e below (s₁.setTop (mkF m 17 #[.val (.long q0), .second, .val (.long (0 : Int64)), .second, .val (.long (2147483648 : Int64)), .second, .unset, .unset] [(.long (2147483648 : Int64)), (.long (0 : Int64))])) t
    refine XS.ladd X0.here hx rfl (hb hby d1_17) rfl ?_
    show Steps p.tables e below (s₁.setTop (mkF m 18 #[.val (.long q0), .second, .val (.long (0 : Int64)), .second, .val (.long (2147483648 : Int64)), .second, .unset, .unset] [(.long ((0 : Int64) + (2147483648 : Int64)))])) t
    refine Own.nmJ (by decide : (2147483648 : Int64) = ((0 : Int64) + (2147483648 : Int64))) ?_
    show Steps p.tables e below (s₁.setTop (mkF m 18 #[.val (.long q0), .second, .val (.long (0 : Int64)), .second, .val (.long (2147483648 : Int64)), .second, .unset, .unset] [(.long (2147483648 : Int64))])) t
    refine XS.lstore X0.here hx rfl (hb hby d1_18) rfl (l' := #[.val (.long q0), .second, .val (.long (0 : Int64)), .second, .val (.long (2147483648 : Int64)), .second, .val (.long (2147483648 : Int64)), .second]) rfl ?_
    show Steps p.tables e below (s₁.setTop (mkF m 20 #[.val (.long q0), .second, .val (.long (0 : Int64)), .second, .val (.long (2147483648 : Int64)), .second, .val (.long (2147483648 : Int64)), .second] [])) t
    refine XS.lload X0.here hx rfl (hb hby d1_20) rfl ?_
    show Steps p.tables e below (s₁.setTop (mkF m 22 #[.val (.long q0), .second, .val (.long (0 : Int64)), .second, .val (.long (2147483648 : Int64)), .second, .val (.long (2147483648 : Int64)), .second] [(.long (2147483648 : Int64))])) t
    refine XS.lloadN X0.here hx rfl (hb hby d1_22) rfl ?_
    show Steps p.tables e below (s₁.setTop (mkF m 23 #[.val (.long q0), .second, .val (.long (0 : Int64)), .second, .val (.long (2147483648 : Int64)), .second, .val (.long (2147483648 : Int64)), .second] [(.long q0), (.long (2147483648 : Int64))])) t
    refine XS.lload X0.here hx rfl (hb hby d1_23) rfl ?_
    show Steps p.tables e below (s₁.setTop (mkF m 25 #[.val (.long q0), .second, .val (.long (0 : Int64)), .second, .val (.long (2147483648 : Int64)), .second, .val (.long (2147483648 : Int64)), .second] [(.long (2147483648 : Int64)), (.long q0), (.long (2147483648 : Int64))])) t
    refine XS.ldiv X0.here hx rfl (hb hby d1_25) rfl hnz10 ?_
    show Steps p.tables e below (s₁.setTop (mkF m 26 #[.val (.long q0), .second, .val (.long (0 : Int64)), .second, .val (.long (2147483648 : Int64)), .second, .val (.long (2147483648 : Int64)), .second] [(.long (q0 / (2147483648 : Int64))), (.long (2147483648 : Int64))])) t
    refine XS.lcmp X0.here hx rfl (hb hby d1_26) rfl ?_
    show Steps p.tables e below (s₁.setTop (mkF m 27 #[.val (.long q0), .second, .val (.long (0 : Int64)), .second, .val (.long (2147483648 : Int64)), .second, .val (.long (2147483648 : Int64)), .second] [(.int (lcmpW (2147483648 : Int64) (q0 / (2147483648 : Int64))))])) t
    exact k
  by_cases hc11 : (q0 / (2147483648 : Int64)) < (2147483648 : Int64)
  · obtain ⟨v12, hv12⟩ : ∃ z : Int64, z = ((2147483648 : Int64) >>> ((1 : Int32) &&& 0x3f).toInt64) := ⟨_, rfl⟩
    have h1 : 0 ≤ (0 : Int64).toInt := by decide
    have h2 : (2147483648 : Int64).toInt = ((2 ^ (31 + 1) : Nat) : Int) / 2 := by decide
    have h5 : (0 : Int64).toInt + ((2 ^ (31 + 1) : Nat) : Int) ≤ 4294967296 := by decide
    have h3 : (0 : Int64).toInt * (0 : Int64).toInt ≤ q0.toInt := hv
    have h4 : q0.toInt < ((0 : Int64).toInt + ((2 ^ (31 + 1) : Nat) : Int)) * ((0 : Int64).toInt + ((2 ^ (31 + 1) : Nat) : Int)) := Int.lt_trans (rng64 q0).2 (by decide)
    have hcq : (2147483648 : Int64) = (0 : Int64) + (2147483648 : Int64) := by decide
    have hcd := own_cand h1 h2 h5 hcq
    have pk := own_pow 31
    rw [pk.2] at h4 h5
    have pc : ((2 * 2 ^ 31 : Nat) : Int) = 2 * ((2 ^ 31 : Nat) : Int) := by omega
    have hlt := (own_gt hv hcd.2).mp hc11
    rw [hcd.1] at hlt
    refine hD _ (s₁.setTop (mkF m 7 #[.val (.long q0), .second, .val (.long (0 : Int64)), .second, .val (.long v12), .second, .val (.long (2147483648 : Int64)), .second] [])) (fun t k => ?_) ?_
    · show Steps p.tables e below (s₁.setTop (mkF m 27 #[.val (.long q0), .second, .val (.long (0 : Int64)), .second, .val (.long (2147483648 : Int64)), .second, .val (.long (2147483648 : Int64)), .second] [(.int (lcmpW (2147483648 : Int64) (q0 / (2147483648 : Int64))))])) t
      refine XS.ifYes X0.here hx rfl (pc0 := 27) (pc' := 33) rfl (hb hby d1_27) rfl ((if0 _ _).trans (tlt ((lw_gt (2147483648 : Int64) (q0 / (2147483648 : Int64))).mpr hc11)).2.2.1) (by decide) (by decide) ?_
      show Steps p.tables e below (s₁.setTop (mkF m 33 #[.val (.long q0), .second, .val (.long (0 : Int64)), .second, .val (.long (2147483648 : Int64)), .second, .val (.long (2147483648 : Int64)), .second] [])) t
      refine XS.lload X0.here hx rfl (hb hby d1_33) rfl ?_
      show Steps p.tables e below (s₁.setTop (mkF m 35 #[.val (.long q0), .second, .val (.long (0 : Int64)), .second, .val (.long (2147483648 : Int64)), .second, .val (.long (2147483648 : Int64)), .second] [(.long (2147483648 : Int64))])) t
      refine XS.iconst X0.here hx rfl (hb hby d1_35) ?_
      show Steps p.tables e below (s₁.setTop (mkF m 36 #[.val (.long q0), .second, .val (.long (0 : Int64)), .second, .val (.long (2147483648 : Int64)), .second, .val (.long (2147483648 : Int64)), .second] [(.int (1 : Int32)), (.long (2147483648 : Int64))])) t
      refine XS.lshr X0.here hx rfl (hb hby d1_36) rfl ?_
      show Steps p.tables e below (s₁.setTop (mkF m 37 #[.val (.long q0), .second, .val (.long (0 : Int64)), .second, .val (.long (2147483648 : Int64)), .second, .val (.long (2147483648 : Int64)), .second] [(.long ((2147483648 : Int64) >>> ((1 : Int32) &&& 0x3f).toInt64))])) t
      refine Own.nmJ hv12 ?_
      show Steps p.tables e below (s₁.setTop (mkF m 37 #[.val (.long q0), .second, .val (.long (0 : Int64)), .second, .val (.long (2147483648 : Int64)), .second, .val (.long (2147483648 : Int64)), .second] [(.long v12)])) t
      refine XS.lstore X0.here hx rfl (hb hby d1_37) rfl (l' := #[.val (.long q0), .second, .val (.long (0 : Int64)), .second, .val (.long v12), .second, .val (.long (2147483648 : Int64)), .second]) rfl ?_
      show Steps p.tables e below (s₁.setTop (mkF m 39 #[.val (.long q0), .second, .val (.long (0 : Int64)), .second, .val (.long v12), .second, .val (.long (2147483648 : Int64)), .second] [])) t
      refine XS.goto X0.here hx rfl (pc0 := 39) (pc' := 7) rfl (hb hby d1_39) (by decide) (by decide) ?_
      show Steps p.tables e below (s₁.setTop (mkF m 7 #[.val (.long q0), .second, .val (.long (0 : Int64)), .second, .val (.long v12), .second, .val (.long (2147483648 : Int64)), .second] [])) t
      exact k
    exact J7 31 s₁ _ (0 : Int64) v12 (2147483648 : Int64) X0 e0 N0 h1 (own_half h2 hv12) h3 hlt (by omega)
  · obtain ⟨v13, hv13⟩ : ∃ z : Int64, z = ((2147483648 : Int64) >>> ((1 : Int32) &&& 0x3f).toInt64) := ⟨_, rfl⟩
    have h1 : 0 ≤ (0 : Int64).toInt := by decide
    have h2 : (2147483648 : Int64).toInt = ((2 ^ (31 + 1) : Nat) : Int) / 2 := by decide
    have h5 : (0 : Int64).toInt + ((2 ^ (31 + 1) : Nat) : Int) ≤ 4294967296 := by decide
    have h3 : (0 : Int64).toInt * (0 : Int64).toInt ≤ q0.toInt := hv
    have h4 : q0.toInt < ((0 : Int64).toInt + ((2 ^ (31 + 1) : Nat) : Int)) * ((0 : Int64).toInt + ((2 ^ (31 + 1) : Nat) : Int)) := Int.lt_trans (rng64 q0).2 (by decide)
    have hcq : (2147483648 : Int64) = (0 : Int64) + (2147483648 : Int64) := by decide
    have hcd := own_cand h1 h2 h5 hcq
    have pk := own_pow 31
    rw [pk.2] at h4 h5
    have pc : ((2 * 2 ^ 31 : Nat) : Int) = 2 * ((2 ^ 31 : Nat) : Int) := by omega
    have hge := Int.not_lt.mp (fun q => hc11 ((own_gt hv hcd.2).mpr q))
    rw [pc, own_up, ← hcd.1] at h4
    refine hD _ (s₁.setTop (mkF m 7 #[.val (.long q0), .second, .val (.long (2147483648 : Int64)), .second, .val (.long v13), .second, .val (.long (2147483648 : Int64)), .second] [])) (fun t k => ?_) ?_
    · show Steps p.tables e below (s₁.setTop (mkF m 27 #[.val (.long q0), .second, .val (.long (0 : Int64)), .second, .val (.long (2147483648 : Int64)), .second, .val (.long (2147483648 : Int64)), .second] [(.int (lcmpW (2147483648 : Int64) (q0 / (2147483648 : Int64))))])) t
      refine XS.ifNo X0.here hx rfl (hb hby d1_27) rfl ((if0 _ _).trans (flt (fun q => hc11 ((lw_gt (2147483648 : Int64) (q0 / (2147483648 : Int64))).mp q))).2.2.1) ?_
      show Steps p.tables e below (s₁.setTop (mkF m 30 #[.val (.long q0), .second, .val (.long (0 : Int64)), .second, .val (.long (2147483648 : Int64)), .second, .val (.long (2147483648 : Int64)), .second] [])) t
      refine XS.lload X0.here hx rfl (hb hby d1_30) rfl ?_
      show Steps p.tables e below (s₁.setTop (mkF m 32 #[.val (.long q0), .second, .val (.long (0 : Int64)), .second, .val (.long (2147483648 : Int64)), .second, .val (.long (2147483648 : Int64)), .second] [(.long (2147483648 : Int64))])) t
      refine XS.lstoreN X0.here hx rfl (hb hby d1_32) rfl (l' := #[.val (.long q0), .second, .val (.long (2147483648 : Int64)), .second, .val (.long (2147483648 : Int64)), .second, .val (.long (2147483648 : Int64)), .second]) rfl ?_
      show Steps p.tables e below (s₁.setTop (mkF m 33 #[.val (.long q0), .second, .val (.long (2147483648 : Int64)), .second, .val (.long (2147483648 : Int64)), .second, .val (.long (2147483648 : Int64)), .second] [])) t
      refine XS.lload X0.here hx rfl (hb hby d1_33) rfl ?_
      show Steps p.tables e below (s₁.setTop (mkF m 35 #[.val (.long q0), .second, .val (.long (2147483648 : Int64)), .second, .val (.long (2147483648 : Int64)), .second, .val (.long (2147483648 : Int64)), .second] [(.long (2147483648 : Int64))])) t
      refine XS.iconst X0.here hx rfl (hb hby d1_35) ?_
      show Steps p.tables e below (s₁.setTop (mkF m 36 #[.val (.long q0), .second, .val (.long (2147483648 : Int64)), .second, .val (.long (2147483648 : Int64)), .second, .val (.long (2147483648 : Int64)), .second] [(.int (1 : Int32)), (.long (2147483648 : Int64))])) t
      refine XS.lshr X0.here hx rfl (hb hby d1_36) rfl ?_
      show Steps p.tables e below (s₁.setTop (mkF m 37 #[.val (.long q0), .second, .val (.long (2147483648 : Int64)), .second, .val (.long (2147483648 : Int64)), .second, .val (.long (2147483648 : Int64)), .second] [(.long ((2147483648 : Int64) >>> ((1 : Int32) &&& 0x3f).toInt64))])) t
      refine Own.nmJ hv13 ?_
      show Steps p.tables e below (s₁.setTop (mkF m 37 #[.val (.long q0), .second, .val (.long (2147483648 : Int64)), .second, .val (.long (2147483648 : Int64)), .second, .val (.long (2147483648 : Int64)), .second] [(.long v13)])) t
      refine XS.lstore X0.here hx rfl (hb hby d1_37) rfl (l' := #[.val (.long q0), .second, .val (.long (2147483648 : Int64)), .second, .val (.long v13), .second, .val (.long (2147483648 : Int64)), .second]) rfl ?_
      show Steps p.tables e below (s₁.setTop (mkF m 39 #[.val (.long q0), .second, .val (.long (2147483648 : Int64)), .second, .val (.long v13), .second, .val (.long (2147483648 : Int64)), .second] [])) t
      refine XS.goto X0.here hx rfl (pc0 := 39) (pc' := 7) rfl (hb hby d1_39) (by decide) (by decide) ?_
      show Steps p.tables e below (s₁.setTop (mkF m 7 #[.val (.long q0), .second, .val (.long (2147483648 : Int64)), .second, .val (.long v13), .second, .val (.long (2147483648 : Int64)), .second] [])) t
      exact k
    exact J7 31 s₁ _ (2147483648 : Int64) v13 (2147483648 : Int64) X0 e0 N0 (by omega) (own_half h2 hv13) hge h4 (by omega)
theorem pd_0 : parseMethodDescriptor "(J)J" = some ⟨[.long], some .long⟩ := by decide +kernel
theorem pn_1 : plainName "com/example/request_throttle/requestthrottle/ArithmeticFloorSqrtPinLaw" = true := by first | (simp [plainName, overriddenIn]; done) | decide +kernel
theorem ef_0 (m : MethodId) (q0 : Int64) : entryFrame m #[(.long q0)] maxLocals = mkF m 0 #[.val (.long q0), .second, .unset, .unset, .unset, .unset, .unset, .unset] [] := by first | (simp [entryFrame, mkF, argsToLocals, Value.category, maxLocals]; done) | rfl
def Q0 (Z : State) (q0 : Int64) (h0 : Heap) (n0 : Nat) (v : Option Value) (h : Heap) (L : List Loc) : Prop := v = some (.int 1) ∧ Fr n0 L
set_option maxRecDepth 65536 in
set_option maxHeartbeats 40000000 in
theorem rm0 (l : Launch) (Z : State) (a0 : Array Value) (hw : ∀ d ∈ tables_1, d.before a0 Z = true) (ws : List Jvm.Cond) (q0 : Int64) (h0 : Heap) (n0 : Nat) :
    MetFree l x (head1 (Jvm.Cond.code x code maxLocals ret :: ws) room_1) (fun a U => a = #[(.long q0)] ∧ Z.Warmed39 U.vm ∧ U.heap = h0) (fun _ _ _ _ _ => True) (fun _ U o U' => ∃ v L, o = .returned v ∧ Q0 Z q0 h0 n0 v U'.heap L ∧ FrameEnd U o U' L room_1.cells room_1.slots) := by
  refine Own.enter (Q := Q0 Z q0 h0 n0) (plainFor_of_name pn_1) ?_
  intro p e s m below meth c s₁ D hx hby hml hown hnm hret hZ X0 e0 hD hR
  have N0 := Fr.nil n0
  rw [show entryFrame m #[(.long q0)] maxLocals = mkF m 0 #[.val (.long q0), .second, .unset, .unset, .unset, .unset, .unset, .unset] [] from ef_0 m q0]
  obtain ⟨v1, hv1⟩ : ∃ z : Int64, z = (q0 &&& (9223372036854775807 : Int64)) := ⟨_, rfl⟩
  obtain ⟨T2, _, L2, X2, ⟨⟨r2, rfl, hr1, hr2, hr3, hr4⟩, Nq2, e2⟩, st2⟩ := Own.callS (y := (⟨"com/example/request_throttle/requestthrottle/Arithmetic", "floorSqrt", "(J)J"⟩ : MethodName)) (W := 0) (argsL := [(.long v1)]) (rest := []) X0 hx hZ hown (hw _ (List.mem_of_getElem? (i := 1) rfl)) (hw _ (List.mem_of_getElem? (i := 2) rfl)) (hw _ (List.mem_of_getElem? (i := 3) rfl)) (hw _ (List.mem_of_getElem? (i := 4) rfl)) (by decide) e0 (rm1 l Z a0 hw [] v1  h0 n0 (own_mask hv1)) (by decide) (by decide) (by decide) (by decide) (g := (mkF m 7 #[.val (.long q0), .second, .val (.long v1), .second, .unset, .unset, .unset, .unset] [(.long v1)])) rfl (by rw [hml]; rfl) (lenOf pd_0 rfl) rfl (by show 2 * 0 + _ ≤ _; exact Nat.le_of_eq rfl) (hb hby at_7)
  have N2 := Fr.app N0 Nq2
  refine hD _ (T2.setTop (mkF m 16 #[.val (.long q0), .second, .val (.long v1), .second, .val (.long r2), .second, .unset, .unset] [(.int (lcmpW r2 (0 : Int64)))])) (fun t k => ?_) ?_
  · show Steps p.tables e below (s₁.setTop (mkF m 0 #[.val (.long q0), .second, .unset, .unset, .unset, .unset, .unset, .unset] [])) t
    refine XS.lloadN X0.here hx rfl (hb hby at_0) rfl ?_
    show Steps p.tables e below (s₁.setTop (mkF m 1 #[.val (.long q0), .second, .unset, .unset, .unset, .unset, .unset, .unset] [(.long q0)])) t
    refine X0.ldc2Long hx hown (mvT hZ (hw _ (List.mem_of_getElem? (i := 0) rfl))) (g := (mkF m 1 #[.val (.long q0), .second, .unset, .unset, .unset, .unset, .unset, .unset] [(.long q0)])) rfl (hb hby at_1) _ ?_
    show Steps p.tables e below (s₁.setTop (mkF m 4 #[.val (.long q0), .second, .unset, .unset, .unset, .unset, .unset, .unset] [(.long (9223372036854775807 : Int64)), (.long q0)])) t
    refine XS.land X0.here hx rfl (hb hby at_4) rfl ?_
    show Steps p.tables e below (s₁.setTop (mkF m 5 #[.val (.long q0), .second, .unset, .unset, .unset, .unset, .unset, .unset] [(.long (q0 &&& (9223372036854775807 : Int64)))])) t
    refine Own.nmJ hv1 ?_
    show Steps p.tables e below (s₁.setTop (mkF m 5 #[.val (.long q0), .second, .unset, .unset, .unset, .unset, .unset, .unset] [(.long v1)])) t
    refine XS.lstoreN X0.here hx rfl (hb hby at_5) rfl (l' := #[.val (.long q0), .second, .val (.long v1), .second, .unset, .unset, .unset, .unset]) rfl ?_
    show Steps p.tables e below (s₁.setTop (mkF m 6 #[.val (.long q0), .second, .val (.long v1), .second, .unset, .unset, .unset, .unset] [])) t
    refine XS.lloadN X0.here hx rfl (hb hby at_6) rfl ?_
    show Steps p.tables e below (s₁.setTop (mkF m 7 #[.val (.long q0), .second, .val (.long v1), .second, .unset, .unset, .unset, .unset] [(.long v1)])) t
    refine st2 _ ?_
    show Steps p.tables e below (T2.setTop (mkF m 10 #[.val (.long q0), .second, .val (.long v1), .second, .unset, .unset, .unset, .unset] [(.long r2)])) t
    refine XS.lstore X2.here hx rfl (hb hby at_10) rfl (l' := #[.val (.long q0), .second, .val (.long v1), .second, .val (.long r2), .second, .unset, .unset]) rfl ?_
    show Steps p.tables e below (T2.setTop (mkF m 12 #[.val (.long q0), .second, .val (.long v1), .second, .val (.long r2), .second, .unset, .unset] [])) t
    refine XS.lload X2.here hx rfl (hb hby at_12) rfl ?_
    show Steps p.tables e below (T2.setTop (mkF m 14 #[.val (.long q0), .second, .val (.long v1), .second, .val (.long r2), .second, .unset, .unset] [(.long r2)])) t
    refine XS.lconst X2.here hx rfl (hb hby at_14) ?_
    show Steps p.tables e below (T2.setTop (mkF m 15 #[.val (.long q0), .second, .val (.long v1), .second, .val (.long r2), .second, .unset, .unset] [(.long (0 : Int64)), (.long r2)])) t
    refine XS.lcmp X2.here hx rfl (hb hby at_15) rfl ?_
    show Steps p.tables e below (T2.setTop (mkF m 16 #[.val (.long q0), .second, .val (.long v1), .second, .val (.long r2), .second, .unset, .unset] [(.int (lcmpW r2 (0 : Int64)))])) t
    exact k
  have hc3 : ¬ (r2 < (0 : Int64)) := by
    have k0 : (0 : Int64).toInt = 0 := by decide
    rw [Int64.lt_iff_toInt_lt, k0]; omega
  refine hD _ (T2.setTop (mkF m 25 #[.val (.long q0), .second, .val (.long v1), .second, .val (.long r2), .second, .unset, .unset] [(.int (lcmpW r2 (3037000499 : Int64)))])) (fun t k => ?_) ?_
  · show Steps p.tables e below (T2.setTop (mkF m 16 #[.val (.long q0), .second, .val (.long v1), .second, .val (.long r2), .second, .unset, .unset] [(.int (lcmpW r2 (0 : Int64)))])) t
    refine XS.ifNo X2.here hx rfl (hb hby at_16) rfl ((if0 _ _).trans (flt (fun q => hc3 ((lw_lt r2 (0 : Int64)).mp q))).1) ?_
    show Steps p.tables e below (T2.setTop (mkF m 19 #[.val (.long q0), .second, .val (.long v1), .second, .val (.long r2), .second, .unset, .unset] [])) t
    refine XS.lload X2.here hx rfl (hb hby at_19) rfl ?_
    show Steps p.tables e below (T2.setTop (mkF m 21 #[.val (.long q0), .second, .val (.long v1), .second, .val (.long r2), .second, .unset, .unset] [(.long r2)])) t
    refine X2.ldc2Long hx hown (mvT hZ (hw _ (List.mem_of_getElem? (i := 6) rfl))) (g := (mkF m 21 #[.val (.long q0), .second, .val (.long v1), .second, .val (.long r2), .second, .unset, .unset] [(.long r2)])) rfl (hb hby at_21) _ ?_
    show Steps p.tables e below (T2.setTop (mkF m 24 #[.val (.long q0), .second, .val (.long v1), .second, .val (.long r2), .second, .unset, .unset] [(.long (3037000499 : Int64)), (.long r2)])) t
    refine XS.lcmp X2.here hx rfl (hb hby at_24) rfl ?_
    show Steps p.tables e below (T2.setTop (mkF m 25 #[.val (.long q0), .second, .val (.long v1), .second, .val (.long r2), .second, .unset, .unset] [(.int (lcmpW r2 (3037000499 : Int64)))])) t
    exact k
  have hc4 : ¬ ((3037000499 : Int64) < r2) := by
    have k1 : (3037000499 : Int64).toInt = 3037000499 := by decide
    rw [Int64.lt_iff_toInt_lt, k1]; omega
  refine hD _ (T2.setTop (mkF m 37 #[.val (.long q0), .second, .val (.long v1), .second, .val (.long r2), .second, .unset, .unset] [(.int (lcmpW (r2 * r2) v1))])) (fun t k => ?_) ?_
  · show Steps p.tables e below (T2.setTop (mkF m 25 #[.val (.long q0), .second, .val (.long v1), .second, .val (.long r2), .second, .unset, .unset] [(.int (lcmpW r2 (3037000499 : Int64)))])) t
    refine XS.ifYes X2.here hx rfl (pc0 := 25) (pc' := 30) rfl (hb hby at_25) rfl ((if0 _ _).trans (flt (fun q => hc4 ((lw_gt r2 (3037000499 : Int64)).mp q))).2.2.2) (by decide) (by decide) ?_
    show Steps p.tables e below (T2.setTop (mkF m 30 #[.val (.long q0), .second, .val (.long v1), .second, .val (.long r2), .second, .unset, .unset] [])) t
    refine XS.lload X2.here hx rfl (hb hby at_30) rfl ?_
    show Steps p.tables e below (T2.setTop (mkF m 32 #[.val (.long q0), .second, .val (.long v1), .second, .val (.long r2), .second, .unset, .unset] [(.long r2)])) t
    refine XS.lload X2.here hx rfl (hb hby at_32) rfl ?_
    show Steps p.tables e below (T2.setTop (mkF m 34 #[.val (.long q0), .second, .val (.long v1), .second, .val (.long r2), .second, .unset, .unset] [(.long r2), (.long r2)])) t
    refine XS.lmul X2.here hx rfl (hb hby at_34) rfl ?_
    show Steps p.tables e below (T2.setTop (mkF m 35 #[.val (.long q0), .second, .val (.long v1), .second, .val (.long r2), .second, .unset, .unset] [(.long (r2 * r2))])) t
    refine XS.lloadN X2.here hx rfl (hb hby at_35) rfl ?_
    show Steps p.tables e below (T2.setTop (mkF m 36 #[.val (.long q0), .second, .val (.long v1), .second, .val (.long r2), .second, .unset, .unset] [(.long v1), (.long (r2 * r2))])) t
    refine XS.lcmp X2.here hx rfl (hb hby at_36) rfl ?_
    show Steps p.tables e below (T2.setTop (mkF m 37 #[.val (.long q0), .second, .val (.long v1), .second, .val (.long r2), .second, .unset, .unset] [(.int (lcmpW (r2 * r2) v1))])) t
    exact k
  have hc5 : ¬ (v1 < (r2 * r2)) := by
    have q := (rng64 v1)
    have q0 := Int.mul_nonneg hr1 hr1
    rw [Int64.lt_iff_toInt_lt, Jvm.Kit.i64_mul (by omega) (by omega)]; omega
  obtain ⟨v6, hv6⟩ : ∃ z : Int64, z = (r2 + (1 : Int64)) := ⟨_, rfl⟩
  have hnz : v6 ≠ 0 := own_nz (by rw [hv6, Jvm.Kit.i64_add] <;> simp <;> omega)
  have hnz7 : v6 ≠ 0 := hnz
  refine hD _ (T2.setTop (mkF m 55 #[.val (.long q0), .second, .val (.long v1), .second, .val (.long r2), .second, .val (.long v6), .second] [(.int (lcmpW v6 (v1 / v6)))])) (fun t k => ?_) ?_
  · show Steps p.tables e below (T2.setTop (mkF m 37 #[.val (.long q0), .second, .val (.long v1), .second, .val (.long r2), .second, .unset, .unset] [(.int (lcmpW (r2 * r2) v1))])) t
    refine XS.ifYes X2.here hx rfl (pc0 := 37) (pc' := 42) rfl (hb hby at_37) rfl ((if0 _ _).trans (flt (fun q => hc5 ((lw_gt (r2 * r2) v1).mp q))).2.2.2) (by decide) (by decide) ?_
    show Steps p.tables e below (T2.setTop (mkF m 42 #[.val (.long q0), .second, .val (.long v1), .second, .val (.long r2), .second, .unset, .unset] [])) t
    refine XS.lload X2.here hx rfl (hb hby at_42) rfl ?_
    show Steps p.tables e below (T2.setTop (mkF m 44 #[.val (.long q0), .second, .val (.long v1), .second, .val (.long r2), .second, .unset, .unset] [(.long r2)])) t
    refine XS.lconst X2.here hx rfl (hb hby at_44) ?_
    show Steps p.tables e below (T2.setTop (mkF m 45 #[.val (.long q0), .second, .val (.long v1), .second, .val (.long r2), .second, .unset, .unset] [(.long (1 : Int64)), (.long r2)])) t
    refine XS.ladd X2.here hx rfl (hb hby at_45) rfl ?_
    show Steps p.tables e below (T2.setTop (mkF m 46 #[.val (.long q0), .second, .val (.long v1), .second, .val (.long r2), .second, .unset, .unset] [(.long (r2 + (1 : Int64)))])) t
    refine Own.nmJ hv6 ?_
    show Steps p.tables e below (T2.setTop (mkF m 46 #[.val (.long q0), .second, .val (.long v1), .second, .val (.long r2), .second, .unset, .unset] [(.long v6)])) t
    refine XS.lstore X2.here hx rfl (hb hby at_46) rfl (l' := #[.val (.long q0), .second, .val (.long v1), .second, .val (.long r2), .second, .val (.long v6), .second]) rfl ?_
    show Steps p.tables e below (T2.setTop (mkF m 48 #[.val (.long q0), .second, .val (.long v1), .second, .val (.long r2), .second, .val (.long v6), .second] [])) t
    refine XS.lload X2.here hx rfl (hb hby at_48) rfl ?_
    show Steps p.tables e below (T2.setTop (mkF m 50 #[.val (.long q0), .second, .val (.long v1), .second, .val (.long r2), .second, .val (.long v6), .second] [(.long v6)])) t
    refine XS.lloadN X2.here hx rfl (hb hby at_50) rfl ?_
    show Steps p.tables e below (T2.setTop (mkF m 51 #[.val (.long q0), .second, .val (.long v1), .second, .val (.long r2), .second, .val (.long v6), .second] [(.long v1), (.long v6)])) t
    refine XS.lload X2.here hx rfl (hb hby at_51) rfl ?_
    show Steps p.tables e below (T2.setTop (mkF m 53 #[.val (.long q0), .second, .val (.long v1), .second, .val (.long r2), .second, .val (.long v6), .second] [(.long v6), (.long v1), (.long v6)])) t
    refine XS.ldiv X2.here hx rfl (hb hby at_53) rfl hnz7 ?_
    show Steps p.tables e below (T2.setTop (mkF m 54 #[.val (.long q0), .second, .val (.long v1), .second, .val (.long r2), .second, .val (.long v6), .second] [(.long (v1 / v6)), (.long v6)])) t
    refine XS.lcmp X2.here hx rfl (hb hby at_54) rfl ?_
    show Steps p.tables e below (T2.setTop (mkF m 55 #[.val (.long q0), .second, .val (.long v1), .second, .val (.long r2), .second, .val (.long v6), .second] [(.int (lcmpW v6 (v1 / v6)))])) t
    exact k
  have hc8 : (v1 / v6) < v6 := by
    have hd : v6.toInt = r2.toInt + 1 := by rw [hv6, Jvm.Kit.i64_add] <;> simp <;> omega
    rw [own_gt (own_mask hv1) (by omega), hd]; exact hr4
  refine hD _ (T2.setTop (mkF m 63 #[.val (.long q0), .second, .val (.long v1), .second, .val (.long r2), .second, .val (.long v6), .second] [(.int (1 : Int32))])) (fun t k => ?_) ?_
  · show Steps p.tables e below (T2.setTop (mkF m 55 #[.val (.long q0), .second, .val (.long v1), .second, .val (.long r2), .second, .val (.long v6), .second] [(.int (lcmpW v6 (v1 / v6)))])) t
    refine XS.ifNo X2.here hx rfl (hb hby at_55) rfl ((if0 _ _).trans (tlt ((lw_gt v6 (v1 / v6)).mpr hc8)).2.2.2) ?_
    show Steps p.tables e below (T2.setTop (mkF m 58 #[.val (.long q0), .second, .val (.long v1), .second, .val (.long r2), .second, .val (.long v6), .second] [])) t
    refine XS.iconst X2.here hx rfl (hb hby at_58) ?_
    show Steps p.tables e below (T2.setTop (mkF m 59 #[.val (.long q0), .second, .val (.long v1), .second, .val (.long r2), .second, .val (.long v6), .second] [(.int (1 : Int32))])) t
    refine XS.goto X2.here hx rfl (pc0 := 59) (pc' := 63) rfl (hb hby at_59) (by decide) (by decide) ?_
    show Steps p.tables e below (T2.setTop (mkF m 63 #[.val (.long q0), .second, .val (.long v1), .second, .val (.long r2), .second, .val (.long v6), .second] [(.int (1 : Int32))])) t
    exact k
  exact Own.retN hR X2 hx (t := .boolean) hret (by simp) (hb hby at_63) (by decide) (by decide) (by decide) ⟨rfl, N2⟩
set_option maxRecDepth 65536 in
set_option maxHeartbeats 40000000 in
theorem comes_1 {Post : Tables → Env → Array Value → State → Outcome → State → Prop} (hpost : ∀ tb e args s v u, (limb_1_1.after args s (.returned v) u = true ∧ limb_1_2.after args s (.returned v) u = true ∧ True) → FrameEnd s (.returned v) u (Jvm.fieldLocs frame_1_writes args s ++ Jvm.arrayLocs frame_1_arrays args s ++ Jvm.staticLocs frame_1_statics s) 0 0 → Post tb e args s (.returned v) u) :
    ArmFor flags0 classFile x code maxLocals ret World_1 tables_1 room_1 Calls_1 rest_1 Pre_1 Post := by
  intro l hfl _ _ p e ha hc hk s m args below hf hA hF happ hP
  obtain ⟨hcalls, hrest, hpre⟩ := hP
  obtain ⟨-, -, -, hnamed, -, -, -, hat⟩ := (Spec.applies_iff hf).mp happ
  obtain ⟨hg, hn⟩ := and_e (Cond.before_iff.mp (show (Jvm.Cond.and given_1 narrow_1).before args s = true from hpre))
  obtain ⟨hcnt, hg0⟩ := and_e hg
  obtain ⟨w0, rfl⟩ : ∃ w0 : Value, args = #[w0] := by
    have hs : args.size = 1 := by simpa [Cond.value, given_1] using hcnt
    obtain ⟨L⟩ := args
    match L, hs with
    | [w0], _ => exact ⟨w0, rfl⟩
  have hw := fun d (hd : d ∈ tables_1) => atoms_spec (ws := Jvm.Cond.code x code maxLocals ret :: tables_1) hat d (List.mem_cons_of_mem _ hd)
  obtain ⟨i0, ei0⟩ := isL_v hg0
  obtain rfl : w0 = (.long i0) := Option.some.inj ei0
  obtain ⟨n, o, h1, h2, h3, _, L, rfl, ⟨rfl, N⟩, hq⟩ := rm0 l s _ hw tables_1 i0 s.heap s.heap.size  p e ha hc hk s m _ below hf ((Spec.applies_iff_loose hf).mp happ).1 ⟨rfl, State.Warmed39.refl s, rfl⟩ trivial
  refine ⟨n, _, h1, h2, h3, hpost _ _ _ _ _ _ ⟨Cond.after_iff.mpr rfl, Cond.after_iff.mpr (eq_i res_at (Term.int_eval (1)) rfl), trivial⟩ ⟨hq.1, hq.2.1, (hq.2.2.sift fun y hy => Or.inr (N y hy)).mono (by decide) (by decide)⟩⟩
theorem main_1_1 : Claimed_1_1 := comes_1 fun _ _ _ _ _ _ h hF => ⟨h.1, hF⟩
theorem main_1_2 : Claimed_1_2 := comes_1 fun _ _ _ _ _ _ h hF => ⟨h.2.1, hF⟩
end Jvm.Pilot.@@N@@
namespace Jvm.Pilot.@@N@@
open Jvm Jvm.ClassFile Sem Op Lib Jvm.Free Jvm.Stand Jvm.Pilot.@@N@@.Jvm.D
/-! MADE BY PROGRAM (witnessworld.py) out of the Statement's table words and the real class files: 9 classes; the members and pool entries that the words name. The judged class is class 1, her method 1. -/
namespace start1
open Jvm.ClassFile
def u (s : String) : CpInfo := .utf8 (stringToUtf16 s)
/-- a pool by its gaps: so many unusable entries, then the entry; so many at the end -/
def gap : Nat → List CpInfo → List CpInfo
  | 0, r => r
  | n + 1, r => .unusable :: gap n r
def poolList (es : List (Nat × CpInfo)) (last : Nat) : List CpInfo := es.foldr (fun e r => gap e.1 (e.2 :: r)) (gap last [])
def pool (es : List (Nat × CpInfo)) (last : Nat) : Array CpInfo := ⟨poolList es last⟩
def fileOf (pool : Array CpInfo) (this : Nat) (attrs : Array Attribute := #[]) (ms : Array MethodInfo := #[]) (fl : Nat := 33) (sup : Nat := 0) (ifs : Array Nat := #[]) (fds : Array FieldInfo := #[]) : ClassFile where
  minorVersion := 0
  majorVersion := 65
  constantPool := pool
  accessFlags := fl
  thisClass := this
  superClass := sup
  interfaces := ifs
  fields := fds
  methods := ms
  attributes := attrs
def plain (name : String) (sup : Option ClassId) : Class where
  name := name
  kind := .ordinary
  loader := none
  accessFlags := 33
  super := sup
  interfaces := #[]
  cf := none
  fields := #[]
  methods := #[]
  instanceTypes := #[]
  staticTypes := #[]
  resolved := #[]
  callSites := []
  init := .initialized
  statics := none
  mirror := none

def pool0 : Array CpInfo := pool [(5, u "<init>"), (0, u "()V"), (1, .class_ 10), (1, u "java/lang/Object")] 113

def k0m0 : Method := { name := "<init>", desc := "()V", sig := { parameters := [], returnType := none }, accessFlags := 1, code := none }
/-- java/lang/Object -/
def k0 : Class := { plain "java/lang/Object" none with
  accessFlags := 33
  interfaces := #[]
  cf := some (fileOf pool0 8 #[] #[{ accessFlags := 1, nameIndex := 5, descriptorIndex := 6, attributes := #[] }] 33 0 #[] #[])
  fields := #[]
  methods := #[k0m0]
  instanceTypes := #[]
  staticTypes := #[]
  resolved := Array.replicate 124 none
  statics := none }

def pool1 : Array CpInfo := pool [(2, .class_ 4), (1, u "java/lang/Object"), (0, u "<init>"), (0, u "()V"), (2, .long 9223372036854775807), (1, .methodref 12 13), (0, .class_ 14), (0, .nameAndType 15 16), (0, u "com/example/request_throttle/requestthrottle/Arithmetic"), (0, u "floorSqrt"), (0, u "(J)J"), (0, .long 3037000499), (1, .class_ 20), (0, u "com/example/request_throttle/requestthrottle/ArithmeticFloorSqrtPinLaw"), (2, u "law"), (0, u "(J)Z")] 3

def k1m0 : Method := { name := "<init>", desc := "()V", sig := { parameters := [], returnType := none }, accessFlags := 2, code := none }
def k1c1 : Code := { maxStack := 6, maxLocals := 8, code := code, exceptionTable := #[], attributes := #[] }
def k1m1 : Method := { name := "law", desc := "(J)Z", sig := { parameters := [.long], returnType := some .boolean }, accessFlags := 9, code := some k1c1 }
/-- com/example/request_throttle/requestthrottle/ArithmeticFloorSqrtPinLaw -/
def k1 : Class := { plain "com/example/request_throttle/requestthrottle/ArithmeticFloorSqrtPinLaw" (some 0) with
  accessFlags := 49
  interfaces := #[]
  cf := some (fileOf pool1 19 #[] #[{ accessFlags := 2, nameIndex := 5, descriptorIndex := 6, attributes := #[] }, { accessFlags := 9, nameIndex := 23, descriptorIndex := 24, attributes := #[] }] 49 2 #[] #[])
  fields := #[]
  methods := #[k1m0, k1m1]
  instanceTypes := #[]
  staticTypes := #[]
  resolved := Array.replicate 28 none
  statics := none }

def pool2 : Array CpInfo := pool [(2, .class_ 4), (1, u "java/lang/Object"), (0, u "<init>"), (0, u "()V"), (0, .long 2147483648), (14, .class_ 24), (1, u "com/example/request_throttle/requestthrottle/Arithmetic"), (11, u "HALF"), (0, u "J"), (5, u "floorSqrt"), (0, u "(J)J")] 3

def k2m0 : Method := { name := "<init>", desc := "()V", sig := { parameters := [], returnType := none }, accessFlags := 2, code := none }
def k2c1 : Code := { maxStack := 6, maxLocals := 8, code := prog_2_method_3_code, exceptionTable := #[], attributes := #[] }
def k2m1 : Method := { name := "floorSqrt", desc := "(J)J", sig := { parameters := [.long], returnType := some .long }, accessFlags := 8, code := some k2c1 }
/-- com/example/request_throttle/requestthrottle/Arithmetic -/
def k2 : Class := { plain "com/example/request_throttle/requestthrottle/Arithmetic" (some 0) with
  accessFlags := 32
  interfaces := #[]
  cf := some (fileOf pool2 22 #[] #[{ accessFlags := 2, nameIndex := 5, descriptorIndex := 6, attributes := #[] }, { accessFlags := 8, nameIndex := 43, descriptorIndex := 44, attributes := #[] }] 32 2 #[] #[{ accessFlags := 26, nameIndex := 36, descriptorIndex := 37, attributes := #[] }])
  fields := #[{ name := "HALF", type := .long, accessFlags := 26, slot := 0, constantValue := 0 }]
  methods := #[k2m0, k2m1]
  instanceTypes := #[]
  staticTypes := #[.long]
  resolved := Array.replicate 48 none
  statics := none }

def pool3 : Array CpInfo := pool [(1, u "java/lang/Cloneable"), (0, .class_ 1), (0, u "java/lang/Object"), (0, .class_ 3)] 3

/-- java/lang/Cloneable -/
def k3 : Class := { plain "java/lang/Cloneable" (some 0) with
  accessFlags := 1537
  interfaces := #[]
  cf := some (fileOf pool3 2 #[] #[] 1537 4 #[] #[])
  fields := #[]
  methods := #[]
  instanceTypes := #[]
  staticTypes := #[]
  resolved := Array.replicate 8 none
  statics := none }

def pool4 : Array CpInfo := pool [(1, u "java/io/Serializable"), (0, .class_ 1), (0, u "java/lang/Object"), (0, .class_ 3)] 3

/-- java/io/Serializable -/
def k4 : Class := { plain "java/io/Serializable" (some 0) with
  accessFlags := 1537
  interfaces := #[]
  cf := some (fileOf pool4 2 #[] #[] 1537 4 #[] #[])
  fields := #[]
  methods := #[]
  instanceTypes := #[]
  staticTypes := #[]
  resolved := Array.replicate 8 none
  statics := none }

/-- the primitive byte -/
def k5 : Class := { plain "byte" none with kind := .primitive 'B', accessFlags := 0x411 }
/-- [B -/
def k6 : Class := { plain "[B" (some 0) with kind := .array 5 .byte, interfaces := #[3, 4], accessFlags := 1041 }

/-- the primitive int -/
def k7 : Class := { plain "int" none with kind := .primitive 'I', accessFlags := 0x411 }
/-- [I -/
def k8 : Class := { plain "[I" (some 0) with kind := .array 7 .int, interfaces := #[3, 4], accessFlags := 1041 }

def heap : Heap := #[]
def classes : Array Class := #[k0, k1, k2, k3, k4, k5, k6, k7, k8]
def interned : List (Array UInt16 × Addr) := []
def slotsUsed : Nat := 0
def theMethod : MethodId := ⟨1, 1⟩
def args0 : Array Value := #[.long 7]
def aboutOver (below : List Frame) : State where
  vm := { classes := classes, interned := interned.toArray }
  heap := heap
  slotsUsed := slotsUsed
  threads := #[{ frames := .invoking theMethod args0 :: below }]
def below0 : List Frame := [.native { method := ⟨0, 0⟩, args := #[] }]
def about1 : State := aboutOver below0
def p0 : Program := .bare "" "" ""
def e0 : Env := launch0.env 0 0 0
theorem w_frames : about1.frames = Frame.invoking theMethod args0 :: below0 := rfl
set_option maxRecDepth 65536 in
theorem w_args : argsFit about1.vm theMethod args0 = true := by decide +kernel
set_option maxRecDepth 65536 in
theorem w_heap : heapFits about1 = true := by decide +kernel
set_option maxRecDepth 65536 in
theorem w_runnable : about1.curStatus? = some .runnable := by decide +kernel
set_option maxRecDepth 65536 in
theorem w_alone : about1.alone = true := by decide +kernel
set_option maxRecDepth 65536 in
theorem w_named : about1.methodNamed? x = some theMethod := by decide +kernel
set_option maxRecDepth 65536 in
theorem w_hears : about1.hears theMethod below0 = true := by decide +kernel
set_option maxRecDepth 65536 in
theorem w_ripe : about1.ripe theMethod args0 below0 = true := by decide +kernel
theorem w_running : about1.status = .running := rfl
set_option maxRecDepth 65536 in
theorem w_room : about1.hasRoom e0.platform room_1 = true :=
  launch0.hasRoom_least _ room_1 (by decide +kernel) (by decide +kernel) (by decide +kernel) (by decide +kernel) (by decide +kernel) (by decide +kernel)
theorem allAtoms_all (ts : List Jvm.Cond) (a : Array Jvm.Value) (st : Jvm.State) : (allAtoms ts).before a st = ts.all (fun c => c.before a st) := by
  induction ts with
  | nil => rfl
  | cons c t ih =>
    show (Jvm.Cond.and c (allAtoms t)).before a st = _
    rw [Jvm.Cond.before_and, ih, List.all_cons]
def words1 : List Jvm.Cond := Jvm.Cond.code x code maxLocals ret :: tables_1
/-- a 'code' word, met by the world's own term for the bytes: nothing is compared byte by byte -/
theorem code_word {y : MethodName} {bytes : ByteArray} {mx : Nat} {rt : Option FieldType} {a : Array Value} {s : State} {m : MethodId} {meth : Method} {c : Code} (h1 : s.methodNamed? y = some m) (h2 : s.vm.method? m = some meth) (h3 : meth.code = some c) (h4 : c.code = bytes)
    (h5 : (c.maxLocals == mx && c.exceptionTable.isEmpty && decide (c.maxStack ≤ mostOperands) && decide (meth.sig.returnType = rt) && !meth.locks && decide (parseMethodDescriptor y.desc = some meth.sig)) = true) : (Jvm.Cond.code y bytes mx rt).before a s = true := by
  simp only [Bool.and_eq_true, beq_iff_eq, Bool.not_eq_true', decide_eq_true_eq] at h5
  obtain ⟨⟨⟨⟨⟨g1, g2⟩, g3⟩, g4⟩, g5⟩, g6⟩ := h5
  simp [Cond.before, Cond.holds, Cond.value, h1, h2, h3, h4, g1, g2, g3, g4, g5, g6]
def isCode : Jvm.Cond → Bool
  | .code _ _ _ _ => true
  | _ => false
theorem all_split {L : List Jvm.Cond} {P : Jvm.Cond → Bool} (h1 : L.all (fun c => isCode c || P c) = true) (h2 : ∀ c ∈ L.filter isCode, P c = true) : L.all P = true := by
  refine List.all_eq_true.mpr fun c hc => ?_
  have h := List.all_eq_true.mp h1 c hc
  rcases Bool.eq_false_or_eq_true (isCode c) with hi | hi
  · exact h2 c (List.mem_filter.mpr ⟨hc, hi⟩)
  · simpa [hi] using h
set_option maxRecDepth 65536 in
theorem w_c0 : (Jvm.Cond.code x code maxLocals ret).before args0 about1 = true := code_word (m := ⟨1, 1⟩) (meth := k1m1) (c := k1c1) (by decide +kernel) rfl rfl rfl (by decide +kernel)
set_option maxRecDepth 65536 in
theorem w_c1 : (Jvm.Cond.code ({ cls := "com/example/request_throttle/requestthrottle/Arithmetic", name := "floorSqrt", desc := "(J)J" } : Jvm.MethodName) prog_2_method_3_code (8 : Nat) (Option.some Jvm.ClassFile.FieldType.long)).before args0 about1 = true := code_word (m := ⟨2, 1⟩) (meth := k2m1) (c := k2c1) (by decide +kernel) rfl rfl rfl (by decide +kernel)
def codes1 : List Jvm.Cond := [Jvm.Cond.code x code maxLocals ret, Jvm.Cond.code ({ cls := "com/example/request_throttle/requestthrottle/Arithmetic", name := "floorSqrt", desc := "(J)J" } : Jvm.MethodName) prog_2_method_3_code (8 : Nat) (Option.some Jvm.ClassFile.FieldType.long)]
set_option maxRecDepth 65536 in
theorem codes_eq : words1.filter isCode = codes1 := rfl
theorem w_codes : ∀ c ∈ words1.filter isCode, c.before args0 about1 = true := by
  rw [codes_eq]
  intro c hc
  simp only [codes1, List.mem_cons, List.not_mem_nil, or_false] at hc
  rcases hc with rfl | rfl
  · exact w_c0
  · exact w_c1
set_option maxRecDepth 65536 in
theorem w_t1 : words1.all (fun c => isCode c || c.before args0 about1) = true := by decide +kernel
theorem w_tables : (allAtoms (Jvm.Cond.code x code maxLocals ret :: tables_1)).before args0 about1 = true := by
  rw [allAtoms_all]
  show words1.all (fun c => c.before args0 about1) = true
  refine all_split ?_ w_codes
  rw [w_t1]
set_option maxRecDepth 65536 in
theorem w_case : (Jvm.Cond.and given_1 narrow_1).before args0 about1 = true := by decide +kernel
theorem w_applies : (headSpec (Jvm.Cond.code x code maxLocals ret :: tables_1) room_1).applies x e0.platform about1 = true :=
  (Spec.applies_iff w_frames).mpr ⟨w_running, w_runnable, w_alone, w_named, w_hears, w_ripe, w_room, w_tables⟩
theorem atStart : AtStart classFile x code maxLocals ret World_1 tables_1 room_1 Calls_1 rest_1 Pre_1 launch0 p0 e0 about1 theMethod args0 below0 :=
  ⟨lists_1, trivial, launch0.admits_env _ _ _, launch0.least_env, fairChoices_fair.cas, fairChoices_fair.clock, w_frames, w_args, w_heap, w_applies, trivial, trivial, w_case⟩
end start1
theorem witness_1 : WitnessClaimed_1 := ⟨start1.p0, start1.e0, start1.about1, start1.theMethod, start1.args0, start1.below0, start1.atStart⟩
end Jvm.Pilot.@@N@@
