import JvmDerived
import JvmDerived.Pilot.@@N@@Statement
import JvmDerived.Pilot.@@N@@Code
set_option linter.unusedVariables false
set_option linter.unusedSimpArgs false
@@BLOCK:NumsL.lean.txt@@
namespace Jvm.Own
open Sem ClassFile Op Lib Jvm.Stand Jvm.Free Jvm.LawKit Jvm.RoadKit
section Kit
variable {p : Program} {l : Launch} {e : Env} {R : Room} {s : State} {m : MethodId} {args : Array Value} {below : List Frame} {meth : Method} {c : Code} {T : State} {locs : List Loc} {cells slots : Nat} {Z : State} {a0 : Array Value} {h : Heap}
/-- D is closed under going back over steps -/
def Clo (p : Program) (e : Env) (below : List Frame) (D : State → Prop) : Prop := ∀ (U U' : State), (∀ t, Steps p.tables e below U' t → Steps p.tables e below U t) → D U' → D U
/-- D holds wherever the body returns with what Q says -/
def Ret (p : Program) (l : Launch) (e : Env) (R : Room) (s : State) (m : MethodId) (args : Array Value) (below : List Frame) (meth : Method) (c : Code) (Q : Option Value → Heap → List Loc → Prop) (C N : Nat) (D : State → Prop) : Prop :=
  ∀ (T : State) (locs : List Loc) (cells slots : Nat) (v : Option Value) (U : State), Stand p l e R s m args below meth c T locs cells slots → (meth.sig.returnType = none → v = none) → cells ≤ C → slots ≤ N → Q v T.heap locs →
    (∀ fs, (∀ (f : JFrame) (acts : List Action), f.method = m → f.locked = none → f.entered = [] → (doReturn e (T.setTop f) acts v).1 = T.setFrames fs) → Steps p.tables e below U (T.setFrames fs)) → D U
theorem enter {y : MethodName} {code : ByteArray} {maxL : Nat} {ret : Option FieldType} {ws : List Cond} {rm : Room} {as' : Array Value} {h0 : Heap} {Q : Option Value → Heap → List Loc → Prop} {C N : Nat} (hpl : plainFor y = true)
    (body : ∀ (p : Program) (e : Env) (s : State) (m : MethodId) (below : List Frame) (meth : Method) (c : Code) (s₁ : State) (D : State → Prop),
      p.tables.exec = Jvm.exec → c.code = code → c.maxLocals = maxL → s.vm.findClass y.cls = some m.cls → meth.name = y.name → meth.sig.returnType = ret → Z.Warmed39 s.vm → Stand p l e rm s m as' below meth c s₁ [] 0 0 → s₁.heap = h0 →
      Clo p e below D → Ret p l e rm s m as' below meth c Q C N D → D (s₁.setTop (entryFrame m as' maxL))) :
    MetFree l y (head1 (Jvm.Cond.code y code maxL ret :: ws) rm) (fun a U => a = as' ∧ Z.Warmed39 U.vm ∧ U.heap = h0) (fun _ _ _ _ _ => True) (fun _ U o U' => ∃ v L, o = .returned v ∧ Q v U'.heap L ∧ FrameEnd U o U' L C N) := by
  refine MetFree.of_bodySF hpl hisR ?_
  intro p e s m args below meth c s₁ Bd hml hP hK
  obtain ⟨rfl, hZ, hh⟩ := hP
  have X0 : Stand p l e rm s m args below meth c s₁ [] 0 0 := Stand.of_body Bd
  refine body p e s m below meth c s₁ (fun U => ∃ s₂ o, Steps p.tables e below U s₂ ∧ s₂.status = .running ∧ Ended s₂ below o ∧ ∃ v L, o = .returned v ∧ Q v s₂.heap L ∧ FrameEnd s o s₂ L C N) Bd.exec Bd.bytes hml (findClass_of_methodNamed Bd.named) (name_of_methodNamed Bd.named Bd.method).1 Bd.returns hZ X0 (by rw [← hh, Bd.state]; rfl) ?_ ?_
  · rintro U U' k ⟨s₂, o, st, r⟩
    exact ⟨s₂, o, k _ st, r⟩
  · intro T locs cells slots v U X hv hc hn hQ k
    obtain ⟨fs, hr, hrun, hended, hW, hsame⟩ := X.leave (v := v) hv
    exact ⟨_, _, k fs hr, hrun, hended, v, locs, rfl, hQ, ⟨_, rfl⟩, hW, hsame.mono hc hn⟩
theorem mono {c' n' : Nat} (X : Stand p l e R s m args below meth c T locs cells slots) (hc : cells ≤ c') (hn : slots ≤ n') : Stand p l e R s m args below meth c T locs c' n' :=
  { X with same := X.same.weaken (fun _ hy _ => hy) hc hn }
theorem forget {k : Nat} (X : Stand p l e R s m args below meth c T locs cells slots) (N : Fr k locs) (hk : s.heap.size ≤ k) : Stand p l e R s m args below meth c T [] cells slots :=
  { X with same := X.same.weaken (fun y hy hlt => absurd hlt (Nat.not_lt.mpr (Nat.le_trans hk (N y hy)))) (Nat.le_refl _) (Nat.le_refl _) }
variable {Q : Option Value → Heap → List Loc → Prop} {C N : Nat} {D : State → Prop}
theorem retI (hR : Ret p l e R s m args below meth c Q C N D) (X : Stand p l e R s m args below meth c T locs cells slots) (hx : p.tables.exec = Jvm.exec) {pc : Nat} {Ls : Array Slot} {z : Int32} {rest : List Value} (hret : meth.sig.returnType = some .int) (hd : decode c.code pc = .ok (.ireturn, 1)) (hc : cells ≤ C) (hn : slots ≤ N) (hQ : Q (some (.int z)) T.heap locs) : D (T.setTop (mkF m pc Ls (.int z :: rest))) := by
  refine hR T locs cells slots (some (.int z)) _ X (fun h => by rw [hret] at h; cases h) hc hn hQ fun fs hl => ?_
  have hm' : T.vm.method? m = some meth := X.method'
  have hn : narrow .int (.int z) = .int z := rfl
  show Steps p.tables e below (T.setTop { method := m, pc := pc, locals := Ls, stack := _ :: rest, locked := none }) _
  jvm_step X.here [X.here.top, hx, hd, hm', hret, hn]
  first | (intro acts; rw [hl _ acts rfl rfl rfl]) | rw [hl _ _ rfl rfl rfl]
  exact Steps.refl _
theorem retN (hR : Ret p l e R s m args below meth c Q C N D) (X : Stand p l e R s m args below meth c T locs cells slots) (hx : p.tables.exec = Jvm.exec) {pc : Nat} {Ls : Array Slot} {z : Int32} {t : FieldType} {rest : List Value} (hret : meth.sig.returnType = some t) (ht : t = .boolean ∨ t = .byte ∨ t = .char ∨ t = .short) (hd : decode c.code pc = .ok (.ireturn, 1)) (hc : cells ≤ C) (hn : slots ≤ N) (hz : nar t z = z) (hQ : Q (some (.int z)) T.heap locs) : D (T.setTop (mkF m pc Ls (.int z :: rest))) := by
  refine hR T locs cells slots (some (.int z)) _ X (fun h => by rw [hret] at h; cases h) hc hn hQ fun fs hl => ?_
  exact Jvm.RoadKit.retN X hx hret ht hd (by rw [hz]; exact hl)
theorem retJ (hR : Ret p l e R s m args below meth c Q C N D) (X : Stand p l e R s m args below meth c T locs cells slots) (hx : p.tables.exec = Jvm.exec) {pc : Nat} {Ls : Array Slot} {z : Int64} (hret : meth.sig.returnType = some .long) (hd : decode c.code pc = .ok (.lreturn, 1)) (hc : cells ≤ C) (hn : slots ≤ N) (hQ : Q (some (.long z)) T.heap locs) : D (T.setTop (mkF m pc Ls [.long z])) :=
  hR T locs cells slots (some (.long z)) _ X (fun h => by rw [hret] at h; cases h) hc hn hQ fun fs hl => X.lreturnOut hx hret hd hl
theorem retA (hR : Ret p l e R s m args below meth c Q C N D) (X : Stand p l e R s m args below meth c T locs cells slots) (hx : p.tables.exec = Jvm.exec) {pc : Nat} {Ls : Array Slot} {w : Value} {t : FieldType} (hw : w.isRef = true) (hret : meth.sig.returnType = some t) (ht : t.isReference = true) (hd : decode c.code pc = .ok (.areturn, 1)) (hc : cells ≤ C) (hn : slots ≤ N) (hQ : Q (some w) T.heap locs) : D (T.setTop (mkF m pc Ls [w])) :=
  hR T locs cells slots (some w) _ X (fun h => by rw [hret] at h; cases h) hc hn hQ fun fs hl => X.areturnOut hx hw hret ht hd hl
theorem retV (hR : Ret p l e R s m args below meth c Q C N D) (X : Stand p l e R s m args below meth c T locs cells slots) (hx : p.tables.exec = Jvm.exec) {pc : Nat} {Ls : Array Slot} (hret : meth.sig.returnType = none) (hd : decode c.code pc = .ok (.return_, 1)) (hc : cells ≤ C) (hn : slots ≤ N) (hQ : Q none T.heap locs) : D (T.setTop (mkF m pc Ls [])) :=
  hR T locs cells slots none _ X (fun _ => rfl) hc hn hQ fun fs hl => X.returnOut hx hret hd hl
/-! calls -/
variable {y z : MethodName} {bytes : ByteArray} {maxL : Nat} {ret : Option FieldType} {rm : Room} {W : Nat} {Qc : Option Value → Heap → List Loc → Prop} {own Cn : String} {index : Nat} {g : JFrame} {argsL rest : List Value} {a : Addr}
theorem callS (X : Stand p l e R s m args below meth c T locs cells slots) (hx : p.tables.exec = Jvm.exec) (hZ : Z.Warmed39 s.vm) (hown : s.vm.findClass own = some m.cls)
    (w1 : (Cond.methodLink own index y).before a0 Z = true) (w2 : (Cond.static y).before a0 Z = true) (w3 : (Cond.initialized y.cls).before a0 Z = true) (w4 : (Cond.code y bytes maxL ret).before a0 Z = true)
    (hy : y.cls ≠ "java/lang/invoke/MethodHandle" ∧ y.cls ≠ "java/lang/invoke/VarHandle") (e0 : T.heap = h)
    (hM : MetFree l y (head1 [Cond.code y bytes maxL ret] rm) (fun a U => a = argsL.toArray ∧ Z.Warmed39 U.vm ∧ U.heap = h) (fun _ _ _ _ _ => True) (fun _ U o U' => ∃ v L, o = .returned v ∧ Qc v U'.heap L ∧ FrameEnd U o U' L rm.cells rm.slots))
    (hf : rm.frames + 1 ≤ R.frames) (hl : W + (maxL + 11) + rm.locals ≤ R.locals) (hcells : cells + rm.cells ≤ R.cells) (hslots : slots + rm.slots ≤ R.slots)
    (hg : g.method = m) (hsize : g.locals.size = c.maxLocals) (hlen : ∀ sig, parseMethodDescriptor y.desc = some sig → argsL.length = sig.parameters.length)
    (hstack : g.stack = argsL.reverse ++ rest) (hW : 2 * g.monitorRoom + (rest.map fun v => v.category).sum ≤ W) (hdg : decode c.code g.pc = .ok (.invokestatic index, 3)) :
    ∃ (T' : State) (v : Option Value) (L : List Loc), Stand p l e R s m args below meth c T' (locs ++ L) (cells + rm.cells) (slots + rm.slots) ∧ Qc v T'.heap L ∧
      ∀ t, Steps p.tables e below (T'.setTop { g with pc := g.pc + 3, stack := v.toList ++ rest }) t → Steps p.tables e below (T.setTop g) t := by
  obtain ⟨v, _, ⟨T', L', k', n'⟩, -, X', ⟨Lc, hQ, l1, y1, z1⟩, st⟩ := Jvm.LawKit.callS X hx (y := y) hown (mvT hZ w1) (mvT hZ w2) (mvT hZ w3) (mvT hZ w4) hy (backOf (W := W) hM hZ w4 w3 hf hl) hg hsize hlen hstack hW hdg (fun _ _ => ⟨rfl, e0, hcells, hslots⟩)
  dsimp only [Pt.U, Pt.locs, Pt.cells, Pt.slots] at X' l1 y1 z1 st hQ
  subst l1 y1 z1
  exact ⟨T', v, Lc, X', hQ, st⟩
theorem callI (X : Stand p l e R s m args below meth c T locs cells slots) (hx : p.tables.exec = Jvm.exec) (hZ : Z.Warmed39 s.vm) (hown : s.vm.findClass own = some m.cls) (hy1 : y.name = "<init>")
    (w1 : (Cond.methodLink own index y).before a0 Z = true) (w2 : (Cond.instanceMethod y).before a0 Z = true) (w3 : (Cond.initialized y.cls).before a0 Z = true) (w4 : (Cond.code y bytes maxL none).before a0 Z = true)
    (hy : y.cls ≠ "java/lang/invoke/MethodHandle" ∧ y.cls ≠ "java/lang/invoke/VarHandle") (e0 : T.heap = h)
    (hM : MetFree l y (head1 [Cond.code y bytes maxL none] rm) (fun q U => q = (.ref a :: argsL).toArray ∧ Z.Warmed39 U.vm ∧ U.heap = h) (fun _ _ _ _ _ => True) (fun _ U o U' => ∃ v L, o = .returned v ∧ Qc v U'.heap L ∧ FrameEnd U o U' L rm.cells rm.slots))
    (hf : rm.frames + 1 ≤ R.frames) (hl : W + (maxL + 11) + rm.locals ≤ R.locals) (hcells : cells + rm.cells ≤ R.cells) (hslots : slots + rm.slots ≤ R.slots)
    (hg : g.method = m) (hsize : g.locals.size = c.maxLocals) (hlen : ∀ sig, parseMethodDescriptor y.desc = some sig → argsL.length = sig.parameters.length)
    (hstack : g.stack = argsL.reverse ++ .ref a :: rest) (hW : 2 * g.monitorRoom + (rest.map fun v => v.category).sum ≤ W) (hdg : decode c.code g.pc = .ok (.invokespecial index, 3)) :
    ∃ (T' : State) (v : Option Value) (L : List Loc), Stand p l e R s m args below meth c T' (locs ++ L) (cells + rm.cells) (slots + rm.slots) ∧ Qc v T'.heap L ∧
      ∀ t, Steps p.tables e below (T'.setTop { g with pc := g.pc + 3, stack := v.toList ++ rest }) t → Steps p.tables e below (T.setTop g) t := by
  obtain ⟨v, _, ⟨T', L', k', n'⟩, -, X', ⟨Lc, hQ, l1, y1, z1⟩, st⟩ := X.specialBack hx (y := y) hy1 hown (mvT hZ w1) (mvT hZ w2) (mvT hZ w4) hy (backOf (W := W) hM hZ w4 w3 hf hl) hg hsize (Steps.refl _) hlen hstack hW hdg (fun _ _ => ⟨rfl, e0, hcells, hslots⟩)
  dsimp only [Pt.U, Pt.locs, Pt.cells, Pt.slots] at X' l1 y1 z1 st hQ
  subst l1 y1 z1
  exact ⟨T', v, Lc, X', hQ, fun t k => st.trans k⟩
theorem callV (X : Stand p l e R s m args below meth c T locs cells slots) (hx : p.tables.exec = Jvm.exec) (hZ : Z.Warmed39 s.vm) (hown : s.vm.findClass own = some m.cls)
    (w1 : (Cond.methodLink own index y).before a0 Z = true) (w5 : (Cond.declares y).before a0 Z = true) (w6 : (Cond.selects Cn y y).before a0 Z = true) (w2 : (Cond.instanceMethod y).before a0 Z = true) (w3 : (Cond.initialized y.cls).before a0 Z = true) (w4 : (Cond.code y bytes maxL ret).before a0 Z = true)
    (hy : y.cls ≠ "java/lang/invoke/MethodHandle" ∧ y.cls ≠ "java/lang/invoke/VarHandle") (e0 : T.heap = h) (E : Exa Z h a Cn)
    (hM : MetFree l y (head1 [Cond.code y bytes maxL ret] rm) (fun q U => q = (.ref a :: argsL).toArray ∧ Z.Warmed39 U.vm ∧ U.heap = h) (fun _ _ _ _ _ => True) (fun _ U o U' => ∃ v L, o = .returned v ∧ Qc v U'.heap L ∧ FrameEnd U o U' L rm.cells rm.slots))
    (hf : rm.frames + 1 ≤ R.frames) (hl : W + (maxL + 11) + rm.locals ≤ R.locals) (hcells : cells + rm.cells ≤ R.cells) (hslots : slots + rm.slots ≤ R.slots)
    (hg : g.method = m) (hsize : g.locals.size = c.maxLocals) (hlen : ∀ sig, parseMethodDescriptor y.desc = some sig → argsL.length = sig.parameters.length)
    (hstack : g.stack = argsL.reverse ++ .ref a :: rest) (hW : 2 * g.monitorRoom + (rest.map fun v => v.category).sum ≤ W) (hdg : decode c.code g.pc = .ok (.invokevirtual index, 3)) :
    ∃ (T' : State) (v : Option Value) (L : List Loc), Stand p l e R s m args below meth c T' (locs ++ L) (cells + rm.cells) (slots + rm.slots) ∧ Qc v T'.heap L ∧
      ∀ t, Steps p.tables e below (T'.setTop { g with pc := g.pc + 3, stack := v.toList ++ rest }) t → Steps p.tables e below (T.setTop g) t := by
  obtain ⟨cq, kq, q1, q2, q3⟩ := isOf hZ e0 E
  obtain ⟨v, _, ⟨T', L', k', n'⟩, -, X', ⟨Lc, hQ, l1, y1, z1⟩, st⟩ := X.virtualBack hx (y := y) (z := y) hown (mvT hZ w1) (mvT hZ w5) (notFace_of_selects (args := #[]) (mvT hZ w6)) (mvT hZ w6) (mvT hZ w2) hy (backOf (W := W) hM hZ w4 w3 hf hl) q1 q3 hg hsize (Steps.refl _) hlen hstack hW hdg (fun _ _ => ⟨rfl, e0, hcells, hslots⟩)
  dsimp only [Pt.U, Pt.locs, Pt.cells, Pt.slots] at X' l1 y1 z1 st hQ
  subst l1 y1 z1
  exact ⟨T', v, Lc, X', hQ, fun t k => st.trans k⟩
/-! arrays, as functions of the place -/
def AvI (Z : State) (h : Heap) (a : Addr) (ty : FieldType) (n : Nat) (f : Nat → Int32) : Prop := ∃ c : Cell, Arr Z h a c ty ∧ c.slots.size = n ∧ n < 2 ^ 31 ∧ ∀ i, i < n → c.slots[i]? = some (.int (f i))
def AvJ (Z : State) (h : Heap) (a : Addr) (n : Nat) (f : Nat → Int64) : Prop := ∃ c : Cell, Arr Z h a c .long ∧ c.slots.size = n ∧ n < 2 ^ 31 ∧ ∀ i, i < n → c.slots[i]? = some (.long (f i))
variable {h' : Heap} {ty : FieldType} {n : Nat} {f f' : Nat → Int32} {fj fj' : Nat → Int64} {j x : Int32} {xl : Int64} {b : Addr} {sl : Nat} {v : Value} {ws : List Addr}
theorem clamp (hj : 0 ≤ j.toInt ∧ j.toInt < n) : j.toNatClampNeg = j.toInt.toNat ∧ ¬ j < 0 := by
  refine ⟨rfl, ?_⟩
  rw [Int32.lt_iff_toInt_lt, Int32.toInt_zero]; omega
theorem inb {c : Cell} (S : c.slots.size = n) (hj : 0 ≤ j.toInt ∧ j.toInt < n) : ¬ (j < 0 ∨ c.slots.size ≤ j.toNatClampNeg) := by
  have q := clamp hj
  rw [q.1, S]
  intro w
  rcases w with w | w
  · exact q.2 w
  · omega
theorem AvI.lt (A : AvI Z h a ty n f) : a < h.size := by obtain ⟨c, A, -⟩ := A; exact A.lt
theorem AvJ.lt (A : AvJ Z h a n fj) : a < h.size := by obtain ⟨c, A, -⟩ := A; exact A.lt
theorem AvI.ext (A : AvI Z h a ty n f) (E : Ext h h') : AvI Z h' a ty n f := by obtain ⟨c, A, r⟩ := A; exact ⟨c, A.ext E, r⟩
theorem AvJ.ext (A : AvJ Z h a n fj) (E : Ext h h') : AvJ Z h' a n fj := by obtain ⟨c, A, r⟩ := A; exact ⟨c, A.ext E, r⟩
theorem AvI.other (A : AvI Z h b ty n f) (W : Wr h h' a sl v) (q : b ≠ a) : AvI Z h' b ty n f := by obtain ⟨c, A, r⟩ := A; exact ⟨c, A.other W q, r⟩
theorem AvJ.other (A : AvJ Z h b n fj) (W : Wr h h' a sl v) (q : b ≠ a) : AvJ Z h' b n fj := by obtain ⟨c, A, r⟩ := A; exact ⟨c, A.other W q, r⟩
theorem AvI.keep (A : AvI Z h a ty n f) (K : Keep h h' ws) (q : a ∉ ws) : AvI Z h' a ty n f := by obtain ⟨c, A, r⟩ := A; exact ⟨c, ⟨K.2.1 a c A.1 q, A.2⟩, r⟩
theorem AvJ.keep (A : AvJ Z h a n fj) (K : Keep h h' ws) (q : a ∉ ws) : AvJ Z h' a n fj := by obtain ⟨c, A, r⟩ := A; exact ⟨c, ⟨K.2.1 a c A.1 q, A.2⟩, r⟩
theorem AvI.congr (A : AvI Z h a ty n f) (q : ∀ i, i < n → f' i = f i) : AvI Z h a ty n f' := by obtain ⟨c, A, S, M, H⟩ := A; exact ⟨c, A, S, M, fun i hi => by rw [q i hi]; exact H i hi⟩
theorem AvJ.congr (A : AvJ Z h a n fj) (q : ∀ i, i < n → fj' i = fj i) : AvJ Z h a n fj' := by obtain ⟨c, A, S, M, H⟩ := A; exact ⟨c, A, S, M, fun i hi => by rw [q i hi]; exact H i hi⟩
theorem AvI.new {cA : ClassId} {z : Int32} (A : Arr Z h a (newA cA ty z) ty) (hz : z.toInt = n) (hd : defaultValue ty = .int 0) : AvI Z h a ty n (fun _ => 0) := by
  have q : z.toNatClampNeg = n := by show z.toInt.toNat = n; omega
  refine ⟨_, A, by rw [sz_new]; exact q, by have := z.toInt_lt; omega, fun i hi => ?_⟩
  simp [newA, q, hi, hd]
theorem AvJ.new {cA : ClassId} {z : Int32} (A : Arr Z h a (newA cA .long z) .long) (hz : z.toInt = n) : AvJ Z h a n (fun _ => 0) := by
  have q : z.toNatClampNeg = n := by show z.toInt.toNat = n; omega
  refine ⟨_, A, by rw [sz_new]; exact q, by have := z.toInt_lt; omega, fun i hi => ?_⟩
  simp [newA, q, hi, defaultValue]
theorem len_nat {c : Cell} (S : c.slots.size = n) (M : n < 2 ^ 31) : c.slots.size.toInt32 = Int32.ofNat n := by rw [S]
theorem lenI (X : Stand p l e R s m args below meth c T locs cells slots) (hx : p.tables.exec = Jvm.exec) (hZ : Z.Warmed39 s.vm) (e0 : T.heap = h) (A : AvI Z h a ty n f) (hg : g.method = m) (hs : g.stack = .ref a :: rest) (hd : decode c.code g.pc = .ok (.arraylength, 1)) :
    ∀ t, Steps p.tables e below (T.setTop { g with pc := g.pc + 1, stack := .int (Int32.ofNat n) :: rest }) t → Steps p.tables e below (T.setTop g) t := by
  obtain ⟨c, A, S, M, H⟩ := A
  intro t k
  refine X.arraylength hx (by rw [e0]; exact A.1) (State.isArrayOf_alike hZ.alike A.2.1) hg hs hd _ ?_
  rw [len_nat S M]; exact k
theorem lenJ (X : Stand p l e R s m args below meth c T locs cells slots) (hx : p.tables.exec = Jvm.exec) (hZ : Z.Warmed39 s.vm) (e0 : T.heap = h) (A : AvJ Z h a n fj) (hg : g.method = m) (hs : g.stack = .ref a :: rest) (hd : decode c.code g.pc = .ok (.arraylength, 1)) :
    ∀ t, Steps p.tables e below (T.setTop { g with pc := g.pc + 1, stack := .int (Int32.ofNat n) :: rest }) t → Steps p.tables e below (T.setTop g) t := by
  obtain ⟨c, A, S, M, H⟩ := A
  intro t k
  refine X.arraylength hx (by rw [e0]; exact A.1) (State.isArrayOf_alike hZ.alike A.2.1) hg hs hd _ ?_
  rw [len_nat S M]; exact k
theorem ldI (X : Stand p l e R s m args below meth c T locs cells slots) (hx : p.tables.exec = Jvm.exec) (hZ : Z.Warmed39 s.vm) (e0 : T.heap = h) (A : AvI Z h a .int n f) (hj : 0 ≤ j.toInt ∧ j.toInt < n) (hg : g.method = m) (hs : g.stack = .int j :: .ref a :: rest) (hd : decode c.code g.pc = .ok (.iaload, 1)) :
    ∀ t, Steps p.tables e below (T.setTop { g with pc := g.pc + 1, stack := .int (f j.toInt.toNat) :: rest }) t → Steps p.tables e below (T.setTop g) t := by
  obtain ⟨c, A, S, M, H⟩ := A
  exact fun t k => X.iaload hx (by rw [e0]; exact A.1) (State.isArrayOf_alike hZ.alike A.2.1) A.2.2 (inb S hj) (by rw [(clamp hj).1]; exact H _ (by omega)) hg hs hd _ k
theorem ldJ (X : Stand p l e R s m args below meth c T locs cells slots) (hx : p.tables.exec = Jvm.exec) (hZ : Z.Warmed39 s.vm) (e0 : T.heap = h) (A : AvJ Z h a n fj) (hj : 0 ≤ j.toInt ∧ j.toInt < n) (hg : g.method = m) (hs : g.stack = .int j :: .ref a :: rest) (hd : decode c.code g.pc = .ok (.laload, 1)) :
    ∀ t, Steps p.tables e below (T.setTop { g with pc := g.pc + 1, stack := .long (fj j.toInt.toNat) :: rest }) t → Steps p.tables e below (T.setTop g) t := by
  obtain ⟨c, A, S, M, H⟩ := A
  exact fun t k => X.laload hx (by rw [e0]; exact A.1) (State.isArrayOf_alike hZ.alike A.2.1) A.2.2 (inb S hj) (by rw [(clamp hj).1]; exact H _ (by omega)) hg hs hd _ k
theorem ldB (X : Stand p l e R s m args below meth c T locs cells slots) (hx : p.tables.exec = Jvm.exec) (hZ : Z.Warmed39 s.vm) (e0 : T.heap = h) (A : AvI Z h a .byte n f) (hj : 0 ≤ j.toInt ∧ j.toInt < n) (hg : g.method = m) (hs : g.stack = .int j :: .ref a :: rest) (hd : decode c.code g.pc = .ok (.baload, 1)) :
    ∀ t, Steps p.tables e below (T.setTop { g with pc := g.pc + 1, stack := .int (f j.toInt.toNat) :: rest }) t → Steps p.tables e below (T.setTop g) t := by
  obtain ⟨c, A, S, M, H⟩ := A
  exact fun t k => X.baloadBytes hx (by rw [e0]; exact A.1) (State.isArrayOf_alike hZ.alike A.2.1) A.2.2 (inb S hj) (by rw [(clamp hj).1]; exact H _ (by omega)) hg hs hd _ k
theorem AvI.set (A : AvI Z h a ty n f) (hj : 0 ≤ j.toInt ∧ j.toInt < n) (W : Wr h h' a j.toNatClampNeg (.int x)) : AvI Z h' a ty n (fun i => if i = j.toInt.toNat then x else f i) := by
  obtain ⟨c, A, S, M, H⟩ := A
  refine ⟨_, A.same W, by rw [sz_set]; exact S, M, fun i hi => ?_⟩
  rw [(clamp hj).1]
  by_cases q : i = j.toInt.toNat
  · subst q
    simp only [Cell.setSlot, if_true]
    show (c.slots.setIfInBounds j.toInt.toNat _)[j.toInt.toNat]? = _
    rw [Array.getElem?_setIfInBounds, if_pos rfl, if_pos (by rw [S]; exact hi)]
  · simp only [Cell.setSlot, q, if_false]
    rw [Array.getElem?_setIfInBounds_ne (Ne.symm q)]; exact H i hi
theorem AvJ.set (A : AvJ Z h a n fj) (hj : 0 ≤ j.toInt ∧ j.toInt < n) (W : Wr h h' a j.toNatClampNeg (.long xl)) : AvJ Z h' a n (fun i => if i = j.toInt.toNat then xl else fj i) := by
  obtain ⟨c, A, S, M, H⟩ := A
  refine ⟨_, A.same W, by rw [sz_set]; exact S, M, fun i hi => ?_⟩
  rw [(clamp hj).1]
  by_cases q : i = j.toInt.toNat
  · subst q
    simp only [Cell.setSlot, if_true]
    show (c.slots.setIfInBounds j.toInt.toNat _)[j.toInt.toNat]? = _
    rw [Array.getElem?_setIfInBounds, if_pos rfl, if_pos (by rw [S]; exact hi)]
  · simp only [Cell.setSlot, q, if_false]
    rw [Array.getElem?_setIfInBounds_ne (Ne.symm q)]; exact H i hi
theorem stoI (X : Stand p l e R s m args below meth c T locs cells slots) (hx : p.tables.exec = Jvm.exec) (hZ : Z.Warmed39 s.vm) (e0 : T.heap = h) (A : AvI Z h a .int n f) (hj : 0 ≤ j.toInt ∧ j.toInt < n) (hg : g.method = m) (hs : g.stack = .int x :: .int j :: .ref a :: rest) (hd : decode c.code g.pc = .ok (.iastore, 1)) :
    ∃ T' h', Stand p l e R s m args below meth c T' (locs ++ [⟨a, j.toNatClampNeg⟩]) cells slots ∧ T'.heap = h' ∧ AvI Z h' a .int n (fun i => if i = j.toInt.toNat then x else f i) ∧ Wr h h' a j.toNatClampNeg (.int x) ∧ ∀ t, Steps p.tables e below (T'.setTop { g with pc := g.pc + 1, stack := rest }) t → Steps p.tables e below (T.setTop g) t := by
  obtain ⟨c, A', S, M, H⟩ := id A
  obtain ⟨T', h', X', e', W, st⟩ := stI X hx hZ e0 A' (inb S hj) hg hs hd
  exact ⟨T', h', X', e', A.set hj W, W, st⟩
theorem stoJ (X : Stand p l e R s m args below meth c T locs cells slots) (hx : p.tables.exec = Jvm.exec) (hZ : Z.Warmed39 s.vm) (e0 : T.heap = h) (A : AvJ Z h a n fj) (hj : 0 ≤ j.toInt ∧ j.toInt < n) (hg : g.method = m) (hs : g.stack = .long xl :: .int j :: .ref a :: rest) (hd : decode c.code g.pc = .ok (.lastore, 1)) :
    ∃ T' h', Stand p l e R s m args below meth c T' (locs ++ [⟨a, j.toNatClampNeg⟩]) cells slots ∧ T'.heap = h' ∧ AvJ Z h' a n (fun i => if i = j.toInt.toNat then xl else fj i) ∧ Wr h h' a j.toNatClampNeg (.long xl) ∧ ∀ t, Steps p.tables e below (T'.setTop { g with pc := g.pc + 1, stack := rest }) t → Steps p.tables e below (T.setTop g) t := by
  obtain ⟨c, A', S, M, H⟩ := id A
  obtain ⟨T', h', X', e', W, st⟩ := stJ X hx hZ e0 A' (inb S hj) hg hs hd
  exact ⟨T', h', X', e', A.set hj W, W, st⟩
theorem stoB (X : Stand p l e R s m args below meth c T locs cells slots) (hx : p.tables.exec = Jvm.exec) (hZ : Z.Warmed39 s.vm) (e0 : T.heap = h) (A : AvI Z h a .byte n f) (hj : 0 ≤ j.toInt ∧ j.toInt < n) (hg : g.method = m) (hs : g.stack = .int x :: .int j :: .ref a :: rest) (hd : decode c.code g.pc = .ok (.bastore, 1)) :
    ∃ T' h', Stand p l e R s m args below meth c T' (locs ++ [⟨a, j.toNatClampNeg⟩]) cells slots ∧ T'.heap = h' ∧ AvI Z h' a .byte n (fun i => if i = j.toInt.toNat then nar .byte x else f i) ∧ Wr h h' a j.toNatClampNeg (.int (nar .byte x)) ∧ ∀ t, Steps p.tables e below (T'.setTop { g with pc := g.pc + 1, stack := rest }) t → Steps p.tables e below (T.setTop g) t := by
  obtain ⟨c, A', S, M, H⟩ := id A
  obtain ⟨T', h', X', e', W, st⟩ := stB X hx hZ e0 A' (inb S hj) hg hs hd
  exact ⟨T', h', X', e', A.set hj W, W, st⟩
theorem stoZ (X : Stand p l e R s m args below meth c T locs cells slots) (hx : p.tables.exec = Jvm.exec) (hZ : Z.Warmed39 s.vm) (e0 : T.heap = h) (A : AvI Z h a .boolean n f) (hj : 0 ≤ j.toInt ∧ j.toInt < n) (hg : g.method = m) (hs : g.stack = .int x :: .int j :: .ref a :: rest) (hd : decode c.code g.pc = .ok (.bastore, 1)) :
    ∃ T' h', Stand p l e R s m args below meth c T' (locs ++ [⟨a, j.toNatClampNeg⟩]) cells slots ∧ T'.heap = h' ∧ AvI Z h' a .boolean n (fun i => if i = j.toInt.toNat then nar .boolean x else f i) ∧ Wr h h' a j.toNatClampNeg (.int (nar .boolean x)) ∧ ∀ t, Steps p.tables e below (T'.setTop { g with pc := g.pc + 1, stack := rest }) t → Steps p.tables e below (T.setTop g) t := by
  obtain ⟨c, A', S, M, H⟩ := id A
  obtain ⟨T', h', X', e', W, st⟩ := stZ X hx hZ e0 A' (inb S hj) hg hs hd
  exact ⟨T', h', X', e', A.set hj W, W, st⟩
theorem snoc {k : Nat} (N : Fr k locs) (q : k ≤ a) : Fr k (locs ++ [⟨a, sl⟩]) := N.app fun y hy => by cases List.mem_singleton.mp hy; exact q
theorem nmI {v x : Int32} {pc : Nat} {ls : Array Slot} {st : List Value} {t : State} (q : v = x) (k : Steps p.tables e below (T.setTop (mkF m pc ls (.int v :: st))) t) : Steps p.tables e below (T.setTop (mkF m pc ls (.int x :: st))) t := by subst q; exact k
theorem nmJ {v x : Int64} {pc : Nat} {ls : Array Slot} {st : List Value} {t : State} (q : v = x) (k : Steps p.tables e below (T.setTop (mkF m pc ls (.long v :: st))) t) : Steps p.tables e below (T.setTop (mkF m pc ls (.long x :: st))) t := by subst q; exact k
theorem ne_of {x y : Nat} (q : @Ne Nat x y) : @Ne Addr x y := q
theorem ldZ (X : Stand p l e R s m args below meth c T locs cells slots) (hx : p.tables.exec = Jvm.exec) (hZ : Z.Warmed39 s.vm) (e0 : T.heap = h) (A : AvI Z h a .boolean n f) (hj : 0 ≤ j.toInt ∧ j.toInt < n) (hg : g.method = m) (hs : g.stack = .int j :: .ref a :: rest) (hd : decode c.code g.pc = .ok (.baload, 1)) :
    ∀ t, Steps p.tables e below (T.setTop { g with pc := g.pc + 1, stack := .int (f j.toInt.toNat) :: rest }) t → Steps p.tables e below (T.setTop g) t := by
  obtain ⟨c, A, S, M, H⟩ := A
  exact fun t k => X.baloadBooleans hx (by rw [e0]; exact A.1) (State.isArrayOf_alike hZ.alike A.2.1) A.2.2 (inb S hj) (by rw [(clamp hj).1]; exact H _ (by omega)) hg hs hd _ k
theorem lrem_eq (x y : Int64) : x - x / y * y = x % y := by
  apply Int64.toInt_inj.mp
  have hy := Int64.toInt_mod x y
  have q := Int64.toInt_div x y
  rw [hy, Int64.toInt_sub, Int64.toInt_mul, q]
  have h1 := Int.tmod_add_mul_tdiv x.toInt y.toInt
  have h2 : x.toInt.tmod y.toInt = x.toInt - x.toInt.tdiv y.toInt * y.toInt := by rw [Int.mul_comm]; omega
  have h3 := rng64 x
  have h4 := rng64 y
  have h5 : (x.toInt.tmod y.toInt) % (2 ^ 64) = (x.toInt - x.toInt.tdiv y.toInt * y.toInt) % (2 ^ 64) := by rw [h2]
  have h6 : -2 ^ 63 ≤ x.toInt.tmod y.toInt ∧ x.toInt.tmod y.toInt < 2 ^ 63 := by rw [← hy]; exact ⟨(x % y).le_toInt, (x % y).toInt_lt⟩
  rw [← Int.bmod_eq_of_le (n := x.toInt.tmod y.toInt) (m := 2 ^ 64) (by omega) (by omega), h2]
  simp only [Int.bmod_sub_bmod, Int.sub_bmod_bmod, Int.bmod_mul_bmod, Int.mul_bmod_bmod]
theorem lremM {t : State} (X : Stand p l e R s m args below meth c T locs cells slots) (hx : p.tables.exec = Jvm.exec) (hg : g.method = m) {x y : Int64} (hd : decode c.code g.pc = .ok (.lrem, 1)) (hs : g.stack = .long y :: .long x :: rest) (hy : y ≠ 0)
    (hr : Steps p.tables e below (T.setTop { g with pc := g.pc + 1, stack := .long (x % y) :: rest }) t) : Steps p.tables e below (T.setTop g) t :=
  XS.lrem X.here hx hg hd hs hy (by rw [lrem_eq]; exact hr)
/-- a boolean as an int -/
def b2i (b : Bool) : Int32 := if b then 1 else 0
theorem b2i_t : b2i true = 1 := rfl
theorem b2i_f : b2i false = 0 := rfl
theorem b2i_nar (b : Bool) : nar .boolean (b2i b) = b2i b := by cases b <;> decide
theorem b2i_eq0 {b : Bool} : b2i b = 0 ↔ ¬ b = true := by cases b <;> decide
theorem b2i_inj {b b' : Bool} : b2i b = b2i b' ↔ b = b' := by cases b <;> cases b' <;> decide
end Kit
end Jvm.Own
namespace Jvm.Pilot.@@N@@
open Jvm Jvm.ClassFile Sem Op Lib Jvm.Free Jvm.Stand Jvm.LawKit Jvm.RoadKit Bundle Jvm.Pilot.@@N@@.Jvm.D
theorem own_mask {v x : Int64} (h : v = x &&& 9223372036854775807) : ¬ v < 0 := by
  rw [Int64.lt_iff_toInt_lt, h, Jvm.Kit.i64_mask x 9223372036854775807 (k := 63) (by decide) (by decide)]
  have : (0 : Int64).toInt = 0 := by decide
  rw [this]; omega
theorem d1_0 : decode jdk_30_method_1_code 0 = .ok (.aload_n 0, 1) := by decide +kernel
theorem d1_1 : decode jdk_30_method_1_code 1 = .ok (.invokespecial 1, 3) := by decide +kernel
theorem d1_4 : decode jdk_30_method_1_code 4 = .ok (.return_, 1) := by decide +kernel
theorem pn_0 : plainName "java/lang/Record" = true := by first | (simp [plainName, overriddenIn]; done) | decide +kernel
theorem ef_1 (m : MethodId) (o0 : Addr) : entryFrame m #[(.ref o0)] 1 = mkF m 0 #[.val (.ref o0)] [] := by first | (simp [entryFrame, mkF, argsToLocals, Value.category]; done) | rfl
def Q1 (Z : State) (o0 : Nat) (h0 : Heap) (n0 : Nat) (v : Option Value) (h : Heap) (L : List Loc) : Prop := v = none ∧ Fr n0 L ∧ h = h0
set_option maxRecDepth 65536 in
set_option maxHeartbeats 40000000 in
theorem rm1 (l : Launch) (Z : State) (a0 : Array Value) (hw : ∀ d ∈ tables_1, d.before a0 Z = true) (ws : List Jvm.Cond) (o0 : Nat) (h0 : Heap) (n0 : Nat) :
    MetFree l (⟨"java/lang/Record", "<init>", "()V"⟩ : MethodName) (head1 (Jvm.Cond.code (⟨"java/lang/Record", "<init>", "()V"⟩ : MethodName) jdk_30_method_1_code 1 none :: ws) ({ frames := 1, cells := 0, slots := 0, locals := 12 } : Room)) (fun a U => a = #[(.ref o0)] ∧ Z.Warmed39 U.vm ∧ U.heap = h0) (fun _ _ _ _ _ => True) (fun _ U o U' => ∃ v L, o = .returned v ∧ Q1 Z o0 h0 n0 v U'.heap L ∧ FrameEnd U o U' L ({ frames := 1, cells := 0, slots := 0, locals := 12 } : Room).cells ({ frames := 1, cells := 0, slots := 0, locals := 12 } : Room).slots) := by
  refine Own.enter (Q := Q1 Z o0 h0 n0) (plainFor_of_name pn_0) ?_
  intro p e s m below meth c s₁ D hx hby hml hown hnm hret hZ X0 e0 hD hR
  have N0 := Fr.nil n0
  rw [show entryFrame m #[(.ref o0)] 1 = mkF m 0 #[.val (.ref o0)] [] from ef_1 m o0]
  obtain ⟨T1, X1, e1, st1⟩ := initO X0 hx hZ hown (hw _ (List.mem_of_getElem? (i := 15) rfl)) (hw _ (List.mem_of_getElem? (i := 16) rfl)) (hw _ (List.mem_of_getElem? (i := 17) rfl)) e0 (g := (mkF m 1 #[.val (.ref o0)] [(.ref o0)])) rfl (by rw [hml]; rfl) rfl (hb hby d1_1) (by decide) (W := 0) (by show 2 * 0 + _ ≤ _; exact Nat.le_of_eq rfl) (by decide)
  refine hD _ (T1.setTop (mkF m 4 #[.val (.ref o0)] [])) (fun t k => ?_) ?_
  · show Steps p.tables e below (s₁.setTop (mkF m 0 #[.val (.ref o0)] [])) t
    refine XS.aloadN X0.here hx rfl (hb hby d1_0) rfl rfl ?_
    show Steps p.tables e below (s₁.setTop (mkF m 1 #[.val (.ref o0)] [(.ref o0)])) t
    refine st1 _ ?_
    show Steps p.tables e below (T1.setTop (mkF m 4 #[.val (.ref o0)] [])) t
    exact k
  exact Own.retV hR X1 hx hret (hb hby d1_4) (by decide) (by decide) ⟨rfl, N0, e1⟩
theorem d2_0 : decode prog_5_method_1_code 0 = .ok (.aload_n 0, 1) := by decide +kernel
theorem d2_1 : decode prog_5_method_1_code 1 = .ok (.invokespecial 1, 3) := by decide +kernel
theorem d2_4 : decode prog_5_method_1_code 4 = .ok (.iload_n 3, 1) := by decide +kernel
theorem d2_5 : decode prog_5_method_1_code 5 = .ok (.ifCond .eq 25, 3) := by decide +kernel
theorem d2_8 : decode prog_5_method_1_code 8 = .ok (.lload 4, 2) := by decide +kernel
theorem d2_10 : decode prog_5_method_1_code 10 = .ok (.lconst 0, 1) := by decide +kernel
theorem d2_11 : decode prog_5_method_1_code 11 = .ok (.lcmp, 1) := by decide +kernel
theorem d2_12 : decode prog_5_method_1_code 12 = .ok (.ifCond .lt 14, 3) := by decide +kernel
theorem d2_15 : decode prog_5_method_1_code 15 = .ok (.lload 6, 2) := by decide +kernel
theorem d2_17 : decode prog_5_method_1_code 17 = .ok (.lconst 0, 1) := by decide +kernel
theorem d2_18 : decode prog_5_method_1_code 18 = .ok (.lcmp, 1) := by decide +kernel
theorem d2_19 : decode prog_5_method_1_code 19 = .ok (.ifCond .ne 7, 3) := by decide +kernel
theorem d2_22 : decode prog_5_method_1_code 22 = .ok (.iconst 1, 1) := by decide +kernel
theorem d2_23 : decode prog_5_method_1_code 23 = .ok (.goto 35, 3) := by decide +kernel
theorem d2_58 : decode prog_5_method_1_code 58 = .ok (.istore 8, 2) := by decide +kernel
theorem d2_60 : decode prog_5_method_1_code 60 = .ok (.lload_n 1, 1) := by decide +kernel
theorem d2_61 : decode prog_5_method_1_code 61 = .ok (.lconst 0, 1) := by decide +kernel
theorem d2_62 : decode prog_5_method_1_code 62 = .ok (.lcmp, 1) := by decide +kernel
theorem d2_63 : decode prog_5_method_1_code 63 = .ok (.ifCond .lt 8, 3) := by decide +kernel
theorem d2_66 : decode prog_5_method_1_code 66 = .ok (.iload 8, 2) := by decide +kernel
theorem d2_68 : decode prog_5_method_1_code 68 = .ok (.ifCond .ne 32, 3) := by decide +kernel
theorem d2_100 : decode prog_5_method_1_code 100 = .ok (.aload_n 0, 1) := by decide +kernel
theorem d2_101 : decode prog_5_method_1_code 101 = .ok (.lload_n 1, 1) := by decide +kernel
theorem d2_102 : decode prog_5_method_1_code 102 = .ok (.putfield 24, 3) := by decide +kernel
theorem d2_105 : decode prog_5_method_1_code 105 = .ok (.aload_n 0, 1) := by decide +kernel
theorem d2_106 : decode prog_5_method_1_code 106 = .ok (.iload_n 3, 1) := by decide +kernel
theorem d2_107 : decode prog_5_method_1_code 107 = .ok (.putfield 28, 3) := by decide +kernel
theorem d2_110 : decode prog_5_method_1_code 110 = .ok (.aload_n 0, 1) := by decide +kernel
theorem d2_111 : decode prog_5_method_1_code 111 = .ok (.lload 4, 2) := by decide +kernel
theorem d2_113 : decode prog_5_method_1_code 113 = .ok (.putfield 31, 3) := by decide +kernel
theorem d2_116 : decode prog_5_method_1_code 116 = .ok (.aload_n 0, 1) := by decide +kernel
theorem d2_117 : decode prog_5_method_1_code 117 = .ok (.lload 6, 2) := by decide +kernel
theorem d2_119 : decode prog_5_method_1_code 119 = .ok (.putfield 34, 3) := by decide +kernel
theorem d2_122 : decode prog_5_method_1_code 122 = .ok (.return_, 1) := by decide +kernel
theorem pd_0 : parseMethodDescriptor "()V" = some ⟨[], none⟩ := by decide +kernel
theorem pn_1 : plainName "com/example/request_throttle/requestthrottle/Decision" = true := by first | (simp [plainName, overriddenIn]; done) | decide +kernel
theorem ef_2 (m : MethodId) (o0 : Addr) (q1 : Int64) (q3 : Int64) : entryFrame m #[(.ref o0), (.long q1), (.int (1 : Int32)), (.long q3), (.long (0 : Int64))] 9 = mkF m 0 #[.val (.ref o0), .val (.long q1), .second, .val (.int (1 : Int32)), .val (.long q3), .second, .val (.long (0 : Int64)), .second, .unset] [] := by first | (simp [entryFrame, mkF, argsToLocals, Value.category]; done) | rfl
def Q2 (Z : State) (o0 : Nat) (q1 : Int64) (q3 : Int64) (h0 : Heap) (n0 : Nat) (v : Option Value) (h : Heap) (L : List Loc) : Prop := v = none ∧ Fr n0 L ∧ Keep h0 h [o0] ∧ Exa Z h o0 "com/example/request_throttle/requestthrottle/Decision" ∧ Fld Z h o0 "com/example/request_throttle/requestthrottle/Decision" "atMillis" "J" (.long q1) ∧ Fld Z h o0 "com/example/request_throttle/requestthrottle/Decision" "allowed" "Z" (.int (1 : Int32)) ∧ Fld Z h o0 "com/example/request_throttle/requestthrottle/Decision" "waitMillis" "J" (.long q3) ∧ Fld Z h o0 "com/example/request_throttle/requestthrottle/Decision" "retryAfterMillis" "J" (.long (0 : Int64))
set_option maxRecDepth 65536 in
set_option maxHeartbeats 40000000 in
theorem rm2 (l : Launch) (Z : State) (a0 : Array Value) (hw : ∀ d ∈ tables_1, d.before a0 Z = true) (ws : List Jvm.Cond) (o0 : Nat) (q1 : Int64) (q3 : Int64) (h0 : Heap) (n0 : Nat) (Z0 : n0 ≤ h0.size) (g0 : n0 ≤ o0) (ha : ¬ q1 < 0) (hb_ : ¬ q3 < 0) (E_a0 : Exa Z h0 o0 "com/example/request_throttle/requestthrottle/Decision") (F_atMillis : Fld Z h0 o0 "com/example/request_throttle/requestthrottle/Decision" "atMillis" "J" (.long (0 : Int64))) (F_allowed : Fld Z h0 o0 "com/example/request_throttle/requestthrottle/Decision" "allowed" "Z" (.int (0 : Int32))) (F_waitMillis : Fld Z h0 o0 "com/example/request_throttle/requestthrottle/Decision" "waitMillis" "J" (.long (0 : Int64))) (F_retryAfterMillis : Fld Z h0 o0 "com/example/request_throttle/requestthrottle/Decision" "retryAfterMillis" "J" (.long (0 : Int64))) :
    MetFree l (⟨"com/example/request_throttle/requestthrottle/Decision", "<init>", "(JZJJ)V"⟩ : MethodName) (head1 (Jvm.Cond.code (⟨"com/example/request_throttle/requestthrottle/Decision", "<init>", "(JZJJ)V"⟩ : MethodName) prog_5_method_1_code 9 none :: ws) ({ frames := 2, cells := 0, slots := 0, locals := 24 } : Room)) (fun a U => a = #[(.ref o0), (.long q1), (.int (1 : Int32)), (.long q3), (.long (0 : Int64))] ∧ Z.Warmed39 U.vm ∧ U.heap = h0) (fun _ _ _ _ _ => True) (fun _ U o U' => ∃ v L, o = .returned v ∧ Q2 Z o0 q1 q3 h0 n0 v U'.heap L ∧ FrameEnd U o U' L ({ frames := 2, cells := 0, slots := 0, locals := 24 } : Room).cells ({ frames := 2, cells := 0, slots := 0, locals := 24 } : Room).slots) := by
  refine Own.enter (Q := Q2 Z o0 q1 q3 h0 n0) (plainFor_of_name pn_1) ?_
  intro p e s m below meth c s₁ D hx hby hml hown hnm hret hZ X0 e0 hD hR
  have N0 := Fr.nil n0
  have K0 : Keep h0 h0 [o0] := Keep.refl h0 _
  rw [show entryFrame m #[(.ref o0), (.long q1), (.int (1 : Int32)), (.long q3), (.long (0 : Int64))] 9 = mkF m 0 #[.val (.ref o0), .val (.long q1), .second, .val (.int (1 : Int32)), .val (.long q3), .second, .val (.long (0 : Int64)), .second, .unset] [] from ef_2 m o0 q1 q3]
  obtain ⟨T1, _, L1, X1, ⟨rfl, Nq1, e1⟩, st1⟩ := Own.callI (y := (⟨"java/lang/Record", "<init>", "()V"⟩ : MethodName)) (W := 0) (argsL := []) (rest := []) (a := o0) X0 hx hZ hown rfl (hw _ (List.mem_of_getElem? (i := 10) rfl)) (hw _ (List.mem_of_getElem? (i := 11) rfl)) (hw _ (List.mem_of_getElem? (i := 13) rfl)) (hw _ (List.mem_of_getElem? (i := 14) rfl)) (by decide) e0 (rm1 l Z a0 hw [] o0  h0 n0 ) (by decide) (by decide) (by decide) (by decide) (g := (mkF m 1 #[.val (.ref o0), .val (.long q1), .second, .val (.int (1 : Int32)), .val (.long q3), .second, .val (.long (0 : Int64)), .second, .unset] [(.ref o0)])) rfl (by rw [hml]; rfl) (lenOf pd_0 rfl) rfl (by show 2 * 0 + _ ≤ _; exact Nat.le_of_eq rfl) (hb hby d2_1)
  have N1 := Fr.app N0 Nq1
  refine hD _ (T1.setTop (mkF m 12 #[.val (.ref o0), .val (.long q1), .second, .val (.int (1 : Int32)), .val (.long q3), .second, .val (.long (0 : Int64)), .second, .unset] [(.int (lcmpW q3 (0 : Int64)))])) (fun t k => ?_) ?_
  · show Steps p.tables e below (s₁.setTop (mkF m 0 #[.val (.ref o0), .val (.long q1), .second, .val (.int (1 : Int32)), .val (.long q3), .second, .val (.long (0 : Int64)), .second, .unset] [])) t
    refine XS.aloadN X0.here hx rfl (hb hby d2_0) rfl rfl ?_
    show Steps p.tables e below (s₁.setTop (mkF m 1 #[.val (.ref o0), .val (.long q1), .second, .val (.int (1 : Int32)), .val (.long q3), .second, .val (.long (0 : Int64)), .second, .unset] [(.ref o0)])) t
    refine st1 _ ?_
    show Steps p.tables e below (T1.setTop (mkF m 4 #[.val (.ref o0), .val (.long q1), .second, .val (.int (1 : Int32)), .val (.long q3), .second, .val (.long (0 : Int64)), .second, .unset] [])) t
    refine XS.iloadN X1.here hx rfl (hb hby d2_4) rfl ?_
    show Steps p.tables e below (T1.setTop (mkF m 5 #[.val (.ref o0), .val (.long q1), .second, .val (.int (1 : Int32)), .val (.long q3), .second, .val (.long (0 : Int64)), .second, .unset] [(.int (1 : Int32))])) t
    refine XS.ifNo X1.here hx rfl (hb hby d2_5) rfl (by decide) ?_
    show Steps p.tables e below (T1.setTop (mkF m 8 #[.val (.ref o0), .val (.long q1), .second, .val (.int (1 : Int32)), .val (.long q3), .second, .val (.long (0 : Int64)), .second, .unset] [])) t
    refine XS.lload X1.here hx rfl (hb hby d2_8) rfl ?_
    show Steps p.tables e below (T1.setTop (mkF m 10 #[.val (.ref o0), .val (.long q1), .second, .val (.int (1 : Int32)), .val (.long q3), .second, .val (.long (0 : Int64)), .second, .unset] [(.long q3)])) t
    refine XS.lconst X1.here hx rfl (hb hby d2_10) ?_
    show Steps p.tables e below (T1.setTop (mkF m 11 #[.val (.ref o0), .val (.long q1), .second, .val (.int (1 : Int32)), .val (.long q3), .second, .val (.long (0 : Int64)), .second, .unset] [(.long (0 : Int64)), (.long q3)])) t
    refine XS.lcmp X1.here hx rfl (hb hby d2_11) rfl ?_
    show Steps p.tables e below (T1.setTop (mkF m 12 #[.val (.ref o0), .val (.long q1), .second, .val (.int (1 : Int32)), .val (.long q3), .second, .val (.long (0 : Int64)), .second, .unset] [(.int (lcmpW q3 (0 : Int64)))])) t
    exact k
  have hc2 : ¬ (q3 < (0 : Int64)) := hb_
  refine hD _ (T1.setTop (mkF m 19 #[.val (.ref o0), .val (.long q1), .second, .val (.int (1 : Int32)), .val (.long q3), .second, .val (.long (0 : Int64)), .second, .unset] [(.int (lcmpW (0 : Int64) (0 : Int64)))])) (fun t k => ?_) ?_
  · show Steps p.tables e below (T1.setTop (mkF m 12 #[.val (.ref o0), .val (.long q1), .second, .val (.int (1 : Int32)), .val (.long q3), .second, .val (.long (0 : Int64)), .second, .unset] [(.int (lcmpW q3 (0 : Int64)))])) t
    refine XS.ifNo X1.here hx rfl (hb hby d2_12) rfl ((if0 _ _).trans (flt (fun q => hc2 ((lw_lt q3 (0 : Int64)).mp q))).1) ?_
    show Steps p.tables e below (T1.setTop (mkF m 15 #[.val (.ref o0), .val (.long q1), .second, .val (.int (1 : Int32)), .val (.long q3), .second, .val (.long (0 : Int64)), .second, .unset] [])) t
    refine XS.lload X1.here hx rfl (hb hby d2_15) rfl ?_
    show Steps p.tables e below (T1.setTop (mkF m 17 #[.val (.ref o0), .val (.long q1), .second, .val (.int (1 : Int32)), .val (.long q3), .second, .val (.long (0 : Int64)), .second, .unset] [(.long (0 : Int64))])) t
    refine XS.lconst X1.here hx rfl (hb hby d2_17) ?_
    show Steps p.tables e below (T1.setTop (mkF m 18 #[.val (.ref o0), .val (.long q1), .second, .val (.int (1 : Int32)), .val (.long q3), .second, .val (.long (0 : Int64)), .second, .unset] [(.long (0 : Int64)), (.long (0 : Int64))])) t
    refine XS.lcmp X1.here hx rfl (hb hby d2_18) rfl ?_
    show Steps p.tables e below (T1.setTop (mkF m 19 #[.val (.ref o0), .val (.long q1), .second, .val (.int (1 : Int32)), .val (.long q3), .second, .val (.long (0 : Int64)), .second, .unset] [(.int (lcmpW (0 : Int64) (0 : Int64)))])) t
    exact k
  have hc3 : (0 : Int64) = (0 : Int64) := rfl
  refine hD _ (T1.setTop (mkF m 63 #[.val (.ref o0), .val (.long q1), .second, .val (.int (1 : Int32)), .val (.long q3), .second, .val (.long (0 : Int64)), .second, .val (.int (1 : Int32))] [(.int (lcmpW q1 (0 : Int64)))])) (fun t k => ?_) ?_
  · show Steps p.tables e below (T1.setTop (mkF m 19 #[.val (.ref o0), .val (.long q1), .second, .val (.int (1 : Int32)), .val (.long q3), .second, .val (.long (0 : Int64)), .second, .unset] [(.int (lcmpW (0 : Int64) (0 : Int64)))])) t
    refine XS.ifNo X1.here hx rfl (hb hby d2_19) rfl ((if0 _ _).trans (teq ((lw_eq (0 : Int64) (0 : Int64)).mpr hc3)).2) ?_
    show Steps p.tables e below (T1.setTop (mkF m 22 #[.val (.ref o0), .val (.long q1), .second, .val (.int (1 : Int32)), .val (.long q3), .second, .val (.long (0 : Int64)), .second, .unset] [])) t
    refine XS.iconst X1.here hx rfl (hb hby d2_22) ?_
    show Steps p.tables e below (T1.setTop (mkF m 23 #[.val (.ref o0), .val (.long q1), .second, .val (.int (1 : Int32)), .val (.long q3), .second, .val (.long (0 : Int64)), .second, .unset] [(.int (1 : Int32))])) t
    refine XS.goto X1.here hx rfl (pc0 := 23) (pc' := 58) rfl (hb hby d2_23) (by decide) (by decide) ?_
    show Steps p.tables e below (T1.setTop (mkF m 58 #[.val (.ref o0), .val (.long q1), .second, .val (.int (1 : Int32)), .val (.long q3), .second, .val (.long (0 : Int64)), .second, .unset] [(.int (1 : Int32))])) t
    refine XS.istore X1.here hx rfl (hb hby d2_58) rfl (l' := #[.val (.ref o0), .val (.long q1), .second, .val (.int (1 : Int32)), .val (.long q3), .second, .val (.long (0 : Int64)), .second, .val (.int (1 : Int32))]) rfl ?_
    show Steps p.tables e below (T1.setTop (mkF m 60 #[.val (.ref o0), .val (.long q1), .second, .val (.int (1 : Int32)), .val (.long q3), .second, .val (.long (0 : Int64)), .second, .val (.int (1 : Int32))] [])) t
    refine XS.lloadN X1.here hx rfl (hb hby d2_60) rfl ?_
    show Steps p.tables e below (T1.setTop (mkF m 61 #[.val (.ref o0), .val (.long q1), .second, .val (.int (1 : Int32)), .val (.long q3), .second, .val (.long (0 : Int64)), .second, .val (.int (1 : Int32))] [(.long q1)])) t
    refine XS.lconst X1.here hx rfl (hb hby d2_61) ?_
    show Steps p.tables e below (T1.setTop (mkF m 62 #[.val (.ref o0), .val (.long q1), .second, .val (.int (1 : Int32)), .val (.long q3), .second, .val (.long (0 : Int64)), .second, .val (.int (1 : Int32))] [(.long (0 : Int64)), (.long q1)])) t
    refine XS.lcmp X1.here hx rfl (hb hby d2_62) rfl ?_
    show Steps p.tables e below (T1.setTop (mkF m 63 #[.val (.ref o0), .val (.long q1), .second, .val (.int (1 : Int32)), .val (.long q3), .second, .val (.long (0 : Int64)), .second, .val (.int (1 : Int32))] [(.int (lcmpW q1 (0 : Int64)))])) t
    exact k
  have hc4 : ¬ (q1 < (0 : Int64)) := ha
  obtain ⟨T5, h5, X5, e5, W5, st5⟩ := putF X1 hx hZ hown (host := "") (Or.inl (hw _ (List.mem_of_getElem? (i := 18) rfl))) Via.refl e1 F_atMillis E_a0 (Or.inr ⟨(hw _ (List.mem_of_getElem? (i := 19) rfl)), rfl, hnm⟩) (hw _ (List.mem_of_getElem? (i := 6) rfl)) (ty := .long) (by decide) rfl rfl (g := (mkF m 102 #[.val (.ref o0), .val (.long q1), .second, .val (.int (1 : Int32)), .val (.long q3), .second, .val (.long (0 : Int64)), .second, .val (.int (1 : Int32))] [(.long q1), (.ref o0)])) rfl rfl (hb hby d2_102)
  have f6 : Fld Z h5 o0 "com/example/request_throttle/requestthrottle/Decision" "atMillis" "J" (.long q1) := F_atMillis.same W5
  have f7 : Exa Z h5 o0 "com/example/request_throttle/requestthrottle/Decision" := E_a0.wr W5
  have f8 : Fld Z h5 o0 "com/example/request_throttle/requestthrottle/Decision" "allowed" "Z" (.int (0 : Int32)) := F_allowed.other W5 (Or.inr (slot_ne (Or.inr (hw _ (List.mem_of_getElem? (i := 21) rfl))) (Or.inr (hw _ (List.mem_of_getElem? (i := 19) rfl))) (by decide) (t := .boolean) (t' := .long) (by decide) (by decide)))
  have f9 : Fld Z h5 o0 "com/example/request_throttle/requestthrottle/Decision" "waitMillis" "J" (.long (0 : Int64)) := F_waitMillis.other W5 (Or.inr (slot_ne (Or.inr (hw _ (List.mem_of_getElem? (i := 23) rfl))) (Or.inr (hw _ (List.mem_of_getElem? (i := 19) rfl))) (by decide) (t := .long) (t' := .long) (by decide) (by decide)))
  have f10 : Fld Z h5 o0 "com/example/request_throttle/requestthrottle/Decision" "retryAfterMillis" "J" (.long (0 : Int64)) := F_retryAfterMillis.other W5 (Or.inr (slot_ne (Or.inr (hw _ (List.mem_of_getElem? (i := 25) rfl))) (Or.inr (hw _ (List.mem_of_getElem? (i := 19) rfl))) (by decide) (t := .long) (t' := .long) (by decide) (by decide)))
  have N5 := Fr.snoc X5 N1 (show n0 ≤ o0 by omega)
  have Z5 : n0 ≤ h5.size := Nat.le_trans Z0 (Keep.of_wr W5).1
  have K5 : Keep h0 h5 [o0] := K0.wr W5 (Or.inl (List.mem_of_getElem? (i := 0) rfl))
  obtain ⟨T11, h11, X11, e11, W11, st11⟩ := putFN X5 hx hZ hown (hw _ (List.mem_of_getElem? (i := 20) rfl)) Via.refl e5 f8 f7 (Or.inr ⟨(hw _ (List.mem_of_getElem? (i := 21) rfl)), rfl, hnm⟩) (hw _ (List.mem_of_getElem? (i := 6) rfl)) (ty := .boolean) (v' := .int (1 : Int32)) (by decide) rfl rfl (g := (mkF m 107 #[.val (.ref o0), .val (.long q1), .second, .val (.int (1 : Int32)), .val (.long q3), .second, .val (.long (0 : Int64)), .second, .val (.int (1 : Int32))] [(.int (1 : Int32)), (.ref o0)])) rfl rfl (hb hby d2_107)
  have f12 : Fld Z h11 o0 "com/example/request_throttle/requestthrottle/Decision" "allowed" "Z" (.int (1 : Int32)) := f8.same W11
  have f13 : Exa Z h11 o0 "com/example/request_throttle/requestthrottle/Decision" := f7.wr W11
  have f14 : Fld Z h11 o0 "com/example/request_throttle/requestthrottle/Decision" "atMillis" "J" (.long q1) := f6.other W11 (Or.inr (slot_ne (Or.inr (hw _ (List.mem_of_getElem? (i := 19) rfl))) (Or.inr (hw _ (List.mem_of_getElem? (i := 21) rfl))) (by decide) (t := .long) (t' := .boolean) (by decide) (by decide)))
  have f15 : Fld Z h11 o0 "com/example/request_throttle/requestthrottle/Decision" "waitMillis" "J" (.long (0 : Int64)) := f9.other W11 (Or.inr (slot_ne (Or.inr (hw _ (List.mem_of_getElem? (i := 23) rfl))) (Or.inr (hw _ (List.mem_of_getElem? (i := 21) rfl))) (by decide) (t := .long) (t' := .boolean) (by decide) (by decide)))
  have f16 : Fld Z h11 o0 "com/example/request_throttle/requestthrottle/Decision" "retryAfterMillis" "J" (.long (0 : Int64)) := f10.other W11 (Or.inr (slot_ne (Or.inr (hw _ (List.mem_of_getElem? (i := 25) rfl))) (Or.inr (hw _ (List.mem_of_getElem? (i := 21) rfl))) (by decide) (t := .long) (t' := .boolean) (by decide) (by decide)))
  have N11 := Fr.snoc X11 N5 (show n0 ≤ o0 by omega)
  have Z11 : n0 ≤ h11.size := Nat.le_trans Z5 (Keep.of_wr W11).1
  have K11 : Keep h0 h11 [o0] := K5.wr W11 (Or.inl (List.mem_of_getElem? (i := 0) rfl))
  obtain ⟨T17, h17, X17, e17, W17, st17⟩ := putF X11 hx hZ hown (host := "") (Or.inl (hw _ (List.mem_of_getElem? (i := 22) rfl))) Via.refl e11 f15 f13 (Or.inr ⟨(hw _ (List.mem_of_getElem? (i := 23) rfl)), rfl, hnm⟩) (hw _ (List.mem_of_getElem? (i := 6) rfl)) (ty := .long) (by decide) rfl rfl (g := (mkF m 113 #[.val (.ref o0), .val (.long q1), .second, .val (.int (1 : Int32)), .val (.long q3), .second, .val (.long (0 : Int64)), .second, .val (.int (1 : Int32))] [(.long q3), (.ref o0)])) rfl rfl (hb hby d2_113)
  have f18 : Fld Z h17 o0 "com/example/request_throttle/requestthrottle/Decision" "waitMillis" "J" (.long q3) := f15.same W17
  have f19 : Exa Z h17 o0 "com/example/request_throttle/requestthrottle/Decision" := f13.wr W17
  have f20 : Fld Z h17 o0 "com/example/request_throttle/requestthrottle/Decision" "atMillis" "J" (.long q1) := f14.other W17 (Or.inr (slot_ne (Or.inr (hw _ (List.mem_of_getElem? (i := 19) rfl))) (Or.inr (hw _ (List.mem_of_getElem? (i := 23) rfl))) (by decide) (t := .long) (t' := .long) (by decide) (by decide)))
  have f21 : Fld Z h17 o0 "com/example/request_throttle/requestthrottle/Decision" "allowed" "Z" (.int (1 : Int32)) := f12.other W17 (Or.inr (slot_ne (Or.inr (hw _ (List.mem_of_getElem? (i := 21) rfl))) (Or.inr (hw _ (List.mem_of_getElem? (i := 23) rfl))) (by decide) (t := .boolean) (t' := .long) (by decide) (by decide)))
  have f22 : Fld Z h17 o0 "com/example/request_throttle/requestthrottle/Decision" "retryAfterMillis" "J" (.long (0 : Int64)) := f16.other W17 (Or.inr (slot_ne (Or.inr (hw _ (List.mem_of_getElem? (i := 25) rfl))) (Or.inr (hw _ (List.mem_of_getElem? (i := 23) rfl))) (by decide) (t := .long) (t' := .long) (by decide) (by decide)))
  have N17 := Fr.snoc X17 N11 (show n0 ≤ o0 by omega)
  have Z17 : n0 ≤ h17.size := Nat.le_trans Z11 (Keep.of_wr W17).1
  have K17 : Keep h0 h17 [o0] := K11.wr W17 (Or.inl (List.mem_of_getElem? (i := 0) rfl))
  obtain ⟨T23, h23, X23, e23, W23, st23⟩ := putF X17 hx hZ hown (host := "") (Or.inl (hw _ (List.mem_of_getElem? (i := 24) rfl))) Via.refl e17 f22 f19 (Or.inr ⟨(hw _ (List.mem_of_getElem? (i := 25) rfl)), rfl, hnm⟩) (hw _ (List.mem_of_getElem? (i := 6) rfl)) (ty := .long) (by decide) rfl rfl (g := (mkF m 119 #[.val (.ref o0), .val (.long q1), .second, .val (.int (1 : Int32)), .val (.long q3), .second, .val (.long (0 : Int64)), .second, .val (.int (1 : Int32))] [(.long (0 : Int64)), (.ref o0)])) rfl rfl (hb hby d2_119)
  have f24 : Fld Z h23 o0 "com/example/request_throttle/requestthrottle/Decision" "retryAfterMillis" "J" (.long (0 : Int64)) := f22.same W23
  have f25 : Exa Z h23 o0 "com/example/request_throttle/requestthrottle/Decision" := f19.wr W23
  have f26 : Fld Z h23 o0 "com/example/request_throttle/requestthrottle/Decision" "atMillis" "J" (.long q1) := f20.other W23 (Or.inr (slot_ne (Or.inr (hw _ (List.mem_of_getElem? (i := 19) rfl))) (Or.inr (hw _ (List.mem_of_getElem? (i := 25) rfl))) (by decide) (t := .long) (t' := .long) (by decide) (by decide)))
  have f27 : Fld Z h23 o0 "com/example/request_throttle/requestthrottle/Decision" "allowed" "Z" (.int (1 : Int32)) := f21.other W23 (Or.inr (slot_ne (Or.inr (hw _ (List.mem_of_getElem? (i := 21) rfl))) (Or.inr (hw _ (List.mem_of_getElem? (i := 25) rfl))) (by decide) (t := .boolean) (t' := .long) (by decide) (by decide)))
  have f28 : Fld Z h23 o0 "com/example/request_throttle/requestthrottle/Decision" "waitMillis" "J" (.long q3) := f18.other W23 (Or.inr (slot_ne (Or.inr (hw _ (List.mem_of_getElem? (i := 23) rfl))) (Or.inr (hw _ (List.mem_of_getElem? (i := 25) rfl))) (by decide) (t := .long) (t' := .long) (by decide) (by decide)))
  have N23 := Fr.snoc X23 N17 (show n0 ≤ o0 by omega)
  have Z23 : n0 ≤ h23.size := Nat.le_trans Z17 (Keep.of_wr W23).1
  have K23 : Keep h0 h23 [o0] := K17.wr W23 (Or.inl (List.mem_of_getElem? (i := 0) rfl))
  refine hD _ (T23.setTop (mkF m 122 #[.val (.ref o0), .val (.long q1), .second, .val (.int (1 : Int32)), .val (.long q3), .second, .val (.long (0 : Int64)), .second, .val (.int (1 : Int32))] [])) (fun t k => ?_) ?_
  · show Steps p.tables e below (T1.setTop (mkF m 63 #[.val (.ref o0), .val (.long q1), .second, .val (.int (1 : Int32)), .val (.long q3), .second, .val (.long (0 : Int64)), .second, .val (.int (1 : Int32))] [(.int (lcmpW q1 (0 : Int64)))])) t
    refine XS.ifNo X1.here hx rfl (hb hby d2_63) rfl ((if0 _ _).trans (flt (fun q => hc4 ((lw_lt q1 (0 : Int64)).mp q))).1) ?_
    show Steps p.tables e below (T1.setTop (mkF m 66 #[.val (.ref o0), .val (.long q1), .second, .val (.int (1 : Int32)), .val (.long q3), .second, .val (.long (0 : Int64)), .second, .val (.int (1 : Int32))] [])) t
    refine XS.iload X1.here hx rfl (hb hby d2_66) rfl ?_
    show Steps p.tables e below (T1.setTop (mkF m 68 #[.val (.ref o0), .val (.long q1), .second, .val (.int (1 : Int32)), .val (.long q3), .second, .val (.long (0 : Int64)), .second, .val (.int (1 : Int32))] [(.int (1 : Int32))])) t
    refine XS.ifYes X1.here hx rfl (pc0 := 68) (pc' := 100) rfl (hb hby d2_68) rfl (by decide) (by decide) (by decide) ?_
    show Steps p.tables e below (T1.setTop (mkF m 100 #[.val (.ref o0), .val (.long q1), .second, .val (.int (1 : Int32)), .val (.long q3), .second, .val (.long (0 : Int64)), .second, .val (.int (1 : Int32))] [])) t
    refine XS.aloadN X1.here hx rfl (hb hby d2_100) rfl rfl ?_
    show Steps p.tables e below (T1.setTop (mkF m 101 #[.val (.ref o0), .val (.long q1), .second, .val (.int (1 : Int32)), .val (.long q3), .second, .val (.long (0 : Int64)), .second, .val (.int (1 : Int32))] [(.ref o0)])) t
    refine XS.lloadN X1.here hx rfl (hb hby d2_101) rfl ?_
    show Steps p.tables e below (T1.setTop (mkF m 102 #[.val (.ref o0), .val (.long q1), .second, .val (.int (1 : Int32)), .val (.long q3), .second, .val (.long (0 : Int64)), .second, .val (.int (1 : Int32))] [(.long q1), (.ref o0)])) t
    refine st5 _ ?_
    show Steps p.tables e below (T5.setTop (mkF m 105 #[.val (.ref o0), .val (.long q1), .second, .val (.int (1 : Int32)), .val (.long q3), .second, .val (.long (0 : Int64)), .second, .val (.int (1 : Int32))] [])) t
    refine XS.aloadN X5.here hx rfl (hb hby d2_105) rfl rfl ?_
    show Steps p.tables e below (T5.setTop (mkF m 106 #[.val (.ref o0), .val (.long q1), .second, .val (.int (1 : Int32)), .val (.long q3), .second, .val (.long (0 : Int64)), .second, .val (.int (1 : Int32))] [(.ref o0)])) t
    refine XS.iloadN X5.here hx rfl (hb hby d2_106) rfl ?_
    show Steps p.tables e below (T5.setTop (mkF m 107 #[.val (.ref o0), .val (.long q1), .second, .val (.int (1 : Int32)), .val (.long q3), .second, .val (.long (0 : Int64)), .second, .val (.int (1 : Int32))] [(.int (1 : Int32)), (.ref o0)])) t
    refine st11 _ ?_
    show Steps p.tables e below (T11.setTop (mkF m 110 #[.val (.ref o0), .val (.long q1), .second, .val (.int (1 : Int32)), .val (.long q3), .second, .val (.long (0 : Int64)), .second, .val (.int (1 : Int32))] [])) t
    refine XS.aloadN X11.here hx rfl (hb hby d2_110) rfl rfl ?_
    show Steps p.tables e below (T11.setTop (mkF m 111 #[.val (.ref o0), .val (.long q1), .second, .val (.int (1 : Int32)), .val (.long q3), .second, .val (.long (0 : Int64)), .second, .val (.int (1 : Int32))] [(.ref o0)])) t
    refine XS.lload X11.here hx rfl (hb hby d2_111) rfl ?_
    show Steps p.tables e below (T11.setTop (mkF m 113 #[.val (.ref o0), .val (.long q1), .second, .val (.int (1 : Int32)), .val (.long q3), .second, .val (.long (0 : Int64)), .second, .val (.int (1 : Int32))] [(.long q3), (.ref o0)])) t
    refine st17 _ ?_
    show Steps p.tables e below (T17.setTop (mkF m 116 #[.val (.ref o0), .val (.long q1), .second, .val (.int (1 : Int32)), .val (.long q3), .second, .val (.long (0 : Int64)), .second, .val (.int (1 : Int32))] [])) t
    refine XS.aloadN X17.here hx rfl (hb hby d2_116) rfl rfl ?_
    show Steps p.tables e below (T17.setTop (mkF m 117 #[.val (.ref o0), .val (.long q1), .second, .val (.int (1 : Int32)), .val (.long q3), .second, .val (.long (0 : Int64)), .second, .val (.int (1 : Int32))] [(.ref o0)])) t
    refine XS.lload X17.here hx rfl (hb hby d2_117) rfl ?_
    show Steps p.tables e below (T17.setTop (mkF m 119 #[.val (.ref o0), .val (.long q1), .second, .val (.int (1 : Int32)), .val (.long q3), .second, .val (.long (0 : Int64)), .second, .val (.int (1 : Int32))] [(.long (0 : Int64)), (.ref o0)])) t
    refine st23 _ ?_
    show Steps p.tables e below (T23.setTop (mkF m 122 #[.val (.ref o0), .val (.long q1), .second, .val (.int (1 : Int32)), .val (.long q3), .second, .val (.long (0 : Int64)), .second, .val (.int (1 : Int32))] [])) t
    exact k
  exact Own.retV hR X23 hx hret (hb hby d2_122) (by decide) (by decide) (by rw [e23]; exact ⟨rfl, N23, K23, f25, f26, f27, f28, f24⟩)
theorem d3_0 : decode prog_5_method_2_code 0 = .ok (.new 7, 3) := by decide +kernel
theorem d3_3 : decode prog_5_method_2_code 3 = .ok (.dup, 1) := by decide +kernel
theorem d3_4 : decode prog_5_method_2_code 4 = .ok (.lload_n 0, 1) := by decide +kernel
theorem d3_5 : decode prog_5_method_2_code 5 = .ok (.iconst 1, 1) := by decide +kernel
theorem d3_6 : decode prog_5_method_2_code 6 = .ok (.lload_n 2, 1) := by decide +kernel
theorem d3_7 : decode prog_5_method_2_code 7 = .ok (.lconst 0, 1) := by decide +kernel
theorem d3_8 : decode prog_5_method_2_code 8 = .ok (.invokespecial 37, 3) := by decide +kernel
theorem d3_11 : decode prog_5_method_2_code 11 = .ok (.areturn, 1) := by decide +kernel
theorem pd_1 : parseMethodDescriptor "(JZJJ)V" = some ⟨[.long, .boolean, .long, .long], none⟩ := by decide +kernel
theorem ef_3 (m : MethodId) (q0 : Int64) (q1 : Int64) : entryFrame m #[(.long q0), (.long q1)] 4 = mkF m 0 #[.val (.long q0), .second, .val (.long q1), .second] [] := by first | (simp [entryFrame, mkF, argsToLocals, Value.category]; done) | rfl
def Q3 (Z : State) (q0 : Int64) (q1 : Int64) (h0 : Heap) (n0 : Nat) (v : Option Value) (h : Heap) (L : List Loc) : Prop := ∃ b : Nat, v = some (.ref b) ∧ Fr n0 L ∧ Exa Z h b "com/example/request_throttle/requestthrottle/Decision" ∧ Fld Z h b "com/example/request_throttle/requestthrottle/Decision" "atMillis" "J" (.long q0) ∧ Fld Z h b "com/example/request_throttle/requestthrottle/Decision" "allowed" "Z" (.int (1 : Int32)) ∧ Fld Z h b "com/example/request_throttle/requestthrottle/Decision" "waitMillis" "J" (.long q1) ∧ Fld Z h b "com/example/request_throttle/requestthrottle/Decision" "retryAfterMillis" "J" (.long (0 : Int64))
set_option maxRecDepth 65536 in
set_option maxHeartbeats 40000000 in
theorem rm3 (l : Launch) (Z : State) (a0 : Array Value) (hw : ∀ d ∈ tables_1, d.before a0 Z = true) (ws : List Jvm.Cond) (q0 : Int64) (q1 : Int64) (h0 : Heap) (n0 : Nat) (Z0 : n0 ≤ h0.size) (ha : ¬ q0 < 0) (hb_ : ¬ q1 < 0) :
    MetFree l (⟨"com/example/request_throttle/requestthrottle/Decision", "allow", "(JJ)Lcom/example/request_throttle/requestthrottle/Decision;"⟩ : MethodName) (head1 (Jvm.Cond.code (⟨"com/example/request_throttle/requestthrottle/Decision", "allow", "(JJ)Lcom/example/request_throttle/requestthrottle/Decision;"⟩ : MethodName) prog_5_method_2_code 4 (some (.object "com/example/request_throttle/requestthrottle/Decision")) :: ws) ({ frames := 3, cells := 1, slots := 4, locals := 45 } : Room)) (fun a U => a = #[(.long q0), (.long q1)] ∧ Z.Warmed39 U.vm ∧ U.heap = h0) (fun _ _ _ _ _ => True) (fun _ U o U' => ∃ v L, o = .returned v ∧ Q3 Z q0 q1 h0 n0 v U'.heap L ∧ FrameEnd U o U' L ({ frames := 3, cells := 1, slots := 4, locals := 45 } : Room).cells ({ frames := 3, cells := 1, slots := 4, locals := 45 } : Room).slots) := by
  refine Own.enter (Q := Q3 Z q0 q1 h0 n0) (plainFor_of_name pn_1) ?_
  intro p e s m below meth c s₁ D hx hby hml hown hnm hret hZ X0 e0 hD hR
  have N0 := Fr.nil n0
  rw [show entryFrame m #[(.long q0), (.long q1)] 4 = mkF m 0 #[.val (.long q0), .second, .val (.long q1), .second] [] from ef_3 m q0 q1]
  obtain ⟨T1, h1, X1, e1, E1, A1, D1, -, st1⟩ := newO X0 hx hZ hown (hw _ (List.mem_of_getElem? (i := 5) rfl)) (hw _ (List.mem_of_getElem? (i := 6) rfl)) (hw _ (List.mem_of_getElem? (i := 3) rfl)) e0 (g := (mkF m 0 #[.val (.long q0), .second, .val (.long q1), .second] [])) rfl (hb hby d3_0) (by decide) (by decide)
  obtain ⟨b1, g_b1⟩ : ∃ z : Nat, z = h0.size := ⟨_, rfl⟩
  rw [← g_b1] at A1 D1 st1
  have g0_b1 : n0 ≤ b1 := by rw [g_b1]; exact Z0
  have f2 : Fld Z h1 b1 "com/example/request_throttle/requestthrottle/Decision" "atMillis" "J" (.long (0 : Int64)) := D1 (Or.inr (hw _ (List.mem_of_getElem? (i := 19) rfl))) (ty := .long) (by decide)
  have f3 : Fld Z h1 b1 "com/example/request_throttle/requestthrottle/Decision" "allowed" "Z" (.int (0 : Int32)) := D1 (Or.inr (hw _ (List.mem_of_getElem? (i := 21) rfl))) (ty := .boolean) (by decide)
  have f4 : Fld Z h1 b1 "com/example/request_throttle/requestthrottle/Decision" "waitMillis" "J" (.long (0 : Int64)) := D1 (Or.inr (hw _ (List.mem_of_getElem? (i := 23) rfl))) (ty := .long) (by decide)
  have f5 : Fld Z h1 b1 "com/example/request_throttle/requestthrottle/Decision" "retryAfterMillis" "J" (.long (0 : Int64)) := D1 (Or.inr (hw _ (List.mem_of_getElem? (i := 25) rfl))) (ty := .long) (by decide)
  have Z1 : n0 ≤ h1.size := Nat.le_trans Z0 E1.1
  obtain ⟨T6, _, L6, X6, ⟨rfl, Nq6, Kq6, E6, FatMillis_6, Fallowed_6, FwaitMillis_6, FretryAfterMillis_6⟩, st6⟩ := Own.callI (y := (⟨"com/example/request_throttle/requestthrottle/Decision", "<init>", "(JZJJ)V"⟩ : MethodName)) (W := 1) (argsL := [(.long q0), (.int (1 : Int32)), (.long q1), (.long (0 : Int64))]) (rest := [(.ref b1)]) (a := b1) X1 hx hZ hown rfl (hw _ (List.mem_of_getElem? (i := 7) rfl)) (hw _ (List.mem_of_getElem? (i := 8) rfl)) (hw _ (List.mem_of_getElem? (i := 3) rfl)) (hw _ (List.mem_of_getElem? (i := 9) rfl)) (by decide) e1 (rm2 l Z a0 hw [] b1 q0 q1  h1 n0 Z1 g0_b1 ha hb_ A1 f2 f3 f4 f5) (by decide) (by decide) (by decide) (by decide) (g := (mkF m 8 #[.val (.long q0), .second, .val (.long q1), .second] [(.long (0 : Int64)), (.long q1), (.int (1 : Int32)), (.long q0), (.ref b1), (.ref b1)])) rfl (by rw [hml]; rfl) (lenOf pd_1 rfl) rfl (by show 2 * 0 + _ ≤ _; exact Nat.le_of_eq rfl) (hb hby d3_8)
  have N6 := Fr.app N0 Nq6
  refine hD _ (T6.setTop (mkF m 11 #[.val (.long q0), .second, .val (.long q1), .second] [(.ref b1)])) (fun t k => ?_) ?_
  · show Steps p.tables e below (s₁.setTop (mkF m 0 #[.val (.long q0), .second, .val (.long q1), .second] [])) t
    refine st1 _ ?_
    show Steps p.tables e below (T1.setTop (mkF m 3 #[.val (.long q0), .second, .val (.long q1), .second] [(.ref b1)])) t
    refine XS.dup X1.here hx rfl (hb hby d3_3) rfl rfl ?_
    show Steps p.tables e below (T1.setTop (mkF m 4 #[.val (.long q0), .second, .val (.long q1), .second] [(.ref b1), (.ref b1)])) t
    refine XS.lloadN X1.here hx rfl (hb hby d3_4) rfl ?_
    show Steps p.tables e below (T1.setTop (mkF m 5 #[.val (.long q0), .second, .val (.long q1), .second] [(.long q0), (.ref b1), (.ref b1)])) t
    refine XS.iconst X1.here hx rfl (hb hby d3_5) ?_
    show Steps p.tables e below (T1.setTop (mkF m 6 #[.val (.long q0), .second, .val (.long q1), .second] [(.int (1 : Int32)), (.long q0), (.ref b1), (.ref b1)])) t
    refine XS.lloadN X1.here hx rfl (hb hby d3_6) rfl ?_
    show Steps p.tables e below (T1.setTop (mkF m 7 #[.val (.long q0), .second, .val (.long q1), .second] [(.long q1), (.int (1 : Int32)), (.long q0), (.ref b1), (.ref b1)])) t
    refine XS.lconst X1.here hx rfl (hb hby d3_7) ?_
    show Steps p.tables e below (T1.setTop (mkF m 8 #[.val (.long q0), .second, .val (.long q1), .second] [(.long (0 : Int64)), (.long q1), (.int (1 : Int32)), (.long q0), (.ref b1), (.ref b1)])) t
    refine st6 _ ?_
    show Steps p.tables e below (T6.setTop (mkF m 11 #[.val (.long q0), .second, .val (.long q1), .second] [(.ref b1)])) t
    exact k
  exact Own.retA hR X6 hx rfl hret rfl (hb hby d3_11) (by decide) (by decide) ⟨b1, rfl, N6, E6, FatMillis_6, Fallowed_6, FwaitMillis_6, FretryAfterMillis_6⟩
theorem d4_0 : decode prog_5_method_7_code 0 = .ok (.aload_n 0, 1) := by decide +kernel
theorem d4_1 : decode prog_5_method_7_code 1 = .ok (.getfield 24, 3) := by decide +kernel
theorem d4_4 : decode prog_5_method_7_code 4 = .ok (.lreturn, 1) := by decide +kernel
theorem ef_4 (m : MethodId) (o0 : Addr) : entryFrame m #[(.ref o0)] 1 = mkF m 0 #[.val (.ref o0)] [] := by first | (simp [entryFrame, mkF, argsToLocals, Value.category]; done) | rfl
def Q4 (Z : State) (o0 : Nat) (x : Int64) (h0 : Heap) (n0 : Nat) (v : Option Value) (h : Heap) (L : List Loc) : Prop := v = some (.long x) ∧ Fr n0 L ∧ h = h0
set_option maxRecDepth 65536 in
set_option maxHeartbeats 40000000 in
theorem rm4 (l : Launch) (Z : State) (a0 : Array Value) (hw : ∀ d ∈ tables_1, d.before a0 Z = true) (ws : List Jvm.Cond) (o0 : Nat) (x : Int64) (h0 : Heap) (n0 : Nat) (F_atMillis : Fld Z h0 o0 "com/example/request_throttle/requestthrottle/Decision" "atMillis" "J" (.long x)) :
    MetFree l (⟨"com/example/request_throttle/requestthrottle/Decision", "atMillis", "()J"⟩ : MethodName) (head1 (Jvm.Cond.code (⟨"com/example/request_throttle/requestthrottle/Decision", "atMillis", "()J"⟩ : MethodName) prog_5_method_7_code 1 (some .long) :: ws) ({ frames := 0, cells := 0, slots := 0, locals := 0 } : Room)) (fun a U => a = #[(.ref o0)] ∧ Z.Warmed39 U.vm ∧ U.heap = h0) (fun _ _ _ _ _ => True) (fun _ U o U' => ∃ v L, o = .returned v ∧ Q4 Z o0 x h0 n0 v U'.heap L ∧ FrameEnd U o U' L ({ frames := 0, cells := 0, slots := 0, locals := 0 } : Room).cells ({ frames := 0, cells := 0, slots := 0, locals := 0 } : Room).slots) := by
  refine Own.enter (Q := Q4 Z o0 x h0 n0) (plainFor_of_name pn_1) ?_
  intro p e s m below meth c s₁ D hx hby hml hown hnm hret hZ X0 e0 hD hR
  have N0 := Fr.nil n0
  rw [show entryFrame m #[(.ref o0)] 1 = mkF m 0 #[.val (.ref o0)] [] from ef_4 m o0]
  obtain ⟨T1, X1, e1, st1⟩ := getF X0 hx hZ hown (host := "") (Or.inl (hw _ (List.mem_of_getElem? (i := 18) rfl))) Via.refl e0 F_atMillis (g := (mkF m 1 #[.val (.ref o0)] [(.ref o0)])) rfl rfl (hb hby d4_1)
  refine hD _ (T1.setTop (mkF m 4 #[.val (.ref o0)] [(.long x)])) (fun t k => ?_) ?_
  · show Steps p.tables e below (s₁.setTop (mkF m 0 #[.val (.ref o0)] [])) t
    refine XS.aloadN X0.here hx rfl (hb hby d4_0) rfl rfl ?_
    show Steps p.tables e below (s₁.setTop (mkF m 1 #[.val (.ref o0)] [(.ref o0)])) t
    refine st1 _ ?_
    show Steps p.tables e below (T1.setTop (mkF m 4 #[.val (.ref o0)] [(.long x)])) t
    exact k
  exact Own.retJ hR X1 hx hret (hb hby d4_4) (by decide) (by decide) ⟨rfl, N0, e1⟩
theorem d5_0 : decode prog_5_method_8_code 0 = .ok (.aload_n 0, 1) := by decide +kernel
theorem d5_1 : decode prog_5_method_8_code 1 = .ok (.getfield 28, 3) := by decide +kernel
theorem d5_4 : decode prog_5_method_8_code 4 = .ok (.ireturn, 1) := by decide +kernel
theorem ef_5 (m : MethodId) (o0 : Addr) : entryFrame m #[(.ref o0)] 1 = mkF m 0 #[.val (.ref o0)] [] := by first | (simp [entryFrame, mkF, argsToLocals, Value.category]; done) | rfl
def Q5 (Z : State) (o0 : Nat) (h0 : Heap) (n0 : Nat) (v : Option Value) (h : Heap) (L : List Loc) : Prop := v = some (.int (1 : Int32)) ∧ Fr n0 L ∧ h = h0
set_option maxRecDepth 65536 in
set_option maxHeartbeats 40000000 in
theorem rm5 (l : Launch) (Z : State) (a0 : Array Value) (hw : ∀ d ∈ tables_1, d.before a0 Z = true) (ws : List Jvm.Cond) (o0 : Nat) (h0 : Heap) (n0 : Nat) (F_allowed : Fld Z h0 o0 "com/example/request_throttle/requestthrottle/Decision" "allowed" "Z" (.int (1 : Int32))) :
    MetFree l (⟨"com/example/request_throttle/requestthrottle/Decision", "allowed", "()Z"⟩ : MethodName) (head1 (Jvm.Cond.code (⟨"com/example/request_throttle/requestthrottle/Decision", "allowed", "()Z"⟩ : MethodName) prog_5_method_8_code 1 (some .boolean) :: ws) ({ frames := 0, cells := 0, slots := 0, locals := 0 } : Room)) (fun a U => a = #[(.ref o0)] ∧ Z.Warmed39 U.vm ∧ U.heap = h0) (fun _ _ _ _ _ => True) (fun _ U o U' => ∃ v L, o = .returned v ∧ Q5 Z o0 h0 n0 v U'.heap L ∧ FrameEnd U o U' L ({ frames := 0, cells := 0, slots := 0, locals := 0 } : Room).cells ({ frames := 0, cells := 0, slots := 0, locals := 0 } : Room).slots) := by
  refine Own.enter (Q := Q5 Z o0 h0 n0) (plainFor_of_name pn_1) ?_
  intro p e s m below meth c s₁ D hx hby hml hown hnm hret hZ X0 e0 hD hR
  have N0 := Fr.nil n0
  rw [show entryFrame m #[(.ref o0)] 1 = mkF m 0 #[.val (.ref o0)] [] from ef_5 m o0]
  obtain ⟨T1, X1, e1, st1⟩ := getF X0 hx hZ hown (host := "") (Or.inl (hw _ (List.mem_of_getElem? (i := 20) rfl))) Via.refl e0 F_allowed (g := (mkF m 1 #[.val (.ref o0)] [(.ref o0)])) rfl rfl (hb hby d5_1)
  refine hD _ (T1.setTop (mkF m 4 #[.val (.ref o0)] [(.int (1 : Int32))])) (fun t k => ?_) ?_
  · show Steps p.tables e below (s₁.setTop (mkF m 0 #[.val (.ref o0)] [])) t
    refine XS.aloadN X0.here hx rfl (hb hby d5_0) rfl rfl ?_
    show Steps p.tables e below (s₁.setTop (mkF m 1 #[.val (.ref o0)] [(.ref o0)])) t
    refine st1 _ ?_
    show Steps p.tables e below (T1.setTop (mkF m 4 #[.val (.ref o0)] [(.int (1 : Int32))])) t
    exact k
  exact Own.retN hR X1 hx (t := .boolean) hret (by simp) (hb hby d5_4) (by decide) (by decide) (by decide) ⟨rfl, N0, e1⟩
theorem d6_0 : decode prog_5_method_9_code 0 = .ok (.aload_n 0, 1) := by decide +kernel
theorem d6_1 : decode prog_5_method_9_code 1 = .ok (.getfield 31, 3) := by decide +kernel
theorem d6_4 : decode prog_5_method_9_code 4 = .ok (.lreturn, 1) := by decide +kernel
theorem ef_6 (m : MethodId) (o0 : Addr) : entryFrame m #[(.ref o0)] 1 = mkF m 0 #[.val (.ref o0)] [] := by first | (simp [entryFrame, mkF, argsToLocals, Value.category]; done) | rfl
def Q6 (Z : State) (o0 : Nat) (x : Int64) (h0 : Heap) (n0 : Nat) (v : Option Value) (h : Heap) (L : List Loc) : Prop := v = some (.long x) ∧ Fr n0 L ∧ h = h0
set_option maxRecDepth 65536 in
set_option maxHeartbeats 40000000 in
theorem rm6 (l : Launch) (Z : State) (a0 : Array Value) (hw : ∀ d ∈ tables_1, d.before a0 Z = true) (ws : List Jvm.Cond) (o0 : Nat) (x : Int64) (h0 : Heap) (n0 : Nat) (F_waitMillis : Fld Z h0 o0 "com/example/request_throttle/requestthrottle/Decision" "waitMillis" "J" (.long x)) :
    MetFree l (⟨"com/example/request_throttle/requestthrottle/Decision", "waitMillis", "()J"⟩ : MethodName) (head1 (Jvm.Cond.code (⟨"com/example/request_throttle/requestthrottle/Decision", "waitMillis", "()J"⟩ : MethodName) prog_5_method_9_code 1 (some .long) :: ws) ({ frames := 0, cells := 0, slots := 0, locals := 0 } : Room)) (fun a U => a = #[(.ref o0)] ∧ Z.Warmed39 U.vm ∧ U.heap = h0) (fun _ _ _ _ _ => True) (fun _ U o U' => ∃ v L, o = .returned v ∧ Q6 Z o0 x h0 n0 v U'.heap L ∧ FrameEnd U o U' L ({ frames := 0, cells := 0, slots := 0, locals := 0 } : Room).cells ({ frames := 0, cells := 0, slots := 0, locals := 0 } : Room).slots) := by
  refine Own.enter (Q := Q6 Z o0 x h0 n0) (plainFor_of_name pn_1) ?_
  intro p e s m below meth c s₁ D hx hby hml hown hnm hret hZ X0 e0 hD hR
  have N0 := Fr.nil n0
  rw [show entryFrame m #[(.ref o0)] 1 = mkF m 0 #[.val (.ref o0)] [] from ef_6 m o0]
  obtain ⟨T1, X1, e1, st1⟩ := getF X0 hx hZ hown (host := "") (Or.inl (hw _ (List.mem_of_getElem? (i := 22) rfl))) Via.refl e0 F_waitMillis (g := (mkF m 1 #[.val (.ref o0)] [(.ref o0)])) rfl rfl (hb hby d6_1)
  refine hD _ (T1.setTop (mkF m 4 #[.val (.ref o0)] [(.long x)])) (fun t k => ?_) ?_
  · show Steps p.tables e below (s₁.setTop (mkF m 0 #[.val (.ref o0)] [])) t
    refine XS.aloadN X0.here hx rfl (hb hby d6_0) rfl rfl ?_
    show Steps p.tables e below (s₁.setTop (mkF m 1 #[.val (.ref o0)] [(.ref o0)])) t
    refine st1 _ ?_
    show Steps p.tables e below (T1.setTop (mkF m 4 #[.val (.ref o0)] [(.long x)])) t
    exact k
  exact Own.retJ hR X1 hx hret (hb hby d6_4) (by decide) (by decide) ⟨rfl, N0, e1⟩
theorem d7_0 : decode prog_5_method_10_code 0 = .ok (.aload_n 0, 1) := by decide +kernel
theorem d7_1 : decode prog_5_method_10_code 1 = .ok (.getfield 34, 3) := by decide +kernel
theorem d7_4 : decode prog_5_method_10_code 4 = .ok (.lreturn, 1) := by decide +kernel
theorem ef_7 (m : MethodId) (o0 : Addr) : entryFrame m #[(.ref o0)] 1 = mkF m 0 #[.val (.ref o0)] [] := by first | (simp [entryFrame, mkF, argsToLocals, Value.category]; done) | rfl
def Q7 (Z : State) (o0 : Nat) (x : Int64) (h0 : Heap) (n0 : Nat) (v : Option Value) (h : Heap) (L : List Loc) : Prop := v = some (.long x) ∧ Fr n0 L ∧ h = h0
set_option maxRecDepth 65536 in
set_option maxHeartbeats 40000000 in
theorem rm7 (l : Launch) (Z : State) (a0 : Array Value) (hw : ∀ d ∈ tables_1, d.before a0 Z = true) (ws : List Jvm.Cond) (o0 : Nat) (x : Int64) (h0 : Heap) (n0 : Nat) (F_retryAfterMillis : Fld Z h0 o0 "com/example/request_throttle/requestthrottle/Decision" "retryAfterMillis" "J" (.long x)) :
    MetFree l (⟨"com/example/request_throttle/requestthrottle/Decision", "retryAfterMillis", "()J"⟩ : MethodName) (head1 (Jvm.Cond.code (⟨"com/example/request_throttle/requestthrottle/Decision", "retryAfterMillis", "()J"⟩ : MethodName) prog_5_method_10_code 1 (some .long) :: ws) ({ frames := 0, cells := 0, slots := 0, locals := 0 } : Room)) (fun a U => a = #[(.ref o0)] ∧ Z.Warmed39 U.vm ∧ U.heap = h0) (fun _ _ _ _ _ => True) (fun _ U o U' => ∃ v L, o = .returned v ∧ Q7 Z o0 x h0 n0 v U'.heap L ∧ FrameEnd U o U' L ({ frames := 0, cells := 0, slots := 0, locals := 0 } : Room).cells ({ frames := 0, cells := 0, slots := 0, locals := 0 } : Room).slots) := by
  refine Own.enter (Q := Q7 Z o0 x h0 n0) (plainFor_of_name pn_1) ?_
  intro p e s m below meth c s₁ D hx hby hml hown hnm hret hZ X0 e0 hD hR
  have N0 := Fr.nil n0
  rw [show entryFrame m #[(.ref o0)] 1 = mkF m 0 #[.val (.ref o0)] [] from ef_7 m o0]
  obtain ⟨T1, X1, e1, st1⟩ := getF X0 hx hZ hown (host := "") (Or.inl (hw _ (List.mem_of_getElem? (i := 24) rfl))) Via.refl e0 F_retryAfterMillis (g := (mkF m 1 #[.val (.ref o0)] [(.ref o0)])) rfl rfl (hb hby d7_1)
  refine hD _ (T1.setTop (mkF m 4 #[.val (.ref o0)] [(.long x)])) (fun t k => ?_) ?_
  · show Steps p.tables e below (s₁.setTop (mkF m 0 #[.val (.ref o0)] [])) t
    refine XS.aloadN X0.here hx rfl (hb hby d7_0) rfl rfl ?_
    show Steps p.tables e below (s₁.setTop (mkF m 1 #[.val (.ref o0)] [(.ref o0)])) t
    refine st1 _ ?_
    show Steps p.tables e below (T1.setTop (mkF m 4 #[.val (.ref o0)] [(.long x)])) t
    exact k
  exact Own.retJ hR X1 hx hret (hb hby d7_4) (by decide) (by decide) ⟨rfl, N0, e1⟩
theorem pd_2 : parseMethodDescriptor "(JJ)Lcom/example/request_throttle/requestthrottle/Decision;" = some ⟨[.long, .long], some (.object "com/example/request_throttle/requestthrottle/Decision")⟩ := by decide +kernel
theorem pd_3 : parseMethodDescriptor "()J" = some ⟨[], some .long⟩ := by decide +kernel
theorem pd_4 : parseMethodDescriptor "()Z" = some ⟨[], some .boolean⟩ := by decide +kernel
theorem pn_2 : plainName "com/example/request_throttle/requestthrottle/DecisionAllowPinLaw" = true := by first | (simp [plainName, overriddenIn]; done) | decide +kernel
theorem ef_0 (m : MethodId) (q0 : Int64) (q1 : Int64) : entryFrame m #[(.long q0), (.long q1)] maxLocals = mkF m 0 #[.val (.long q0), .second, .val (.long q1), .second, .unset, .unset, .unset, .unset, .unset] [] := by first | (simp [entryFrame, mkF, argsToLocals, Value.category, maxLocals]; done) | rfl
def Q0 (Z : State) (q0 : Int64) (q1 : Int64) (h0 : Heap) (n0 : Nat) (v : Option Value) (h : Heap) (L : List Loc) : Prop := v = some (.int 1) ∧ Fr n0 L
set_option maxRecDepth 65536 in
set_option maxHeartbeats 40000000 in
theorem rm0 (l : Launch) (Z : State) (a0 : Array Value) (hw : ∀ d ∈ tables_1, d.before a0 Z = true) (ws : List Jvm.Cond) (q0 : Int64) (q1 : Int64) (h0 : Heap) (n0 : Nat) (Z0 : n0 ≤ h0.size) :
    MetFree l x (head1 (Jvm.Cond.code x code maxLocals ret :: ws) room_1) (fun a U => a = #[(.long q0), (.long q1)] ∧ Z.Warmed39 U.vm ∧ U.heap = h0) (fun _ _ _ _ _ => True) (fun _ U o U' => ∃ v L, o = .returned v ∧ Q0 Z q0 q1 h0 n0 v U'.heap L ∧ FrameEnd U o U' L room_1.cells room_1.slots) := by
  refine Own.enter (Q := Q0 Z q0 q1 h0 n0) (plainFor_of_name pn_2) ?_
  intro p e s m below meth c s₁ D hx hby hml hown hnm hret hZ X0 e0 hD hR
  have N0 := Fr.nil n0
  rw [show entryFrame m #[(.long q0), (.long q1)] maxLocals = mkF m 0 #[.val (.long q0), .second, .val (.long q1), .second, .unset, .unset, .unset, .unset, .unset] [] from ef_0 m q0 q1]
  obtain ⟨v1, hv1⟩ : ∃ z : Int64, z = (q0 &&& (9223372036854775807 : Int64)) := ⟨_, rfl⟩
  obtain ⟨v2, hv2⟩ : ∃ z : Int64, z = (q1 &&& (9223372036854775807 : Int64)) := ⟨_, rfl⟩
  obtain ⟨T3, _, L3, X3, ⟨b3, rfl, Nq3, E3, FatMillis_3, Fallowed_3, FwaitMillis_3, FretryAfterMillis_3⟩, st3⟩ := Own.callS (y := (⟨"com/example/request_throttle/requestthrottle/Decision", "allow", "(JJ)Lcom/example/request_throttle/requestthrottle/Decision;"⟩ : MethodName)) (W := 0) (argsL := [(.long v1), (.long v2)]) (rest := []) X0 hx hZ hown (hw _ (List.mem_of_getElem? (i := 1) rfl)) (hw _ (List.mem_of_getElem? (i := 2) rfl)) (hw _ (List.mem_of_getElem? (i := 3) rfl)) (hw _ (List.mem_of_getElem? (i := 4) rfl)) (by decide) e0 (rm3 l Z a0 hw [] v1 v2  h0 n0 Z0 (own_mask hv1) (own_mask hv2)) (by decide) (by decide) (by decide) (by decide) (g := (mkF m 18 #[.val (.long q0), .second, .val (.long q1), .second, .val (.long v1), .second, .val (.long v2), .second, .unset] [(.long v2), (.long v1)])) rfl (by rw [hml]; rfl) (lenOf pd_2 rfl) rfl (by show 2 * 0 + _ ≤ _; exact Nat.le_of_eq rfl) (hb hby at_18)
  have N3 := Fr.app N0 Nq3
  obtain ⟨T4, _, L4, X4, ⟨rfl, Nq4, e4⟩, st4⟩ := Own.callV (y := (⟨"com/example/request_throttle/requestthrottle/Decision", "atMillis", "()J"⟩ : MethodName)) (W := 0) (argsL := []) (rest := []) (a := b3) X3 hx hZ hown (hw _ (List.mem_of_getElem? (i := 26) rfl)) (hw _ (List.mem_of_getElem? (i := 27) rfl)) (hw _ (List.mem_of_getElem? (i := 29) rfl)) (hw _ (List.mem_of_getElem? (i := 28) rfl)) (hw _ (List.mem_of_getElem? (i := 3) rfl)) (hw _ (List.mem_of_getElem? (i := 30) rfl)) (by decide) rfl E3 (rm4 l Z a0 hw [] b3 v1 T3.heap n0 FatMillis_3) (by decide) (by decide) (by decide) (by decide) (g := (mkF m 25 #[.val (.long q0), .second, .val (.long q1), .second, .val (.long v1), .second, .val (.long v2), .second, .val (.ref b3)] [(.ref b3)])) rfl (by rw [hml]; rfl) (lenOf pd_3 rfl) rfl (by show 2 * 0 + _ ≤ _; exact Nat.le_of_eq rfl) (hb hby at_25)
  have N4 := Fr.app N3 Nq4
  refine hD _ (T4.setTop (mkF m 31 #[.val (.long q0), .second, .val (.long q1), .second, .val (.long v1), .second, .val (.long v2), .second, .val (.ref b3)] [(.int (lcmpW v1 v1))])) (fun t k => ?_) ?_
  · show Steps p.tables e below (s₁.setTop (mkF m 0 #[.val (.long q0), .second, .val (.long q1), .second, .unset, .unset, .unset, .unset, .unset] [])) t
    refine XS.lloadN X0.here hx rfl (hb hby at_0) rfl ?_
    show Steps p.tables e below (s₁.setTop (mkF m 1 #[.val (.long q0), .second, .val (.long q1), .second, .unset, .unset, .unset, .unset, .unset] [(.long q0)])) t
    refine X0.ldc2Long hx hown (mvT hZ (hw _ (List.mem_of_getElem? (i := 0) rfl))) (g := (mkF m 1 #[.val (.long q0), .second, .val (.long q1), .second, .unset, .unset, .unset, .unset, .unset] [(.long q0)])) rfl (hb hby at_1) _ ?_
    show Steps p.tables e below (s₁.setTop (mkF m 4 #[.val (.long q0), .second, .val (.long q1), .second, .unset, .unset, .unset, .unset, .unset] [(.long (9223372036854775807 : Int64)), (.long q0)])) t
    refine XS.land X0.here hx rfl (hb hby at_4) rfl ?_
    show Steps p.tables e below (s₁.setTop (mkF m 5 #[.val (.long q0), .second, .val (.long q1), .second, .unset, .unset, .unset, .unset, .unset] [(.long (q0 &&& (9223372036854775807 : Int64)))])) t
    refine Own.nmJ hv1 ?_
    show Steps p.tables e below (s₁.setTop (mkF m 5 #[.val (.long q0), .second, .val (.long q1), .second, .unset, .unset, .unset, .unset, .unset] [(.long v1)])) t
    refine XS.lstore X0.here hx rfl (hb hby at_5) rfl (l' := #[.val (.long q0), .second, .val (.long q1), .second, .val (.long v1), .second, .unset, .unset, .unset]) rfl ?_
    show Steps p.tables e below (s₁.setTop (mkF m 7 #[.val (.long q0), .second, .val (.long q1), .second, .val (.long v1), .second, .unset, .unset, .unset] [])) t
    refine XS.lloadN X0.here hx rfl (hb hby at_7) rfl ?_
    show Steps p.tables e below (s₁.setTop (mkF m 8 #[.val (.long q0), .second, .val (.long q1), .second, .val (.long v1), .second, .unset, .unset, .unset] [(.long q1)])) t
    refine X0.ldc2Long hx hown (mvT hZ (hw _ (List.mem_of_getElem? (i := 0) rfl))) (g := (mkF m 8 #[.val (.long q0), .second, .val (.long q1), .second, .val (.long v1), .second, .unset, .unset, .unset] [(.long q1)])) rfl (hb hby at_8) _ ?_
    show Steps p.tables e below (s₁.setTop (mkF m 11 #[.val (.long q0), .second, .val (.long q1), .second, .val (.long v1), .second, .unset, .unset, .unset] [(.long (9223372036854775807 : Int64)), (.long q1)])) t
    refine XS.land X0.here hx rfl (hb hby at_11) rfl ?_
    show Steps p.tables e below (s₁.setTop (mkF m 12 #[.val (.long q0), .second, .val (.long q1), .second, .val (.long v1), .second, .unset, .unset, .unset] [(.long (q1 &&& (9223372036854775807 : Int64)))])) t
    refine Own.nmJ hv2 ?_
    show Steps p.tables e below (s₁.setTop (mkF m 12 #[.val (.long q0), .second, .val (.long q1), .second, .val (.long v1), .second, .unset, .unset, .unset] [(.long v2)])) t
    refine XS.lstore X0.here hx rfl (hb hby at_12) rfl (l' := #[.val (.long q0), .second, .val (.long q1), .second, .val (.long v1), .second, .val (.long v2), .second, .unset]) rfl ?_
    show Steps p.tables e below (s₁.setTop (mkF m 14 #[.val (.long q0), .second, .val (.long q1), .second, .val (.long v1), .second, .val (.long v2), .second, .unset] [])) t
    refine XS.lload X0.here hx rfl (hb hby at_14) rfl ?_
    show Steps p.tables e below (s₁.setTop (mkF m 16 #[.val (.long q0), .second, .val (.long q1), .second, .val (.long v1), .second, .val (.long v2), .second, .unset] [(.long v1)])) t
    refine XS.lload X0.here hx rfl (hb hby at_16) rfl ?_
    show Steps p.tables e below (s₁.setTop (mkF m 18 #[.val (.long q0), .second, .val (.long q1), .second, .val (.long v1), .second, .val (.long v2), .second, .unset] [(.long v2), (.long v1)])) t
    refine st3 _ ?_
    show Steps p.tables e below (T3.setTop (mkF m 21 #[.val (.long q0), .second, .val (.long q1), .second, .val (.long v1), .second, .val (.long v2), .second, .unset] [(.ref b3)])) t
    refine XS.astore X3.here hx rfl (hb hby at_21) rfl rfl (l' := #[.val (.long q0), .second, .val (.long q1), .second, .val (.long v1), .second, .val (.long v2), .second, .val (.ref b3)]) rfl ?_
    show Steps p.tables e below (T3.setTop (mkF m 23 #[.val (.long q0), .second, .val (.long q1), .second, .val (.long v1), .second, .val (.long v2), .second, .val (.ref b3)] [])) t
    refine XS.aload X3.here hx rfl (hb hby at_23) rfl rfl ?_
    show Steps p.tables e below (T3.setTop (mkF m 25 #[.val (.long q0), .second, .val (.long q1), .second, .val (.long v1), .second, .val (.long v2), .second, .val (.ref b3)] [(.ref b3)])) t
    refine st4 _ ?_
    show Steps p.tables e below (T4.setTop (mkF m 28 #[.val (.long q0), .second, .val (.long q1), .second, .val (.long v1), .second, .val (.long v2), .second, .val (.ref b3)] [(.long v1)])) t
    refine XS.lload X4.here hx rfl (hb hby at_28) rfl ?_
    show Steps p.tables e below (T4.setTop (mkF m 30 #[.val (.long q0), .second, .val (.long q1), .second, .val (.long v1), .second, .val (.long v2), .second, .val (.ref b3)] [(.long v1), (.long v1)])) t
    refine XS.lcmp X4.here hx rfl (hb hby at_30) rfl ?_
    show Steps p.tables e below (T4.setTop (mkF m 31 #[.val (.long q0), .second, .val (.long q1), .second, .val (.long v1), .second, .val (.long v2), .second, .val (.ref b3)] [(.int (lcmpW v1 v1))])) t
    exact k
  have hc5 : v1 = v1 := rfl
  obtain ⟨T6, _, L6, X6, ⟨rfl, Nq6, e6⟩, st6⟩ := Own.callV (y := (⟨"com/example/request_throttle/requestthrottle/Decision", "allowed", "()Z"⟩ : MethodName)) (W := 0) (argsL := []) (rest := []) (a := b3) X4 hx hZ hown (hw _ (List.mem_of_getElem? (i := 31) rfl)) (hw _ (List.mem_of_getElem? (i := 32) rfl)) (hw _ (List.mem_of_getElem? (i := 34) rfl)) (hw _ (List.mem_of_getElem? (i := 33) rfl)) (hw _ (List.mem_of_getElem? (i := 3) rfl)) (hw _ (List.mem_of_getElem? (i := 35) rfl)) (by decide) e4 E3 (rm5 l Z a0 hw [] b3  T3.heap n0 Fallowed_3) (by decide) (by decide) (by decide) (by decide) (g := (mkF m 36 #[.val (.long q0), .second, .val (.long q1), .second, .val (.long v1), .second, .val (.long v2), .second, .val (.ref b3)] [(.ref b3)])) rfl (by rw [hml]; rfl) (lenOf pd_4 rfl) rfl (by show 2 * 0 + _ ≤ _; exact Nat.le_of_eq rfl) (hb hby at_36)
  have N6 := Fr.app N4 Nq6
  obtain ⟨T7, _, L7, X7, ⟨rfl, Nq7, e7⟩, st7⟩ := Own.callV (y := (⟨"com/example/request_throttle/requestthrottle/Decision", "waitMillis", "()J"⟩ : MethodName)) (W := 0) (argsL := []) (rest := []) (a := b3) X6 hx hZ hown (hw _ (List.mem_of_getElem? (i := 36) rfl)) (hw _ (List.mem_of_getElem? (i := 37) rfl)) (hw _ (List.mem_of_getElem? (i := 39) rfl)) (hw _ (List.mem_of_getElem? (i := 38) rfl)) (hw _ (List.mem_of_getElem? (i := 3) rfl)) (hw _ (List.mem_of_getElem? (i := 40) rfl)) (by decide) e6 E3 (rm6 l Z a0 hw [] b3 v2 T3.heap n0 FwaitMillis_3) (by decide) (by decide) (by decide) (by decide) (g := (mkF m 44 #[.val (.long q0), .second, .val (.long q1), .second, .val (.long v1), .second, .val (.long v2), .second, .val (.ref b3)] [(.ref b3)])) rfl (by rw [hml]; rfl) (lenOf pd_3 rfl) rfl (by show 2 * 0 + _ ≤ _; exact Nat.le_of_eq rfl) (hb hby at_44)
  have N7 := Fr.app N6 Nq7
  refine hD _ (T7.setTop (mkF m 50 #[.val (.long q0), .second, .val (.long q1), .second, .val (.long v1), .second, .val (.long v2), .second, .val (.ref b3)] [(.int (lcmpW v2 v2))])) (fun t k => ?_) ?_
  · show Steps p.tables e below (T4.setTop (mkF m 31 #[.val (.long q0), .second, .val (.long q1), .second, .val (.long v1), .second, .val (.long v2), .second, .val (.ref b3)] [(.int (lcmpW v1 v1))])) t
    refine XS.ifNo X4.here hx rfl (hb hby at_31) rfl ((if0 _ _).trans (teq ((lw_eq v1 v1).mpr hc5)).2) ?_
    show Steps p.tables e below (T4.setTop (mkF m 34 #[.val (.long q0), .second, .val (.long q1), .second, .val (.long v1), .second, .val (.long v2), .second, .val (.ref b3)] [])) t
    refine XS.aload X4.here hx rfl (hb hby at_34) rfl rfl ?_
    show Steps p.tables e below (T4.setTop (mkF m 36 #[.val (.long q0), .second, .val (.long q1), .second, .val (.long v1), .second, .val (.long v2), .second, .val (.ref b3)] [(.ref b3)])) t
    refine st6 _ ?_
    show Steps p.tables e below (T6.setTop (mkF m 39 #[.val (.long q0), .second, .val (.long q1), .second, .val (.long v1), .second, .val (.long v2), .second, .val (.ref b3)] [(.int (1 : Int32))])) t
    refine XS.ifNo X6.here hx rfl (hb hby at_39) rfl (by decide) ?_
    show Steps p.tables e below (T6.setTop (mkF m 42 #[.val (.long q0), .second, .val (.long q1), .second, .val (.long v1), .second, .val (.long v2), .second, .val (.ref b3)] [])) t
    refine XS.aload X6.here hx rfl (hb hby at_42) rfl rfl ?_
    show Steps p.tables e below (T6.setTop (mkF m 44 #[.val (.long q0), .second, .val (.long q1), .second, .val (.long v1), .second, .val (.long v2), .second, .val (.ref b3)] [(.ref b3)])) t
    refine st7 _ ?_
    show Steps p.tables e below (T7.setTop (mkF m 47 #[.val (.long q0), .second, .val (.long q1), .second, .val (.long v1), .second, .val (.long v2), .second, .val (.ref b3)] [(.long v2)])) t
    refine XS.lload X7.here hx rfl (hb hby at_47) rfl ?_
    show Steps p.tables e below (T7.setTop (mkF m 49 #[.val (.long q0), .second, .val (.long q1), .second, .val (.long v1), .second, .val (.long v2), .second, .val (.ref b3)] [(.long v2), (.long v2)])) t
    refine XS.lcmp X7.here hx rfl (hb hby at_49) rfl ?_
    show Steps p.tables e below (T7.setTop (mkF m 50 #[.val (.long q0), .second, .val (.long q1), .second, .val (.long v1), .second, .val (.long v2), .second, .val (.ref b3)] [(.int (lcmpW v2 v2))])) t
    exact k
  have hc8 : v2 = v2 := rfl
  obtain ⟨T9, _, L9, X9, ⟨rfl, Nq9, e9⟩, st9⟩ := Own.callV (y := (⟨"com/example/request_throttle/requestthrottle/Decision", "retryAfterMillis", "()J"⟩ : MethodName)) (W := 0) (argsL := []) (rest := []) (a := b3) X7 hx hZ hown (hw _ (List.mem_of_getElem? (i := 41) rfl)) (hw _ (List.mem_of_getElem? (i := 42) rfl)) (hw _ (List.mem_of_getElem? (i := 44) rfl)) (hw _ (List.mem_of_getElem? (i := 43) rfl)) (hw _ (List.mem_of_getElem? (i := 3) rfl)) (hw _ (List.mem_of_getElem? (i := 45) rfl)) (by decide) e7 E3 (rm7 l Z a0 hw [] b3 (0 : Int64) T3.heap n0 FretryAfterMillis_3) (by decide) (by decide) (by decide) (by decide) (g := (mkF m 55 #[.val (.long q0), .second, .val (.long q1), .second, .val (.long v1), .second, .val (.long v2), .second, .val (.ref b3)] [(.ref b3)])) rfl (by rw [hml]; rfl) (lenOf pd_3 rfl) rfl (by show 2 * 0 + _ ≤ _; exact Nat.le_of_eq rfl) (hb hby at_55)
  have N9 := Fr.app N7 Nq9
  refine hD _ (T9.setTop (mkF m 60 #[.val (.long q0), .second, .val (.long q1), .second, .val (.long v1), .second, .val (.long v2), .second, .val (.ref b3)] [(.int (lcmpW (0 : Int64) (0 : Int64)))])) (fun t k => ?_) ?_
  · show Steps p.tables e below (T7.setTop (mkF m 50 #[.val (.long q0), .second, .val (.long q1), .second, .val (.long v1), .second, .val (.long v2), .second, .val (.ref b3)] [(.int (lcmpW v2 v2))])) t
    refine XS.ifNo X7.here hx rfl (hb hby at_50) rfl ((if0 _ _).trans (teq ((lw_eq v2 v2).mpr hc8)).2) ?_
    show Steps p.tables e below (T7.setTop (mkF m 53 #[.val (.long q0), .second, .val (.long q1), .second, .val (.long v1), .second, .val (.long v2), .second, .val (.ref b3)] [])) t
    refine XS.aload X7.here hx rfl (hb hby at_53) rfl rfl ?_
    show Steps p.tables e below (T7.setTop (mkF m 55 #[.val (.long q0), .second, .val (.long q1), .second, .val (.long v1), .second, .val (.long v2), .second, .val (.ref b3)] [(.ref b3)])) t
    refine st9 _ ?_
    show Steps p.tables e below (T9.setTop (mkF m 58 #[.val (.long q0), .second, .val (.long q1), .second, .val (.long v1), .second, .val (.long v2), .second, .val (.ref b3)] [(.long (0 : Int64))])) t
    refine XS.lconst X9.here hx rfl (hb hby at_58) ?_
    show Steps p.tables e below (T9.setTop (mkF m 59 #[.val (.long q0), .second, .val (.long q1), .second, .val (.long v1), .second, .val (.long v2), .second, .val (.ref b3)] [(.long (0 : Int64)), (.long (0 : Int64))])) t
    refine XS.lcmp X9.here hx rfl (hb hby at_59) rfl ?_
    show Steps p.tables e below (T9.setTop (mkF m 60 #[.val (.long q0), .second, .val (.long q1), .second, .val (.long v1), .second, .val (.long v2), .second, .val (.ref b3)] [(.int (lcmpW (0 : Int64) (0 : Int64)))])) t
    exact k
  have hc10 : (0 : Int64) = (0 : Int64) := rfl
  refine hD _ (T9.setTop (mkF m 68 #[.val (.long q0), .second, .val (.long q1), .second, .val (.long v1), .second, .val (.long v2), .second, .val (.ref b3)] [(.int (1 : Int32))])) (fun t k => ?_) ?_
  · show Steps p.tables e below (T9.setTop (mkF m 60 #[.val (.long q0), .second, .val (.long q1), .second, .val (.long v1), .second, .val (.long v2), .second, .val (.ref b3)] [(.int (lcmpW (0 : Int64) (0 : Int64)))])) t
    refine XS.ifNo X9.here hx rfl (hb hby at_60) rfl ((if0 _ _).trans (teq ((lw_eq (0 : Int64) (0 : Int64)).mpr hc10)).2) ?_
    show Steps p.tables e below (T9.setTop (mkF m 63 #[.val (.long q0), .second, .val (.long q1), .second, .val (.long v1), .second, .val (.long v2), .second, .val (.ref b3)] [])) t
    refine XS.iconst X9.here hx rfl (hb hby at_63) ?_
    show Steps p.tables e below (T9.setTop (mkF m 64 #[.val (.long q0), .second, .val (.long q1), .second, .val (.long v1), .second, .val (.long v2), .second, .val (.ref b3)] [(.int (1 : Int32))])) t
    refine XS.goto X9.here hx rfl (pc0 := 64) (pc' := 68) rfl (hb hby at_64) (by decide) (by decide) ?_
    show Steps p.tables e below (T9.setTop (mkF m 68 #[.val (.long q0), .second, .val (.long q1), .second, .val (.long v1), .second, .val (.long v2), .second, .val (.ref b3)] [(.int (1 : Int32))])) t
    exact k
  exact Own.retN hR X9 hx (t := .boolean) hret (by simp) (hb hby at_68) (by decide) (by decide) (by decide) ⟨rfl, N9⟩
set_option maxRecDepth 65536 in
set_option maxHeartbeats 40000000 in
theorem comes_1 {Post : Tables → Env → Array Value → State → Outcome → State → Prop} (hpost : ∀ tb e args s v u, (limb_1_1.after args s (.returned v) u = true ∧ limb_1_2.after args s (.returned v) u = true ∧ True) → FrameEnd s (.returned v) u (Jvm.fieldLocs frame_1_writes args s ++ Jvm.arrayLocs frame_1_arrays args s ++ Jvm.staticLocs frame_1_statics s) 16 128 → Post tb e args s (.returned v) u) :
    ArmFor flags0 classFile x code maxLocals ret World_1 tables_1 room_1 Calls_1 rest_1 Pre_1 Post := by
  intro l hfl _ _ p e ha hc hk s m args below hf hA hF happ hP
  obtain ⟨hcalls, hrest, hpre⟩ := hP
  obtain ⟨-, -, -, hnamed, -, -, -, hat⟩ := (Spec.applies_iff hf).mp happ
  obtain ⟨hg, hn⟩ := and_e (Cond.before_iff.mp (show (Jvm.Cond.and given_1 narrow_1).before args s = true from hpre))
  obtain ⟨hcnt, hg0⟩ := and_e hg
  obtain ⟨ga0, hg1⟩ := and_e hg0
  obtain ⟨w0, w1, rfl⟩ : ∃ w0 w1 : Value, args = #[w0, w1] := by
    have hs : args.size = 2 := by simpa [Cond.value, given_1] using hcnt
    obtain ⟨L⟩ := args
    match L, hs with
    | [w0, w1], _ => exact ⟨w0, w1, rfl⟩
  have hw := fun d (hd : d ∈ tables_1) => atoms_spec (ws := Jvm.Cond.code x code maxLocals ret :: tables_1) hat d (List.mem_cons_of_mem _ hd)
  obtain ⟨i0, ei0⟩ := isL_v ga0
  obtain rfl : w0 = (.long i0) := Option.some.inj ei0
  obtain ⟨i1, ei1⟩ := isL_v hg1
  obtain rfl : w1 = (.long i1) := Option.some.inj ei1
  obtain ⟨n, o, h1, h2, h3, _, L, rfl, ⟨rfl, N⟩, hq⟩ := rm0 l s _ hw tables_1 i0 i1 s.heap s.heap.size (Nat.le_refl _) p e ha hc hk s m _ below hf ((Spec.applies_iff_loose hf).mp happ).1 ⟨rfl, State.Warmed39.refl s, rfl⟩ trivial
  refine ⟨n, _, h1, h2, h3, hpost _ _ _ _ _ _ ⟨Cond.after_iff.mpr rfl, Cond.after_iff.mpr (eq_i res_at (Term.int_eval (1)) rfl), trivial⟩ ⟨hq.1, hq.2.1, (hq.2.2.sift fun y hy => Or.inr (N y hy)).mono (by decide) (by decide)⟩⟩
theorem main_1_1 : Claimed_1_1 := comes_1 fun _ _ _ _ _ _ h hF => ⟨h.1, hF⟩
theorem main_1_2 : Claimed_1_2 := comes_1 fun _ _ _ _ _ _ h hF => ⟨h.2.1, hF⟩
end Jvm.Pilot.@@N@@
namespace Jvm.Pilot.@@N@@
open Jvm Jvm.ClassFile Sem Op Lib Jvm.Free Jvm.Stand Jvm.Pilot.@@N@@.Jvm.D
/-! MADE BY PROGRAM (witnessworld.py) out of the Statement's table words and the real class files: 10 classes; the members and pool entries that the words name. The judged class is class 1, her method 1. -/
namespace start1
open Jvm.ClassFile
def u (s : String) : CpInfo := .utf8 (stringToUtf16 s)
/-- a pool by its gaps: so many unusable entries, then the entry; so many at the end -/
def gap : Nat → List CpInfo → List CpInfo
  | 0, r => r
  | n + 1, r => .unusable :: gap n r
def poolList (es : List (Nat × CpInfo)) (last : Nat) : List CpInfo := es.foldr (fun e r => gap e.1 (e.2 :: r)) (gap last [])
def pool (es : List (Nat × CpInfo)) (last : Nat) : Array CpInfo := ⟨poolList es last⟩
def fileOf (pool : Array CpInfo) (this : Nat) (attrs : Array Attribute := #[]) (ms : Array MethodInfo := #[]) (fl : Nat := 33) (sup : Nat := 0) (ifs : Array Nat := #[]) (fds : Array FieldInfo := #[]) : ClassFile where
  minorVersion := 0
  majorVersion := 65
  constantPool := pool
  accessFlags := fl
  thisClass := this
  superClass := sup
  interfaces := ifs
  fields := fds
  methods := ms
  attributes := attrs
def plain (name : String) (sup : Option ClassId) : Class where
  name := name
  kind := .ordinary
  loader := none
  accessFlags := 33
  super := sup
  interfaces := #[]
  cf := none
  fields := #[]
  methods := #[]
  instanceTypes := #[]
  staticTypes := #[]
  resolved := #[]
  callSites := []
  init := .initialized
  statics := none
  mirror := none

def pool0 : Array CpInfo := pool [(5, u "<init>"), (0, u "()V"), (1, .class_ 10), (1, u "java/lang/Object")] 113

def k0c0 : Code := { maxStack := 0, maxLocals := 1, code := object_method_1_code, exceptionTable := #[], attributes := #[] }
def k0m0 : Method := { name := "<init>", desc := "()V", sig := { parameters := [], returnType := none }, accessFlags := 1, code := some k0c0 }
/-- java/lang/Object -/
def k0 : Class := { plain "java/lang/Object" none with
  accessFlags := 33
  interfaces := #[]
  cf := some (fileOf pool0 8 #[] #[{ accessFlags := 1, nameIndex := 5, descriptorIndex := 6, attributes := #[] }] 33 0 #[] #[])
  fields := #[]
  methods := #[k0m0]
  instanceTypes := #[]
  staticTypes := #[]
  resolved := Array.replicate 124 none
  statics := none }

def pool1 : Array CpInfo := pool [(2, .class_ 4), (1, u "java/lang/Object"), (0, u "<init>"), (0, u "()V"), (0, .long 9223372036854775807), (1, .methodref 10 11), (0, .class_ 12), (0, .nameAndType 13 14), (0, u "com/example/request_throttle/requestthrottle/Decision"), (0, u "allow"), (0, u "(JJ)Lcom/example/request_throttle/requestthrottle/Decision;"), (0, .methodref 10 16), (0, .nameAndType 17 18), (0, u "atMillis"), (0, u "()J"), (0, .methodref 10 20), (0, .nameAndType 21 22), (0, u "allowed"), (0, u "()Z"), (0, .methodref 10 24), (0, .nameAndType 25 18), (0, u "waitMillis"), (0, .methodref 10 27), (0, .nameAndType 28 18), (0, u "retryAfterMillis"), (0, .class_ 30), (0, u "com/example/request_throttle/requestthrottle/DecisionAllowPinLaw"), (2, u "law"), (0, u "(JJ)Z")] 3

def k1m0 : Method := { name := "<init>", desc := "()V", sig := { parameters := [], returnType := none }, accessFlags := 1, code := none }
def k1c1 : Code := { maxStack := 4, maxLocals := 9, code := code, exceptionTable := #[], attributes := #[] }
def k1m1 : Method := { name := "law", desc := "(JJ)Z", sig := { parameters := [.long, .long], returnType := some .boolean }, accessFlags := 9, code := some k1c1 }
/-- com/example/request_throttle/requestthrottle/DecisionAllowPinLaw -/
def k1 : Class := { plain "com/example/request_throttle/requestthrottle/DecisionAllowPinLaw" (some 0) with
  accessFlags := 49
  interfaces := #[]
  cf := some (fileOf pool1 29 #[] #[{ accessFlags := 1, nameIndex := 5, descriptorIndex := 6, attributes := #[] }, { accessFlags := 9, nameIndex := 33, descriptorIndex := 34, attributes := #[] }] 49 2 #[] #[])
  fields := #[]
  methods := #[k1m0, k1m1]
  instanceTypes := #[]
  staticTypes := #[]
  resolved := Array.replicate 38 none
  statics := none }

def pool2 : Array CpInfo := pool [(1, .methodref 2 3), (0, .class_ 4), (0, .nameAndType 5 6), (0, u "java/lang/Object"), (0, u "<init>"), (0, u "()V"), (0, .class_ 8), (0, u "java/lang/Record")] 13

def k2c0 : Code := { maxStack := 1, maxLocals := 1, code := jdk_30_method_1_code, exceptionTable := #[], attributes := #[] }
def k2m0 : Method := { name := "<init>", desc := "()V", sig := { parameters := [], returnType := none }, accessFlags := 4, code := some k2c0 }
/-- java/lang/Record -/
def k2 : Class := { plain "java/lang/Record" (some 0) with
  accessFlags := 1057
  interfaces := #[]
  cf := some (fileOf pool2 7 #[] #[{ accessFlags := 4, nameIndex := 5, descriptorIndex := 6, attributes := #[] }] 1057 2 #[] #[])
  fields := #[]
  methods := #[k2m0]
  instanceTypes := #[]
  staticTypes := #[]
  resolved := Array.replicate 22 none
  statics := none }

def pool3 : Array CpInfo := pool [(1, .methodref 2 3), (0, .class_ 4), (0, .nameAndType 5 6), (0, u "java/lang/Record"), (0, u "<init>"), (0, u "()V"), (0, .class_ 8), (0, u "com/example/request_throttle/requestthrottle/Decision"), (0, .long 18446744073709551615), (4, u "allowed"), (9, .fieldref 7 25), (0, .nameAndType 26 27), (0, u "atMillis"), (0, u "J"), (0, .fieldref 7 29), (0, .nameAndType 14 30), (0, u "Z"), (0, .fieldref 7 32), (0, .nameAndType 33 27), (0, u "waitMillis"), (0, .fieldref 7 35), (0, .nameAndType 36 27), (0, u "retryAfterMillis"), (0, .methodref 7 38), (0, .nameAndType 5 39), (0, u "(JZJJ)V"), (12, u "NEVER"), (7, u "allow"), (0, u "(JJ)Lcom/example/request_throttle/requestthrottle/Decision;"), (4, u "()J"), (0, u "()Z")] 31

def k3c0 : Code := { maxStack := 9, maxLocals := 9, code := prog_5_method_1_code, exceptionTable := #[], attributes := #[] }
def k3m0 : Method := { name := "<init>", desc := "(JZJJ)V", sig := { parameters := [.long, .boolean, .long, .long], returnType := none }, accessFlags := 1, code := some k3c0 }
def k3c1 : Code := { maxStack := 9, maxLocals := 4, code := prog_5_method_2_code, exceptionTable := #[], attributes := #[] }
def k3m1 : Method := { name := "allow", desc := "(JJ)Lcom/example/request_throttle/requestthrottle/Decision;", sig := { parameters := [.long, .long], returnType := some (.object "com/example/request_throttle/requestthrottle/Decision") }, accessFlags := 8, code := some k3c1 }
def k3c2 : Code := { maxStack := 2, maxLocals := 1, code := prog_5_method_7_code, exceptionTable := #[], attributes := #[] }
def k3m2 : Method := { name := "atMillis", desc := "()J", sig := { parameters := [], returnType := some .long }, accessFlags := 1, code := some k3c2 }
def k3c3 : Code := { maxStack := 1, maxLocals := 1, code := prog_5_method_8_code, exceptionTable := #[], attributes := #[] }
def k3m3 : Method := { name := "allowed", desc := "()Z", sig := { parameters := [], returnType := some .boolean }, accessFlags := 1, code := some k3c3 }
def k3c4 : Code := { maxStack := 2, maxLocals := 1, code := prog_5_method_9_code, exceptionTable := #[], attributes := #[] }
def k3m4 : Method := { name := "waitMillis", desc := "()J", sig := { parameters := [], returnType := some .long }, accessFlags := 1, code := some k3c4 }
def k3c5 : Code := { maxStack := 2, maxLocals := 1, code := prog_5_method_10_code, exceptionTable := #[], attributes := #[] }
def k3m5 : Method := { name := "retryAfterMillis", desc := "()J", sig := { parameters := [], returnType := some .long }, accessFlags := 1, code := some k3c5 }
/-- com/example/request_throttle/requestthrottle/Decision -/
def k3 : Class := { plain "com/example/request_throttle/requestthrottle/Decision" (some 2) with
  accessFlags := 49
  interfaces := #[]
  cf := some (fileOf pool3 7 #[] #[{ accessFlags := 1, nameIndex := 5, descriptorIndex := 39, attributes := #[] }, { accessFlags := 8, nameIndex := 60, descriptorIndex := 61, attributes := #[] }, { accessFlags := 1, nameIndex := 26, descriptorIndex := 66, attributes := #[] }, { accessFlags := 1, nameIndex := 14, descriptorIndex := 67, attributes := #[] }, { accessFlags := 1, nameIndex := 33, descriptorIndex := 66, attributes := #[] }, { accessFlags := 1, nameIndex := 36, descriptorIndex := 66, attributes := #[] }] 49 2 #[] #[{ accessFlags := 18, nameIndex := 26, descriptorIndex := 27, attributes := #[] }, { accessFlags := 18, nameIndex := 14, descriptorIndex := 30, attributes := #[] }, { accessFlags := 18, nameIndex := 33, descriptorIndex := 27, attributes := #[] }, { accessFlags := 18, nameIndex := 36, descriptorIndex := 27, attributes := #[] }, { accessFlags := 25, nameIndex := 52, descriptorIndex := 27, attributes := #[] }])
  fields := #[{ name := "atMillis", type := .long, accessFlags := 18, slot := 0, constantValue := 0 }, { name := "allowed", type := .boolean, accessFlags := 18, slot := 1, constantValue := 0 }, { name := "waitMillis", type := .long, accessFlags := 18, slot := 2, constantValue := 0 }, { name := "retryAfterMillis", type := .long, accessFlags := 18, slot := 3, constantValue := 0 }, { name := "NEVER", type := .long, accessFlags := 25, slot := 0, constantValue := 0 }]
  methods := #[k3m0, k3m1, k3m2, k3m3, k3m4, k3m5]
  instanceTypes := #[.long, .boolean, .long, .long]
  staticTypes := #[.long]
  resolved := Array.replicate 99 none
  statics := none }

def pool4 : Array CpInfo := pool [(1, u "java/lang/Cloneable"), (0, .class_ 1), (0, u "java/lang/Object"), (0, .class_ 3)] 3

/-- java/lang/Cloneable -/
def k4 : Class := { plain "java/lang/Cloneable" (some 0) with
  accessFlags := 1537
  interfaces := #[]
  cf := some (fileOf pool4 2 #[] #[] 1537 4 #[] #[])
  fields := #[]
  methods := #[]
  instanceTypes := #[]
  staticTypes := #[]
  resolved := Array.replicate 8 none
  statics := none }

def pool5 : Array CpInfo := pool [(1, u "java/io/Serializable"), (0, .class_ 1), (0, u "java/lang/Object"), (0, .class_ 3)] 3

/-- java/io/Serializable -/
def k5 : Class := { plain "java/io/Serializable" (some 0) with
  accessFlags := 1537
  interfaces := #[]
  cf := some (fileOf pool5 2 #[] #[] 1537 4 #[] #[])
  fields := #[]
  methods := #[]
  instanceTypes := #[]
  staticTypes := #[]
  resolved := Array.replicate 8 none
  statics := none }

/-- the primitive byte -/
def k6 : Class := { plain "byte" none with kind := .primitive 'B', accessFlags := 0x411 }
/-- [B -/
def k7 : Class := { plain "[B" (some 0) with kind := .array 6 .byte, interfaces := #[4, 5], accessFlags := 1041 }

/-- the primitive int -/
def k8 : Class := { plain "int" none with kind := .primitive 'I', accessFlags := 0x411 }
/-- [I -/
def k9 : Class := { plain "[I" (some 0) with kind := .array 8 .int, interfaces := #[4, 5], accessFlags := 1041 }

def heap : Heap := #[]
def classes : Array Class := #[k0, k1, k2, k3, k4, k5, k6, k7, k8, k9]
def interned : List (Array UInt16 × Addr) := []
def slotsUsed : Nat := 0
def theMethod : MethodId := ⟨1, 1⟩
def args0 : Array Value := #[.long 7, .long 9]
def aboutOver (below : List Frame) : State where
  vm := { classes := classes, interned := interned.toArray }
  heap := heap
  slotsUsed := slotsUsed
  threads := #[{ frames := .invoking theMethod args0 :: below }]
def below0 : List Frame := [.native { method := ⟨0, 0⟩, args := #[] }]
def about1 : State := aboutOver below0
def p0 : Program := .bare "" "" ""
def e0 : Env := launch0.env 0 0 0
theorem w_frames : about1.frames = Frame.invoking theMethod args0 :: below0 := rfl
set_option maxRecDepth 65536 in
theorem w_args : argsFit about1.vm theMethod args0 = true := by decide +kernel
set_option maxRecDepth 65536 in
theorem w_heap : heapFits about1 = true := by decide +kernel
set_option maxRecDepth 65536 in
theorem w_runnable : about1.curStatus? = some .runnable := by decide +kernel
set_option maxRecDepth 65536 in
theorem w_alone : about1.alone = true := by decide +kernel
set_option maxRecDepth 65536 in
theorem w_named : about1.methodNamed? x = some theMethod := by decide +kernel
set_option maxRecDepth 65536 in
theorem w_hears : about1.hears theMethod below0 = true := by decide +kernel
set_option maxRecDepth 65536 in
theorem w_ripe : about1.ripe theMethod args0 below0 = true := by decide +kernel
theorem w_running : about1.status = .running := rfl
set_option maxRecDepth 65536 in
theorem w_room : about1.hasRoom e0.platform room_1 = true :=
  launch0.hasRoom_least _ room_1 (by decide +kernel) (by decide +kernel) (by decide +kernel) (by decide +kernel) (by decide +kernel) (by decide +kernel)
theorem allAtoms_all (ts : List Jvm.Cond) (a : Array Jvm.Value) (st : Jvm.State) : (allAtoms ts).before a st = ts.all (fun c => c.before a st) := by
  induction ts with
  | nil => rfl
  | cons c t ih =>
    show (Jvm.Cond.and c (allAtoms t)).before a st = _
    rw [Jvm.Cond.before_and, ih, List.all_cons]
def words1 : List Jvm.Cond := Jvm.Cond.code x code maxLocals ret :: tables_1
/-- a 'code' word, met by the world's own term for the bytes: nothing is compared byte by byte -/
theorem code_word {y : MethodName} {bytes : ByteArray} {mx : Nat} {rt : Option FieldType} {a : Array Value} {s : State} {m : MethodId} {meth : Method} {c : Code} (h1 : s.methodNamed? y = some m) (h2 : s.vm.method? m = some meth) (h3 : meth.code = some c) (h4 : c.code = bytes)
    (h5 : (c.maxLocals == mx && c.exceptionTable.isEmpty && decide (c.maxStack ≤ mostOperands) && decide (meth.sig.returnType = rt) && !meth.locks && decide (parseMethodDescriptor y.desc = some meth.sig)) = true) : (Jvm.Cond.code y bytes mx rt).before a s = true := by
  simp only [Bool.and_eq_true, beq_iff_eq, Bool.not_eq_true', decide_eq_true_eq] at h5
  obtain ⟨⟨⟨⟨⟨g1, g2⟩, g3⟩, g4⟩, g5⟩, g6⟩ := h5
  simp [Cond.before, Cond.holds, Cond.value, h1, h2, h3, h4, g1, g2, g3, g4, g5, g6]
def isCode : Jvm.Cond → Bool
  | .code _ _ _ _ => true
  | _ => false
theorem all_split {L : List Jvm.Cond} {P : Jvm.Cond → Bool} (h1 : L.all (fun c => isCode c || P c) = true) (h2 : ∀ c ∈ L.filter isCode, P c = true) : L.all P = true := by
  refine List.all_eq_true.mpr fun c hc => ?_
  have h := List.all_eq_true.mp h1 c hc
  rcases Bool.eq_false_or_eq_true (isCode c) with hi | hi
  · exact h2 c (List.mem_filter.mpr ⟨hc, hi⟩)
  · simpa [hi] using h
set_option maxRecDepth 65536 in
theorem w_c0 : (Jvm.Cond.code x code maxLocals ret).before args0 about1 = true := code_word (m := ⟨1, 1⟩) (meth := k1m1) (c := k1c1) (by decide +kernel) rfl rfl rfl (by decide +kernel)
set_option maxRecDepth 65536 in
theorem w_c1 : (Jvm.Cond.code ({ cls := "com/example/request_throttle/requestthrottle/Decision", name := "allow", desc := "(JJ)Lcom/example/request_throttle/requestthrottle/Decision;" } : Jvm.MethodName) prog_5_method_2_code (4 : Nat) (Option.some (Jvm.ClassFile.FieldType.object "com/example/request_throttle/requestthrottle/Decision"))).before args0 about1 = true := code_word (m := ⟨3, 1⟩) (meth := k3m1) (c := k3c1) (by decide +kernel) rfl rfl rfl (by decide +kernel)
set_option maxRecDepth 65536 in
theorem w_c2 : (Jvm.Cond.code ({ cls := "com/example/request_throttle/requestthrottle/Decision", name := "<init>", desc := "(JZJJ)V" } : Jvm.MethodName) prog_5_method_1_code (9 : Nat) (Option.none : Option Jvm.ClassFile.FieldType)).before args0 about1 = true := code_word (m := ⟨3, 0⟩) (meth := k3m0) (c := k3c0) (by decide +kernel) rfl rfl rfl (by decide +kernel)
set_option maxRecDepth 65536 in
theorem w_c3 : (Jvm.Cond.code ({ cls := "java/lang/Record", name := "<init>", desc := "()V" } : Jvm.MethodName) jdk_30_method_1_code (1 : Nat) (Option.none : Option Jvm.ClassFile.FieldType)).before args0 about1 = true := code_word (m := ⟨2, 0⟩) (meth := k2m0) (c := k2c0) (by decide +kernel) rfl rfl rfl (by decide +kernel)
set_option maxRecDepth 65536 in
theorem w_c4 : (Jvm.Cond.code ({ cls := "java/lang/Object", name := "<init>", desc := "()V" } : Jvm.MethodName) object_method_1_code (1 : Nat) (Option.none : Option Jvm.ClassFile.FieldType)).before args0 about1 = true := code_word (m := ⟨0, 0⟩) (meth := k0m0) (c := k0c0) (by decide +kernel) rfl rfl rfl (by decide +kernel)
set_option maxRecDepth 65536 in
theorem w_c5 : (Jvm.Cond.code ({ cls := "com/example/request_throttle/requestthrottle/Decision", name := "atMillis", desc := "()J" } : Jvm.MethodName) prog_5_method_7_code (1 : Nat) (Option.some Jvm.ClassFile.FieldType.long)).before args0 about1 = true := code_word (m := ⟨3, 2⟩) (meth := k3m2) (c := k3c2) (by decide +kernel) rfl rfl rfl (by decide +kernel)
set_option maxRecDepth 65536 in
theorem w_c6 : (Jvm.Cond.code ({ cls := "com/example/request_throttle/requestthrottle/Decision", name := "allowed", desc := "()Z" } : Jvm.MethodName) prog_5_method_8_code (1 : Nat) (Option.some Jvm.ClassFile.FieldType.boolean)).before args0 about1 = true := code_word (m := ⟨3, 3⟩) (meth := k3m3) (c := k3c3) (by decide +kernel) rfl rfl rfl (by decide +kernel)
set_option maxRecDepth 65536 in
theorem w_c7 : (Jvm.Cond.code ({ cls := "com/example/request_throttle/requestthrottle/Decision", name := "waitMillis", desc := "()J" } : Jvm.MethodName) prog_5_method_9_code (1 : Nat) (Option.some Jvm.ClassFile.FieldType.long)).before args0 about1 = true := code_word (m := ⟨3, 4⟩) (meth := k3m4) (c := k3c4) (by decide +kernel) rfl rfl rfl (by decide +kernel)
set_option maxRecDepth 65536 in
theorem w_c8 : (Jvm.Cond.code ({ cls := "com/example/request_throttle/requestthrottle/Decision", name := "retryAfterMillis", desc := "()J" } : Jvm.MethodName) prog_5_method_10_code (1 : Nat) (Option.some Jvm.ClassFile.FieldType.long)).before args0 about1 = true := code_word (m := ⟨3, 5⟩) (meth := k3m5) (c := k3c5) (by decide +kernel) rfl rfl rfl (by decide +kernel)
def codes1 : List Jvm.Cond := [Jvm.Cond.code x code maxLocals ret, Jvm.Cond.code ({ cls := "com/example/request_throttle/requestthrottle/Decision", name := "allow", desc := "(JJ)Lcom/example/request_throttle/requestthrottle/Decision;" } : Jvm.MethodName) prog_5_method_2_code (4 : Nat) (Option.some (Jvm.ClassFile.FieldType.object "com/example/request_throttle/requestthrottle/Decision")), Jvm.Cond.code ({ cls := "com/example/request_throttle/requestthrottle/Decision", name := "<init>", desc := "(JZJJ)V" } : Jvm.MethodName) prog_5_method_1_code (9 : Nat) (Option.none : Option Jvm.ClassFile.FieldType), Jvm.Cond.code ({ cls := "java/lang/Record", name := "<init>", desc := "()V" } : Jvm.MethodName) jdk_30_method_1_code (1 : Nat) (Option.none : Option Jvm.ClassFile.FieldType), Jvm.Cond.code ({ cls := "java/lang/Object", name := "<init>", desc := "()V" } : Jvm.MethodName) object_method_1_code (1 : Nat) (Option.none : Option Jvm.ClassFile.FieldType), Jvm.Cond.code ({ cls := "com/example/request_throttle/requestthrottle/Decision", name := "atMillis", desc := "()J" } : Jvm.MethodName) prog_5_method_7_code (1 : Nat) (Option.some Jvm.ClassFile.FieldType.long), Jvm.Cond.code ({ cls := "com/example/request_throttle/requestthrottle/Decision", name := "allowed", desc := "()Z" } : Jvm.MethodName) prog_5_method_8_code (1 : Nat) (Option.some Jvm.ClassFile.FieldType.boolean), Jvm.Cond.code ({ cls := "com/example/request_throttle/requestthrottle/Decision", name := "waitMillis", desc := "()J" } : Jvm.MethodName) prog_5_method_9_code (1 : Nat) (Option.some Jvm.ClassFile.FieldType.long), Jvm.Cond.code ({ cls := "com/example/request_throttle/requestthrottle/Decision", name := "retryAfterMillis", desc := "()J" } : Jvm.MethodName) prog_5_method_10_code (1 : Nat) (Option.some Jvm.ClassFile.FieldType.long)]
set_option maxRecDepth 65536 in
theorem codes_eq : words1.filter isCode = codes1 := rfl
theorem w_codes : ∀ c ∈ words1.filter isCode, c.before args0 about1 = true := by
  rw [codes_eq]
  intro c hc
  simp only [codes1, List.mem_cons, List.not_mem_nil, or_false] at hc
  rcases hc with rfl | rfl | rfl | rfl | rfl | rfl | rfl | rfl | rfl
  · exact w_c0
  · exact w_c1
  · exact w_c2
  · exact w_c3
  · exact w_c4
  · exact w_c5
  · exact w_c6
  · exact w_c7
  · exact w_c8
set_option maxRecDepth 65536 in
theorem w_t1 : (words1.take 24).all (fun c => isCode c || c.before args0 about1) = true := by decide +kernel
set_option maxRecDepth 65536 in
theorem w_t2 : (words1.drop 24).all (fun c => isCode c || c.before args0 about1) = true := by decide +kernel
theorem w_tables : (allAtoms (Jvm.Cond.code x code maxLocals ret :: tables_1)).before args0 about1 = true := by
  rw [allAtoms_all]
  show words1.all (fun c => c.before args0 about1) = true
  refine all_split ?_ w_codes
  rw [← List.take_append_drop 24 words1, List.all_append, w_t1, w_t2]
  rfl
set_option maxRecDepth 65536 in
theorem w_case : (Jvm.Cond.and given_1 narrow_1).before args0 about1 = true := by decide +kernel
theorem w_applies : (headSpec (Jvm.Cond.code x code maxLocals ret :: tables_1) room_1).applies x e0.platform about1 = true :=
  (Spec.applies_iff w_frames).mpr ⟨w_running, w_runnable, w_alone, w_named, w_hears, w_ripe, w_room, w_tables⟩
theorem atStart : AtStart classFile x code maxLocals ret World_1 tables_1 room_1 Calls_1 rest_1 Pre_1 launch0 p0 e0 about1 theMethod args0 below0 :=
  ⟨lists_1, trivial, launch0.admits_env _ _ _, launch0.least_env, fairChoices_fair.cas, fairChoices_fair.clock, w_frames, w_args, w_heap, w_applies, trivial, trivial, w_case⟩
end start1
theorem witness_1 : WitnessClaimed_1 := ⟨start1.p0, start1.e0, start1.about1, start1.theMethod, start1.args0, start1.below0, start1.atStart⟩
end Jvm.Pilot.@@N@@
