import JvmDerived
import JvmDerived.Pilot.@@N@@Statement
import JvmDerived.Pilot.@@N@@Code
set_option linter.unusedVariables false
set_option linter.unusedSimpArgs false
@@BLOCK:NumsL.lean.txt@@
namespace Jvm.Own
open Sem ClassFile Op Lib Jvm.Stand Jvm.Free Jvm.LawKit Jvm.RoadKit
section Kit
variable {p : Program} {l : Launch} {e : Env} {R : Room} {s : State} {m : MethodId} {args : Array Value} {below : List Frame} {meth : Method} {c : Code} {T : State} {locs : List Loc} {cells slots : Nat} {Z : State} {a0 : Array Value} {h : Heap}
/-- D is closed under going back over steps -/
def Clo (p : Program) (e : Env) (below : List Frame) (D : State → Prop) : Prop := ∀ (U U' : State), (∀ t, Steps p.tables e below U' t → Steps p.tables e below U t) → D U' → D U
/-- D holds wherever the body returns with what Q says -/
def Ret (p : Program) (l : Launch) (e : Env) (R : Room) (s : State) (m : MethodId) (args : Array Value) (below : List Frame) (meth : Method) (c : Code) (Q : Option Value → Heap → List Loc → Prop) (C N : Nat) (D : State → Prop) : Prop :=
  ∀ (T : State) (locs : List Loc) (cells slots : Nat) (v : Option Value) (U : State), Stand p l e R s m args below meth c T locs cells slots → (meth.sig.returnType = none → v = none) → cells ≤ C → slots ≤ N → Q v T.heap locs →
    (∀ fs, (∀ (f : JFrame) (acts : List Action), f.method = m → f.locked = none → f.entered = [] → (doReturn e (T.setTop f) acts v).1 = T.setFrames fs) → Steps p.tables e below U (T.setFrames fs)) → D U
theorem enter {y : MethodName} {code : ByteArray} {maxL : Nat} {ret : Option FieldType} {ws : List Cond} {rm : Room} {as' : Array Value} {h0 : Heap} {Q : Option Value → Heap → List Loc → Prop} {C N : Nat} (hpl : plainFor y = true)
    (body : ∀ (p : Program) (e : Env) (s : State) (m : MethodId) (below : List Frame) (meth : Method) (c : Code) (s₁ : State) (D : State → Prop),
      p.tables.exec = Jvm.exec → c.code = code → c.maxLocals = maxL → s.vm.findClass y.cls = some m.cls → meth.name = y.name → meth.sig.returnType = ret → Z.Warmed39 s.vm → Stand p l e rm s m as' below meth c s₁ [] 0 0 → s₁.heap = h0 →
      Clo p e below D → Ret p l e rm s m as' below meth c Q C N D → D (s₁.setTop (entryFrame m as' maxL))) :
    MetFree l y (head1 (Jvm.Cond.code y code maxL ret :: ws) rm) (fun a U => a = as' ∧ Z.Warmed39 U.vm ∧ U.heap = h0) (fun _ _ _ _ _ => True) (fun _ U o U' => ∃ v L, o = .returned v ∧ Q v U'.heap L ∧ FrameEnd U o U' L C N) := by
  refine MetFree.of_bodySF hpl hisR ?_
  intro p e s m args below meth c s₁ Bd hml hP hK
  obtain ⟨rfl, hZ, hh⟩ := hP
  have X0 : Stand p l e rm s m args below meth c s₁ [] 0 0 := Stand.of_body Bd
  refine body p e s m below meth c s₁ (fun U => ∃ s₂ o, Steps p.tables e below U s₂ ∧ s₂.status = .running ∧ Ended s₂ below o ∧ ∃ v L, o = .returned v ∧ Q v s₂.heap L ∧ FrameEnd s o s₂ L C N) Bd.exec Bd.bytes hml (findClass_of_methodNamed Bd.named) (name_of_methodNamed Bd.named Bd.method).1 Bd.returns hZ X0 (by rw [← hh, Bd.state]; rfl) ?_ ?_
  · rintro U U' k ⟨s₂, o, st, r⟩
    exact ⟨s₂, o, k _ st, r⟩
  · intro T locs cells slots v U X hv hc hn hQ k
    obtain ⟨fs, hr, hrun, hended, hW, hsame⟩ := X.leave (v := v) hv
    exact ⟨_, _, k fs hr, hrun, hended, v, locs, rfl, hQ, ⟨_, rfl⟩, hW, hsame.mono hc hn⟩
theorem mono {c' n' : Nat} (X : Stand p l e R s m args below meth c T locs cells slots) (hc : cells ≤ c') (hn : slots ≤ n') : Stand p l e R s m args below meth c T locs c' n' :=
  { X with same := X.same.weaken (fun _ hy _ => hy) hc hn }
theorem forget {k : Nat} (X : Stand p l e R s m args below meth c T locs cells slots) (N : Fr k locs) (hk : s.heap.size ≤ k) : Stand p l e R s m args below meth c T [] cells slots :=
  { X with same := X.same.weaken (fun y hy hlt => absurd hlt (Nat.not_lt.mpr (Nat.le_trans hk (N y hy)))) (Nat.le_refl _) (Nat.le_refl _) }
variable {Q : Option Value → Heap → List Loc → Prop} {C N : Nat} {D : State → Prop}
theorem retI (hR : Ret p l e R s m args below meth c Q C N D) (X : Stand p l e R s m args below meth c T locs cells slots) (hx : p.tables.exec = Jvm.exec) {pc : Nat} {Ls : Array Slot} {z : Int32} {rest : List Value} (hret : meth.sig.returnType = some .int) (hd : decode c.code pc = .ok (.ireturn, 1)) (hc : cells ≤ C) (hn : slots ≤ N) (hQ : Q (some (.int z)) T.heap locs) : D (T.setTop (mkF m pc Ls (.int z :: rest))) := by
  refine hR T locs cells slots (some (.int z)) _ X (fun h => by rw [hret] at h; cases h) hc hn hQ fun fs hl => ?_
  have hm' : T.vm.method? m = some meth := X.method'
  have hn : narrow .int (.int z) = .int z := rfl
  show Steps p.tables e below (T.setTop { method := m, pc := pc, locals := Ls, stack := _ :: rest, locked := none }) _
  jvm_step X.here [X.here.top, hx, hd, hm', hret, hn]
  first | (intro acts; rw [hl _ acts rfl rfl rfl]) | rw [hl _ _ rfl rfl rfl]
  exact Steps.refl _
theorem retN (hR : Ret p l e R s m args below meth c Q C N D) (X : Stand p l e R s m args below meth c T locs cells slots) (hx : p.tables.exec = Jvm.exec) {pc : Nat} {Ls : Array Slot} {z : Int32} {t : FieldType} {rest : List Value} (hret : meth.sig.returnType = some t) (ht : t = .boolean ∨ t = .byte ∨ t = .char ∨ t = .short) (hd : decode c.code pc = .ok (.ireturn, 1)) (hc : cells ≤ C) (hn : slots ≤ N) (hz : nar t z = z) (hQ : Q (some (.int z)) T.heap locs) : D (T.setTop (mkF m pc Ls (.int z :: rest))) := by
  refine hR T locs cells slots (some (.int z)) _ X (fun h => by rw [hret] at h; cases h) hc hn hQ fun fs hl => ?_
  exact Jvm.RoadKit.retN X hx hret ht hd (by rw [hz]; exact hl)
theorem retJ (hR : Ret p l e R s m args below meth c Q C N D) (X : Stand p l e R s m args below meth c T locs cells slots) (hx : p.tables.exec = Jvm.exec) {pc : Nat} {Ls : Array Slot} {z : Int64} (hret : meth.sig.returnType = some .long) (hd : decode c.code pc = .ok (.lreturn, 1)) (hc : cells ≤ C) (hn : slots ≤ N) (hQ : Q (some (.long z)) T.heap locs) : D (T.setTop (mkF m pc Ls [.long z])) :=
  hR T locs cells slots (some (.long z)) _ X (fun h => by rw [hret] at h; cases h) hc hn hQ fun fs hl => X.lreturnOut hx hret hd hl
theorem retA (hR : Ret p l e R s m args below meth c Q C N D) (X : Stand p l e R s m args below meth c T locs cells slots) (hx : p.tables.exec = Jvm.exec) {pc : Nat} {Ls : Array Slot} {w : Value} {t : FieldType} (hw : w.isRef = true) (hret : meth.sig.returnType = some t) (ht : t.isReference = true) (hd : decode c.code pc = .ok (.areturn, 1)) (hc : cells ≤ C) (hn : slots ≤ N) (hQ : Q (some w) T.heap locs) : D (T.setTop (mkF m pc Ls [w])) :=
  hR T locs cells slots (some w) _ X (fun h => by rw [hret] at h; cases h) hc hn hQ fun fs hl => X.areturnOut hx hw hret ht hd hl
theorem retV (hR : Ret p l e R s m args below meth c Q C N D) (X : Stand p l e R s m args below meth c T locs cells slots) (hx : p.tables.exec = Jvm.exec) {pc : Nat} {Ls : Array Slot} (hret : meth.sig.returnType = none) (hd : decode c.code pc = .ok (.return_, 1)) (hc : cells ≤ C) (hn : slots ≤ N) (hQ : Q none T.heap locs) : D (T.setTop (mkF m pc Ls [])) :=
  hR T locs cells slots none _ X (fun _ => rfl) hc hn hQ fun fs hl => X.returnOut hx hret hd hl
/-! calls -/
variable {y z : MethodName} {bytes : ByteArray} {maxL : Nat} {ret : Option FieldType} {rm : Room} {W : Nat} {Qc : Option Value → Heap → List Loc → Prop} {own Cn : String} {index : Nat} {g : JFrame} {argsL rest : List Value} {a : Addr}
theorem callS (X : Stand p l e R s m args below meth c T locs cells slots) (hx : p.tables.exec = Jvm.exec) (hZ : Z.Warmed39 s.vm) (hown : s.vm.findClass own = some m.cls)
    (w1 : (Cond.methodLink own index y).before a0 Z = true) (w2 : (Cond.static y).before a0 Z = true) (w3 : (Cond.initialized y.cls).before a0 Z = true) (w4 : (Cond.code y bytes maxL ret).before a0 Z = true)
    (hy : y.cls ≠ "java/lang/invoke/MethodHandle" ∧ y.cls ≠ "java/lang/invoke/VarHandle") (e0 : T.heap = h)
    (hM : MetFree l y (head1 [Cond.code y bytes maxL ret] rm) (fun a U => a = argsL.toArray ∧ Z.Warmed39 U.vm ∧ U.heap = h) (fun _ _ _ _ _ => True) (fun _ U o U' => ∃ v L, o = .returned v ∧ Qc v U'.heap L ∧ FrameEnd U o U' L rm.cells rm.slots))
    (hf : rm.frames + 1 ≤ R.frames) (hl : W + (maxL + 11) + rm.locals ≤ R.locals) (hcells : cells + rm.cells ≤ R.cells) (hslots : slots + rm.slots ≤ R.slots)
    (hg : g.method = m) (hsize : g.locals.size = c.maxLocals) (hlen : ∀ sig, parseMethodDescriptor y.desc = some sig → argsL.length = sig.parameters.length)
    (hstack : g.stack = argsL.reverse ++ rest) (hW : 2 * g.monitorRoom + (rest.map fun v => v.category).sum ≤ W) (hdg : decode c.code g.pc = .ok (.invokestatic index, 3)) :
    ∃ (T' : State) (v : Option Value) (L : List Loc), Stand p l e R s m args below meth c T' (locs ++ L) (cells + rm.cells) (slots + rm.slots) ∧ Qc v T'.heap L ∧
      ∀ t, Steps p.tables e below (T'.setTop { g with pc := g.pc + 3, stack := v.toList ++ rest }) t → Steps p.tables e below (T.setTop g) t := by
  obtain ⟨v, _, ⟨T', L', k', n'⟩, -, X', ⟨Lc, hQ, l1, y1, z1⟩, st⟩ := Jvm.LawKit.callS X hx (y := y) hown (mvT hZ w1) (mvT hZ w2) (mvT hZ w3) (mvT hZ w4) hy (backOf (W := W) hM hZ w4 w3 hf hl) hg hsize hlen hstack hW hdg (fun _ _ => ⟨rfl, e0, hcells, hslots⟩)
  dsimp only [Pt.U, Pt.locs, Pt.cells, Pt.slots] at X' l1 y1 z1 st hQ
  subst l1 y1 z1
  exact ⟨T', v, Lc, X', hQ, st⟩
theorem callI (X : Stand p l e R s m args below meth c T locs cells slots) (hx : p.tables.exec = Jvm.exec) (hZ : Z.Warmed39 s.vm) (hown : s.vm.findClass own = some m.cls) (hy1 : y.name = "<init>")
    (w1 : (Cond.methodLink own index y).before a0 Z = true) (w2 : (Cond.instanceMethod y).before a0 Z = true) (w3 : (Cond.initialized y.cls).before a0 Z = true) (w4 : (Cond.code y bytes maxL none).before a0 Z = true)
    (hy : y.cls ≠ "java/lang/invoke/MethodHandle" ∧ y.cls ≠ "java/lang/invoke/VarHandle") (e0 : T.heap = h)
    (hM : MetFree l y (head1 [Cond.code y bytes maxL none] rm) (fun q U => q = (.ref a :: argsL).toArray ∧ Z.Warmed39 U.vm ∧ U.heap = h) (fun _ _ _ _ _ => True) (fun _ U o U' => ∃ v L, o = .returned v ∧ Qc v U'.heap L ∧ FrameEnd U o U' L rm.cells rm.slots))
    (hf : rm.frames + 1 ≤ R.frames) (hl : W + (maxL + 11) + rm.locals ≤ R.locals) (hcells : cells + rm.cells ≤ R.cells) (hslots : slots + rm.slots ≤ R.slots)
    (hg : g.method = m) (hsize : g.locals.size = c.maxLocals) (hlen : ∀ sig, parseMethodDescriptor y.desc = some sig → argsL.length = sig.parameters.length)
    (hstack : g.stack = argsL.reverse ++ .ref a :: rest) (hW : 2 * g.monitorRoom + (rest.map fun v => v.category).sum ≤ W) (hdg : decode c.code g.pc = .ok (.invokespecial index, 3)) :
    ∃ (T' : State) (v : Option Value) (L : List Loc), Stand p l e R s m args below meth c T' (locs ++ L) (cells + rm.cells) (slots + rm.slots) ∧ Qc v T'.heap L ∧
      ∀ t, Steps p.tables e below (T'.setTop { g with pc := g.pc + 3, stack := v.toList ++ rest }) t → Steps p.tables e below (T.setTop g) t := by
  obtain ⟨v, _, ⟨T', L', k', n'⟩, -, X', ⟨Lc, hQ, l1, y1, z1⟩, st⟩ := X.specialBack hx (y := y) hy1 hown (mvT hZ w1) (mvT hZ w2) (mvT hZ w4) hy (backOf (W := W) hM hZ w4 w3 hf hl) hg hsize (Steps.refl _) hlen hstack hW hdg (fun _ _ => ⟨rfl, e0, hcells, hslots⟩)
  dsimp only [Pt.U, Pt.locs, Pt.cells, Pt.slots] at X' l1 y1 z1 st hQ
  subst l1 y1 z1
  exact ⟨T', v, Lc, X', hQ, fun t k => st.trans k⟩
theorem callV (X : Stand p l e R s m args below meth c T locs cells slots) (hx : p.tables.exec = Jvm.exec) (hZ : Z.Warmed39 s.vm) (hown : s.vm.findClass own = some m.cls)
    (w1 : (Cond.methodLink own index y).before a0 Z = true) (w5 : (Cond.declares y).before a0 Z = true) (w6 : (Cond.selects Cn y y).before a0 Z = true) (w2 : (Cond.instanceMethod y).before a0 Z = true) (w3 : (Cond.initialized y.cls).before a0 Z = true) (w4 : (Cond.code y bytes maxL ret).before a0 Z = true)
    (hy : y.cls ≠ "java/lang/invoke/MethodHandle" ∧ y.cls ≠ "java/lang/invoke/VarHandle") (e0 : T.heap = h) (E : Exa Z h a Cn)
    (hM : MetFree l y (head1 [Cond.code y bytes maxL ret] rm) (fun q U => q = (.ref a :: argsL).toArray ∧ Z.Warmed39 U.vm ∧ U.heap = h) (fun _ _ _ _ _ => True) (fun _ U o U' => ∃ v L, o = .returned v ∧ Qc v U'.heap L ∧ FrameEnd U o U' L rm.cells rm.slots))
    (hf : rm.frames + 1 ≤ R.frames) (hl : W + (maxL + 11) + rm.locals ≤ R.locals) (hcells : cells + rm.cells ≤ R.cells) (hslots : slots + rm.slots ≤ R.slots)
    (hg : g.method = m) (hsize : g.locals.size = c.maxLocals) (hlen : ∀ sig, parseMethodDescriptor y.desc = some sig → argsL.length = sig.parameters.length)
    (hstack : g.stack = argsL.reverse ++ .ref a :: rest) (hW : 2 * g.monitorRoom + (rest.map fun v => v.category).sum ≤ W) (hdg : decode c.code g.pc = .ok (.invokevirtual index, 3)) :
    ∃ (T' : State) (v : Option Value) (L : List Loc), Stand p l e R s m args below meth c T' (locs ++ L) (cells + rm.cells) (slots + rm.slots) ∧ Qc v T'.heap L ∧
      ∀ t, Steps p.tables e below (T'.setTop { g with pc := g.pc + 3, stack := v.toList ++ rest }) t → Steps p.tables e below (T.setTop g) t := by
  obtain ⟨cq, kq, q1, q2, q3⟩ := isOf hZ e0 E
  obtain ⟨v, _, ⟨T', L', k', n'⟩, -, X', ⟨Lc, hQ, l1, y1, z1⟩, st⟩ := X.virtualBack hx (y := y) (z := y) hown (mvT hZ w1) (mvT hZ w5) (notFace_of_selects (args := #[]) (mvT hZ w6)) (mvT hZ w6) (mvT hZ w2) hy (backOf (W := W) hM hZ w4 w3 hf hl) q1 q3 hg hsize (Steps.refl _) hlen hstack hW hdg (fun _ _ => ⟨rfl, e0, hcells, hslots⟩)
  dsimp only [Pt.U, Pt.locs, Pt.cells, Pt.slots] at X' l1 y1 z1 st hQ
  subst l1 y1 z1
  exact ⟨T', v, Lc, X', hQ, fun t k => st.trans k⟩
/-! arrays, as functions of the place -/
def AvI (Z : State) (h : Heap) (a : Addr) (ty : FieldType) (n : Nat) (f : Nat → Int32) : Prop := ∃ c : Cell, Arr Z h a c ty ∧ c.slots.size = n ∧ n < 2 ^ 31 ∧ ∀ i, i < n → c.slots[i]? = some (.int (f i))
def AvJ (Z : State) (h : Heap) (a : Addr) (n : Nat) (f : Nat → Int64) : Prop := ∃ c : Cell, Arr Z h a c .long ∧ c.slots.size = n ∧ n < 2 ^ 31 ∧ ∀ i, i < n → c.slots[i]? = some (.long (f i))
variable {h' : Heap} {ty : FieldType} {n : Nat} {f f' : Nat → Int32} {fj fj' : Nat → Int64} {j x : Int32} {xl : Int64} {b : Addr} {sl : Nat} {v : Value} {ws : List Addr}
theorem clamp (hj : 0 ≤ j.toInt ∧ j.toInt < n) : j.toNatClampNeg = j.toInt.toNat ∧ ¬ j < 0 := by
  refine ⟨rfl, ?_⟩
  rw [Int32.lt_iff_toInt_lt, Int32.toInt_zero]; omega
theorem inb {c : Cell} (S : c.slots.size = n) (hj : 0 ≤ j.toInt ∧ j.toInt < n) : ¬ (j < 0 ∨ c.slots.size ≤ j.toNatClampNeg) := by
  have q := clamp hj
  rw [q.1, S]
  intro w
  rcases w with w | w
  · exact q.2 w
  · omega
theorem AvI.lt (A : AvI Z h a ty n f) : a < h.size := by obtain ⟨c, A, -⟩ := A; exact A.lt
theorem AvJ.lt (A : AvJ Z h a n fj) : a < h.size := by obtain ⟨c, A, -⟩ := A; exact A.lt
theorem AvI.ext (A : AvI Z h a ty n f) (E : Ext h h') : AvI Z h' a ty n f := by obtain ⟨c, A, r⟩ := A; exact ⟨c, A.ext E, r⟩
theorem AvJ.ext (A : AvJ Z h a n fj) (E : Ext h h') : AvJ Z h' a n fj := by obtain ⟨c, A, r⟩ := A; exact ⟨c, A.ext E, r⟩
theorem AvI.other (A : AvI Z h b ty n f) (W : Wr h h' a sl v) (q : b ≠ a) : AvI Z h' b ty n f := by obtain ⟨c, A, r⟩ := A; exact ⟨c, A.other W q, r⟩
theorem AvJ.other (A : AvJ Z h b n fj) (W : Wr h h' a sl v) (q : b ≠ a) : AvJ Z h' b n fj := by obtain ⟨c, A, r⟩ := A; exact ⟨c, A.other W q, r⟩
theorem AvI.keep (A : AvI Z h a ty n f) (K : Keep h h' ws) (q : a ∉ ws) : AvI Z h' a ty n f := by obtain ⟨c, A, r⟩ := A; exact ⟨c, ⟨K.2.1 a c A.1 q, A.2⟩, r⟩
theorem AvJ.keep (A : AvJ Z h a n fj) (K : Keep h h' ws) (q : a ∉ ws) : AvJ Z h' a n fj := by obtain ⟨c, A, r⟩ := A; exact ⟨c, ⟨K.2.1 a c A.1 q, A.2⟩, r⟩
theorem AvI.congr (A : AvI Z h a ty n f) (q : ∀ i, i < n → f' i = f i) : AvI Z h a ty n f' := by obtain ⟨c, A, S, M, H⟩ := A; exact ⟨c, A, S, M, fun i hi => by rw [q i hi]; exact H i hi⟩
theorem AvJ.congr (A : AvJ Z h a n fj) (q : ∀ i, i < n → fj' i = fj i) : AvJ Z h a n fj' := by obtain ⟨c, A, S, M, H⟩ := A; exact ⟨c, A, S, M, fun i hi => by rw [q i hi]; exact H i hi⟩
theorem AvI.new {cA : ClassId} {z : Int32} (A : Arr Z h a (newA cA ty z) ty) (hz : z.toInt = n) (hd : defaultValue ty = .int 0) : AvI Z h a ty n (fun _ => 0) := by
  have q : z.toNatClampNeg = n := by show z.toInt.toNat = n; omega
  refine ⟨_, A, by rw [sz_new]; exact q, by have := z.toInt_lt; omega, fun i hi => ?_⟩
  simp [newA, q, hi, hd]
theorem AvJ.new {cA : ClassId} {z : Int32} (A : Arr Z h a (newA cA .long z) .long) (hz : z.toInt = n) : AvJ Z h a n (fun _ => 0) := by
  have q : z.toNatClampNeg = n := by show z.toInt.toNat = n; omega
  refine ⟨_, A, by rw [sz_new]; exact q, by have := z.toInt_lt; omega, fun i hi => ?_⟩
  simp [newA, q, hi, defaultValue]
theorem len_nat {c : Cell} (S : c.slots.size = n) (M : n < 2 ^ 31) : c.slots.size.toInt32 = Int32.ofNat n := by rw [S]
theorem lenI (X : Stand p l e R s m args below meth c T locs cells slots) (hx : p.tables.exec = Jvm.exec) (hZ : Z.Warmed39 s.vm) (e0 : T.heap = h) (A : AvI Z h a ty n f) (hg : g.method = m) (hs : g.stack = .ref a :: rest) (hd : decode c.code g.pc = .ok (.arraylength, 1)) :
    ∀ t, Steps p.tables e below (T.setTop { g with pc := g.pc + 1, stack := .int (Int32.ofNat n) :: rest }) t → Steps p.tables e below (T.setTop g) t := by
  obtain ⟨c, A, S, M, H⟩ := A
  intro t k
  refine X.arraylength hx (by rw [e0]; exact A.1) (State.isArrayOf_alike hZ.alike A.2.1) hg hs hd _ ?_
  rw [len_nat S M]; exact k
theorem lenJ (X : Stand p l e R s m args below meth c T locs cells slots) (hx : p.tables.exec = Jvm.exec) (hZ : Z.Warmed39 s.vm) (e0 : T.heap = h) (A : AvJ Z h a n fj) (hg : g.method = m) (hs : g.stack = .ref a :: rest) (hd : decode c.code g.pc = .ok (.arraylength, 1)) :
    ∀ t, Steps p.tables e below (T.setTop { g with pc := g.pc + 1, stack := .int (Int32.ofNat n) :: rest }) t → Steps p.tables e below (T.setTop g) t := by
  obtain ⟨c, A, S, M, H⟩ := A
  intro t k
  refine X.arraylength hx (by rw [e0]; exact A.1) (State.isArrayOf_alike hZ.alike A.2.1) hg hs hd _ ?_
  rw [len_nat S M]; exact k
theorem ldI (X : Stand p l e R s m args below meth c T locs cells slots) (hx : p.tables.exec = Jvm.exec) (hZ : Z.Warmed39 s.vm) (e0 : T.heap = h) (A : AvI Z h a .int n f) (hj : 0 ≤ j.toInt ∧ j.toInt < n) (hg : g.method = m) (hs : g.stack = .int j :: .ref a :: rest) (hd : decode c.code g.pc = .ok (.iaload, 1)) :
    ∀ t, Steps p.tables e below (T.setTop { g with pc := g.pc + 1, stack := .int (f j.toInt.toNat) :: rest }) t → Steps p.tables e below (T.setTop g) t := by
  obtain ⟨c, A, S, M, H⟩ := A
  exact fun t k => X.iaload hx (by rw [e0]; exact A.1) (State.isArrayOf_alike hZ.alike A.2.1) A.2.2 (inb S hj) (by rw [(clamp hj).1]; exact H _ (by omega)) hg hs hd _ k
theorem ldJ (X : Stand p l e R s m args below meth c T locs cells slots) (hx : p.tables.exec = Jvm.exec) (hZ : Z.Warmed39 s.vm) (e0 : T.heap = h) (A : AvJ Z h a n fj) (hj : 0 ≤ j.toInt ∧ j.toInt < n) (hg : g.method = m) (hs : g.stack = .int j :: .ref a :: rest) (hd : decode c.code g.pc = .ok (.laload, 1)) :
    ∀ t, Steps p.tables e below (T.setTop { g with pc := g.pc + 1, stack := .long (fj j.toInt.toNat) :: rest }) t → Steps p.tables e below (T.setTop g) t := by
  obtain ⟨c, A, S, M, H⟩ := A
  exact fun t k => X.laload hx (by rw [e0]; exact A.1) (State.isArrayOf_alike hZ.alike A.2.1) A.2.2 (inb S hj) (by rw [(clamp hj).1]; exact H _ (by omega)) hg hs hd _ k
theorem ldB (X : Stand p l e R s m args below meth c T locs cells slots) (hx : p.tables.exec = Jvm.exec) (hZ : Z.Warmed39 s.vm) (e0 : T.heap = h) (A : AvI Z h a .byte n f) (hj : 0 ≤ j.toInt ∧ j.toInt < n) (hg : g.method = m) (hs : g.stack = .int j :: .ref a :: rest) (hd : decode c.code g.pc = .ok (.baload, 1)) :
    ∀ t, Steps p.tables e below (T.setTop { g with pc := g.pc + 1, stack := .int (f j.toInt.toNat) :: rest }) t → Steps p.tables e below (T.setTop g) t := by
  obtain ⟨c, A, S, M, H⟩ := A
  exact fun t k => X.baloadBytes hx (by rw [e0]; exact A.1) (State.isArrayOf_alike hZ.alike A.2.1) A.2.2 (inb S hj) (by rw [(clamp hj).1]; exact H _ (by omega)) hg hs hd _ k
theorem AvI.set (A : AvI Z h a ty n f) (hj : 0 ≤ j.toInt ∧ j.toInt < n) (W : Wr h h' a j.toNatClampNeg (.int x)) : AvI Z h' a ty n (fun i => if i = j.toInt.toNat then x else f i) := by
  obtain ⟨c, A, S, M, H⟩ := A
  refine ⟨_, A.same W, by rw [sz_set]; exact S, M, fun i hi => ?_⟩
  rw [(clamp hj).1]
  by_cases q : i = j.toInt.toNat
  · subst q
    simp only [Cell.setSlot, if_true]
    show (c.slots.setIfInBounds j.toInt.toNat _)[j.toInt.toNat]? = _
    rw [Array.getElem?_setIfInBounds, if_pos rfl, if_pos (by rw [S]; exact hi)]
  · simp only [Cell.setSlot, q, if_false]
    rw [Array.getElem?_setIfInBounds_ne (Ne.symm q)]; exact H i hi
theorem AvJ.set (A : AvJ Z h a n fj) (hj : 0 ≤ j.toInt ∧ j.toInt < n) (W : Wr h h' a j.toNatClampNeg (.long xl)) : AvJ Z h' a n (fun i => if i = j.toInt.toNat then xl else fj i) := by
  obtain ⟨c, A, S, M, H⟩ := A
  refine ⟨_, A.same W, by rw [sz_set]; exact S, M, fun i hi => ?_⟩
  rw [(clamp hj).1]
  by_cases q : i = j.toInt.toNat
  · subst q
    simp only [Cell.setSlot, if_true]
    show (c.slots.setIfInBounds j.toInt.toNat _)[j.toInt.toNat]? = _
    rw [Array.getElem?_setIfInBounds, if_pos rfl, if_pos (by rw [S]; exact hi)]
  · simp only [Cell.setSlot, q, if_false]
    rw [Array.getElem?_setIfInBounds_ne (Ne.symm q)]; exact H i hi
theorem stoI (X : Stand p l e R s m args below meth c T locs cells slots) (hx : p.tables.exec = Jvm.exec) (hZ : Z.Warmed39 s.vm) (e0 : T.heap = h) (A : AvI Z h a .int n f) (hj : 0 ≤ j.toInt ∧ j.toInt < n) (hg : g.method = m) (hs : g.stack = .int x :: .int j :: .ref a :: rest) (hd : decode c.code g.pc = .ok (.iastore, 1)) :
    ∃ T' h', Stand p l e R s m args below meth c T' (locs ++ [⟨a, j.toNatClampNeg⟩]) cells slots ∧ T'.heap = h' ∧ AvI Z h' a .int n (fun i => if i = j.toInt.toNat then x else f i) ∧ Wr h h' a j.toNatClampNeg (.int x) ∧ ∀ t, Steps p.tables e below (T'.setTop { g with pc := g.pc + 1, stack := rest }) t → Steps p.tables e below (T.setTop g) t := by
  obtain ⟨c, A', S, M, H⟩ := id A
  obtain ⟨T', h', X', e', W, st⟩ := stI X hx hZ e0 A' (inb S hj) hg hs hd
  exact ⟨T', h', X', e', A.set hj W, W, st⟩
theorem stoJ (X : Stand p l e R s m args below meth c T locs cells slots) (hx : p.tables.exec = Jvm.exec) (hZ : Z.Warmed39 s.vm) (e0 : T.heap = h) (A : AvJ Z h a n fj) (hj : 0 ≤ j.toInt ∧ j.toInt < n) (hg : g.method = m) (hs : g.stack = .long xl :: .int j :: .ref a :: rest) (hd : decode c.code g.pc = .ok (.lastore, 1)) :
    ∃ T' h', Stand p l e R s m args below meth c T' (locs ++ [⟨a, j.toNatClampNeg⟩]) cells slots ∧ T'.heap = h' ∧ AvJ Z h' a n (fun i => if i = j.toInt.toNat then xl else fj i) ∧ Wr h h' a j.toNatClampNeg (.long xl) ∧ ∀ t, Steps p.tables e below (T'.setTop { g with pc := g.pc + 1, stack := rest }) t → Steps p.tables e below (T.setTop g) t := by
  obtain ⟨c, A', S, M, H⟩ := id A
  obtain ⟨T', h', X', e', W, st⟩ := stJ X hx hZ e0 A' (inb S hj) hg hs hd
  exact ⟨T', h', X', e', A.set hj W, W, st⟩
theorem stoB (X : Stand p l e R s m args below meth c T locs cells slots) (hx : p.tables.exec = Jvm.exec) (hZ : Z.Warmed39 s.vm) (e0 : T.heap = h) (A : AvI Z h a .byte n f) (hj : 0 ≤ j.toInt ∧ j.toInt < n) (hg : g.method = m) (hs : g.stack = .int x :: .int j :: .ref a :: rest) (hd : decode c.code g.pc = .ok (.bastore, 1)) :
    ∃ T' h', Stand p l e R s m args below meth c T' (locs ++ [⟨a, j.toNatClampNeg⟩]) cells slots ∧ T'.heap = h' ∧ AvI Z h' a .byte n (fun i => if i = j.toInt.toNat then nar .byte x else f i) ∧ Wr h h' a j.toNatClampNeg (.int (nar .byte x)) ∧ ∀ t, Steps p.tables e below (T'.setTop { g with pc := g.pc + 1, stack := rest }) t → Steps p.tables e below (T.setTop g) t := by
  obtain ⟨c, A', S, M, H⟩ := id A
  obtain ⟨T', h', X', e', W, st⟩ := stB X hx hZ e0 A' (inb S hj) hg hs hd
  exact ⟨T', h', X', e', A.set hj W, W, st⟩
theorem stoZ (X : Stand p l e R s m args below meth c T locs cells slots) (hx : p.tables.exec = Jvm.exec) (hZ : Z.Warmed39 s.vm) (e0 : T.heap = h) (A : AvI Z h a .boolean n f) (hj : 0 ≤ j.toInt ∧ j.toInt < n) (hg : g.method = m) (hs : g.stack = .int x :: .int j :: .ref a :: rest) (hd : decode c.code g.pc = .ok (.bastore, 1)) :
    ∃ T' h', Stand p l e R s m args below meth c T' (locs ++ [⟨a, j.toNatClampNeg⟩]) cells slots ∧ T'.heap = h' ∧ AvI Z h' a .boolean n (fun i => if i = j.toInt.toNat then nar .boolean x else f i) ∧ Wr h h' a j.toNatClampNeg (.int (nar .boolean x)) ∧ ∀ t, Steps p.tables e below (T'.setTop { g with pc := g.pc + 1, stack := rest }) t → Steps p.tables e below (T.setTop g) t := by
  obtain ⟨c, A', S, M, H⟩ := id A
  obtain ⟨T', h', X', e', W, st⟩ := stZ X hx hZ e0 A' (inb S hj) hg hs hd
  exact ⟨T', h', X', e', A.set hj W, W, st⟩
theorem snoc {k : Nat} (N : Fr k locs) (q : k ≤ a) : Fr k (locs ++ [⟨a, sl⟩]) := N.app fun y hy => by cases List.mem_singleton.mp hy; exact q
theorem nmI {v x : Int32} {pc : Nat} {ls : Array Slot} {st : List Value} {t : State} (q : v = x) (k : Steps p.tables e below (T.setTop (mkF m pc ls (.int v :: st))) t) : Steps p.tables e below (T.setTop (mkF m pc ls (.int x :: st))) t := by subst q; exact k
theorem nmJ {v x : Int64} {pc : Nat} {ls : Array Slot} {st : List Value} {t : State} (q : v = x) (k : Steps p.tables e below (T.setTop (mkF m pc ls (.long v :: st))) t) : Steps p.tables e below (T.setTop (mkF m pc ls (.long x :: st))) t := by subst q; exact k
theorem ne_of {x y : Nat} (q : @Ne Nat x y) : @Ne Addr x y := q
theorem ldZ (X : Stand p l e R s m args below meth c T locs cells slots) (hx : p.tables.exec = Jvm.exec) (hZ : Z.Warmed39 s.vm) (e0 : T.heap = h) (A : AvI Z h a .boolean n f) (hj : 0 ≤ j.toInt ∧ j.toInt < n) (hg : g.method = m) (hs : g.stack = .int j :: .ref a :: rest) (hd : decode c.code g.pc = .ok (.baload, 1)) :
    ∀ t, Steps p.tables e below (T.setTop { g with pc := g.pc + 1, stack := .int (f j.toInt.toNat) :: rest }) t → Steps p.tables e below (T.setTop g) t := by
  obtain ⟨c, A, S, M, H⟩ := A
  exact fun t k => X.baloadBooleans hx (by rw [e0]; exact A.1) (State.isArrayOf_alike hZ.alike A.2.1) A.2.2 (inb S hj) (by rw [(clamp hj).1]; exact H _ (by omega)) hg hs hd _ k
theorem lrem_eq (x y : Int64) : x - x / y * y = x % y := by
  apply Int64.toInt_inj.mp
  have hy := Int64.toInt_mod x y
  have q := Int64.toInt_div x y
  rw [hy, Int64.toInt_sub, Int64.toInt_mul, q]
  have h1 := Int.tmod_add_mul_tdiv x.toInt y.toInt
  have h2 : x.toInt.tmod y.toInt = x.toInt - x.toInt.tdiv y.toInt * y.toInt := by rw [Int.mul_comm]; omega
  have h3 := rng64 x
  have h4 := rng64 y
  have h5 : (x.toInt.tmod y.toInt) % (2 ^ 64) = (x.toInt - x.toInt.tdiv y.toInt * y.toInt) % (2 ^ 64) := by rw [h2]
  have h6 : -2 ^ 63 ≤ x.toInt.tmod y.toInt ∧ x.toInt.tmod y.toInt < 2 ^ 63 := by rw [← hy]; exact ⟨(x % y).le_toInt, (x % y).toInt_lt⟩
  rw [← Int.bmod_eq_of_le (n := x.toInt.tmod y.toInt) (m := 2 ^ 64) (by omega) (by omega), h2]
  simp only [Int.bmod_sub_bmod, Int.sub_bmod_bmod, Int.bmod_mul_bmod, Int.mul_bmod_bmod]
theorem lremM {t : State} (X : Stand p l e R s m args below meth c T locs cells slots) (hx : p.tables.exec = Jvm.exec) (hg : g.method = m) {x y : Int64} (hd : decode c.code g.pc = .ok (.lrem, 1)) (hs : g.stack = .long y :: .long x :: rest) (hy : y ≠ 0)
    (hr : Steps p.tables e below (T.setTop { g with pc := g.pc + 1, stack := .long (x % y) :: rest }) t) : Steps p.tables e below (T.setTop g) t :=
  XS.lrem X.here hx hg hd hs hy (by rw [lrem_eq]; exact hr)
/-- a boolean as an int -/
def b2i (b : Bool) : Int32 := if b then 1 else 0
theorem b2i_t : b2i true = 1 := rfl
theorem b2i_f : b2i false = 0 := rfl
theorem b2i_nar (b : Bool) : nar .boolean (b2i b) = b2i b := by cases b <;> decide
theorem b2i_eq0 {b : Bool} : b2i b = 0 ↔ ¬ b = true := by cases b <;> decide
theorem b2i_inj {b b' : Bool} : b2i b = b2i b' ↔ b = b' := by cases b <;> cases b' <;> decide
end Kit
end Jvm.Own
namespace Jvm.Pilot.@@N@@
open Jvm Jvm.ClassFile Sem Op Lib Jvm.Free Jvm.Stand Jvm.LawKit Jvm.RoadKit Bundle Jvm.Pilot.@@N@@.Jvm.D
def own_child (e a n : Int32) : Bool := decide (¬ e < 1 ∧ e < n ∧ (e - 1) / 2 = a)
theorem own_eq {a b : Int32} : a = b ↔ a.toInt = b.toInt := Int32.toInt_inj.symm
theorem own_lt {a b : Int32} : a < b ↔ a.toInt < b.toInt := Int32.lt_iff_toInt_lt
theorem own_ltJ {a b : Int64} : a < b ↔ a.toInt < b.toInt := Int64.lt_iff_toInt_lt
theorem own_mask {v x : Int32} (h : v = x &&& 2147483647) : 0 ≤ v.toInt ∧ v.toInt < 2147483648 := by
  rw [h, Jvm.Kit.i32_mask x 2147483647 (k := 31) (by decide) (by decide)]; omega
theorem own_npos {v x : Int32} (h : v = x &&& 2147483647) (hc : ¬ v = 0) : 0 < v.toInt := by
  have h0 := own_mask h
  have h1 : v.toInt ≠ 0 := fun q => hc (own_eq.mpr (by rw [q]; rfl))
  omega
theorem own_nz {n : Int32} (hn : 0 < n.toInt) : n ≠ 0 := fun q => by rw [q] at hn; exact absurd hn (by decide)
theorem own_a1 {a q n : Int32} (hn : 0 < n.toInt) (h : a = (q &&& 2147483647) % n) : 0 ≤ a.toInt ∧ a.toInt < n.toInt := by
  have hm := own_mask (v := q &&& 2147483647) rfl
  rw [h, Jvm.Kit.i32_rem_nonneg hm.1]
  exact ⟨Int.emod_nonneg _ (by omega), Int.emod_lt_of_pos _ hn⟩
theorem own_a2 {a q n : Int32} (hn : 0 < n.toInt) (h : a = (n - 1 - (q &&& 1)) / 2) : 0 ≤ a.toInt ∧ a.toInt < n.toInt := by
  have e1 : (q &&& 1).toInt = q.toInt % 2 := Jvm.Kit.i32_mask q 1 (k := 1) (by decide) (by decide)
  have rn := rng32 n
  have k1 : (1 : Int32).toInt = 1 := by decide
  have k2 : (2 : Int32).toInt = 2 := by decide
  have e2 : (n - 1).toInt = n.toInt - 1 := by rw [Jvm.Kit.i32_sub, k1] <;> (try rw [k1]) <;> omega
  have e3 : (n - 1 - (q &&& 1)).toInt = n.toInt - 1 - q.toInt % 2 := by rw [Jvm.Kit.i32_sub, e2, e1] <;> (try rw [e2, e1]) <;> omega
  rw [h, Jvm.Kit.i32_div (by rw [k2]; omega), e3, k2]
  by_cases p : 0 ≤ n.toInt - 1 - q.toInt % 2
  · rw [Int.tdiv_eq_ediv_of_nonneg p]; omega
  · have : n.toInt - 1 - q.toInt % 2 = -1 := by omega
    rw [this]; exact ⟨by decide, by have : (-1 : Int).tdiv 2 = 0 := by decide
                                    omega⟩
theorem own_c1 {a n : Int32} (ha : 0 ≤ a.toInt ∧ a.toInt < n.toInt) : (2 * a.toInt64 + 1 : Int64).toInt = 2 * a.toInt + 1 := by
  have rn := rng32 n
  have k1 : (1 : Int64).toInt = 1 := by decide
  have k2 : (2 : Int64).toInt = 2 := by decide
  have e : (2 * a.toInt64 : Int64).toInt = 2 * a.toInt := by rw [Jvm.Kit.i64_mul] <;> (try rw [k2, Jvm.Kit.i64_of_i32]) <;> omega
  rw [Jvm.Kit.i64_add, e, k1] <;> (try rw [e, k1]) <;> omega
theorem own_c2 {a n : Int32} (ha : 0 ≤ a.toInt ∧ a.toInt < n.toInt) : (2 * a.toInt64 + 2 : Int64) = 2 * a.toInt64 + 1 + 1 := by
  rw [Int64.add_assoc]; rfl
theorem own_e0 {a n e : Int32} (ha : 0 ≤ a.toInt ∧ a.toInt < n.toInt) (h : (2 * a.toInt64 + 1 : Int64) < n.toInt64) (he : e = (2 * a.toInt64 + 1 : Int64).toInt32) : e.toInt = 2 * a.toInt + 1 ∧ own_child e a n = true := by
  have rn := rng32 n
  have k1 : (1 : Int32).toInt = 1 := by decide
  have k2 : (2 : Int32).toInt = 2 := by decide
  rw [own_ltJ, own_c1 ha, Jvm.Kit.i64_of_i32] at h
  have e1 : e.toInt = 2 * a.toInt + 1 := by rw [he, Jvm.Kit.i32_of_i64, own_c1 ha] <;> (try rw [own_c1 ha]) <;> omega
  refine ⟨e1, ?_⟩
  have e2 : (e - 1).toInt = 2 * a.toInt := by rw [Jvm.Kit.i32_sub, k1, e1] <;> (try rw [k1]) <;> omega
  have e3 : ((e - 1) / 2).toInt = a.toInt := by rw [Jvm.Kit.i32_div (by rw [k2]; omega), e2, k2, Int.tdiv_eq_ediv_of_nonneg (by omega)]; omega
  simp only [own_child, decide_eq_true_eq]
  rw [own_lt, own_lt, own_eq, e3, k1]; omega
theorem own_e1 {a n e : Int32} (ha : 0 ≤ a.toInt ∧ a.toInt < n.toInt) (h : (2 * a.toInt64 + 1 + 1 : Int64) < n.toInt64) (he : e = (2 * a.toInt64 + 1 : Int64).toInt32 + 1) : e.toInt = 2 * a.toInt + 2 ∧ own_child e a n = true := by
  have rn := rng32 n
  have k1 : (1 : Int32).toInt = 1 := by decide
  have k2 : (2 : Int32).toInt = 2 := by decide
  have k1' : (1 : Int64).toInt = 1 := by decide
  have q : (2 * a.toInt64 + 1 + 1 : Int64).toInt = 2 * a.toInt + 2 := by rw [Jvm.Kit.i64_add, own_c1 ha, k1'] <;> (try rw [own_c1 ha, k1']) <;> omega
  rw [own_ltJ, q, Jvm.Kit.i64_of_i32] at h
  have e0 : ((2 * a.toInt64 + 1 : Int64).toInt32).toInt = 2 * a.toInt + 1 := by rw [Jvm.Kit.i32_of_i64, own_c1 ha] <;> (try rw [own_c1 ha]) <;> omega
  have e1 : e.toInt = 2 * a.toInt + 2 := by rw [he, Jvm.Kit.i32_add, e0, k1] <;> (try rw [e0, k1]) <;> omega
  refine ⟨e1, ?_⟩
  have e2 : (e - 1).toInt = 2 * a.toInt + 1 := by rw [Jvm.Kit.i32_sub, k1, e1] <;> (try rw [k1]) <;> omega
  have e3 : ((e - 1) / 2).toInt = a.toInt := by rw [Jvm.Kit.i32_div (by rw [k2]; omega), e2, k2, Int.tdiv_eq_ediv_of_nonneg (by omega)]; omega
  simp only [own_child, decide_eq_true_eq]
  rw [own_lt, own_lt, own_eq, e3, k1]; omega
theorem d1_0 : decode prog_28_method_1_code 0 = .ok (.aload_n 0, 1) := by decide +kernel
theorem d1_1 : decode prog_28_method_1_code 1 = .ok (.invokespecial 1, 3) := by decide +kernel
theorem d1_4 : decode prog_28_method_1_code 4 = .ok (.aload_n 0, 1) := by decide +kernel
theorem d1_5 : decode prog_28_method_1_code 5 = .ok (.iload_n 1, 1) := by decide +kernel
theorem d1_6 : decode prog_28_method_1_code 6 = .ok (.putfield 7, 3) := by decide +kernel
theorem d1_9 : decode prog_28_method_1_code 9 = .ok (.return_, 1) := by decide +kernel
theorem pn_0 : plainName "com/example/ballast/ballast/engine/lspa/IndexTree" = true := by first | (simp [plainName, overriddenIn]; done) | decide +kernel
theorem ef_1 (m : MethodId) (o0 : Addr) (p1 : Int32) : entryFrame m #[(.ref o0), (.int p1)] 2 = mkF m 0 #[.val (.ref o0), .val (.int p1)] [] := by first | (simp [entryFrame, mkF, argsToLocals, Value.category]; done) | rfl
def Q1 (Z : State) (o0 : Nat) (p1 : Int32) (h0 : Heap) (n0 : Nat) (v : Option Value) (h : Heap) (L : List Loc) : Prop := v = none ∧ Fr n0 L ∧ Keep h0 h [o0] ∧ Exa Z h o0 "com/example/ballast/ballast/engine/lspa/IndexTree" ∧ Fld Z h o0 "com/example/ballast/ballast/engine/lspa/IndexTree" "agentCount" "I" (.int p1)
set_option maxRecDepth 65536 in
set_option maxHeartbeats 40000000 in
theorem rm1 (l : Launch) (Z : State) (a0 : Array Value) (hw : ∀ d ∈ tables_1, d.before a0 Z = true) (ws : List Jvm.Cond) (o0 : Nat) (p1 : Int32) (h0 : Heap) (n0 : Nat) (Z0 : n0 ≤ h0.size) (g0 : n0 ≤ o0) (E_a0 : Exa Z h0 o0 "com/example/ballast/ballast/engine/lspa/IndexTree") (F_n : Fld Z h0 o0 "com/example/ballast/ballast/engine/lspa/IndexTree" "agentCount" "I" (.int (0 : Int32))) :
    MetFree l (⟨"com/example/ballast/ballast/engine/lspa/IndexTree", "<init>", "(I)V"⟩ : MethodName) (head1 (Jvm.Cond.code (⟨"com/example/ballast/ballast/engine/lspa/IndexTree", "<init>", "(I)V"⟩ : MethodName) prog_28_method_1_code 2 none :: ws) ({ frames := 1, cells := 0, slots := 0, locals := 12 } : Room)) (fun a U => a = #[(.ref o0), (.int p1)] ∧ Z.Warmed39 U.vm ∧ U.heap = h0) (fun _ _ _ _ _ => True) (fun _ U o U' => ∃ v L, o = .returned v ∧ Q1 Z o0 p1 h0 n0 v U'.heap L ∧ FrameEnd U o U' L ({ frames := 1, cells := 0, slots := 0, locals := 12 } : Room).cells ({ frames := 1, cells := 0, slots := 0, locals := 12 } : Room).slots) := by
  refine Own.enter (Q := Q1 Z o0 p1 h0 n0) (plainFor_of_name pn_0) ?_
  intro p e s m below meth c s₁ D hx hby hml hown hnm hret hZ X0 e0 hD hR
  have N0 := Fr.nil n0
  have K0 : Keep h0 h0 [o0] := Keep.refl h0 _
  rw [show entryFrame m #[(.ref o0), (.int p1)] 2 = mkF m 0 #[.val (.ref o0), .val (.int p1)] [] from ef_1 m o0 p1]
  obtain ⟨T1, X1, e1, st1⟩ := initO X0 hx hZ hown (hw _ (List.mem_of_getElem? (i := 7) rfl)) (hw _ (List.mem_of_getElem? (i := 8) rfl)) (hw _ (List.mem_of_getElem? (i := 9) rfl)) e0 (g := (mkF m 1 #[.val (.ref o0), .val (.int p1)] [(.ref o0)])) rfl (by rw [hml]; rfl) rfl (hb hby d1_1) (by decide) (W := 0) (by show 2 * 0 + _ ≤ _; exact Nat.le_of_eq rfl) (by decide)
  obtain ⟨T2, h2, X2, e2, W2, st2⟩ := putF X1 hx hZ hown (host := "") (Or.inl (hw _ (List.mem_of_getElem? (i := 10) rfl))) Via.refl e1 F_n E_a0 (Or.inr ⟨(hw _ (List.mem_of_getElem? (i := 11) rfl)), rfl, hnm⟩) (hw _ (List.mem_of_getElem? (i := 2) rfl)) (ty := .int) (by decide) rfl rfl (g := (mkF m 6 #[.val (.ref o0), .val (.int p1)] [(.int p1), (.ref o0)])) rfl rfl (hb hby d1_6)
  have f3 : Fld Z h2 o0 "com/example/ballast/ballast/engine/lspa/IndexTree" "agentCount" "I" (.int p1) := F_n.same W2
  have f4 : Exa Z h2 o0 "com/example/ballast/ballast/engine/lspa/IndexTree" := E_a0.wr W2
  have N2 := Fr.snoc X2 N0 (show n0 ≤ o0 by omega)
  have Z2 : n0 ≤ h2.size := Nat.le_trans Z0 (Keep.of_wr W2).1
  have K2 : Keep h0 h2 [o0] := K0.wr W2 (Or.inl (List.mem_of_getElem? (i := 0) rfl))
  refine hD _ (T2.setTop (mkF m 9 #[.val (.ref o0), .val (.int p1)] [])) (fun t k => ?_) ?_
  · show Steps p.tables e below (s₁.setTop (mkF m 0 #[.val (.ref o0), .val (.int p1)] [])) t
    refine XS.aloadN X0.here hx rfl (hb hby d1_0) rfl rfl ?_
    show Steps p.tables e below (s₁.setTop (mkF m 1 #[.val (.ref o0), .val (.int p1)] [(.ref o0)])) t
    refine st1 _ ?_
    show Steps p.tables e below (T1.setTop (mkF m 4 #[.val (.ref o0), .val (.int p1)] [])) t
    refine XS.aloadN X1.here hx rfl (hb hby d1_4) rfl rfl ?_
    show Steps p.tables e below (T1.setTop (mkF m 5 #[.val (.ref o0), .val (.int p1)] [(.ref o0)])) t
    refine XS.iloadN X1.here hx rfl (hb hby d1_5) rfl ?_
    show Steps p.tables e below (T1.setTop (mkF m 6 #[.val (.ref o0), .val (.int p1)] [(.int p1), (.ref o0)])) t
    refine st2 _ ?_
    show Steps p.tables e below (T2.setTop (mkF m 9 #[.val (.ref o0), .val (.int p1)] [])) t
    exact k
  exact Own.retV hR X2 hx hret (hb hby d1_9) (by decide) (by decide) (by rw [e2]; exact ⟨rfl, N2, K2, f4, f3⟩)
theorem d3_0 : decode prog_28_method_3_code 0 = .ok (.ldc2_w 13, 3) := by decide +kernel
theorem d3_3 : decode prog_28_method_3_code 3 = .ok (.iload_n 1, 1) := by decide +kernel
theorem d3_4 : decode prog_28_method_3_code 4 = .ok (.i2l, 1) := by decide +kernel
theorem d3_5 : decode prog_28_method_3_code 5 = .ok (.lmul, 1) := by decide +kernel
theorem d3_6 : decode prog_28_method_3_code 6 = .ok (.lconst 1, 1) := by decide +kernel
theorem d3_7 : decode prog_28_method_3_code 7 = .ok (.ladd, 1) := by decide +kernel
theorem d3_8 : decode prog_28_method_3_code 8 = .ok (.lstore_n 2, 1) := by decide +kernel
theorem d3_9 : decode prog_28_method_3_code 9 = .ok (.lload_n 2, 1) := by decide +kernel
theorem d3_10 : decode prog_28_method_3_code 10 = .ok (.aload_n 0, 1) := by decide +kernel
theorem d3_11 : decode prog_28_method_3_code 11 = .ok (.getfield 7, 3) := by decide +kernel
theorem d3_14 : decode prog_28_method_3_code 14 = .ok (.i2l, 1) := by decide +kernel
theorem d3_15 : decode prog_28_method_3_code 15 = .ok (.lcmp, 1) := by decide +kernel
theorem d3_16 : decode prog_28_method_3_code 16 = .ok (.ifCond .lt 7, 3) := by decide +kernel
theorem d3_19 : decode prog_28_method_3_code 19 = .ok (.iconst 0, 1) := by decide +kernel
theorem d3_20 : decode prog_28_method_3_code 20 = .ok (.newarray .int, 2) := by decide +kernel
theorem d3_22 : decode prog_28_method_3_code 22 = .ok (.areturn, 1) := by decide +kernel
theorem d3_23 : decode prog_28_method_3_code 23 = .ok (.lload_n 2, 1) := by decide +kernel
theorem d3_24 : decode prog_28_method_3_code 24 = .ok (.lconst 1, 1) := by decide +kernel
theorem d3_25 : decode prog_28_method_3_code 25 = .ok (.ladd, 1) := by decide +kernel
theorem d3_26 : decode prog_28_method_3_code 26 = .ok (.aload_n 0, 1) := by decide +kernel
theorem d3_27 : decode prog_28_method_3_code 27 = .ok (.getfield 7, 3) := by decide +kernel
theorem d3_30 : decode prog_28_method_3_code 30 = .ok (.i2l, 1) := by decide +kernel
theorem d3_31 : decode prog_28_method_3_code 31 = .ok (.lcmp, 1) := by decide +kernel
theorem d3_32 : decode prog_28_method_3_code 32 = .ok (.ifCond .ge 21, 3) := by decide +kernel
theorem d3_35 : decode prog_28_method_3_code 35 = .ok (.iconst 2, 1) := by decide +kernel
theorem d3_36 : decode prog_28_method_3_code 36 = .ok (.newarray .int, 2) := by decide +kernel
theorem d3_38 : decode prog_28_method_3_code 38 = .ok (.dup, 1) := by decide +kernel
theorem d3_39 : decode prog_28_method_3_code 39 = .ok (.iconst 0, 1) := by decide +kernel
theorem d3_40 : decode prog_28_method_3_code 40 = .ok (.lload_n 2, 1) := by decide +kernel
theorem d3_41 : decode prog_28_method_3_code 41 = .ok (.l2i, 1) := by decide +kernel
theorem d3_42 : decode prog_28_method_3_code 42 = .ok (.iastore, 1) := by decide +kernel
theorem d3_43 : decode prog_28_method_3_code 43 = .ok (.dup, 1) := by decide +kernel
theorem d3_44 : decode prog_28_method_3_code 44 = .ok (.iconst 1, 1) := by decide +kernel
theorem d3_45 : decode prog_28_method_3_code 45 = .ok (.lload_n 2, 1) := by decide +kernel
theorem d3_46 : decode prog_28_method_3_code 46 = .ok (.l2i, 1) := by decide +kernel
theorem d3_47 : decode prog_28_method_3_code 47 = .ok (.iconst 1, 1) := by decide +kernel
theorem d3_48 : decode prog_28_method_3_code 48 = .ok (.iadd, 1) := by decide +kernel
theorem d3_49 : decode prog_28_method_3_code 49 = .ok (.iastore, 1) := by decide +kernel
theorem d3_50 : decode prog_28_method_3_code 50 = .ok (.goto 11, 3) := by decide +kernel
theorem d3_53 : decode prog_28_method_3_code 53 = .ok (.iconst 1, 1) := by decide +kernel
theorem d3_54 : decode prog_28_method_3_code 54 = .ok (.newarray .int, 2) := by decide +kernel
theorem d3_56 : decode prog_28_method_3_code 56 = .ok (.dup, 1) := by decide +kernel
theorem d3_57 : decode prog_28_method_3_code 57 = .ok (.iconst 0, 1) := by decide +kernel
theorem d3_58 : decode prog_28_method_3_code 58 = .ok (.lload_n 2, 1) := by decide +kernel
theorem d3_59 : decode prog_28_method_3_code 59 = .ok (.l2i, 1) := by decide +kernel
theorem d3_60 : decode prog_28_method_3_code 60 = .ok (.iastore, 1) := by decide +kernel
theorem d3_61 : decode prog_28_method_3_code 61 = .ok (.areturn, 1) := by decide +kernel
theorem ef_3 (m : MethodId) (o0 : Addr) (p1 : Int32) : entryFrame m #[(.ref o0), (.int p1)] 4 = mkF m 0 #[.val (.ref o0), .val (.int p1), .unset, .unset] [] := by first | (simp [entryFrame, mkF, argsToLocals, Value.category]; done) | rfl
def Q3 (Z : State) (o0 : Nat) (p1 : Int32) (n : Int32) (h0 : Heap) (n0 : Nat) (v : Option Value) (h : Heap) (L : List Loc) : Prop := ∃ (b : Nat) (f : Nat → Int32), v = some (.ref b) ∧ Fr n0 L ∧ ((¬ (2 * p1.toInt64 + 1) < n.toInt64 ∧ Own.AvI Z h b .int 0 f) ∨ ((2 * p1.toInt64 + 1) < n.toInt64 ∧ ¬ (2 * p1.toInt64 + 1) + 1 < n.toInt64 ∧ Own.AvI Z h b .int 1 f ∧ f 0 = (2 * p1.toInt64 + 1).toInt32) ∨ ((2 * p1.toInt64 + 1) < n.toInt64 ∧ (2 * p1.toInt64 + 1) + 1 < n.toInt64 ∧ Own.AvI Z h b .int 2 f ∧ f 0 = (2 * p1.toInt64 + 1).toInt32 ∧ f 1 = (2 * p1.toInt64 + 1).toInt32 + 1))
set_option maxRecDepth 65536 in
set_option maxHeartbeats 40000000 in
theorem rm3 (l : Launch) (Z : State) (a0 : Array Value) (hw : ∀ d ∈ tables_1, d.before a0 Z = true) (ws : List Jvm.Cond) (o0 : Nat) (p1 : Int32) (n : Int32) (h0 : Heap) (n0 : Nat) (Z0 : n0 ≤ h0.size) (F_n : Fld Z h0 o0 "com/example/ballast/ballast/engine/lspa/IndexTree" "agentCount" "I" (.int n)) :
    MetFree l (⟨"com/example/ballast/ballast/engine/lspa/IndexTree", "children", "(I)[I"⟩ : MethodName) (head1 (Jvm.Cond.code (⟨"com/example/ballast/ballast/engine/lspa/IndexTree", "children", "(I)[I"⟩ : MethodName) prog_28_method_3_code 4 (some (.array .int)) :: ws) ({ frames := 0, cells := 1, slots := 2, locals := 0 } : Room)) (fun a U => a = #[(.ref o0), (.int p1)] ∧ Z.Warmed39 U.vm ∧ U.heap = h0) (fun _ _ _ _ _ => True) (fun _ U o U' => ∃ v L, o = .returned v ∧ Q3 Z o0 p1 n h0 n0 v U'.heap L ∧ FrameEnd U o U' L ({ frames := 0, cells := 1, slots := 2, locals := 0 } : Room).cells ({ frames := 0, cells := 1, slots := 2, locals := 0 } : Room).slots) := by
  refine Own.enter (Q := Q3 Z o0 p1 n h0 n0) (plainFor_of_name pn_0) ?_
  intro p e s m below meth c s₁ D hx hby hml hown hnm hret hZ X0 e0 hD hR
  have N0 := Fr.nil n0
  rw [show entryFrame m #[(.ref o0), (.int p1)] 4 = mkF m 0 #[.val (.ref o0), .val (.int p1), .unset, .unset] [] from ef_3 m o0 p1]
  obtain ⟨v1, hv1⟩ : ∃ z : Int64, z = (((2 : Int64) * (p1.toInt64)) + (1 : Int64)) := ⟨_, rfl⟩
  obtain ⟨T2, X2, e2, st2⟩ := getF X0 hx hZ hown (host := "") (Or.inl (hw _ (List.mem_of_getElem? (i := 10) rfl))) Via.refl e0 F_n (g := (mkF m 11 #[.val (.ref o0), .val (.int p1), .val (.long v1), .second] [(.ref o0), (.long v1)])) rfl rfl (hb hby d3_11)
  refine hD _ (T2.setTop (mkF m 16 #[.val (.ref o0), .val (.int p1), .val (.long v1), .second] [(.int (lcmpW v1 (n.toInt64)))])) (fun t k => ?_) ?_
  · show Steps p.tables e below (s₁.setTop (mkF m 0 #[.val (.ref o0), .val (.int p1), .unset, .unset] [])) t
    refine X0.ldc2Long hx hown (mvT hZ (hw _ (List.mem_of_getElem? (i := 17) rfl))) (g := (mkF m 0 #[.val (.ref o0), .val (.int p1), .unset, .unset] [])) rfl (hb hby d3_0) _ ?_
    show Steps p.tables e below (s₁.setTop (mkF m 3 #[.val (.ref o0), .val (.int p1), .unset, .unset] [(.long (2 : Int64))])) t
    refine XS.iloadN X0.here hx rfl (hb hby d3_3) rfl ?_
    show Steps p.tables e below (s₁.setTop (mkF m 4 #[.val (.ref o0), .val (.int p1), .unset, .unset] [(.int p1), (.long (2 : Int64))])) t
    refine XS.i2l X0.here hx rfl (hb hby d3_4) rfl ?_
    show Steps p.tables e below (s₁.setTop (mkF m 5 #[.val (.ref o0), .val (.int p1), .unset, .unset] [(.long (p1.toInt64)), (.long (2 : Int64))])) t
    refine XS.lmul X0.here hx rfl (hb hby d3_5) rfl ?_
    show Steps p.tables e below (s₁.setTop (mkF m 6 #[.val (.ref o0), .val (.int p1), .unset, .unset] [(.long ((2 : Int64) * (p1.toInt64)))])) t
    refine XS.lconst X0.here hx rfl (hb hby d3_6) ?_
    show Steps p.tables e below (s₁.setTop (mkF m 7 #[.val (.ref o0), .val (.int p1), .unset, .unset] [(.long (1 : Int64)), (.long ((2 : Int64) * (p1.toInt64)))])) t
    refine XS.ladd X0.here hx rfl (hb hby d3_7) rfl ?_
    show Steps p.tables e below (s₁.setTop (mkF m 8 #[.val (.ref o0), .val (.int p1), .unset, .unset] [(.long (((2 : Int64) * (p1.toInt64)) + (1 : Int64)))])) t
    refine Own.nmJ hv1 ?_
    show Steps p.tables e below (s₁.setTop (mkF m 8 #[.val (.ref o0), .val (.int p1), .unset, .unset] [(.long v1)])) t
    refine XS.lstoreN X0.here hx rfl (hb hby d3_8) rfl (l' := #[.val (.ref o0), .val (.int p1), .val (.long v1), .second]) rfl ?_
    show Steps p.tables e below (s₁.setTop (mkF m 9 #[.val (.ref o0), .val (.int p1), .val (.long v1), .second] [])) t
    refine XS.lloadN X0.here hx rfl (hb hby d3_9) rfl ?_
    show Steps p.tables e below (s₁.setTop (mkF m 10 #[.val (.ref o0), .val (.int p1), .val (.long v1), .second] [(.long v1)])) t
    refine XS.aloadN X0.here hx rfl (hb hby d3_10) rfl rfl ?_
    show Steps p.tables e below (s₁.setTop (mkF m 11 #[.val (.ref o0), .val (.int p1), .val (.long v1), .second] [(.ref o0), (.long v1)])) t
    refine st2 _ ?_
    show Steps p.tables e below (T2.setTop (mkF m 14 #[.val (.ref o0), .val (.int p1), .val (.long v1), .second] [(.int n), (.long v1)])) t
    refine XS.i2l X2.here hx rfl (hb hby d3_14) rfl ?_
    show Steps p.tables e below (T2.setTop (mkF m 15 #[.val (.ref o0), .val (.int p1), .val (.long v1), .second] [(.long (n.toInt64)), (.long v1)])) t
    refine XS.lcmp X2.here hx rfl (hb hby d3_15) rfl ?_
    show Steps p.tables e below (T2.setTop (mkF m 16 #[.val (.ref o0), .val (.int p1), .val (.long v1), .second] [(.int (lcmpW v1 (n.toInt64)))])) t
    exact k
  by_cases hc3 : v1 < (n.toInt64)
  · obtain ⟨T4, X4, e4, st4⟩ := getF X2 hx hZ hown (host := "") (Or.inl (hw _ (List.mem_of_getElem? (i := 10) rfl))) Via.refl e2 F_n (g := (mkF m 27 #[.val (.ref o0), .val (.int p1), .val (.long v1), .second] [(.ref o0), (.long (v1 + (1 : Int64)))])) rfl rfl (hb hby d3_27)
    refine hD _ (T4.setTop (mkF m 32 #[.val (.ref o0), .val (.int p1), .val (.long v1), .second] [(.int (lcmpW (v1 + (1 : Int64)) (n.toInt64)))])) (fun t k => ?_) ?_
    · show Steps p.tables e below (T2.setTop (mkF m 16 #[.val (.ref o0), .val (.int p1), .val (.long v1), .second] [(.int (lcmpW v1 (n.toInt64)))])) t
      refine XS.ifYes X2.here hx rfl (pc0 := 16) (pc' := 23) rfl (hb hby d3_16) rfl ((if0 _ _).trans (tlt ((lw_lt v1 (n.toInt64)).mpr hc3)).1) (by decide) (by decide) ?_
      show Steps p.tables e below (T2.setTop (mkF m 23 #[.val (.ref o0), .val (.int p1), .val (.long v1), .second] [])) t
      refine XS.lloadN X2.here hx rfl (hb hby d3_23) rfl ?_
      show Steps p.tables e below (T2.setTop (mkF m 24 #[.val (.ref o0), .val (.int p1), .val (.long v1), .second] [(.long v1)])) t
      refine XS.lconst X2.here hx rfl (hb hby d3_24) ?_
      show Steps p.tables e below (T2.setTop (mkF m 25 #[.val (.ref o0), .val (.int p1), .val (.long v1), .second] [(.long (1 : Int64)), (.long v1)])) t
      refine XS.ladd X2.here hx rfl (hb hby d3_25) rfl ?_
      show Steps p.tables e below (T2.setTop (mkF m 26 #[.val (.ref o0), .val (.int p1), .val (.long v1), .second] [(.long (v1 + (1 : Int64)))])) t
      refine XS.aloadN X2.here hx rfl (hb hby d3_26) rfl rfl ?_
      show Steps p.tables e below (T2.setTop (mkF m 27 #[.val (.ref o0), .val (.int p1), .val (.long v1), .second] [(.ref o0), (.long (v1 + (1 : Int64)))])) t
      refine st4 _ ?_
      show Steps p.tables e below (T4.setTop (mkF m 30 #[.val (.ref o0), .val (.int p1), .val (.long v1), .second] [(.int n), (.long (v1 + (1 : Int64)))])) t
      refine XS.i2l X4.here hx rfl (hb hby d3_30) rfl ?_
      show Steps p.tables e below (T4.setTop (mkF m 31 #[.val (.ref o0), .val (.int p1), .val (.long v1), .second] [(.long (n.toInt64)), (.long (v1 + (1 : Int64)))])) t
      refine XS.lcmp X4.here hx rfl (hb hby d3_31) rfl ?_
      show Steps p.tables e below (T4.setTop (mkF m 32 #[.val (.ref o0), .val (.int p1), .val (.long v1), .second] [(.int (lcmpW (v1 + (1 : Int64)) (n.toInt64)))])) t
      exact k
    by_cases hc5 : (v1 + (1 : Int64)) < (n.toInt64)
    · obtain ⟨T6, h6, k6, X6, e6, E6, A6, st6⟩ := newP X4 hx hZ (hw _ (List.mem_of_getElem? (i := 18) rfl)) e4 (g := (mkF m 36 #[.val (.ref o0), .val (.int p1), .val (.long v1), .second] [(.int (2 : Int32))])) rfl (hb hby d3_36) rfl (by decide) (cap := 2) (by decide) (by decide) (by decide) (by decide)
      obtain ⟨b6, g_b6⟩ : ∃ z : Nat, z = h0.size := ⟨_, rfl⟩
      rw [← g_b6] at A6 st6
      have lt_o0_b6 : (o0 : Nat) < b6 := by rw [g_b6]; exact F_n.lt
      have g0_b6 : n0 ≤ b6 := by rw [g_b6]; exact Z0
      have f7 : Fld Z h6 o0 "com/example/ballast/ballast/engine/lspa/IndexTree" "agentCount" "I" (.int n) := (F_n.ext E6)
      have f8 : Own.AvI Z h6 b6 .int 2 (fun _ => 0) := Own.AvI.new A6 (by decide) rfl
      have Z6 : n0 ≤ h6.size := Nat.le_trans Z0 E6.1
      have hj9 : 0 ≤ (0 : Int32).toInt ∧ (0 : Int32).toInt < (2 : Nat) := ⟨by decide, by decide⟩
      obtain ⟨T10, h10, X10, e10, A10, W10, st10⟩ := Own.stoI X6 hx hZ e6 f8 hj9 (g := (mkF m 42 #[.val (.ref o0), .val (.int p1), .val (.long v1), .second] [(.int (v1.toInt32)), (.int (0 : Int32)), (.ref b6), (.ref b6)])) rfl rfl (hb hby d3_42)
      have f11 : Fld Z h10 o0 "com/example/ballast/ballast/engine/lspa/IndexTree" "agentCount" "I" (.int n) := f7.other W10 (Or.inl (Own.ne_of (by omega)))
      have N10 := Fr.snoc X10 N0 (show n0 ≤ b6 by omega)
      have Z10 : n0 ≤ h10.size := Nat.le_trans Z6 (Keep.of_wr W10).1
      have hj12 : 0 ≤ (1 : Int32).toInt ∧ (1 : Int32).toInt < (2 : Nat) := ⟨by decide, by decide⟩
      obtain ⟨T13, h13, X13, e13, A13, W13, st13⟩ := Own.stoI X10 hx hZ e10 A10 hj12 (g := (mkF m 49 #[.val (.ref o0), .val (.int p1), .val (.long v1), .second] [(.int ((v1.toInt32) + (1 : Int32))), (.int (1 : Int32)), (.ref b6), (.ref b6)])) rfl rfl (hb hby d3_49)
      have f14 : Fld Z h13 o0 "com/example/ballast/ballast/engine/lspa/IndexTree" "agentCount" "I" (.int n) := f11.other W13 (Or.inl (Own.ne_of (by omega)))
      have N13 := Fr.snoc X13 N10 (show n0 ≤ b6 by omega)
      have Z13 : n0 ≤ h13.size := Nat.le_trans Z10 (Keep.of_wr W13).1
      refine hD _ (T13.setTop (mkF m 61 #[.val (.ref o0), .val (.int p1), .val (.long v1), .second] [(.ref b6)])) (fun t k => ?_) ?_
      · show Steps p.tables e below (T4.setTop (mkF m 32 #[.val (.ref o0), .val (.int p1), .val (.long v1), .second] [(.int (lcmpW (v1 + (1 : Int64)) (n.toInt64)))])) t
        refine XS.ifNo X4.here hx rfl (hb hby d3_32) rfl ((if0 _ _).trans (tlt ((lw_lt (v1 + (1 : Int64)) (n.toInt64)).mpr hc5)).2.1) ?_
        show Steps p.tables e below (T4.setTop (mkF m 35 #[.val (.ref o0), .val (.int p1), .val (.long v1), .second] [])) t
        refine XS.iconst X4.here hx rfl (hb hby d3_35) ?_
        show Steps p.tables e below (T4.setTop (mkF m 36 #[.val (.ref o0), .val (.int p1), .val (.long v1), .second] [(.int (2 : Int32))])) t
        refine st6 _ ?_
        show Steps p.tables e below (T6.setTop (mkF m 38 #[.val (.ref o0), .val (.int p1), .val (.long v1), .second] [(.ref b6)])) t
        refine XS.dup X6.here hx rfl (hb hby d3_38) rfl rfl ?_
        show Steps p.tables e below (T6.setTop (mkF m 39 #[.val (.ref o0), .val (.int p1), .val (.long v1), .second] [(.ref b6), (.ref b6)])) t
        refine XS.iconst X6.here hx rfl (hb hby d3_39) ?_
        show Steps p.tables e below (T6.setTop (mkF m 40 #[.val (.ref o0), .val (.int p1), .val (.long v1), .second] [(.int (0 : Int32)), (.ref b6), (.ref b6)])) t
        refine XS.lloadN X6.here hx rfl (hb hby d3_40) rfl ?_
        show Steps p.tables e below (T6.setTop (mkF m 41 #[.val (.ref o0), .val (.int p1), .val (.long v1), .second] [(.long v1), (.int (0 : Int32)), (.ref b6), (.ref b6)])) t
        refine XS.l2i X6.here hx rfl (hb hby d3_41) rfl ?_
        show Steps p.tables e below (T6.setTop (mkF m 42 #[.val (.ref o0), .val (.int p1), .val (.long v1), .second] [(.int (v1.toInt32)), (.int (0 : Int32)), (.ref b6), (.ref b6)])) t
        refine st10 _ ?_
        show Steps p.tables e below (T10.setTop (mkF m 43 #[.val (.ref o0), .val (.int p1), .val (.long v1), .second] [(.ref b6)])) t
        refine XS.dup X10.here hx rfl (hb hby d3_43) rfl rfl ?_
        show Steps p.tables e below (T10.setTop (mkF m 44 #[.val (.ref o0), .val (.int p1), .val (.long v1), .second] [(.ref b6), (.ref b6)])) t
        refine XS.iconst X10.here hx rfl (hb hby d3_44) ?_
        show Steps p.tables e below (T10.setTop (mkF m 45 #[.val (.ref o0), .val (.int p1), .val (.long v1), .second] [(.int (1 : Int32)), (.ref b6), (.ref b6)])) t
        refine XS.lloadN X10.here hx rfl (hb hby d3_45) rfl ?_
        show Steps p.tables e below (T10.setTop (mkF m 46 #[.val (.ref o0), .val (.int p1), .val (.long v1), .second] [(.long v1), (.int (1 : Int32)), (.ref b6), (.ref b6)])) t
        refine XS.l2i X10.here hx rfl (hb hby d3_46) rfl ?_
        show Steps p.tables e below (T10.setTop (mkF m 47 #[.val (.ref o0), .val (.int p1), .val (.long v1), .second] [(.int (v1.toInt32)), (.int (1 : Int32)), (.ref b6), (.ref b6)])) t
        refine XS.iconst X10.here hx rfl (hb hby d3_47) ?_
        show Steps p.tables e below (T10.setTop (mkF m 48 #[.val (.ref o0), .val (.int p1), .val (.long v1), .second] [(.int (1 : Int32)), (.int (v1.toInt32)), (.int (1 : Int32)), (.ref b6), (.ref b6)])) t
        refine XS.iadd X10.here hx rfl (hb hby d3_48) rfl ?_
        show Steps p.tables e below (T10.setTop (mkF m 49 #[.val (.ref o0), .val (.int p1), .val (.long v1), .second] [(.int ((v1.toInt32) + (1 : Int32))), (.int (1 : Int32)), (.ref b6), (.ref b6)])) t
        refine st13 _ ?_
        show Steps p.tables e below (T13.setTop (mkF m 50 #[.val (.ref o0), .val (.int p1), .val (.long v1), .second] [(.ref b6)])) t
        refine XS.goto X13.here hx rfl (pc0 := 50) (pc' := 61) rfl (hb hby d3_50) (by decide) (by decide) ?_
        show Steps p.tables e below (T13.setTop (mkF m 61 #[.val (.ref o0), .val (.int p1), .val (.long v1), .second] [(.ref b6)])) t
        exact k
      subst hv1
      exact Own.retA hR X13 hx rfl hret rfl (hb hby d3_61) (by decide) (by decide) (by rw [e13]; exact ⟨b6, _, rfl, N13, Or.inr (Or.inr ⟨hc3, hc5, A13, rfl, rfl⟩)⟩)
    · obtain ⟨T15, h15, k15, X15, e15, E15, A15, st15⟩ := newP X4 hx hZ (hw _ (List.mem_of_getElem? (i := 18) rfl)) e4 (g := (mkF m 54 #[.val (.ref o0), .val (.int p1), .val (.long v1), .second] [(.int (1 : Int32))])) rfl (hb hby d3_54) rfl (by decide) (cap := 1) (by decide) (by decide) (by decide) (by decide)
      obtain ⟨b15, g_b15⟩ : ∃ z : Nat, z = h0.size := ⟨_, rfl⟩
      rw [← g_b15] at A15 st15
      have lt_o0_b15 : (o0 : Nat) < b15 := by rw [g_b15]; exact F_n.lt
      have g0_b15 : n0 ≤ b15 := by rw [g_b15]; exact Z0
      have f16 : Fld Z h15 o0 "com/example/ballast/ballast/engine/lspa/IndexTree" "agentCount" "I" (.int n) := (F_n.ext E15)
      have f17 : Own.AvI Z h15 b15 .int 1 (fun _ => 0) := Own.AvI.new A15 (by decide) rfl
      have Z15 : n0 ≤ h15.size := Nat.le_trans Z0 E15.1
      have hj18 : 0 ≤ (0 : Int32).toInt ∧ (0 : Int32).toInt < (1 : Nat) := ⟨by decide, by decide⟩
      obtain ⟨T19, h19, X19, e19, A19, W19, st19⟩ := Own.stoI X15 hx hZ e15 f17 hj18 (g := (mkF m 60 #[.val (.ref o0), .val (.int p1), .val (.long v1), .second] [(.int (v1.toInt32)), (.int (0 : Int32)), (.ref b15), (.ref b15)])) rfl rfl (hb hby d3_60)
      have f20 : Fld Z h19 o0 "com/example/ballast/ballast/engine/lspa/IndexTree" "agentCount" "I" (.int n) := f16.other W19 (Or.inl (Own.ne_of (by omega)))
      have N19 := Fr.snoc X19 N0 (show n0 ≤ b15 by omega)
      have Z19 : n0 ≤ h19.size := Nat.le_trans Z15 (Keep.of_wr W19).1
      refine hD _ (T19.setTop (mkF m 61 #[.val (.ref o0), .val (.int p1), .val (.long v1), .second] [(.ref b15)])) (fun t k => ?_) ?_
      · show Steps p.tables e below (T4.setTop (mkF m 32 #[.val (.ref o0), .val (.int p1), .val (.long v1), .second] [(.int (lcmpW (v1 + (1 : Int64)) (n.toInt64)))])) t
        refine XS.ifYes X4.here hx rfl (pc0 := 32) (pc' := 53) rfl (hb hby d3_32) rfl ((if0 _ _).trans (flt (fun q => hc5 ((lw_lt (v1 + (1 : Int64)) (n.toInt64)).mp q))).2.1) (by decide) (by decide) ?_
        show Steps p.tables e below (T4.setTop (mkF m 53 #[.val (.ref o0), .val (.int p1), .val (.long v1), .second] [])) t
        refine XS.iconst X4.here hx rfl (hb hby d3_53) ?_
        show Steps p.tables e below (T4.setTop (mkF m 54 #[.val (.ref o0), .val (.int p1), .val (.long v1), .second] [(.int (1 : Int32))])) t
        refine st15 _ ?_
        show Steps p.tables e below (T15.setTop (mkF m 56 #[.val (.ref o0), .val (.int p1), .val (.long v1), .second] [(.ref b15)])) t
        refine XS.dup X15.here hx rfl (hb hby d3_56) rfl rfl ?_
        show Steps p.tables e below (T15.setTop (mkF m 57 #[.val (.ref o0), .val (.int p1), .val (.long v1), .second] [(.ref b15), (.ref b15)])) t
        refine XS.iconst X15.here hx rfl (hb hby d3_57) ?_
        show Steps p.tables e below (T15.setTop (mkF m 58 #[.val (.ref o0), .val (.int p1), .val (.long v1), .second] [(.int (0 : Int32)), (.ref b15), (.ref b15)])) t
        refine XS.lloadN X15.here hx rfl (hb hby d3_58) rfl ?_
        show Steps p.tables e below (T15.setTop (mkF m 59 #[.val (.ref o0), .val (.int p1), .val (.long v1), .second] [(.long v1), (.int (0 : Int32)), (.ref b15), (.ref b15)])) t
        refine XS.l2i X15.here hx rfl (hb hby d3_59) rfl ?_
        show Steps p.tables e below (T15.setTop (mkF m 60 #[.val (.ref o0), .val (.int p1), .val (.long v1), .second] [(.int (v1.toInt32)), (.int (0 : Int32)), (.ref b15), (.ref b15)])) t
        refine st19 _ ?_
        show Steps p.tables e below (T19.setTop (mkF m 61 #[.val (.ref o0), .val (.int p1), .val (.long v1), .second] [(.ref b15)])) t
        exact k
      subst hv1
      exact Own.retA hR X19 hx rfl hret rfl (hb hby d3_61) (by decide) (by decide) (by rw [e19]; exact ⟨b15, _, rfl, N19, Or.inr (Or.inl ⟨hc3, hc5, A19, rfl⟩)⟩)
  · obtain ⟨T21, h21, k21, X21, e21, E21, A21, st21⟩ := newP X2 hx hZ (hw _ (List.mem_of_getElem? (i := 18) rfl)) e2 (g := (mkF m 20 #[.val (.ref o0), .val (.int p1), .val (.long v1), .second] [(.int (0 : Int32))])) rfl (hb hby d3_20) rfl (by decide) (cap := 0) (by decide) (by decide) (by decide) (by decide)
    obtain ⟨b21, g_b21⟩ : ∃ z : Nat, z = h0.size := ⟨_, rfl⟩
    rw [← g_b21] at A21 st21
    have lt_o0_b21 : (o0 : Nat) < b21 := by rw [g_b21]; exact F_n.lt
    have g0_b21 : n0 ≤ b21 := by rw [g_b21]; exact Z0
    have f22 : Fld Z h21 o0 "com/example/ballast/ballast/engine/lspa/IndexTree" "agentCount" "I" (.int n) := (F_n.ext E21)
    have f23 : Own.AvI Z h21 b21 .int 0 (fun _ => 0) := Own.AvI.new A21 (by decide) rfl
    have Z21 : n0 ≤ h21.size := Nat.le_trans Z0 E21.1
    refine hD _ (T21.setTop (mkF m 22 #[.val (.ref o0), .val (.int p1), .val (.long v1), .second] [(.ref b21)])) (fun t k => ?_) ?_
    · show Steps p.tables e below (T2.setTop (mkF m 16 #[.val (.ref o0), .val (.int p1), .val (.long v1), .second] [(.int (lcmpW v1 (n.toInt64)))])) t
      refine XS.ifNo X2.here hx rfl (hb hby d3_16) rfl ((if0 _ _).trans (flt (fun q => hc3 ((lw_lt v1 (n.toInt64)).mp q))).1) ?_
      show Steps p.tables e below (T2.setTop (mkF m 19 #[.val (.ref o0), .val (.int p1), .val (.long v1), .second] [])) t
      refine XS.iconst X2.here hx rfl (hb hby d3_19) ?_
      show Steps p.tables e below (T2.setTop (mkF m 20 #[.val (.ref o0), .val (.int p1), .val (.long v1), .second] [(.int (0 : Int32))])) t
      refine st21 _ ?_
      show Steps p.tables e below (T21.setTop (mkF m 22 #[.val (.ref o0), .val (.int p1), .val (.long v1), .second] [(.ref b21)])) t
      exact k
    subst hv1
    exact Own.retA hR X21 hx rfl hret rfl (hb hby d3_22) (by decide) (by decide) (by rw [e21]; exact ⟨b21, _, rfl, N0, Or.inl ⟨hc3, f23⟩⟩)
theorem d4_0 : decode method_3_code 0 = .ok (.iload_n 0, 1) := by decide +kernel
theorem d4_1 : decode method_3_code 1 = .ok (.iconst 1, 1) := by decide +kernel
theorem d4_2 : decode method_3_code 2 = .ok (.if_icmp .lt 21, 3) := by decide +kernel
theorem d4_5 : decode method_3_code 5 = .ok (.iload_n 0, 1) := by decide +kernel
theorem d4_6 : decode method_3_code 6 = .ok (.iload_n 2, 1) := by decide +kernel
theorem d4_7 : decode method_3_code 7 = .ok (.if_icmp .ge 16, 3) := by decide +kernel
theorem d4_10 : decode method_3_code 10 = .ok (.iload_n 0, 1) := by decide +kernel
theorem d4_11 : decode method_3_code 11 = .ok (.iconst 1, 1) := by decide +kernel
theorem d4_12 : decode method_3_code 12 = .ok (.isub, 1) := by decide +kernel
theorem d4_13 : decode method_3_code 13 = .ok (.iconst 2, 1) := by decide +kernel
theorem d4_14 : decode method_3_code 14 = .ok (.idiv, 1) := by decide +kernel
theorem d4_15 : decode method_3_code 15 = .ok (.iload_n 1, 1) := by decide +kernel
theorem d4_16 : decode method_3_code 16 = .ok (.if_icmp .ne 7, 3) := by decide +kernel
theorem d4_19 : decode method_3_code 19 = .ok (.iconst 1, 1) := by decide +kernel
theorem d4_20 : decode method_3_code 20 = .ok (.goto 4, 3) := by decide +kernel
theorem d4_23 : decode method_3_code 23 = .ok (.iconst 0, 1) := by decide +kernel
theorem d4_24 : decode method_3_code 24 = .ok (.ireturn, 1) := by decide +kernel
theorem pn_1 : plainName "com/example/ballast/ballast/engine/lspa/IndexTreeChildrenPinLaw" = true := by first | (simp [plainName, overriddenIn]; done) | decide +kernel
theorem ef_4 (m : MethodId) (p0 : Int32) (p1 : Int32) (p2 : Int32) : entryFrame m #[(.int p0), (.int p1), (.int p2)] 3 = mkF m 0 #[.val (.int p0), .val (.int p1), .val (.int p2)] [] := by first | (simp [entryFrame, mkF, argsToLocals, Value.category]; done) | rfl
def Q4 (Z : State) (p0 : Int32) (p1 : Int32) (p2 : Int32) (h0 : Heap) (n0 : Nat) (v : Option Value) (h : Heap) (L : List Loc) : Prop := v = some (.int (Own.b2i (own_child p0 p1 p2))) ∧ Fr n0 L ∧ h = h0
set_option maxRecDepth 65536 in
set_option maxHeartbeats 40000000 in
theorem rm4 (l : Launch) (Z : State) (a0 : Array Value) (hw : ∀ d ∈ tables_1, d.before a0 Z = true) (ws : List Jvm.Cond) (p0 : Int32) (p1 : Int32) (p2 : Int32) (h0 : Heap) (n0 : Nat) :
    MetFree l (⟨"com/example/ballast/ballast/engine/lspa/IndexTreeChildrenPinLaw", "isChild", "(III)Z"⟩ : MethodName) (head1 (Jvm.Cond.code (⟨"com/example/ballast/ballast/engine/lspa/IndexTreeChildrenPinLaw", "isChild", "(III)Z"⟩ : MethodName) method_3_code 3 (some .boolean) :: ws) ({ frames := 0, cells := 0, slots := 0, locals := 0 } : Room)) (fun a U => a = #[(.int p0), (.int p1), (.int p2)] ∧ Z.Warmed39 U.vm ∧ U.heap = h0) (fun _ _ _ _ _ => True) (fun _ U o U' => ∃ v L, o = .returned v ∧ Q4 Z p0 p1 p2 h0 n0 v U'.heap L ∧ FrameEnd U o U' L ({ frames := 0, cells := 0, slots := 0, locals := 0 } : Room).cells ({ frames := 0, cells := 0, slots := 0, locals := 0 } : Room).slots) := by
  refine Own.enter (Q := Q4 Z p0 p1 p2 h0 n0) (plainFor_of_name pn_1) ?_
  intro p e s m below meth c s₁ D hx hby hml hown hnm hret hZ X0 e0 hD hR
  have N0 := Fr.nil n0
  rw [show entryFrame m #[(.int p0), (.int p1), (.int p2)] 3 = mkF m 0 #[.val (.int p0), .val (.int p1), .val (.int p2)] [] from ef_4 m p0 p1 p2]
  refine hD _ (s₁.setTop (mkF m 2 #[.val (.int p0), .val (.int p1), .val (.int p2)] [(.int (1 : Int32)), (.int p0)])) (fun t k => ?_) ?_
  · show Steps p.tables e below (s₁.setTop (mkF m 0 #[.val (.int p0), .val (.int p1), .val (.int p2)] [])) t
    refine XS.iloadN X0.here hx rfl (hb hby d4_0) rfl ?_
    show Steps p.tables e below (s₁.setTop (mkF m 1 #[.val (.int p0), .val (.int p1), .val (.int p2)] [(.int p0)])) t
    refine XS.iconst X0.here hx rfl (hb hby d4_1) ?_
    show Steps p.tables e below (s₁.setTop (mkF m 2 #[.val (.int p0), .val (.int p1), .val (.int p2)] [(.int (1 : Int32)), (.int p0)])) t
    exact k
  by_cases hc1 : p0 < (1 : Int32)
  · refine hD _ (s₁.setTop (mkF m 24 #[.val (.int p0), .val (.int p1), .val (.int p2)] [(.int (0 : Int32))])) (fun t k => ?_) ?_
    · show Steps p.tables e below (s₁.setTop (mkF m 2 #[.val (.int p0), .val (.int p1), .val (.int p2)] [(.int (1 : Int32)), (.int p0)])) t
      refine XS.icmpYes X0.here hx rfl (pc0 := 2) (pc' := 23) rfl (hb hby d4_2) rfl (tlt hc1).1 (by decide) (by decide) ?_
      show Steps p.tables e below (s₁.setTop (mkF m 23 #[.val (.int p0), .val (.int p1), .val (.int p2)] [])) t
      refine XS.iconst X0.here hx rfl (hb hby d4_23) ?_
      show Steps p.tables e below (s₁.setTop (mkF m 24 #[.val (.int p0), .val (.int p1), .val (.int p2)] [(.int (0 : Int32))])) t
      exact k
    exact Own.retN hR X0 hx (t := .boolean) hret (by simp) (hb hby d4_24) (by decide) (by decide) (by decide) ⟨by simp [own_child, Own.b2i, hc1], N0, e0⟩
  · refine hD _ (s₁.setTop (mkF m 7 #[.val (.int p0), .val (.int p1), .val (.int p2)] [(.int p2), (.int p0)])) (fun t k => ?_) ?_
    · show Steps p.tables e below (s₁.setTop (mkF m 2 #[.val (.int p0), .val (.int p1), .val (.int p2)] [(.int (1 : Int32)), (.int p0)])) t
      refine XS.icmpNo X0.here hx rfl (hb hby d4_2) rfl (flt hc1).1 ?_
      show Steps p.tables e below (s₁.setTop (mkF m 5 #[.val (.int p0), .val (.int p1), .val (.int p2)] [])) t
      refine XS.iloadN X0.here hx rfl (hb hby d4_5) rfl ?_
      show Steps p.tables e below (s₁.setTop (mkF m 6 #[.val (.int p0), .val (.int p1), .val (.int p2)] [(.int p0)])) t
      refine XS.iloadN X0.here hx rfl (hb hby d4_6) rfl ?_
      show Steps p.tables e below (s₁.setTop (mkF m 7 #[.val (.int p0), .val (.int p1), .val (.int p2)] [(.int p2), (.int p0)])) t
      exact k
    by_cases hc2 : p0 < p2
    · have hnz3 : (2 : Int32) ≠ 0 := by decide
      refine hD _ (s₁.setTop (mkF m 16 #[.val (.int p0), .val (.int p1), .val (.int p2)] [(.int p1), (.int ((p0 - (1 : Int32)) / (2 : Int32)))])) (fun t k => ?_) ?_
      · show Steps p.tables e below (s₁.setTop (mkF m 7 #[.val (.int p0), .val (.int p1), .val (.int p2)] [(.int p2), (.int p0)])) t
        refine XS.icmpNo X0.here hx rfl (hb hby d4_7) rfl (tlt hc2).2.1 ?_
        show Steps p.tables e below (s₁.setTop (mkF m 10 #[.val (.int p0), .val (.int p1), .val (.int p2)] [])) t
        refine XS.iloadN X0.here hx rfl (hb hby d4_10) rfl ?_
        show Steps p.tables e below (s₁.setTop (mkF m 11 #[.val (.int p0), .val (.int p1), .val (.int p2)] [(.int p0)])) t
        refine XS.iconst X0.here hx rfl (hb hby d4_11) ?_
        show Steps p.tables e below (s₁.setTop (mkF m 12 #[.val (.int p0), .val (.int p1), .val (.int p2)] [(.int (1 : Int32)), (.int p0)])) t
        refine XS.isub X0.here hx rfl (hb hby d4_12) rfl ?_
        show Steps p.tables e below (s₁.setTop (mkF m 13 #[.val (.int p0), .val (.int p1), .val (.int p2)] [(.int (p0 - (1 : Int32)))])) t
        refine XS.iconst X0.here hx rfl (hb hby d4_13) ?_
        show Steps p.tables e below (s₁.setTop (mkF m 14 #[.val (.int p0), .val (.int p1), .val (.int p2)] [(.int (2 : Int32)), (.int (p0 - (1 : Int32)))])) t
        refine XS.idiv X0.here hx rfl (hb hby d4_14) rfl hnz3 ?_
        show Steps p.tables e below (s₁.setTop (mkF m 15 #[.val (.int p0), .val (.int p1), .val (.int p2)] [(.int ((p0 - (1 : Int32)) / (2 : Int32)))])) t
        refine XS.iloadN X0.here hx rfl (hb hby d4_15) rfl ?_
        show Steps p.tables e below (s₁.setTop (mkF m 16 #[.val (.int p0), .val (.int p1), .val (.int p2)] [(.int p1), (.int ((p0 - (1 : Int32)) / (2 : Int32)))])) t
        exact k
      by_cases hc4 : ((p0 - (1 : Int32)) / (2 : Int32)) = p1
      · refine hD _ (s₁.setTop (mkF m 24 #[.val (.int p0), .val (.int p1), .val (.int p2)] [(.int (1 : Int32))])) (fun t k => ?_) ?_
        · show Steps p.tables e below (s₁.setTop (mkF m 16 #[.val (.int p0), .val (.int p1), .val (.int p2)] [(.int p1), (.int ((p0 - (1 : Int32)) / (2 : Int32)))])) t
          refine XS.icmpNo X0.here hx rfl (hb hby d4_16) rfl (teq hc4).2 ?_
          show Steps p.tables e below (s₁.setTop (mkF m 19 #[.val (.int p0), .val (.int p1), .val (.int p2)] [])) t
          refine XS.iconst X0.here hx rfl (hb hby d4_19) ?_
          show Steps p.tables e below (s₁.setTop (mkF m 20 #[.val (.int p0), .val (.int p1), .val (.int p2)] [(.int (1 : Int32))])) t
          refine XS.goto X0.here hx rfl (pc0 := 20) (pc' := 24) rfl (hb hby d4_20) (by decide) (by decide) ?_
          show Steps p.tables e below (s₁.setTop (mkF m 24 #[.val (.int p0), .val (.int p1), .val (.int p2)] [(.int (1 : Int32))])) t
          exact k
        exact Own.retN hR X0 hx (t := .boolean) hret (by simp) (hb hby d4_24) (by decide) (by decide) (by decide) ⟨by simp [own_child, Own.b2i, hc1, hc2, hc4], N0, e0⟩
      · refine hD _ (s₁.setTop (mkF m 24 #[.val (.int p0), .val (.int p1), .val (.int p2)] [(.int (0 : Int32))])) (fun t k => ?_) ?_
        · show Steps p.tables e below (s₁.setTop (mkF m 16 #[.val (.int p0), .val (.int p1), .val (.int p2)] [(.int p1), (.int ((p0 - (1 : Int32)) / (2 : Int32)))])) t
          refine XS.icmpYes X0.here hx rfl (pc0 := 16) (pc' := 23) rfl (hb hby d4_16) rfl (feq hc4).2 (by decide) (by decide) ?_
          show Steps p.tables e below (s₁.setTop (mkF m 23 #[.val (.int p0), .val (.int p1), .val (.int p2)] [])) t
          refine XS.iconst X0.here hx rfl (hb hby d4_23) ?_
          show Steps p.tables e below (s₁.setTop (mkF m 24 #[.val (.int p0), .val (.int p1), .val (.int p2)] [(.int (0 : Int32))])) t
          exact k
        exact Own.retN hR X0 hx (t := .boolean) hret (by simp) (hb hby d4_24) (by decide) (by decide) (by decide) ⟨by simp [own_child, Own.b2i, hc1, hc2, hc4], N0, e0⟩
    · refine hD _ (s₁.setTop (mkF m 24 #[.val (.int p0), .val (.int p1), .val (.int p2)] [(.int (0 : Int32))])) (fun t k => ?_) ?_
      · show Steps p.tables e below (s₁.setTop (mkF m 7 #[.val (.int p0), .val (.int p1), .val (.int p2)] [(.int p2), (.int p0)])) t
        refine XS.icmpYes X0.here hx rfl (pc0 := 7) (pc' := 23) rfl (hb hby d4_7) rfl (flt hc2).2.1 (by decide) (by decide) ?_
        show Steps p.tables e below (s₁.setTop (mkF m 23 #[.val (.int p0), .val (.int p1), .val (.int p2)] [])) t
        refine XS.iconst X0.here hx rfl (hb hby d4_23) ?_
        show Steps p.tables e below (s₁.setTop (mkF m 24 #[.val (.int p0), .val (.int p1), .val (.int p2)] [(.int (0 : Int32))])) t
        exact k
      exact Own.retN hR X0 hx (t := .boolean) hret (by simp) (hb hby d4_24) (by decide) (by decide) (by decide) ⟨by simp [own_child, Own.b2i, hc1, hc2], N0, e0⟩
theorem pd_0 : parseMethodDescriptor "(I)V" = some ⟨[.int], none⟩ := by decide +kernel
theorem pd_1 : parseMethodDescriptor "(I)[I" = some ⟨[.int], some (.array .int)⟩ := by decide +kernel
theorem pd_2 : parseMethodDescriptor "(III)Z" = some ⟨[.int, .int, .int], some .boolean⟩ := by decide +kernel
theorem ef_0 (m : MethodId) (p0 : Int32) (p1 : Int32) (p2 : Int32) : entryFrame m #[(.int p0), (.int p1), (.int p2)] maxLocals = mkF m 0 #[.val (.int p0), .val (.int p1), .val (.int p2), .unset, .unset, .unset, .unset, .unset, .unset, .unset, .unset] [] := by first | (simp [entryFrame, mkF, argsToLocals, Value.category, maxLocals]; done) | rfl
def Q0 (Z : State) (p0 : Int32) (p1 : Int32) (p2 : Int32) (h0 : Heap) (n0 : Nat) (v : Option Value) (h : Heap) (L : List Loc) : Prop := v = some (.int 1) ∧ Fr n0 L
set_option maxRecDepth 65536 in
set_option maxHeartbeats 40000000 in
theorem rm0 (l : Launch) (Z : State) (a0 : Array Value) (hw : ∀ d ∈ tables_1, d.before a0 Z = true) (ws : List Jvm.Cond) (p0 : Int32) (p1 : Int32) (p2 : Int32) (h0 : Heap) (n0 : Nat) (Z0 : n0 ≤ h0.size) :
    MetFree l x (head1 (Jvm.Cond.code x code maxLocals ret :: ws) room_1) (fun a U => a = #[(.int p0), (.int p1), (.int p2)] ∧ Z.Warmed39 U.vm ∧ U.heap = h0) (fun _ _ _ _ _ => True) (fun _ U o U' => ∃ v L, o = .returned v ∧ Q0 Z p0 p1 p2 h0 n0 v U'.heap L ∧ FrameEnd U o U' L room_1.cells room_1.slots) := by
  refine Own.enter (Q := Q0 Z p0 p1 p2 h0 n0) (plainFor_of_name pn_1) ?_
  intro p e s m below meth c s₁ D hx hby hml hown hnm hret hZ X0 e0 hD hR
  have N0 := Fr.nil n0
  rw [show entryFrame m #[(.int p0), (.int p1), (.int p2)] maxLocals = mkF m 0 #[.val (.int p0), .val (.int p1), .val (.int p2), .unset, .unset, .unset, .unset, .unset, .unset, .unset, .unset] [] from ef_0 m p0 p1 p2]
  obtain ⟨v1, hv1⟩ : ∃ z : Int32, z = (p0 &&& (2147483647 : Int32)) := ⟨_, rfl⟩
  refine hD _ (s₁.setTop (mkF m 5 #[.val (.int p0), .val (.int p1), .val (.int p2), .val (.int v1), .unset, .unset, .unset, .unset, .unset, .unset, .unset] [])) (fun t k => ?_) ?_
  · show Steps p.tables e below (s₁.setTop (mkF m 0 #[.val (.int p0), .val (.int p1), .val (.int p2), .unset, .unset, .unset, .unset, .unset, .unset, .unset, .unset] [])) t
    refine XS.iloadN X0.here hx rfl (hb hby at_0) rfl ?_
    show Steps p.tables e below (s₁.setTop (mkF m 1 #[.val (.int p0), .val (.int p1), .val (.int p2), .unset, .unset, .unset, .unset, .unset, .unset, .unset, .unset] [(.int p0)])) t
    refine X0.ldcInt hx hown (mvT hZ (hw _ (List.mem_of_getElem? (i := 0) rfl))) (g := (mkF m 1 #[.val (.int p0), .val (.int p1), .val (.int p2), .unset, .unset, .unset, .unset, .unset, .unset, .unset, .unset] [(.int p0)])) rfl (hb hby at_1) _ ?_
    show Steps p.tables e below (s₁.setTop (mkF m 3 #[.val (.int p0), .val (.int p1), .val (.int p2), .unset, .unset, .unset, .unset, .unset, .unset, .unset, .unset] [(.int (2147483647 : Int32)), (.int p0)])) t
    refine XS.iand X0.here hx rfl (hb hby at_3) rfl ?_
    show Steps p.tables e below (s₁.setTop (mkF m 4 #[.val (.int p0), .val (.int p1), .val (.int p2), .unset, .unset, .unset, .unset, .unset, .unset, .unset, .unset] [(.int (p0 &&& (2147483647 : Int32)))])) t
    refine Own.nmI hv1 ?_
    show Steps p.tables e below (s₁.setTop (mkF m 4 #[.val (.int p0), .val (.int p1), .val (.int p2), .unset, .unset, .unset, .unset, .unset, .unset, .unset, .unset] [(.int v1)])) t
    refine XS.istoreN X0.here hx rfl (hb hby at_4) rfl (l' := #[.val (.int p0), .val (.int p1), .val (.int p2), .val (.int v1), .unset, .unset, .unset, .unset, .unset, .unset, .unset]) rfl ?_
    show Steps p.tables e below (s₁.setTop (mkF m 5 #[.val (.int p0), .val (.int p1), .val (.int p2), .val (.int v1), .unset, .unset, .unset, .unset, .unset, .unset, .unset] [])) t
    exact k
  have J11 : ∀ (T2 : State) (locs2 : List Loc) (n : Int32), Stand p l e room_1 s m #[(.int p0), (.int p1), (.int p2)] below meth c T2 locs2 0 0 → T2.heap = h0 → Fr n0 locs2 → 0 < n.toInt → D (T2.setTop (mkF m 11 #[.val (.int p0), .val (.int p1), .val (.int p2), .val (.int n), .unset, .unset, .unset, .unset, .unset, .unset, .unset] [])) := by
    intro T2 locs2 n X2 e2 N2 hn
    have hnz3 : n ≠ 0 := own_nz hn
    obtain ⟨v4, hv4⟩ : ∃ z : Int32, z = ((p1 &&& (2147483647 : Int32)) % n) := ⟨_, rfl⟩
    refine hD _ (T2.setTop (mkF m 19 #[.val (.int p0), .val (.int p1), .val (.int p2), .val (.int n), .val (.int v4), .unset, .unset, .unset, .unset, .unset, .unset] [])) (fun t k => ?_) ?_
    · show Steps p.tables e below (T2.setTop (mkF m 11 #[.val (.int p0), .val (.int p1), .val (.int p2), .val (.int n), .unset, .unset, .unset, .unset, .unset, .unset, .unset] [])) t
      refine XS.iloadN X2.here hx rfl (hb hby at_11) rfl ?_
      show Steps p.tables e below (T2.setTop (mkF m 12 #[.val (.int p0), .val (.int p1), .val (.int p2), .val (.int n), .unset, .unset, .unset, .unset, .unset, .unset, .unset] [(.int p1)])) t
      refine X2.ldcInt hx hown (mvT hZ (hw _ (List.mem_of_getElem? (i := 0) rfl))) (g := (mkF m 12 #[.val (.int p0), .val (.int p1), .val (.int p2), .val (.int n), .unset, .unset, .unset, .unset, .unset, .unset, .unset] [(.int p1)])) rfl (hb hby at_12) _ ?_
      show Steps p.tables e below (T2.setTop (mkF m 14 #[.val (.int p0), .val (.int p1), .val (.int p2), .val (.int n), .unset, .unset, .unset, .unset, .unset, .unset, .unset] [(.int (2147483647 : Int32)), (.int p1)])) t
      refine XS.iand X2.here hx rfl (hb hby at_14) rfl ?_
      show Steps p.tables e below (T2.setTop (mkF m 15 #[.val (.int p0), .val (.int p1), .val (.int p2), .val (.int n), .unset, .unset, .unset, .unset, .unset, .unset, .unset] [(.int (p1 &&& (2147483647 : Int32)))])) t
      refine XS.iloadN X2.here hx rfl (hb hby at_15) rfl ?_
      show Steps p.tables e below (T2.setTop (mkF m 16 #[.val (.int p0), .val (.int p1), .val (.int p2), .val (.int n), .unset, .unset, .unset, .unset, .unset, .unset, .unset] [(.int n), (.int (p1 &&& (2147483647 : Int32)))])) t
      refine Jvm.RoadKit.iremM (g := (mkF m 16 #[.val (.int p0), .val (.int p1), .val (.int p2), .val (.int n), .unset, .unset, .unset, .unset, .unset, .unset, .unset] [(.int n), (.int (p1 &&& (2147483647 : Int32)))])) X2 hx rfl (hb hby at_16) rfl hnz3 ?_
      show Steps p.tables e below (T2.setTop (mkF m 17 #[.val (.int p0), .val (.int p1), .val (.int p2), .val (.int n), .unset, .unset, .unset, .unset, .unset, .unset, .unset] [(.int ((p1 &&& (2147483647 : Int32)) % n))])) t
      refine Own.nmI hv4 ?_
      show Steps p.tables e below (T2.setTop (mkF m 17 #[.val (.int p0), .val (.int p1), .val (.int p2), .val (.int n), .unset, .unset, .unset, .unset, .unset, .unset, .unset] [(.int v4)])) t
      refine XS.istore X2.here hx rfl (hb hby at_17) rfl (l' := #[.val (.int p0), .val (.int p1), .val (.int p2), .val (.int n), .val (.int v4), .unset, .unset, .unset, .unset, .unset, .unset]) rfl ?_
      show Steps p.tables e below (T2.setTop (mkF m 19 #[.val (.int p0), .val (.int p1), .val (.int p2), .val (.int n), .val (.int v4), .unset, .unset, .unset, .unset, .unset, .unset] [])) t
      exact k
    have J36 : ∀ (T5 : State) (locs5 : List Loc) (a : Int32), Stand p l e room_1 s m #[(.int p0), (.int p1), (.int p2)] below meth c T5 locs5 0 0 → T5.heap = h0 → Fr n0 locs5 → 0 ≤ a.toInt ∧ a.toInt < n.toInt → D (T5.setTop (mkF m 36 #[.val (.int p0), .val (.int p1), .val (.int p2), .val (.int n), .val (.int a), .unset, .unset, .unset, .unset, .unset, .unset] [])) := by
      intro T5 locs5 a X5 e5 N5 ha
      obtain ⟨T6, h6, X6, e6, E6, A6, D6, -, st6⟩ := newO X5 hx hZ hown (hw _ (List.mem_of_getElem? (i := 1) rfl)) (hw _ (List.mem_of_getElem? (i := 2) rfl)) (hw _ (List.mem_of_getElem? (i := 3) rfl)) e5 (g := (mkF m 36 #[.val (.int p0), .val (.int p1), .val (.int p2), .val (.int n), .val (.int a), .unset, .unset, .unset, .unset, .unset, .unset] [])) rfl (hb hby at_36) (by decide) (by decide)
      obtain ⟨b6, g_b6⟩ : ∃ z : Nat, z = h0.size := ⟨_, rfl⟩
      rw [← g_b6] at A6 D6 st6
      have g0_b6 : n0 ≤ b6 := by rw [g_b6]; exact Z0
      have f7 : Fld Z h6 b6 "com/example/ballast/ballast/engine/lspa/IndexTree" "agentCount" "I" (.int (0 : Int32)) := D6 (Or.inr (hw _ (List.mem_of_getElem? (i := 11) rfl))) (ty := .int) (by decide)
      have Z6 : n0 ≤ h6.size := Nat.le_trans Z0 E6.1
      obtain ⟨T8, _, L8, X8, ⟨rfl, Nq8, Kq8, E8, F8⟩, st8⟩ := Own.callI (y := (⟨"com/example/ballast/ballast/engine/lspa/IndexTree", "<init>", "(I)V"⟩ : MethodName)) (W := 1) (argsL := [(.int n)]) (rest := [(.ref b6)]) (a := b6) X6 hx hZ hown rfl (hw _ (List.mem_of_getElem? (i := 4) rfl)) (hw _ (List.mem_of_getElem? (i := 5) rfl)) (hw _ (List.mem_of_getElem? (i := 3) rfl)) (hw _ (List.mem_of_getElem? (i := 6) rfl)) (by decide) e6 (rm1 l Z a0 hw [] b6 n  h6 n0 Z6 g0_b6 A6 f7) (by decide) (by decide) (by decide) (by decide) (g := (mkF m 41 #[.val (.int p0), .val (.int p1), .val (.int p2), .val (.int n), .val (.int a), .unset, .unset, .unset, .unset, .unset, .unset] [(.int n), (.ref b6), (.ref b6)])) rfl (by rw [hml]; rfl) (lenOf pd_0 rfl) rfl (by show 2 * 0 + _ ≤ _; exact Nat.le_of_eq rfl) (hb hby at_41)
      have N8 := Fr.app N5 Nq8
      have Z8 : n0 ≤ T8.heap.size := Nat.le_trans Z6 Kq8.1
      obtain ⟨T9, _, L9, X9, ⟨b9, f9, rfl, Nq9, hq9⟩, st9⟩ := Own.callV (y := (⟨"com/example/ballast/ballast/engine/lspa/IndexTree", "children", "(I)[I"⟩ : MethodName)) (W := 0) (argsL := [(.int a)]) (rest := []) (a := b6) X8 hx hZ hown (hw _ (List.mem_of_getElem? (i := 12) rfl)) (hw _ (List.mem_of_getElem? (i := 13) rfl)) (hw _ (List.mem_of_getElem? (i := 15) rfl)) (hw _ (List.mem_of_getElem? (i := 14) rfl)) (hw _ (List.mem_of_getElem? (i := 3) rfl)) (hw _ (List.mem_of_getElem? (i := 16) rfl)) (by decide) rfl E8 (rm3 l Z a0 hw [] b6 a n T8.heap n0 Z8 F8) (by decide) (by decide) (by decide) (by decide) (g := (mkF m 46 #[.val (.int p0), .val (.int p1), .val (.int p2), .val (.int n), .val (.int a), .unset, .unset, .unset, .unset, .unset, .unset] [(.int a), (.ref b6)])) rfl (by rw [hml]; rfl) (lenOf pd_1 rfl) rfl (by show 2 * 0 + _ ≤ _; exact Nat.le_of_eq rfl) (hb hby at_46)
      have N9 := Fr.app N8 Nq9
      refine hD _ (T9.setTop (mkF m 49 #[.val (.int p0), .val (.int p1), .val (.int p2), .val (.int n), .val (.int a), .unset, .unset, .unset, .unset, .unset, .unset] [(.ref b9)])) (fun t k => ?_) ?_
      · show Steps p.tables e below (T5.setTop (mkF m 36 #[.val (.int p0), .val (.int p1), .val (.int p2), .val (.int n), .val (.int a), .unset, .unset, .unset, .unset, .unset, .unset] [])) t
        refine st6 _ ?_
        show Steps p.tables e below (T6.setTop (mkF m 39 #[.val (.int p0), .val (.int p1), .val (.int p2), .val (.int n), .val (.int a), .unset, .unset, .unset, .unset, .unset, .unset] [(.ref b6)])) t
        refine XS.dup X6.here hx rfl (hb hby at_39) rfl rfl ?_
        show Steps p.tables e below (T6.setTop (mkF m 40 #[.val (.int p0), .val (.int p1), .val (.int p2), .val (.int n), .val (.int a), .unset, .unset, .unset, .unset, .unset, .unset] [(.ref b6), (.ref b6)])) t
        refine XS.iloadN X6.here hx rfl (hb hby at_40) rfl ?_
        show Steps p.tables e below (T6.setTop (mkF m 41 #[.val (.int p0), .val (.int p1), .val (.int p2), .val (.int n), .val (.int a), .unset, .unset, .unset, .unset, .unset, .unset] [(.int n), (.ref b6), (.ref b6)])) t
        refine st8 _ ?_
        show Steps p.tables e below (T8.setTop (mkF m 44 #[.val (.int p0), .val (.int p1), .val (.int p2), .val (.int n), .val (.int a), .unset, .unset, .unset, .unset, .unset, .unset] [(.ref b6)])) t
        refine XS.iload X8.here hx rfl (hb hby at_44) rfl ?_
        show Steps p.tables e below (T8.setTop (mkF m 46 #[.val (.int p0), .val (.int p1), .val (.int p2), .val (.int n), .val (.int a), .unset, .unset, .unset, .unset, .unset, .unset] [(.int a), (.ref b6)])) t
        refine st9 _ ?_
        show Steps p.tables e below (T9.setTop (mkF m 49 #[.val (.int p0), .val (.int p1), .val (.int p2), .val (.int n), .val (.int a), .unset, .unset, .unset, .unset, .unset, .unset] [(.ref b9)])) t
        exact k
      rcases hq9 with ⟨hx1, A_9⟩ | ⟨hx1, hx2, A_9, hf0⟩ | ⟨hx1, hx2, A_9, hf0, hf1⟩
      · obtain ⟨v10, hv10⟩ : ∃ z : Int64, z = (((2 : Int64) * (a.toInt64)) + (1 : Int64)) := ⟨_, rfl⟩
        obtain ⟨v11, hv11⟩ : ∃ z : Int64, z = (((2 : Int64) * (a.toInt64)) + (2 : Int64)) := ⟨_, rfl⟩
        refine hD _ (T9.setTop (mkF m 87 #[.val (.int p0), .val (.int p1), .val (.int p2), .val (.int n), .val (.int a), .val (.ref b9), .val (.long v10), .second, .val (.long v11), .second, .unset] [(.int (lcmpW v10 (n.toInt64)))])) (fun t k => ?_) ?_
        · show Steps p.tables e below (T9.setTop (mkF m 49 #[.val (.int p0), .val (.int p1), .val (.int p2), .val (.int n), .val (.int a), .unset, .unset, .unset, .unset, .unset, .unset] [(.ref b9)])) t
          refine XS.astore X9.here hx rfl (hb hby at_49) rfl rfl (l' := #[.val (.int p0), .val (.int p1), .val (.int p2), .val (.int n), .val (.int a), .val (.ref b9), .unset, .unset, .unset, .unset, .unset]) rfl ?_
          show Steps p.tables e below (T9.setTop (mkF m 51 #[.val (.int p0), .val (.int p1), .val (.int p2), .val (.int n), .val (.int a), .val (.ref b9), .unset, .unset, .unset, .unset, .unset] [])) t
          refine XS.aload X9.here hx rfl (hb hby at_51) rfl rfl ?_
          show Steps p.tables e below (T9.setTop (mkF m 53 #[.val (.int p0), .val (.int p1), .val (.int p2), .val (.int n), .val (.int a), .val (.ref b9), .unset, .unset, .unset, .unset, .unset] [(.ref b9)])) t
          refine XS.ifnonnullYes X9.here hx rfl (pc0 := 53) (pc' := 58) rfl (hb hby at_53) rfl (by decide) (by decide) ?_
          show Steps p.tables e below (T9.setTop (mkF m 58 #[.val (.int p0), .val (.int p1), .val (.int p2), .val (.int n), .val (.int a), .val (.ref b9), .unset, .unset, .unset, .unset, .unset] [])) t
          refine X9.ldc2Long hx hown (mvT hZ (hw _ (List.mem_of_getElem? (i := 19) rfl))) (g := (mkF m 58 #[.val (.int p0), .val (.int p1), .val (.int p2), .val (.int n), .val (.int a), .val (.ref b9), .unset, .unset, .unset, .unset, .unset] [])) rfl (hb hby at_58) _ ?_
          show Steps p.tables e below (T9.setTop (mkF m 61 #[.val (.int p0), .val (.int p1), .val (.int p2), .val (.int n), .val (.int a), .val (.ref b9), .unset, .unset, .unset, .unset, .unset] [(.long (2 : Int64))])) t
          refine XS.iload X9.here hx rfl (hb hby at_61) rfl ?_
          show Steps p.tables e below (T9.setTop (mkF m 63 #[.val (.int p0), .val (.int p1), .val (.int p2), .val (.int n), .val (.int a), .val (.ref b9), .unset, .unset, .unset, .unset, .unset] [(.int a), (.long (2 : Int64))])) t
          refine XS.i2l X9.here hx rfl (hb hby at_63) rfl ?_
          show Steps p.tables e below (T9.setTop (mkF m 64 #[.val (.int p0), .val (.int p1), .val (.int p2), .val (.int n), .val (.int a), .val (.ref b9), .unset, .unset, .unset, .unset, .unset] [(.long (a.toInt64)), (.long (2 : Int64))])) t
          refine XS.lmul X9.here hx rfl (hb hby at_64) rfl ?_
          show Steps p.tables e below (T9.setTop (mkF m 65 #[.val (.int p0), .val (.int p1), .val (.int p2), .val (.int n), .val (.int a), .val (.ref b9), .unset, .unset, .unset, .unset, .unset] [(.long ((2 : Int64) * (a.toInt64)))])) t
          refine XS.lconst X9.here hx rfl (hb hby at_65) ?_
          show Steps p.tables e below (T9.setTop (mkF m 66 #[.val (.int p0), .val (.int p1), .val (.int p2), .val (.int n), .val (.int a), .val (.ref b9), .unset, .unset, .unset, .unset, .unset] [(.long (1 : Int64)), (.long ((2 : Int64) * (a.toInt64)))])) t
          refine XS.ladd X9.here hx rfl (hb hby at_66) rfl ?_
          show Steps p.tables e below (T9.setTop (mkF m 67 #[.val (.int p0), .val (.int p1), .val (.int p2), .val (.int n), .val (.int a), .val (.ref b9), .unset, .unset, .unset, .unset, .unset] [(.long (((2 : Int64) * (a.toInt64)) + (1 : Int64)))])) t
          refine Own.nmJ hv10 ?_
          show Steps p.tables e below (T9.setTop (mkF m 67 #[.val (.int p0), .val (.int p1), .val (.int p2), .val (.int n), .val (.int a), .val (.ref b9), .unset, .unset, .unset, .unset, .unset] [(.long v10)])) t
          refine XS.lstore X9.here hx rfl (hb hby at_67) rfl (l' := #[.val (.int p0), .val (.int p1), .val (.int p2), .val (.int n), .val (.int a), .val (.ref b9), .val (.long v10), .second, .unset, .unset, .unset]) rfl ?_
          show Steps p.tables e below (T9.setTop (mkF m 69 #[.val (.int p0), .val (.int p1), .val (.int p2), .val (.int n), .val (.int a), .val (.ref b9), .val (.long v10), .second, .unset, .unset, .unset] [])) t
          refine X9.ldc2Long hx hown (mvT hZ (hw _ (List.mem_of_getElem? (i := 19) rfl))) (g := (mkF m 69 #[.val (.int p0), .val (.int p1), .val (.int p2), .val (.int n), .val (.int a), .val (.ref b9), .val (.long v10), .second, .unset, .unset, .unset] [])) rfl (hb hby at_69) _ ?_
          show Steps p.tables e below (T9.setTop (mkF m 72 #[.val (.int p0), .val (.int p1), .val (.int p2), .val (.int n), .val (.int a), .val (.ref b9), .val (.long v10), .second, .unset, .unset, .unset] [(.long (2 : Int64))])) t
          refine XS.iload X9.here hx rfl (hb hby at_72) rfl ?_
          show Steps p.tables e below (T9.setTop (mkF m 74 #[.val (.int p0), .val (.int p1), .val (.int p2), .val (.int n), .val (.int a), .val (.ref b9), .val (.long v10), .second, .unset, .unset, .unset] [(.int a), (.long (2 : Int64))])) t
          refine XS.i2l X9.here hx rfl (hb hby at_74) rfl ?_
          show Steps p.tables e below (T9.setTop (mkF m 75 #[.val (.int p0), .val (.int p1), .val (.int p2), .val (.int n), .val (.int a), .val (.ref b9), .val (.long v10), .second, .unset, .unset, .unset] [(.long (a.toInt64)), (.long (2 : Int64))])) t
          refine XS.lmul X9.here hx rfl (hb hby at_75) rfl ?_
          show Steps p.tables e below (T9.setTop (mkF m 76 #[.val (.int p0), .val (.int p1), .val (.int p2), .val (.int n), .val (.int a), .val (.ref b9), .val (.long v10), .second, .unset, .unset, .unset] [(.long ((2 : Int64) * (a.toInt64)))])) t
          refine X9.ldc2Long hx hown (mvT hZ (hw _ (List.mem_of_getElem? (i := 19) rfl))) (g := (mkF m 76 #[.val (.int p0), .val (.int p1), .val (.int p2), .val (.int n), .val (.int a), .val (.ref b9), .val (.long v10), .second, .unset, .unset, .unset] [(.long ((2 : Int64) * (a.toInt64)))])) rfl (hb hby at_76) _ ?_
          show Steps p.tables e below (T9.setTop (mkF m 79 #[.val (.int p0), .val (.int p1), .val (.int p2), .val (.int n), .val (.int a), .val (.ref b9), .val (.long v10), .second, .unset, .unset, .unset] [(.long (2 : Int64)), (.long ((2 : Int64) * (a.toInt64)))])) t
          refine XS.ladd X9.here hx rfl (hb hby at_79) rfl ?_
          show Steps p.tables e below (T9.setTop (mkF m 80 #[.val (.int p0), .val (.int p1), .val (.int p2), .val (.int n), .val (.int a), .val (.ref b9), .val (.long v10), .second, .unset, .unset, .unset] [(.long (((2 : Int64) * (a.toInt64)) + (2 : Int64)))])) t
          refine Own.nmJ hv11 ?_
          show Steps p.tables e below (T9.setTop (mkF m 80 #[.val (.int p0), .val (.int p1), .val (.int p2), .val (.int n), .val (.int a), .val (.ref b9), .val (.long v10), .second, .unset, .unset, .unset] [(.long v11)])) t
          refine XS.lstore X9.here hx rfl (hb hby at_80) rfl (l' := #[.val (.int p0), .val (.int p1), .val (.int p2), .val (.int n), .val (.int a), .val (.ref b9), .val (.long v10), .second, .val (.long v11), .second, .unset]) rfl ?_
          show Steps p.tables e below (T9.setTop (mkF m 82 #[.val (.int p0), .val (.int p1), .val (.int p2), .val (.int n), .val (.int a), .val (.ref b9), .val (.long v10), .second, .val (.long v11), .second, .unset] [])) t
          refine XS.lload X9.here hx rfl (hb hby at_82) rfl ?_
          show Steps p.tables e below (T9.setTop (mkF m 84 #[.val (.int p0), .val (.int p1), .val (.int p2), .val (.int n), .val (.int a), .val (.ref b9), .val (.long v10), .second, .val (.long v11), .second, .unset] [(.long v10)])) t
          refine XS.iloadN X9.here hx rfl (hb hby at_84) rfl ?_
          show Steps p.tables e below (T9.setTop (mkF m 85 #[.val (.int p0), .val (.int p1), .val (.int p2), .val (.int n), .val (.int a), .val (.ref b9), .val (.long v10), .second, .val (.long v11), .second, .unset] [(.int n), (.long v10)])) t
          refine XS.i2l X9.here hx rfl (hb hby at_85) rfl ?_
          show Steps p.tables e below (T9.setTop (mkF m 86 #[.val (.int p0), .val (.int p1), .val (.int p2), .val (.int n), .val (.int a), .val (.ref b9), .val (.long v10), .second, .val (.long v11), .second, .unset] [(.long (n.toInt64)), (.long v10)])) t
          refine XS.lcmp X9.here hx rfl (hb hby at_86) rfl ?_
          show Steps p.tables e below (T9.setTop (mkF m 87 #[.val (.int p0), .val (.int p1), .val (.int p2), .val (.int n), .val (.int a), .val (.ref b9), .val (.long v10), .second, .val (.long v11), .second, .unset] [(.int (lcmpW v10 (n.toInt64)))])) t
          exact k
        have hc12 : ¬ (v10 < (n.toInt64)) := by rw [hv10]; exact hx1
        refine hD _ (T9.setTop (mkF m 100 #[.val (.int p0), .val (.int p1), .val (.int p2), .val (.int n), .val (.int a), .val (.ref b9), .val (.long v10), .second, .val (.long v11), .second, .unset] [(.int (lcmpW v11 (n.toInt64))), (.int (0 : Int32))])) (fun t k => ?_) ?_
        · show Steps p.tables e below (T9.setTop (mkF m 87 #[.val (.int p0), .val (.int p1), .val (.int p2), .val (.int n), .val (.int a), .val (.ref b9), .val (.long v10), .second, .val (.long v11), .second, .unset] [(.int (lcmpW v10 (n.toInt64)))])) t
          refine XS.ifYes X9.here hx rfl (pc0 := 87) (pc' := 94) rfl (hb hby at_87) rfl ((if0 _ _).trans (flt (fun q => hc12 ((lw_lt v10 (n.toInt64)).mp q))).2.1) (by decide) (by decide) ?_
          show Steps p.tables e below (T9.setTop (mkF m 94 #[.val (.int p0), .val (.int p1), .val (.int p2), .val (.int n), .val (.int a), .val (.ref b9), .val (.long v10), .second, .val (.long v11), .second, .unset] [])) t
          refine XS.iconst X9.here hx rfl (hb hby at_94) ?_
          show Steps p.tables e below (T9.setTop (mkF m 95 #[.val (.int p0), .val (.int p1), .val (.int p2), .val (.int n), .val (.int a), .val (.ref b9), .val (.long v10), .second, .val (.long v11), .second, .unset] [(.int (0 : Int32))])) t
          refine XS.lload X9.here hx rfl (hb hby at_95) rfl ?_
          show Steps p.tables e below (T9.setTop (mkF m 97 #[.val (.int p0), .val (.int p1), .val (.int p2), .val (.int n), .val (.int a), .val (.ref b9), .val (.long v10), .second, .val (.long v11), .second, .unset] [(.long v11), (.int (0 : Int32))])) t
          refine XS.iloadN X9.here hx rfl (hb hby at_97) rfl ?_
          show Steps p.tables e below (T9.setTop (mkF m 98 #[.val (.int p0), .val (.int p1), .val (.int p2), .val (.int n), .val (.int a), .val (.ref b9), .val (.long v10), .second, .val (.long v11), .second, .unset] [(.int n), (.long v11), (.int (0 : Int32))])) t
          refine XS.i2l X9.here hx rfl (hb hby at_98) rfl ?_
          show Steps p.tables e below (T9.setTop (mkF m 99 #[.val (.int p0), .val (.int p1), .val (.int p2), .val (.int n), .val (.int a), .val (.ref b9), .val (.long v10), .second, .val (.long v11), .second, .unset] [(.long (n.toInt64)), (.long v11), (.int (0 : Int32))])) t
          refine XS.lcmp X9.here hx rfl (hb hby at_99) rfl ?_
          show Steps p.tables e below (T9.setTop (mkF m 100 #[.val (.int p0), .val (.int p1), .val (.int p2), .val (.int n), .val (.int a), .val (.ref b9), .val (.long v10), .second, .val (.long v11), .second, .unset] [(.int (lcmpW v11 (n.toInt64))), (.int (0 : Int32))])) t
          exact k
        have hc13 : ¬ (v11 < (n.toInt64)) := by
          have rn := rng32 n
          have k1 : (1 : Int64).toInt = 1 := by decide
          have q : (2 * a.toInt64 + 1 + 1 : Int64).toInt = 2 * a.toInt + 2 := by rw [Jvm.Kit.i64_add, own_c1 ha, k1] <;> (try rw [own_c1 ha, k1]) <;> omega
          rw [own_ltJ, own_c1 ha, Jvm.Kit.i64_of_i32] at hx1
          rw [hv11, own_c2 ha, own_ltJ, q, Jvm.Kit.i64_of_i32]; omega
        refine hD _ (T9.setTop (mkF m 175 #[.val (.int p0), .val (.int p1), .val (.int p2), .val (.int n), .val (.int a), .val (.ref b9), .val (.long v10), .second, .val (.long v11), .second, .val (.int (0 : Int32))] [(.int (1 : Int32))])) (fun t k => ?_) ?_
        · show Steps p.tables e below (T9.setTop (mkF m 100 #[.val (.int p0), .val (.int p1), .val (.int p2), .val (.int n), .val (.int a), .val (.ref b9), .val (.long v10), .second, .val (.long v11), .second, .unset] [(.int (lcmpW v11 (n.toInt64))), (.int (0 : Int32))])) t
          refine XS.ifYes X9.here hx rfl (pc0 := 100) (pc' := 107) rfl (hb hby at_100) rfl ((if0 _ _).trans (flt (fun q => hc13 ((lw_lt v11 (n.toInt64)).mp q))).2.1) (by decide) (by decide) ?_
          show Steps p.tables e below (T9.setTop (mkF m 107 #[.val (.int p0), .val (.int p1), .val (.int p2), .val (.int n), .val (.int a), .val (.ref b9), .val (.long v10), .second, .val (.long v11), .second, .unset] [(.int (0 : Int32))])) t
          refine XS.iconst X9.here hx rfl (hb hby at_107) ?_
          show Steps p.tables e below (T9.setTop (mkF m 108 #[.val (.int p0), .val (.int p1), .val (.int p2), .val (.int n), .val (.int a), .val (.ref b9), .val (.long v10), .second, .val (.long v11), .second, .unset] [(.int (0 : Int32)), (.int (0 : Int32))])) t
          refine XS.iadd X9.here hx rfl (hb hby at_108) rfl ?_
          show Steps p.tables e below (T9.setTop (mkF m 109 #[.val (.int p0), .val (.int p1), .val (.int p2), .val (.int n), .val (.int a), .val (.ref b9), .val (.long v10), .second, .val (.long v11), .second, .unset] [(.int ((0 : Int32) + (0 : Int32)))])) t
          refine Own.nmI (by decide : (0 : Int32) = ((0 : Int32) + (0 : Int32))) ?_
          show Steps p.tables e below (T9.setTop (mkF m 109 #[.val (.int p0), .val (.int p1), .val (.int p2), .val (.int n), .val (.int a), .val (.ref b9), .val (.long v10), .second, .val (.long v11), .second, .unset] [(.int (0 : Int32))])) t
          refine XS.istore X9.here hx rfl (hb hby at_109) rfl (l' := #[.val (.int p0), .val (.int p1), .val (.int p2), .val (.int n), .val (.int a), .val (.ref b9), .val (.long v10), .second, .val (.long v11), .second, .val (.int (0 : Int32))]) rfl ?_
          show Steps p.tables e below (T9.setTop (mkF m 111 #[.val (.int p0), .val (.int p1), .val (.int p2), .val (.int n), .val (.int a), .val (.ref b9), .val (.long v10), .second, .val (.long v11), .second, .val (.int (0 : Int32))] [])) t
          refine XS.aload X9.here hx rfl (hb hby at_111) rfl rfl ?_
          show Steps p.tables e below (T9.setTop (mkF m 113 #[.val (.int p0), .val (.int p1), .val (.int p2), .val (.int n), .val (.int a), .val (.ref b9), .val (.long v10), .second, .val (.long v11), .second, .val (.int (0 : Int32))] [(.ref b9)])) t
          refine Own.lenI X9 hx hZ rfl A_9 (g := (mkF m 113 #[.val (.int p0), .val (.int p1), .val (.int p2), .val (.int n), .val (.int a), .val (.ref b9), .val (.long v10), .second, .val (.long v11), .second, .val (.int (0 : Int32))] [(.ref b9)])) rfl rfl (hb hby at_113) _ ?_
          show Steps p.tables e below (T9.setTop (mkF m 114 #[.val (.int p0), .val (.int p1), .val (.int p2), .val (.int n), .val (.int a), .val (.ref b9), .val (.long v10), .second, .val (.long v11), .second, .val (.int (0 : Int32))] [(.int (Int32.ofNat 0))])) t
          refine Own.nmI (by decide : (0 : Int32) = (Int32.ofNat 0)) ?_
          show Steps p.tables e below (T9.setTop (mkF m 114 #[.val (.int p0), .val (.int p1), .val (.int p2), .val (.int n), .val (.int a), .val (.ref b9), .val (.long v10), .second, .val (.long v11), .second, .val (.int (0 : Int32))] [(.int (0 : Int32))])) t
          refine XS.iload X9.here hx rfl (hb hby at_114) rfl ?_
          show Steps p.tables e below (T9.setTop (mkF m 116 #[.val (.int p0), .val (.int p1), .val (.int p2), .val (.int n), .val (.int a), .val (.ref b9), .val (.long v10), .second, .val (.long v11), .second, .val (.int (0 : Int32))] [(.int (0 : Int32)), (.int (0 : Int32))])) t
          refine XS.icmpYes X9.here hx rfl (pc0 := 116) (pc' := 121) rfl (hb hby at_116) rfl (by decide) (by decide) (by decide) ?_
          show Steps p.tables e below (T9.setTop (mkF m 121 #[.val (.int p0), .val (.int p1), .val (.int p2), .val (.int n), .val (.int a), .val (.ref b9), .val (.long v10), .second, .val (.long v11), .second, .val (.int (0 : Int32))] [])) t
          refine XS.iload X9.here hx rfl (hb hby at_121) rfl ?_
          show Steps p.tables e below (T9.setTop (mkF m 123 #[.val (.int p0), .val (.int p1), .val (.int p2), .val (.int n), .val (.int a), .val (.ref b9), .val (.long v10), .second, .val (.long v11), .second, .val (.int (0 : Int32))] [(.int (0 : Int32))])) t
          refine XS.iconst X9.here hx rfl (hb hby at_123) ?_
          show Steps p.tables e below (T9.setTop (mkF m 124 #[.val (.int p0), .val (.int p1), .val (.int p2), .val (.int n), .val (.int a), .val (.ref b9), .val (.long v10), .second, .val (.long v11), .second, .val (.int (0 : Int32))] [(.int (1 : Int32)), (.int (0 : Int32))])) t
          refine XS.icmpYes X9.here hx rfl (pc0 := 124) (pc' := 142) rfl (hb hby at_124) rfl (by decide) (by decide) (by decide) ?_
          show Steps p.tables e below (T9.setTop (mkF m 142 #[.val (.int p0), .val (.int p1), .val (.int p2), .val (.int n), .val (.int a), .val (.ref b9), .val (.long v10), .second, .val (.long v11), .second, .val (.int (0 : Int32))] [])) t
          refine XS.iload X9.here hx rfl (hb hby at_142) rfl ?_
          show Steps p.tables e below (T9.setTop (mkF m 144 #[.val (.int p0), .val (.int p1), .val (.int p2), .val (.int n), .val (.int a), .val (.ref b9), .val (.long v10), .second, .val (.long v11), .second, .val (.int (0 : Int32))] [(.int (0 : Int32))])) t
          refine XS.iconst X9.here hx rfl (hb hby at_144) ?_
          show Steps p.tables e below (T9.setTop (mkF m 145 #[.val (.int p0), .val (.int p1), .val (.int p2), .val (.int n), .val (.int a), .val (.ref b9), .val (.long v10), .second, .val (.long v11), .second, .val (.int (0 : Int32))] [(.int (2 : Int32)), (.int (0 : Int32))])) t
          refine XS.icmpYes X9.here hx rfl (pc0 := 145) (pc' := 174) rfl (hb hby at_145) rfl (by decide) (by decide) (by decide) ?_
          show Steps p.tables e below (T9.setTop (mkF m 174 #[.val (.int p0), .val (.int p1), .val (.int p2), .val (.int n), .val (.int a), .val (.ref b9), .val (.long v10), .second, .val (.long v11), .second, .val (.int (0 : Int32))] [])) t
          refine XS.iconst X9.here hx rfl (hb hby at_174) ?_
          show Steps p.tables e below (T9.setTop (mkF m 175 #[.val (.int p0), .val (.int p1), .val (.int p2), .val (.int n), .val (.int a), .val (.ref b9), .val (.long v10), .second, .val (.long v11), .second, .val (.int (0 : Int32))] [(.int (1 : Int32))])) t
          exact k
        exact Own.retN hR X9 hx (t := .boolean) hret (by simp) (hb hby at_175) (by decide) (by decide) (by decide) ⟨rfl, N9⟩
      · obtain ⟨v14, hv14⟩ : ∃ z : Int64, z = (((2 : Int64) * (a.toInt64)) + (1 : Int64)) := ⟨_, rfl⟩
        obtain ⟨v15, hv15⟩ : ∃ z : Int64, z = (((2 : Int64) * (a.toInt64)) + (2 : Int64)) := ⟨_, rfl⟩
        refine hD _ (T9.setTop (mkF m 87 #[.val (.int p0), .val (.int p1), .val (.int p2), .val (.int n), .val (.int a), .val (.ref b9), .val (.long v14), .second, .val (.long v15), .second, .unset] [(.int (lcmpW v14 (n.toInt64)))])) (fun t k => ?_) ?_
        · show Steps p.tables e below (T9.setTop (mkF m 49 #[.val (.int p0), .val (.int p1), .val (.int p2), .val (.int n), .val (.int a), .unset, .unset, .unset, .unset, .unset, .unset] [(.ref b9)])) t
          refine XS.astore X9.here hx rfl (hb hby at_49) rfl rfl (l' := #[.val (.int p0), .val (.int p1), .val (.int p2), .val (.int n), .val (.int a), .val (.ref b9), .unset, .unset, .unset, .unset, .unset]) rfl ?_
          show Steps p.tables e below (T9.setTop (mkF m 51 #[.val (.int p0), .val (.int p1), .val (.int p2), .val (.int n), .val (.int a), .val (.ref b9), .unset, .unset, .unset, .unset, .unset] [])) t
          refine XS.aload X9.here hx rfl (hb hby at_51) rfl rfl ?_
          show Steps p.tables e below (T9.setTop (mkF m 53 #[.val (.int p0), .val (.int p1), .val (.int p2), .val (.int n), .val (.int a), .val (.ref b9), .unset, .unset, .unset, .unset, .unset] [(.ref b9)])) t
          refine XS.ifnonnullYes X9.here hx rfl (pc0 := 53) (pc' := 58) rfl (hb hby at_53) rfl (by decide) (by decide) ?_
          show Steps p.tables e below (T9.setTop (mkF m 58 #[.val (.int p0), .val (.int p1), .val (.int p2), .val (.int n), .val (.int a), .val (.ref b9), .unset, .unset, .unset, .unset, .unset] [])) t
          refine X9.ldc2Long hx hown (mvT hZ (hw _ (List.mem_of_getElem? (i := 19) rfl))) (g := (mkF m 58 #[.val (.int p0), .val (.int p1), .val (.int p2), .val (.int n), .val (.int a), .val (.ref b9), .unset, .unset, .unset, .unset, .unset] [])) rfl (hb hby at_58) _ ?_
          show Steps p.tables e below (T9.setTop (mkF m 61 #[.val (.int p0), .val (.int p1), .val (.int p2), .val (.int n), .val (.int a), .val (.ref b9), .unset, .unset, .unset, .unset, .unset] [(.long (2 : Int64))])) t
          refine XS.iload X9.here hx rfl (hb hby at_61) rfl ?_
          show Steps p.tables e below (T9.setTop (mkF m 63 #[.val (.int p0), .val (.int p1), .val (.int p2), .val (.int n), .val (.int a), .val (.ref b9), .unset, .unset, .unset, .unset, .unset] [(.int a), (.long (2 : Int64))])) t
          refine XS.i2l X9.here hx rfl (hb hby at_63) rfl ?_
          show Steps p.tables e below (T9.setTop (mkF m 64 #[.val (.int p0), .val (.int p1), .val (.int p2), .val (.int n), .val (.int a), .val (.ref b9), .unset, .unset, .unset, .unset, .unset] [(.long (a.toInt64)), (.long (2 : Int64))])) t
          refine XS.lmul X9.here hx rfl (hb hby at_64) rfl ?_
          show Steps p.tables e below (T9.setTop (mkF m 65 #[.val (.int p0), .val (.int p1), .val (.int p2), .val (.int n), .val (.int a), .val (.ref b9), .unset, .unset, .unset, .unset, .unset] [(.long ((2 : Int64) * (a.toInt64)))])) t
          refine XS.lconst X9.here hx rfl (hb hby at_65) ?_
          show Steps p.tables e below (T9.setTop (mkF m 66 #[.val (.int p0), .val (.int p1), .val (.int p2), .val (.int n), .val (.int a), .val (.ref b9), .unset, .unset, .unset, .unset, .unset] [(.long (1 : Int64)), (.long ((2 : Int64) * (a.toInt64)))])) t
          refine XS.ladd X9.here hx rfl (hb hby at_66) rfl ?_
          show Steps p.tables e below (T9.setTop (mkF m 67 #[.val (.int p0), .val (.int p1), .val (.int p2), .val (.int n), .val (.int a), .val (.ref b9), .unset, .unset, .unset, .unset, .unset] [(.long (((2 : Int64) * (a.toInt64)) + (1 : Int64)))])) t
          refine Own.nmJ hv14 ?_
          show Steps p.tables e below (T9.setTop (mkF m 67 #[.val (.int p0), .val (.int p1), .val (.int p2), .val (.int n), .val (.int a), .val (.ref b9), .unset, .unset, .unset, .unset, .unset] [(.long v14)])) t
          refine XS.lstore X9.here hx rfl (hb hby at_67) rfl (l' := #[.val (.int p0), .val (.int p1), .val (.int p2), .val (.int n), .val (.int a), .val (.ref b9), .val (.long v14), .second, .unset, .unset, .unset]) rfl ?_
          show Steps p.tables e below (T9.setTop (mkF m 69 #[.val (.int p0), .val (.int p1), .val (.int p2), .val (.int n), .val (.int a), .val (.ref b9), .val (.long v14), .second, .unset, .unset, .unset] [])) t
          refine X9.ldc2Long hx hown (mvT hZ (hw _ (List.mem_of_getElem? (i := 19) rfl))) (g := (mkF m 69 #[.val (.int p0), .val (.int p1), .val (.int p2), .val (.int n), .val (.int a), .val (.ref b9), .val (.long v14), .second, .unset, .unset, .unset] [])) rfl (hb hby at_69) _ ?_
          show Steps p.tables e below (T9.setTop (mkF m 72 #[.val (.int p0), .val (.int p1), .val (.int p2), .val (.int n), .val (.int a), .val (.ref b9), .val (.long v14), .second, .unset, .unset, .unset] [(.long (2 : Int64))])) t
          refine XS.iload X9.here hx rfl (hb hby at_72) rfl ?_
          show Steps p.tables e below (T9.setTop (mkF m 74 #[.val (.int p0), .val (.int p1), .val (.int p2), .val (.int n), .val (.int a), .val (.ref b9), .val (.long v14), .second, .unset, .unset, .unset] [(.int a), (.long (2 : Int64))])) t
          refine XS.i2l X9.here hx rfl (hb hby at_74) rfl ?_
          show Steps p.tables e below (T9.setTop (mkF m 75 #[.val (.int p0), .val (.int p1), .val (.int p2), .val (.int n), .val (.int a), .val (.ref b9), .val (.long v14), .second, .unset, .unset, .unset] [(.long (a.toInt64)), (.long (2 : Int64))])) t
          refine XS.lmul X9.here hx rfl (hb hby at_75) rfl ?_
          show Steps p.tables e below (T9.setTop (mkF m 76 #[.val (.int p0), .val (.int p1), .val (.int p2), .val (.int n), .val (.int a), .val (.ref b9), .val (.long v14), .second, .unset, .unset, .unset] [(.long ((2 : Int64) * (a.toInt64)))])) t
          refine X9.ldc2Long hx hown (mvT hZ (hw _ (List.mem_of_getElem? (i := 19) rfl))) (g := (mkF m 76 #[.val (.int p0), .val (.int p1), .val (.int p2), .val (.int n), .val (.int a), .val (.ref b9), .val (.long v14), .second, .unset, .unset, .unset] [(.long ((2 : Int64) * (a.toInt64)))])) rfl (hb hby at_76) _ ?_
          show Steps p.tables e below (T9.setTop (mkF m 79 #[.val (.int p0), .val (.int p1), .val (.int p2), .val (.int n), .val (.int a), .val (.ref b9), .val (.long v14), .second, .unset, .unset, .unset] [(.long (2 : Int64)), (.long ((2 : Int64) * (a.toInt64)))])) t
          refine XS.ladd X9.here hx rfl (hb hby at_79) rfl ?_
          show Steps p.tables e below (T9.setTop (mkF m 80 #[.val (.int p0), .val (.int p1), .val (.int p2), .val (.int n), .val (.int a), .val (.ref b9), .val (.long v14), .second, .unset, .unset, .unset] [(.long (((2 : Int64) * (a.toInt64)) + (2 : Int64)))])) t
          refine Own.nmJ hv15 ?_
          show Steps p.tables e below (T9.setTop (mkF m 80 #[.val (.int p0), .val (.int p1), .val (.int p2), .val (.int n), .val (.int a), .val (.ref b9), .val (.long v14), .second, .unset, .unset, .unset] [(.long v15)])) t
          refine XS.lstore X9.here hx rfl (hb hby at_80) rfl (l' := #[.val (.int p0), .val (.int p1), .val (.int p2), .val (.int n), .val (.int a), .val (.ref b9), .val (.long v14), .second, .val (.long v15), .second, .unset]) rfl ?_
          show Steps p.tables e below (T9.setTop (mkF m 82 #[.val (.int p0), .val (.int p1), .val (.int p2), .val (.int n), .val (.int a), .val (.ref b9), .val (.long v14), .second, .val (.long v15), .second, .unset] [])) t
          refine XS.lload X9.here hx rfl (hb hby at_82) rfl ?_
          show Steps p.tables e below (T9.setTop (mkF m 84 #[.val (.int p0), .val (.int p1), .val (.int p2), .val (.int n), .val (.int a), .val (.ref b9), .val (.long v14), .second, .val (.long v15), .second, .unset] [(.long v14)])) t
          refine XS.iloadN X9.here hx rfl (hb hby at_84) rfl ?_
          show Steps p.tables e below (T9.setTop (mkF m 85 #[.val (.int p0), .val (.int p1), .val (.int p2), .val (.int n), .val (.int a), .val (.ref b9), .val (.long v14), .second, .val (.long v15), .second, .unset] [(.int n), (.long v14)])) t
          refine XS.i2l X9.here hx rfl (hb hby at_85) rfl ?_
          show Steps p.tables e below (T9.setTop (mkF m 86 #[.val (.int p0), .val (.int p1), .val (.int p2), .val (.int n), .val (.int a), .val (.ref b9), .val (.long v14), .second, .val (.long v15), .second, .unset] [(.long (n.toInt64)), (.long v14)])) t
          refine XS.lcmp X9.here hx rfl (hb hby at_86) rfl ?_
          show Steps p.tables e below (T9.setTop (mkF m 87 #[.val (.int p0), .val (.int p1), .val (.int p2), .val (.int n), .val (.int a), .val (.ref b9), .val (.long v14), .second, .val (.long v15), .second, .unset] [(.int (lcmpW v14 (n.toInt64)))])) t
          exact k
        have hc16 : v14 < (n.toInt64) := by rw [hv14]; exact hx1
        refine hD _ (T9.setTop (mkF m 100 #[.val (.int p0), .val (.int p1), .val (.int p2), .val (.int n), .val (.int a), .val (.ref b9), .val (.long v14), .second, .val (.long v15), .second, .unset] [(.int (lcmpW v15 (n.toInt64))), (.int (1 : Int32))])) (fun t k => ?_) ?_
        · show Steps p.tables e below (T9.setTop (mkF m 87 #[.val (.int p0), .val (.int p1), .val (.int p2), .val (.int n), .val (.int a), .val (.ref b9), .val (.long v14), .second, .val (.long v15), .second, .unset] [(.int (lcmpW v14 (n.toInt64)))])) t
          refine XS.ifNo X9.here hx rfl (hb hby at_87) rfl ((if0 _ _).trans (tlt ((lw_lt v14 (n.toInt64)).mpr hc16)).2.1) ?_
          show Steps p.tables e below (T9.setTop (mkF m 90 #[.val (.int p0), .val (.int p1), .val (.int p2), .val (.int n), .val (.int a), .val (.ref b9), .val (.long v14), .second, .val (.long v15), .second, .unset] [])) t
          refine XS.iconst X9.here hx rfl (hb hby at_90) ?_
          show Steps p.tables e below (T9.setTop (mkF m 91 #[.val (.int p0), .val (.int p1), .val (.int p2), .val (.int n), .val (.int a), .val (.ref b9), .val (.long v14), .second, .val (.long v15), .second, .unset] [(.int (1 : Int32))])) t
          refine XS.goto X9.here hx rfl (pc0 := 91) (pc' := 95) rfl (hb hby at_91) (by decide) (by decide) ?_
          show Steps p.tables e below (T9.setTop (mkF m 95 #[.val (.int p0), .val (.int p1), .val (.int p2), .val (.int n), .val (.int a), .val (.ref b9), .val (.long v14), .second, .val (.long v15), .second, .unset] [(.int (1 : Int32))])) t
          refine XS.lload X9.here hx rfl (hb hby at_95) rfl ?_
          show Steps p.tables e below (T9.setTop (mkF m 97 #[.val (.int p0), .val (.int p1), .val (.int p2), .val (.int n), .val (.int a), .val (.ref b9), .val (.long v14), .second, .val (.long v15), .second, .unset] [(.long v15), (.int (1 : Int32))])) t
          refine XS.iloadN X9.here hx rfl (hb hby at_97) rfl ?_
          show Steps p.tables e below (T9.setTop (mkF m 98 #[.val (.int p0), .val (.int p1), .val (.int p2), .val (.int n), .val (.int a), .val (.ref b9), .val (.long v14), .second, .val (.long v15), .second, .unset] [(.int n), (.long v15), (.int (1 : Int32))])) t
          refine XS.i2l X9.here hx rfl (hb hby at_98) rfl ?_
          show Steps p.tables e below (T9.setTop (mkF m 99 #[.val (.int p0), .val (.int p1), .val (.int p2), .val (.int n), .val (.int a), .val (.ref b9), .val (.long v14), .second, .val (.long v15), .second, .unset] [(.long (n.toInt64)), (.long v15), (.int (1 : Int32))])) t
          refine XS.lcmp X9.here hx rfl (hb hby at_99) rfl ?_
          show Steps p.tables e below (T9.setTop (mkF m 100 #[.val (.int p0), .val (.int p1), .val (.int p2), .val (.int n), .val (.int a), .val (.ref b9), .val (.long v14), .second, .val (.long v15), .second, .unset] [(.int (lcmpW v15 (n.toInt64))), (.int (1 : Int32))])) t
          exact k
        have hc17 : ¬ (v15 < (n.toInt64)) := by rw [hv15, own_c2 ha]; exact hx2
        have hj18 : 0 ≤ (0 : Int32).toInt ∧ (0 : Int32).toInt < (1 : Nat) := ⟨by decide, by decide⟩
        obtain ⟨T19, _, L19, X19, ⟨rfl, Nq19, e19⟩, st19⟩ := Own.callS (y := (⟨"com/example/ballast/ballast/engine/lspa/IndexTreeChildrenPinLaw", "isChild", "(III)Z"⟩ : MethodName)) (W := 0) (argsL := [(.int (f9 0)), (.int a), (.int n)]) (rest := []) X9 hx hZ hown (hw _ (List.mem_of_getElem? (i := 20) rfl)) (hw _ (List.mem_of_getElem? (i := 21) rfl)) (hw _ (List.mem_of_getElem? (i := 22) rfl)) (hw _ (List.mem_of_getElem? (i := 23) rfl)) (by decide) rfl (rm4 l Z a0 hw [] (f9 0) a n  T9.heap n0 ) (by decide) (by decide) (by decide) (by decide) (g := (mkF m 134 #[.val (.int p0), .val (.int p1), .val (.int p2), .val (.int n), .val (.int a), .val (.ref b9), .val (.long v14), .second, .val (.long v15), .second, .val (.int (1 : Int32))] [(.int n), (.int a), (.int (f9 0))])) rfl (by rw [hml]; rfl) (lenOf pd_2 rfl) rfl (by show 2 * 0 + _ ≤ _; exact Nat.le_of_eq rfl) (hb hby at_134)
        have N19 := Fr.app N9 Nq19
        refine hD _ (T19.setTop (mkF m 137 #[.val (.int p0), .val (.int p1), .val (.int p2), .val (.int n), .val (.int a), .val (.ref b9), .val (.long v14), .second, .val (.long v15), .second, .val (.int (1 : Int32))] [(.int (Own.b2i (own_child (f9 0) a n)))])) (fun t k => ?_) ?_
        · show Steps p.tables e below (T9.setTop (mkF m 100 #[.val (.int p0), .val (.int p1), .val (.int p2), .val (.int n), .val (.int a), .val (.ref b9), .val (.long v14), .second, .val (.long v15), .second, .unset] [(.int (lcmpW v15 (n.toInt64))), (.int (1 : Int32))])) t
          refine XS.ifYes X9.here hx rfl (pc0 := 100) (pc' := 107) rfl (hb hby at_100) rfl ((if0 _ _).trans (flt (fun q => hc17 ((lw_lt v15 (n.toInt64)).mp q))).2.1) (by decide) (by decide) ?_
          show Steps p.tables e below (T9.setTop (mkF m 107 #[.val (.int p0), .val (.int p1), .val (.int p2), .val (.int n), .val (.int a), .val (.ref b9), .val (.long v14), .second, .val (.long v15), .second, .unset] [(.int (1 : Int32))])) t
          refine XS.iconst X9.here hx rfl (hb hby at_107) ?_
          show Steps p.tables e below (T9.setTop (mkF m 108 #[.val (.int p0), .val (.int p1), .val (.int p2), .val (.int n), .val (.int a), .val (.ref b9), .val (.long v14), .second, .val (.long v15), .second, .unset] [(.int (0 : Int32)), (.int (1 : Int32))])) t
          refine XS.iadd X9.here hx rfl (hb hby at_108) rfl ?_
          show Steps p.tables e below (T9.setTop (mkF m 109 #[.val (.int p0), .val (.int p1), .val (.int p2), .val (.int n), .val (.int a), .val (.ref b9), .val (.long v14), .second, .val (.long v15), .second, .unset] [(.int ((1 : Int32) + (0 : Int32)))])) t
          refine Own.nmI (by decide : (1 : Int32) = ((1 : Int32) + (0 : Int32))) ?_
          show Steps p.tables e below (T9.setTop (mkF m 109 #[.val (.int p0), .val (.int p1), .val (.int p2), .val (.int n), .val (.int a), .val (.ref b9), .val (.long v14), .second, .val (.long v15), .second, .unset] [(.int (1 : Int32))])) t
          refine XS.istore X9.here hx rfl (hb hby at_109) rfl (l' := #[.val (.int p0), .val (.int p1), .val (.int p2), .val (.int n), .val (.int a), .val (.ref b9), .val (.long v14), .second, .val (.long v15), .second, .val (.int (1 : Int32))]) rfl ?_
          show Steps p.tables e below (T9.setTop (mkF m 111 #[.val (.int p0), .val (.int p1), .val (.int p2), .val (.int n), .val (.int a), .val (.ref b9), .val (.long v14), .second, .val (.long v15), .second, .val (.int (1 : Int32))] [])) t
          refine XS.aload X9.here hx rfl (hb hby at_111) rfl rfl ?_
          show Steps p.tables e below (T9.setTop (mkF m 113 #[.val (.int p0), .val (.int p1), .val (.int p2), .val (.int n), .val (.int a), .val (.ref b9), .val (.long v14), .second, .val (.long v15), .second, .val (.int (1 : Int32))] [(.ref b9)])) t
          refine Own.lenI X9 hx hZ rfl A_9 (g := (mkF m 113 #[.val (.int p0), .val (.int p1), .val (.int p2), .val (.int n), .val (.int a), .val (.ref b9), .val (.long v14), .second, .val (.long v15), .second, .val (.int (1 : Int32))] [(.ref b9)])) rfl rfl (hb hby at_113) _ ?_
          show Steps p.tables e below (T9.setTop (mkF m 114 #[.val (.int p0), .val (.int p1), .val (.int p2), .val (.int n), .val (.int a), .val (.ref b9), .val (.long v14), .second, .val (.long v15), .second, .val (.int (1 : Int32))] [(.int (Int32.ofNat 1))])) t
          refine Own.nmI (by decide : (1 : Int32) = (Int32.ofNat 1)) ?_
          show Steps p.tables e below (T9.setTop (mkF m 114 #[.val (.int p0), .val (.int p1), .val (.int p2), .val (.int n), .val (.int a), .val (.ref b9), .val (.long v14), .second, .val (.long v15), .second, .val (.int (1 : Int32))] [(.int (1 : Int32))])) t
          refine XS.iload X9.here hx rfl (hb hby at_114) rfl ?_
          show Steps p.tables e below (T9.setTop (mkF m 116 #[.val (.int p0), .val (.int p1), .val (.int p2), .val (.int n), .val (.int a), .val (.ref b9), .val (.long v14), .second, .val (.long v15), .second, .val (.int (1 : Int32))] [(.int (1 : Int32)), (.int (1 : Int32))])) t
          refine XS.icmpYes X9.here hx rfl (pc0 := 116) (pc' := 121) rfl (hb hby at_116) rfl (by decide) (by decide) (by decide) ?_
          show Steps p.tables e below (T9.setTop (mkF m 121 #[.val (.int p0), .val (.int p1), .val (.int p2), .val (.int n), .val (.int a), .val (.ref b9), .val (.long v14), .second, .val (.long v15), .second, .val (.int (1 : Int32))] [])) t
          refine XS.iload X9.here hx rfl (hb hby at_121) rfl ?_
          show Steps p.tables e below (T9.setTop (mkF m 123 #[.val (.int p0), .val (.int p1), .val (.int p2), .val (.int n), .val (.int a), .val (.ref b9), .val (.long v14), .second, .val (.long v15), .second, .val (.int (1 : Int32))] [(.int (1 : Int32))])) t
          refine XS.iconst X9.here hx rfl (hb hby at_123) ?_
          show Steps p.tables e below (T9.setTop (mkF m 124 #[.val (.int p0), .val (.int p1), .val (.int p2), .val (.int n), .val (.int a), .val (.ref b9), .val (.long v14), .second, .val (.long v15), .second, .val (.int (1 : Int32))] [(.int (1 : Int32)), (.int (1 : Int32))])) t
          refine XS.icmpNo X9.here hx rfl (hb hby at_124) rfl (by decide) ?_
          show Steps p.tables e below (T9.setTop (mkF m 127 #[.val (.int p0), .val (.int p1), .val (.int p2), .val (.int n), .val (.int a), .val (.ref b9), .val (.long v14), .second, .val (.long v15), .second, .val (.int (1 : Int32))] [])) t
          refine XS.aload X9.here hx rfl (hb hby at_127) rfl rfl ?_
          show Steps p.tables e below (T9.setTop (mkF m 129 #[.val (.int p0), .val (.int p1), .val (.int p2), .val (.int n), .val (.int a), .val (.ref b9), .val (.long v14), .second, .val (.long v15), .second, .val (.int (1 : Int32))] [(.ref b9)])) t
          refine XS.iconst X9.here hx rfl (hb hby at_129) ?_
          show Steps p.tables e below (T9.setTop (mkF m 130 #[.val (.int p0), .val (.int p1), .val (.int p2), .val (.int n), .val (.int a), .val (.ref b9), .val (.long v14), .second, .val (.long v15), .second, .val (.int (1 : Int32))] [(.int (0 : Int32)), (.ref b9)])) t
          refine Own.ldI X9 hx hZ rfl A_9 hj18 (g := (mkF m 130 #[.val (.int p0), .val (.int p1), .val (.int p2), .val (.int n), .val (.int a), .val (.ref b9), .val (.long v14), .second, .val (.long v15), .second, .val (.int (1 : Int32))] [(.int (0 : Int32)), (.ref b9)])) rfl rfl (hb hby at_130) _ ?_
          show Steps p.tables e below (T9.setTop (mkF m 131 #[.val (.int p0), .val (.int p1), .val (.int p2), .val (.int n), .val (.int a), .val (.ref b9), .val (.long v14), .second, .val (.long v15), .second, .val (.int (1 : Int32))] [(.int (f9 0))])) t
          refine XS.iload X9.here hx rfl (hb hby at_131) rfl ?_
          show Steps p.tables e below (T9.setTop (mkF m 133 #[.val (.int p0), .val (.int p1), .val (.int p2), .val (.int n), .val (.int a), .val (.ref b9), .val (.long v14), .second, .val (.long v15), .second, .val (.int (1 : Int32))] [(.int a), (.int (f9 0))])) t
          refine XS.iloadN X9.here hx rfl (hb hby at_133) rfl ?_
          show Steps p.tables e below (T9.setTop (mkF m 134 #[.val (.int p0), .val (.int p1), .val (.int p2), .val (.int n), .val (.int a), .val (.ref b9), .val (.long v14), .second, .val (.long v15), .second, .val (.int (1 : Int32))] [(.int n), (.int a), (.int (f9 0))])) t
          refine st19 _ ?_
          show Steps p.tables e below (T19.setTop (mkF m 137 #[.val (.int p0), .val (.int p1), .val (.int p2), .val (.int n), .val (.int a), .val (.ref b9), .val (.long v14), .second, .val (.long v15), .second, .val (.int (1 : Int32))] [(.int (Own.b2i (own_child (f9 0) a n)))])) t
          exact k
        have hc20 : (own_child (f9 0) a n) = true := (own_e0 ha hx1 hf0).2
        refine hD _ (T19.setTop (mkF m 175 #[.val (.int p0), .val (.int p1), .val (.int p2), .val (.int n), .val (.int a), .val (.ref b9), .val (.long v14), .second, .val (.long v15), .second, .val (.int (1 : Int32))] [(.int (1 : Int32))])) (fun t k => ?_) ?_
        · show Steps p.tables e below (T19.setTop (mkF m 137 #[.val (.int p0), .val (.int p1), .val (.int p2), .val (.int n), .val (.int a), .val (.ref b9), .val (.long v14), .second, .val (.long v15), .second, .val (.int (1 : Int32))] [(.int (Own.b2i (own_child (f9 0) a n)))])) t
          refine XS.ifYes X19.here hx rfl (pc0 := 137) (pc' := 142) rfl (hb hby at_137) rfl ((if0 _ _).trans (feq (fun q => Own.b2i_eq0.mp q hc20)).2) (by decide) (by decide) ?_
          show Steps p.tables e below (T19.setTop (mkF m 142 #[.val (.int p0), .val (.int p1), .val (.int p2), .val (.int n), .val (.int a), .val (.ref b9), .val (.long v14), .second, .val (.long v15), .second, .val (.int (1 : Int32))] [])) t
          refine XS.iload X19.here hx rfl (hb hby at_142) rfl ?_
          show Steps p.tables e below (T19.setTop (mkF m 144 #[.val (.int p0), .val (.int p1), .val (.int p2), .val (.int n), .val (.int a), .val (.ref b9), .val (.long v14), .second, .val (.long v15), .second, .val (.int (1 : Int32))] [(.int (1 : Int32))])) t
          refine XS.iconst X19.here hx rfl (hb hby at_144) ?_
          show Steps p.tables e below (T19.setTop (mkF m 145 #[.val (.int p0), .val (.int p1), .val (.int p2), .val (.int n), .val (.int a), .val (.ref b9), .val (.long v14), .second, .val (.long v15), .second, .val (.int (1 : Int32))] [(.int (2 : Int32)), (.int (1 : Int32))])) t
          refine XS.icmpYes X19.here hx rfl (pc0 := 145) (pc' := 174) rfl (hb hby at_145) rfl (by decide) (by decide) (by decide) ?_
          show Steps p.tables e below (T19.setTop (mkF m 174 #[.val (.int p0), .val (.int p1), .val (.int p2), .val (.int n), .val (.int a), .val (.ref b9), .val (.long v14), .second, .val (.long v15), .second, .val (.int (1 : Int32))] [])) t
          refine XS.iconst X19.here hx rfl (hb hby at_174) ?_
          show Steps p.tables e below (T19.setTop (mkF m 175 #[.val (.int p0), .val (.int p1), .val (.int p2), .val (.int n), .val (.int a), .val (.ref b9), .val (.long v14), .second, .val (.long v15), .second, .val (.int (1 : Int32))] [(.int (1 : Int32))])) t
          exact k
        exact Own.retN hR X19 hx (t := .boolean) hret (by simp) (hb hby at_175) (by decide) (by decide) (by decide) ⟨rfl, N19⟩
      · obtain ⟨v21, hv21⟩ : ∃ z : Int64, z = (((2 : Int64) * (a.toInt64)) + (1 : Int64)) := ⟨_, rfl⟩
        obtain ⟨v22, hv22⟩ : ∃ z : Int64, z = (((2 : Int64) * (a.toInt64)) + (2 : Int64)) := ⟨_, rfl⟩
        refine hD _ (T9.setTop (mkF m 87 #[.val (.int p0), .val (.int p1), .val (.int p2), .val (.int n), .val (.int a), .val (.ref b9), .val (.long v21), .second, .val (.long v22), .second, .unset] [(.int (lcmpW v21 (n.toInt64)))])) (fun t k => ?_) ?_
        · show Steps p.tables e below (T9.setTop (mkF m 49 #[.val (.int p0), .val (.int p1), .val (.int p2), .val (.int n), .val (.int a), .unset, .unset, .unset, .unset, .unset, .unset] [(.ref b9)])) t
          refine XS.astore X9.here hx rfl (hb hby at_49) rfl rfl (l' := #[.val (.int p0), .val (.int p1), .val (.int p2), .val (.int n), .val (.int a), .val (.ref b9), .unset, .unset, .unset, .unset, .unset]) rfl ?_
          show Steps p.tables e below (T9.setTop (mkF m 51 #[.val (.int p0), .val (.int p1), .val (.int p2), .val (.int n), .val (.int a), .val (.ref b9), .unset, .unset, .unset, .unset, .unset] [])) t
          refine XS.aload X9.here hx rfl (hb hby at_51) rfl rfl ?_
          show Steps p.tables e below (T9.setTop (mkF m 53 #[.val (.int p0), .val (.int p1), .val (.int p2), .val (.int n), .val (.int a), .val (.ref b9), .unset, .unset, .unset, .unset, .unset] [(.ref b9)])) t
          refine XS.ifnonnullYes X9.here hx rfl (pc0 := 53) (pc' := 58) rfl (hb hby at_53) rfl (by decide) (by decide) ?_
          show Steps p.tables e below (T9.setTop (mkF m 58 #[.val (.int p0), .val (.int p1), .val (.int p2), .val (.int n), .val (.int a), .val (.ref b9), .unset, .unset, .unset, .unset, .unset] [])) t
          refine X9.ldc2Long hx hown (mvT hZ (hw _ (List.mem_of_getElem? (i := 19) rfl))) (g := (mkF m 58 #[.val (.int p0), .val (.int p1), .val (.int p2), .val (.int n), .val (.int a), .val (.ref b9), .unset, .unset, .unset, .unset, .unset] [])) rfl (hb hby at_58) _ ?_
          show Steps p.tables e below (T9.setTop (mkF m 61 #[.val (.int p0), .val (.int p1), .val (.int p2), .val (.int n), .val (.int a), .val (.ref b9), .unset, .unset, .unset, .unset, .unset] [(.long (2 : Int64))])) t
          refine XS.iload X9.here hx rfl (hb hby at_61) rfl ?_
          show Steps p.tables e below (T9.setTop (mkF m 63 #[.val (.int p0), .val (.int p1), .val (.int p2), .val (.int n), .val (.int a), .val (.ref b9), .unset, .unset, .unset, .unset, .unset] [(.int a), (.long (2 : Int64))])) t
          refine XS.i2l X9.here hx rfl (hb hby at_63) rfl ?_
          show Steps p.tables e below (T9.setTop (mkF m 64 #[.val (.int p0), .val (.int p1), .val (.int p2), .val (.int n), .val (.int a), .val (.ref b9), .unset, .unset, .unset, .unset, .unset] [(.long (a.toInt64)), (.long (2 : Int64))])) t
          refine XS.lmul X9.here hx rfl (hb hby at_64) rfl ?_
          show Steps p.tables e below (T9.setTop (mkF m 65 #[.val (.int p0), .val (.int p1), .val (.int p2), .val (.int n), .val (.int a), .val (.ref b9), .unset, .unset, .unset, .unset, .unset] [(.long ((2 : Int64) * (a.toInt64)))])) t
          refine XS.lconst X9.here hx rfl (hb hby at_65) ?_
          show Steps p.tables e below (T9.setTop (mkF m 66 #[.val (.int p0), .val (.int p1), .val (.int p2), .val (.int n), .val (.int a), .val (.ref b9), .unset, .unset, .unset, .unset, .unset] [(.long (1 : Int64)), (.long ((2 : Int64) * (a.toInt64)))])) t
          refine XS.ladd X9.here hx rfl (hb hby at_66) rfl ?_
          show Steps p.tables e below (T9.setTop (mkF m 67 #[.val (.int p0), .val (.int p1), .val (.int p2), .val (.int n), .val (.int a), .val (.ref b9), .unset, .unset, .unset, .unset, .unset] [(.long (((2 : Int64) * (a.toInt64)) + (1 : Int64)))])) t
          refine Own.nmJ hv21 ?_
          show Steps p.tables e below (T9.setTop (mkF m 67 #[.val (.int p0), .val (.int p1), .val (.int p2), .val (.int n), .val (.int a), .val (.ref b9), .unset, .unset, .unset, .unset, .unset] [(.long v21)])) t
          refine XS.lstore X9.here hx rfl (hb hby at_67) rfl (l' := #[.val (.int p0), .val (.int p1), .val (.int p2), .val (.int n), .val (.int a), .val (.ref b9), .val (.long v21), .second, .unset, .unset, .unset]) rfl ?_
          show Steps p.tables e below (T9.setTop (mkF m 69 #[.val (.int p0), .val (.int p1), .val (.int p2), .val (.int n), .val (.int a), .val (.ref b9), .val (.long v21), .second, .unset, .unset, .unset] [])) t
          refine X9.ldc2Long hx hown (mvT hZ (hw _ (List.mem_of_getElem? (i := 19) rfl))) (g := (mkF m 69 #[.val (.int p0), .val (.int p1), .val (.int p2), .val (.int n), .val (.int a), .val (.ref b9), .val (.long v21), .second, .unset, .unset, .unset] [])) rfl (hb hby at_69) _ ?_
          show Steps p.tables e below (T9.setTop (mkF m 72 #[.val (.int p0), .val (.int p1), .val (.int p2), .val (.int n), .val (.int a), .val (.ref b9), .val (.long v21), .second, .unset, .unset, .unset] [(.long (2 : Int64))])) t
          refine XS.iload X9.here hx rfl (hb hby at_72) rfl ?_
          show Steps p.tables e below (T9.setTop (mkF m 74 #[.val (.int p0), .val (.int p1), .val (.int p2), .val (.int n), .val (.int a), .val (.ref b9), .val (.long v21), .second, .unset, .unset, .unset] [(.int a), (.long (2 : Int64))])) t
          refine XS.i2l X9.here hx rfl (hb hby at_74) rfl ?_
          show Steps p.tables e below (T9.setTop (mkF m 75 #[.val (.int p0), .val (.int p1), .val (.int p2), .val (.int n), .val (.int a), .val (.ref b9), .val (.long v21), .second, .unset, .unset, .unset] [(.long (a.toInt64)), (.long (2 : Int64))])) t
          refine XS.lmul X9.here hx rfl (hb hby at_75) rfl ?_
          show Steps p.tables e below (T9.setTop (mkF m 76 #[.val (.int p0), .val (.int p1), .val (.int p2), .val (.int n), .val (.int a), .val (.ref b9), .val (.long v21), .second, .unset, .unset, .unset] [(.long ((2 : Int64) * (a.toInt64)))])) t
          refine X9.ldc2Long hx hown (mvT hZ (hw _ (List.mem_of_getElem? (i := 19) rfl))) (g := (mkF m 76 #[.val (.int p0), .val (.int p1), .val (.int p2), .val (.int n), .val (.int a), .val (.ref b9), .val (.long v21), .second, .unset, .unset, .unset] [(.long ((2 : Int64) * (a.toInt64)))])) rfl (hb hby at_76) _ ?_
          show Steps p.tables e below (T9.setTop (mkF m 79 #[.val (.int p0), .val (.int p1), .val (.int p2), .val (.int n), .val (.int a), .val (.ref b9), .val (.long v21), .second, .unset, .unset, .unset] [(.long (2 : Int64)), (.long ((2 : Int64) * (a.toInt64)))])) t
          refine XS.ladd X9.here hx rfl (hb hby at_79) rfl ?_
          show Steps p.tables e below (T9.setTop (mkF m 80 #[.val (.int p0), .val (.int p1), .val (.int p2), .val (.int n), .val (.int a), .val (.ref b9), .val (.long v21), .second, .unset, .unset, .unset] [(.long (((2 : Int64) * (a.toInt64)) + (2 : Int64)))])) t
          refine Own.nmJ hv22 ?_
          show Steps p.tables e below (T9.setTop (mkF m 80 #[.val (.int p0), .val (.int p1), .val (.int p2), .val (.int n), .val (.int a), .val (.ref b9), .val (.long v21), .second, .unset, .unset, .unset] [(.long v22)])) t
          refine XS.lstore X9.here hx rfl (hb hby at_80) rfl (l' := #[.val (.int p0), .val (.int p1), .val (.int p2), .val (.int n), .val (.int a), .val (.ref b9), .val (.long v21), .second, .val (.long v22), .second, .unset]) rfl ?_
          show Steps p.tables e below (T9.setTop (mkF m 82 #[.val (.int p0), .val (.int p1), .val (.int p2), .val (.int n), .val (.int a), .val (.ref b9), .val (.long v21), .second, .val (.long v22), .second, .unset] [])) t
          refine XS.lload X9.here hx rfl (hb hby at_82) rfl ?_
          show Steps p.tables e below (T9.setTop (mkF m 84 #[.val (.int p0), .val (.int p1), .val (.int p2), .val (.int n), .val (.int a), .val (.ref b9), .val (.long v21), .second, .val (.long v22), .second, .unset] [(.long v21)])) t
          refine XS.iloadN X9.here hx rfl (hb hby at_84) rfl ?_
          show Steps p.tables e below (T9.setTop (mkF m 85 #[.val (.int p0), .val (.int p1), .val (.int p2), .val (.int n), .val (.int a), .val (.ref b9), .val (.long v21), .second, .val (.long v22), .second, .unset] [(.int n), (.long v21)])) t
          refine XS.i2l X9.here hx rfl (hb hby at_85) rfl ?_
          show Steps p.tables e below (T9.setTop (mkF m 86 #[.val (.int p0), .val (.int p1), .val (.int p2), .val (.int n), .val (.int a), .val (.ref b9), .val (.long v21), .second, .val (.long v22), .second, .unset] [(.long (n.toInt64)), (.long v21)])) t
          refine XS.lcmp X9.here hx rfl (hb hby at_86) rfl ?_
          show Steps p.tables e below (T9.setTop (mkF m 87 #[.val (.int p0), .val (.int p1), .val (.int p2), .val (.int n), .val (.int a), .val (.ref b9), .val (.long v21), .second, .val (.long v22), .second, .unset] [(.int (lcmpW v21 (n.toInt64)))])) t
          exact k
        have hc23 : v21 < (n.toInt64) := by rw [hv21]; exact hx1
        refine hD _ (T9.setTop (mkF m 100 #[.val (.int p0), .val (.int p1), .val (.int p2), .val (.int n), .val (.int a), .val (.ref b9), .val (.long v21), .second, .val (.long v22), .second, .unset] [(.int (lcmpW v22 (n.toInt64))), (.int (1 : Int32))])) (fun t k => ?_) ?_
        · show Steps p.tables e below (T9.setTop (mkF m 87 #[.val (.int p0), .val (.int p1), .val (.int p2), .val (.int n), .val (.int a), .val (.ref b9), .val (.long v21), .second, .val (.long v22), .second, .unset] [(.int (lcmpW v21 (n.toInt64)))])) t
          refine XS.ifNo X9.here hx rfl (hb hby at_87) rfl ((if0 _ _).trans (tlt ((lw_lt v21 (n.toInt64)).mpr hc23)).2.1) ?_
          show Steps p.tables e below (T9.setTop (mkF m 90 #[.val (.int p0), .val (.int p1), .val (.int p2), .val (.int n), .val (.int a), .val (.ref b9), .val (.long v21), .second, .val (.long v22), .second, .unset] [])) t
          refine XS.iconst X9.here hx rfl (hb hby at_90) ?_
          show Steps p.tables e below (T9.setTop (mkF m 91 #[.val (.int p0), .val (.int p1), .val (.int p2), .val (.int n), .val (.int a), .val (.ref b9), .val (.long v21), .second, .val (.long v22), .second, .unset] [(.int (1 : Int32))])) t
          refine XS.goto X9.here hx rfl (pc0 := 91) (pc' := 95) rfl (hb hby at_91) (by decide) (by decide) ?_
          show Steps p.tables e below (T9.setTop (mkF m 95 #[.val (.int p0), .val (.int p1), .val (.int p2), .val (.int n), .val (.int a), .val (.ref b9), .val (.long v21), .second, .val (.long v22), .second, .unset] [(.int (1 : Int32))])) t
          refine XS.lload X9.here hx rfl (hb hby at_95) rfl ?_
          show Steps p.tables e below (T9.setTop (mkF m 97 #[.val (.int p0), .val (.int p1), .val (.int p2), .val (.int n), .val (.int a), .val (.ref b9), .val (.long v21), .second, .val (.long v22), .second, .unset] [(.long v22), (.int (1 : Int32))])) t
          refine XS.iloadN X9.here hx rfl (hb hby at_97) rfl ?_
          show Steps p.tables e below (T9.setTop (mkF m 98 #[.val (.int p0), .val (.int p1), .val (.int p2), .val (.int n), .val (.int a), .val (.ref b9), .val (.long v21), .second, .val (.long v22), .second, .unset] [(.int n), (.long v22), (.int (1 : Int32))])) t
          refine XS.i2l X9.here hx rfl (hb hby at_98) rfl ?_
          show Steps p.tables e below (T9.setTop (mkF m 99 #[.val (.int p0), .val (.int p1), .val (.int p2), .val (.int n), .val (.int a), .val (.ref b9), .val (.long v21), .second, .val (.long v22), .second, .unset] [(.long (n.toInt64)), (.long v22), (.int (1 : Int32))])) t
          refine XS.lcmp X9.here hx rfl (hb hby at_99) rfl ?_
          show Steps p.tables e below (T9.setTop (mkF m 100 #[.val (.int p0), .val (.int p1), .val (.int p2), .val (.int n), .val (.int a), .val (.ref b9), .val (.long v21), .second, .val (.long v22), .second, .unset] [(.int (lcmpW v22 (n.toInt64))), (.int (1 : Int32))])) t
          exact k
        have hc24 : v22 < (n.toInt64) := by rw [hv22, own_c2 ha]; exact hx2
        have hj25 : 0 ≤ (0 : Int32).toInt ∧ (0 : Int32).toInt < (2 : Nat) := ⟨by decide, by decide⟩
        obtain ⟨T26, _, L26, X26, ⟨rfl, Nq26, e26⟩, st26⟩ := Own.callS (y := (⟨"com/example/ballast/ballast/engine/lspa/IndexTreeChildrenPinLaw", "isChild", "(III)Z"⟩ : MethodName)) (W := 0) (argsL := [(.int (f9 0)), (.int a), (.int n)]) (rest := []) X9 hx hZ hown (hw _ (List.mem_of_getElem? (i := 20) rfl)) (hw _ (List.mem_of_getElem? (i := 21) rfl)) (hw _ (List.mem_of_getElem? (i := 22) rfl)) (hw _ (List.mem_of_getElem? (i := 23) rfl)) (by decide) rfl (rm4 l Z a0 hw [] (f9 0) a n  T9.heap n0 ) (by decide) (by decide) (by decide) (by decide) (g := (mkF m 134 #[.val (.int p0), .val (.int p1), .val (.int p2), .val (.int n), .val (.int a), .val (.ref b9), .val (.long v21), .second, .val (.long v22), .second, .val (.int (2 : Int32))] [(.int n), (.int a), (.int (f9 0))])) rfl (by rw [hml]; rfl) (lenOf pd_2 rfl) rfl (by show 2 * 0 + _ ≤ _; exact Nat.le_of_eq rfl) (hb hby at_134)
        have N26 := Fr.app N9 Nq26
        refine hD _ (T26.setTop (mkF m 137 #[.val (.int p0), .val (.int p1), .val (.int p2), .val (.int n), .val (.int a), .val (.ref b9), .val (.long v21), .second, .val (.long v22), .second, .val (.int (2 : Int32))] [(.int (Own.b2i (own_child (f9 0) a n)))])) (fun t k => ?_) ?_
        · show Steps p.tables e below (T9.setTop (mkF m 100 #[.val (.int p0), .val (.int p1), .val (.int p2), .val (.int n), .val (.int a), .val (.ref b9), .val (.long v21), .second, .val (.long v22), .second, .unset] [(.int (lcmpW v22 (n.toInt64))), (.int (1 : Int32))])) t
          refine XS.ifNo X9.here hx rfl (hb hby at_100) rfl ((if0 _ _).trans (tlt ((lw_lt v22 (n.toInt64)).mpr hc24)).2.1) ?_
          show Steps p.tables e below (T9.setTop (mkF m 103 #[.val (.int p0), .val (.int p1), .val (.int p2), .val (.int n), .val (.int a), .val (.ref b9), .val (.long v21), .second, .val (.long v22), .second, .unset] [(.int (1 : Int32))])) t
          refine XS.iconst X9.here hx rfl (hb hby at_103) ?_
          show Steps p.tables e below (T9.setTop (mkF m 104 #[.val (.int p0), .val (.int p1), .val (.int p2), .val (.int n), .val (.int a), .val (.ref b9), .val (.long v21), .second, .val (.long v22), .second, .unset] [(.int (1 : Int32)), (.int (1 : Int32))])) t
          refine XS.goto X9.here hx rfl (pc0 := 104) (pc' := 108) rfl (hb hby at_104) (by decide) (by decide) ?_
          show Steps p.tables e below (T9.setTop (mkF m 108 #[.val (.int p0), .val (.int p1), .val (.int p2), .val (.int n), .val (.int a), .val (.ref b9), .val (.long v21), .second, .val (.long v22), .second, .unset] [(.int (1 : Int32)), (.int (1 : Int32))])) t
          refine XS.iadd X9.here hx rfl (hb hby at_108) rfl ?_
          show Steps p.tables e below (T9.setTop (mkF m 109 #[.val (.int p0), .val (.int p1), .val (.int p2), .val (.int n), .val (.int a), .val (.ref b9), .val (.long v21), .second, .val (.long v22), .second, .unset] [(.int ((1 : Int32) + (1 : Int32)))])) t
          refine Own.nmI (by decide : (2 : Int32) = ((1 : Int32) + (1 : Int32))) ?_
          show Steps p.tables e below (T9.setTop (mkF m 109 #[.val (.int p0), .val (.int p1), .val (.int p2), .val (.int n), .val (.int a), .val (.ref b9), .val (.long v21), .second, .val (.long v22), .second, .unset] [(.int (2 : Int32))])) t
          refine XS.istore X9.here hx rfl (hb hby at_109) rfl (l' := #[.val (.int p0), .val (.int p1), .val (.int p2), .val (.int n), .val (.int a), .val (.ref b9), .val (.long v21), .second, .val (.long v22), .second, .val (.int (2 : Int32))]) rfl ?_
          show Steps p.tables e below (T9.setTop (mkF m 111 #[.val (.int p0), .val (.int p1), .val (.int p2), .val (.int n), .val (.int a), .val (.ref b9), .val (.long v21), .second, .val (.long v22), .second, .val (.int (2 : Int32))] [])) t
          refine XS.aload X9.here hx rfl (hb hby at_111) rfl rfl ?_
          show Steps p.tables e below (T9.setTop (mkF m 113 #[.val (.int p0), .val (.int p1), .val (.int p2), .val (.int n), .val (.int a), .val (.ref b9), .val (.long v21), .second, .val (.long v22), .second, .val (.int (2 : Int32))] [(.ref b9)])) t
          refine Own.lenI X9 hx hZ rfl A_9 (g := (mkF m 113 #[.val (.int p0), .val (.int p1), .val (.int p2), .val (.int n), .val (.int a), .val (.ref b9), .val (.long v21), .second, .val (.long v22), .second, .val (.int (2 : Int32))] [(.ref b9)])) rfl rfl (hb hby at_113) _ ?_
          show Steps p.tables e below (T9.setTop (mkF m 114 #[.val (.int p0), .val (.int p1), .val (.int p2), .val (.int n), .val (.int a), .val (.ref b9), .val (.long v21), .second, .val (.long v22), .second, .val (.int (2 : Int32))] [(.int (Int32.ofNat 2))])) t
          refine Own.nmI (by decide : (2 : Int32) = (Int32.ofNat 2)) ?_
          show Steps p.tables e below (T9.setTop (mkF m 114 #[.val (.int p0), .val (.int p1), .val (.int p2), .val (.int n), .val (.int a), .val (.ref b9), .val (.long v21), .second, .val (.long v22), .second, .val (.int (2 : Int32))] [(.int (2 : Int32))])) t
          refine XS.iload X9.here hx rfl (hb hby at_114) rfl ?_
          show Steps p.tables e below (T9.setTop (mkF m 116 #[.val (.int p0), .val (.int p1), .val (.int p2), .val (.int n), .val (.int a), .val (.ref b9), .val (.long v21), .second, .val (.long v22), .second, .val (.int (2 : Int32))] [(.int (2 : Int32)), (.int (2 : Int32))])) t
          refine XS.icmpYes X9.here hx rfl (pc0 := 116) (pc' := 121) rfl (hb hby at_116) rfl (by decide) (by decide) (by decide) ?_
          show Steps p.tables e below (T9.setTop (mkF m 121 #[.val (.int p0), .val (.int p1), .val (.int p2), .val (.int n), .val (.int a), .val (.ref b9), .val (.long v21), .second, .val (.long v22), .second, .val (.int (2 : Int32))] [])) t
          refine XS.iload X9.here hx rfl (hb hby at_121) rfl ?_
          show Steps p.tables e below (T9.setTop (mkF m 123 #[.val (.int p0), .val (.int p1), .val (.int p2), .val (.int n), .val (.int a), .val (.ref b9), .val (.long v21), .second, .val (.long v22), .second, .val (.int (2 : Int32))] [(.int (2 : Int32))])) t
          refine XS.iconst X9.here hx rfl (hb hby at_123) ?_
          show Steps p.tables e below (T9.setTop (mkF m 124 #[.val (.int p0), .val (.int p1), .val (.int p2), .val (.int n), .val (.int a), .val (.ref b9), .val (.long v21), .second, .val (.long v22), .second, .val (.int (2 : Int32))] [(.int (1 : Int32)), (.int (2 : Int32))])) t
          refine XS.icmpNo X9.here hx rfl (hb hby at_124) rfl (by decide) ?_
          show Steps p.tables e below (T9.setTop (mkF m 127 #[.val (.int p0), .val (.int p1), .val (.int p2), .val (.int n), .val (.int a), .val (.ref b9), .val (.long v21), .second, .val (.long v22), .second, .val (.int (2 : Int32))] [])) t
          refine XS.aload X9.here hx rfl (hb hby at_127) rfl rfl ?_
          show Steps p.tables e below (T9.setTop (mkF m 129 #[.val (.int p0), .val (.int p1), .val (.int p2), .val (.int n), .val (.int a), .val (.ref b9), .val (.long v21), .second, .val (.long v22), .second, .val (.int (2 : Int32))] [(.ref b9)])) t
          refine XS.iconst X9.here hx rfl (hb hby at_129) ?_
          show Steps p.tables e below (T9.setTop (mkF m 130 #[.val (.int p0), .val (.int p1), .val (.int p2), .val (.int n), .val (.int a), .val (.ref b9), .val (.long v21), .second, .val (.long v22), .second, .val (.int (2 : Int32))] [(.int (0 : Int32)), (.ref b9)])) t
          refine Own.ldI X9 hx hZ rfl A_9 hj25 (g := (mkF m 130 #[.val (.int p0), .val (.int p1), .val (.int p2), .val (.int n), .val (.int a), .val (.ref b9), .val (.long v21), .second, .val (.long v22), .second, .val (.int (2 : Int32))] [(.int (0 : Int32)), (.ref b9)])) rfl rfl (hb hby at_130) _ ?_
          show Steps p.tables e below (T9.setTop (mkF m 131 #[.val (.int p0), .val (.int p1), .val (.int p2), .val (.int n), .val (.int a), .val (.ref b9), .val (.long v21), .second, .val (.long v22), .second, .val (.int (2 : Int32))] [(.int (f9 0))])) t
          refine XS.iload X9.here hx rfl (hb hby at_131) rfl ?_
          show Steps p.tables e below (T9.setTop (mkF m 133 #[.val (.int p0), .val (.int p1), .val (.int p2), .val (.int n), .val (.int a), .val (.ref b9), .val (.long v21), .second, .val (.long v22), .second, .val (.int (2 : Int32))] [(.int a), (.int (f9 0))])) t
          refine XS.iloadN X9.here hx rfl (hb hby at_133) rfl ?_
          show Steps p.tables e below (T9.setTop (mkF m 134 #[.val (.int p0), .val (.int p1), .val (.int p2), .val (.int n), .val (.int a), .val (.ref b9), .val (.long v21), .second, .val (.long v22), .second, .val (.int (2 : Int32))] [(.int n), (.int a), (.int (f9 0))])) t
          refine st26 _ ?_
          show Steps p.tables e below (T26.setTop (mkF m 137 #[.val (.int p0), .val (.int p1), .val (.int p2), .val (.int n), .val (.int a), .val (.ref b9), .val (.long v21), .second, .val (.long v22), .second, .val (.int (2 : Int32))] [(.int (Own.b2i (own_child (f9 0) a n)))])) t
          exact k
        have hc27 : (own_child (f9 0) a n) = true := (own_e0 ha hx1 hf0).2
        have hj28 : 0 ≤ (1 : Int32).toInt ∧ (1 : Int32).toInt < (2 : Nat) := ⟨by decide, by decide⟩
        obtain ⟨T29, _, L29, X29, ⟨rfl, Nq29, e29⟩, st29⟩ := Own.callS (y := (⟨"com/example/ballast/ballast/engine/lspa/IndexTreeChildrenPinLaw", "isChild", "(III)Z"⟩ : MethodName)) (W := 0) (argsL := [(.int (f9 1)), (.int a), (.int n)]) (rest := []) X26 hx hZ hown (hw _ (List.mem_of_getElem? (i := 20) rfl)) (hw _ (List.mem_of_getElem? (i := 21) rfl)) (hw _ (List.mem_of_getElem? (i := 22) rfl)) (hw _ (List.mem_of_getElem? (i := 23) rfl)) (by decide) e26 (rm4 l Z a0 hw [] (f9 1) a n  T9.heap n0 ) (by decide) (by decide) (by decide) (by decide) (g := (mkF m 155 #[.val (.int p0), .val (.int p1), .val (.int p2), .val (.int n), .val (.int a), .val (.ref b9), .val (.long v21), .second, .val (.long v22), .second, .val (.int (2 : Int32))] [(.int n), (.int a), (.int (f9 1))])) rfl (by rw [hml]; rfl) (lenOf pd_2 rfl) rfl (by show 2 * 0 + _ ≤ _; exact Nat.le_of_eq rfl) (hb hby at_155)
        have N29 := Fr.app N26 Nq29
        refine hD _ (T29.setTop (mkF m 158 #[.val (.int p0), .val (.int p1), .val (.int p2), .val (.int n), .val (.int a), .val (.ref b9), .val (.long v21), .second, .val (.long v22), .second, .val (.int (2 : Int32))] [(.int (Own.b2i (own_child (f9 1) a n)))])) (fun t k => ?_) ?_
        · show Steps p.tables e below (T26.setTop (mkF m 137 #[.val (.int p0), .val (.int p1), .val (.int p2), .val (.int n), .val (.int a), .val (.ref b9), .val (.long v21), .second, .val (.long v22), .second, .val (.int (2 : Int32))] [(.int (Own.b2i (own_child (f9 0) a n)))])) t
          refine XS.ifYes X26.here hx rfl (pc0 := 137) (pc' := 142) rfl (hb hby at_137) rfl ((if0 _ _).trans (feq (fun q => Own.b2i_eq0.mp q hc27)).2) (by decide) (by decide) ?_
          show Steps p.tables e below (T26.setTop (mkF m 142 #[.val (.int p0), .val (.int p1), .val (.int p2), .val (.int n), .val (.int a), .val (.ref b9), .val (.long v21), .second, .val (.long v22), .second, .val (.int (2 : Int32))] [])) t
          refine XS.iload X26.here hx rfl (hb hby at_142) rfl ?_
          show Steps p.tables e below (T26.setTop (mkF m 144 #[.val (.int p0), .val (.int p1), .val (.int p2), .val (.int n), .val (.int a), .val (.ref b9), .val (.long v21), .second, .val (.long v22), .second, .val (.int (2 : Int32))] [(.int (2 : Int32))])) t
          refine XS.iconst X26.here hx rfl (hb hby at_144) ?_
          show Steps p.tables e below (T26.setTop (mkF m 145 #[.val (.int p0), .val (.int p1), .val (.int p2), .val (.int n), .val (.int a), .val (.ref b9), .val (.long v21), .second, .val (.long v22), .second, .val (.int (2 : Int32))] [(.int (2 : Int32)), (.int (2 : Int32))])) t
          refine XS.icmpNo X26.here hx rfl (hb hby at_145) rfl (by decide) ?_
          show Steps p.tables e below (T26.setTop (mkF m 148 #[.val (.int p0), .val (.int p1), .val (.int p2), .val (.int n), .val (.int a), .val (.ref b9), .val (.long v21), .second, .val (.long v22), .second, .val (.int (2 : Int32))] [])) t
          refine XS.aload X26.here hx rfl (hb hby at_148) rfl rfl ?_
          show Steps p.tables e below (T26.setTop (mkF m 150 #[.val (.int p0), .val (.int p1), .val (.int p2), .val (.int n), .val (.int a), .val (.ref b9), .val (.long v21), .second, .val (.long v22), .second, .val (.int (2 : Int32))] [(.ref b9)])) t
          refine XS.iconst X26.here hx rfl (hb hby at_150) ?_
          show Steps p.tables e below (T26.setTop (mkF m 151 #[.val (.int p0), .val (.int p1), .val (.int p2), .val (.int n), .val (.int a), .val (.ref b9), .val (.long v21), .second, .val (.long v22), .second, .val (.int (2 : Int32))] [(.int (1 : Int32)), (.ref b9)])) t
          refine Own.ldI X26 hx hZ e26 A_9 hj28 (g := (mkF m 151 #[.val (.int p0), .val (.int p1), .val (.int p2), .val (.int n), .val (.int a), .val (.ref b9), .val (.long v21), .second, .val (.long v22), .second, .val (.int (2 : Int32))] [(.int (1 : Int32)), (.ref b9)])) rfl rfl (hb hby at_151) _ ?_
          show Steps p.tables e below (T26.setTop (mkF m 152 #[.val (.int p0), .val (.int p1), .val (.int p2), .val (.int n), .val (.int a), .val (.ref b9), .val (.long v21), .second, .val (.long v22), .second, .val (.int (2 : Int32))] [(.int (f9 1))])) t
          refine XS.iload X26.here hx rfl (hb hby at_152) rfl ?_
          show Steps p.tables e below (T26.setTop (mkF m 154 #[.val (.int p0), .val (.int p1), .val (.int p2), .val (.int n), .val (.int a), .val (.ref b9), .val (.long v21), .second, .val (.long v22), .second, .val (.int (2 : Int32))] [(.int a), (.int (f9 1))])) t
          refine XS.iloadN X26.here hx rfl (hb hby at_154) rfl ?_
          show Steps p.tables e below (T26.setTop (mkF m 155 #[.val (.int p0), .val (.int p1), .val (.int p2), .val (.int n), .val (.int a), .val (.ref b9), .val (.long v21), .second, .val (.long v22), .second, .val (.int (2 : Int32))] [(.int n), (.int a), (.int (f9 1))])) t
          refine st29 _ ?_
          show Steps p.tables e below (T29.setTop (mkF m 158 #[.val (.int p0), .val (.int p1), .val (.int p2), .val (.int n), .val (.int a), .val (.ref b9), .val (.long v21), .second, .val (.long v22), .second, .val (.int (2 : Int32))] [(.int (Own.b2i (own_child (f9 1) a n)))])) t
          exact k
        have hc30 : (own_child (f9 1) a n) = true := (own_e1 ha hx2 hf1).2
        have hj31 : 0 ≤ (0 : Int32).toInt ∧ (0 : Int32).toInt < (2 : Nat) := ⟨by decide, by decide⟩
        have hj32 : 0 ≤ (1 : Int32).toInt ∧ (1 : Int32).toInt < (2 : Nat) := ⟨by decide, by decide⟩
        refine hD _ (T29.setTop (mkF m 169 #[.val (.int p0), .val (.int p1), .val (.int p2), .val (.int n), .val (.int a), .val (.ref b9), .val (.long v21), .second, .val (.long v22), .second, .val (.int (2 : Int32))] [(.int (f9 1)), (.int (f9 0))])) (fun t k => ?_) ?_
        · show Steps p.tables e below (T29.setTop (mkF m 158 #[.val (.int p0), .val (.int p1), .val (.int p2), .val (.int n), .val (.int a), .val (.ref b9), .val (.long v21), .second, .val (.long v22), .second, .val (.int (2 : Int32))] [(.int (Own.b2i (own_child (f9 1) a n)))])) t
          refine XS.ifNo X29.here hx rfl (hb hby at_158) rfl ((if0 _ _).trans (feq (fun q => Own.b2i_eq0.mp q hc30)).1) ?_
          show Steps p.tables e below (T29.setTop (mkF m 161 #[.val (.int p0), .val (.int p1), .val (.int p2), .val (.int n), .val (.int a), .val (.ref b9), .val (.long v21), .second, .val (.long v22), .second, .val (.int (2 : Int32))] [])) t
          refine XS.aload X29.here hx rfl (hb hby at_161) rfl rfl ?_
          show Steps p.tables e below (T29.setTop (mkF m 163 #[.val (.int p0), .val (.int p1), .val (.int p2), .val (.int n), .val (.int a), .val (.ref b9), .val (.long v21), .second, .val (.long v22), .second, .val (.int (2 : Int32))] [(.ref b9)])) t
          refine XS.iconst X29.here hx rfl (hb hby at_163) ?_
          show Steps p.tables e below (T29.setTop (mkF m 164 #[.val (.int p0), .val (.int p1), .val (.int p2), .val (.int n), .val (.int a), .val (.ref b9), .val (.long v21), .second, .val (.long v22), .second, .val (.int (2 : Int32))] [(.int (0 : Int32)), (.ref b9)])) t
          refine Own.ldI X29 hx hZ e29 A_9 hj31 (g := (mkF m 164 #[.val (.int p0), .val (.int p1), .val (.int p2), .val (.int n), .val (.int a), .val (.ref b9), .val (.long v21), .second, .val (.long v22), .second, .val (.int (2 : Int32))] [(.int (0 : Int32)), (.ref b9)])) rfl rfl (hb hby at_164) _ ?_
          show Steps p.tables e below (T29.setTop (mkF m 165 #[.val (.int p0), .val (.int p1), .val (.int p2), .val (.int n), .val (.int a), .val (.ref b9), .val (.long v21), .second, .val (.long v22), .second, .val (.int (2 : Int32))] [(.int (f9 0))])) t
          refine XS.aload X29.here hx rfl (hb hby at_165) rfl rfl ?_
          show Steps p.tables e below (T29.setTop (mkF m 167 #[.val (.int p0), .val (.int p1), .val (.int p2), .val (.int n), .val (.int a), .val (.ref b9), .val (.long v21), .second, .val (.long v22), .second, .val (.int (2 : Int32))] [(.ref b9), (.int (f9 0))])) t
          refine XS.iconst X29.here hx rfl (hb hby at_167) ?_
          show Steps p.tables e below (T29.setTop (mkF m 168 #[.val (.int p0), .val (.int p1), .val (.int p2), .val (.int n), .val (.int a), .val (.ref b9), .val (.long v21), .second, .val (.long v22), .second, .val (.int (2 : Int32))] [(.int (1 : Int32)), (.ref b9), (.int (f9 0))])) t
          refine Own.ldI X29 hx hZ e29 A_9 hj32 (g := (mkF m 168 #[.val (.int p0), .val (.int p1), .val (.int p2), .val (.int n), .val (.int a), .val (.ref b9), .val (.long v21), .second, .val (.long v22), .second, .val (.int (2 : Int32))] [(.int (1 : Int32)), (.ref b9), (.int (f9 0))])) rfl rfl (hb hby at_168) _ ?_
          show Steps p.tables e below (T29.setTop (mkF m 169 #[.val (.int p0), .val (.int p1), .val (.int p2), .val (.int n), .val (.int a), .val (.ref b9), .val (.long v21), .second, .val (.long v22), .second, .val (.int (2 : Int32))] [(.int (f9 1)), (.int (f9 0))])) t
          exact k
        have hc33 : (f9 0) < (f9 1) := by rw [own_lt, (own_e0 ha hx1 hf0).1, (own_e1 ha hx2 hf1).1]; omega
        refine hD _ (T29.setTop (mkF m 175 #[.val (.int p0), .val (.int p1), .val (.int p2), .val (.int n), .val (.int a), .val (.ref b9), .val (.long v21), .second, .val (.long v22), .second, .val (.int (2 : Int32))] [(.int (1 : Int32))])) (fun t k => ?_) ?_
        · show Steps p.tables e below (T29.setTop (mkF m 169 #[.val (.int p0), .val (.int p1), .val (.int p2), .val (.int n), .val (.int a), .val (.ref b9), .val (.long v21), .second, .val (.long v22), .second, .val (.int (2 : Int32))] [(.int (f9 1)), (.int (f9 0))])) t
          refine XS.icmpYes X29.here hx rfl (pc0 := 169) (pc' := 174) rfl (hb hby at_169) rfl (tlt hc33).1 (by decide) (by decide) ?_
          show Steps p.tables e below (T29.setTop (mkF m 174 #[.val (.int p0), .val (.int p1), .val (.int p2), .val (.int n), .val (.int a), .val (.ref b9), .val (.long v21), .second, .val (.long v22), .second, .val (.int (2 : Int32))] [])) t
          refine XS.iconst X29.here hx rfl (hb hby at_174) ?_
          show Steps p.tables e below (T29.setTop (mkF m 175 #[.val (.int p0), .val (.int p1), .val (.int p2), .val (.int n), .val (.int a), .val (.ref b9), .val (.long v21), .second, .val (.long v22), .second, .val (.int (2 : Int32))] [(.int (1 : Int32))])) t
          exact k
        exact Own.retN hR X29 hx (t := .boolean) hret (by simp) (hb hby at_175) (by decide) (by decide) (by decide) ⟨rfl, N29⟩
    refine hD _ (T2.setTop (mkF m 22 #[.val (.int p0), .val (.int p1), .val (.int p2), .val (.int n), .val (.int v4), .unset, .unset, .unset, .unset, .unset, .unset] [(.int (p2 &&& (1 : Int32)))])) (fun t k => ?_) ?_
    · show Steps p.tables e below (T2.setTop (mkF m 19 #[.val (.int p0), .val (.int p1), .val (.int p2), .val (.int n), .val (.int v4), .unset, .unset, .unset, .unset, .unset, .unset] [])) t
      refine XS.iloadN X2.here hx rfl (hb hby at_19) rfl ?_
      show Steps p.tables e below (T2.setTop (mkF m 20 #[.val (.int p0), .val (.int p1), .val (.int p2), .val (.int n), .val (.int v4), .unset, .unset, .unset, .unset, .unset, .unset] [(.int p2)])) t
      refine XS.iconst X2.here hx rfl (hb hby at_20) ?_
      show Steps p.tables e below (T2.setTop (mkF m 21 #[.val (.int p0), .val (.int p1), .val (.int p2), .val (.int n), .val (.int v4), .unset, .unset, .unset, .unset, .unset, .unset] [(.int (1 : Int32)), (.int p2)])) t
      refine XS.iand X2.here hx rfl (hb hby at_21) rfl ?_
      show Steps p.tables e below (T2.setTop (mkF m 22 #[.val (.int p0), .val (.int p1), .val (.int p2), .val (.int n), .val (.int v4), .unset, .unset, .unset, .unset, .unset, .unset] [(.int (p2 &&& (1 : Int32)))])) t
      exact k
    by_cases hc34 : (p2 &&& (1 : Int32)) = (0 : Int32)
    · refine hD _ (T2.setTop (mkF m 36 #[.val (.int p0), .val (.int p1), .val (.int p2), .val (.int n), .val (.int v4), .unset, .unset, .unset, .unset, .unset, .unset] [])) (fun t k => ?_) ?_
      · show Steps p.tables e below (T2.setTop (mkF m 22 #[.val (.int p0), .val (.int p1), .val (.int p2), .val (.int n), .val (.int v4), .unset, .unset, .unset, .unset, .unset, .unset] [(.int (p2 &&& (1 : Int32)))])) t
        refine XS.ifYes X2.here hx rfl (pc0 := 22) (pc' := 36) rfl (hb hby at_22) rfl ((if0 _ _).trans (teq hc34).1) (by decide) (by decide) ?_
        show Steps p.tables e below (T2.setTop (mkF m 36 #[.val (.int p0), .val (.int p1), .val (.int p2), .val (.int n), .val (.int v4), .unset, .unset, .unset, .unset, .unset, .unset] [])) t
        exact k
      exact J36 T2 _ v4 X2 e2 N2 (own_a1 hn hv4)
    · have hnz35 : (2 : Int32) ≠ 0 := by decide
      obtain ⟨v36, hv36⟩ : ∃ z : Int32, z = (((n - (1 : Int32)) - (p1 &&& (1 : Int32))) / (2 : Int32)) := ⟨_, rfl⟩
      refine hD _ (T2.setTop (mkF m 36 #[.val (.int p0), .val (.int p1), .val (.int p2), .val (.int n), .val (.int v36), .unset, .unset, .unset, .unset, .unset, .unset] [])) (fun t k => ?_) ?_
      · show Steps p.tables e below (T2.setTop (mkF m 22 #[.val (.int p0), .val (.int p1), .val (.int p2), .val (.int n), .val (.int v4), .unset, .unset, .unset, .unset, .unset, .unset] [(.int (p2 &&& (1 : Int32)))])) t
        refine XS.ifNo X2.here hx rfl (hb hby at_22) rfl ((if0 _ _).trans (feq hc34).1) ?_
        show Steps p.tables e below (T2.setTop (mkF m 25 #[.val (.int p0), .val (.int p1), .val (.int p2), .val (.int n), .val (.int v4), .unset, .unset, .unset, .unset, .unset, .unset] [])) t
        refine XS.iloadN X2.here hx rfl (hb hby at_25) rfl ?_
        show Steps p.tables e below (T2.setTop (mkF m 26 #[.val (.int p0), .val (.int p1), .val (.int p2), .val (.int n), .val (.int v4), .unset, .unset, .unset, .unset, .unset, .unset] [(.int n)])) t
        refine XS.iconst X2.here hx rfl (hb hby at_26) ?_
        show Steps p.tables e below (T2.setTop (mkF m 27 #[.val (.int p0), .val (.int p1), .val (.int p2), .val (.int n), .val (.int v4), .unset, .unset, .unset, .unset, .unset, .unset] [(.int (1 : Int32)), (.int n)])) t
        refine XS.isub X2.here hx rfl (hb hby at_27) rfl ?_
        show Steps p.tables e below (T2.setTop (mkF m 28 #[.val (.int p0), .val (.int p1), .val (.int p2), .val (.int n), .val (.int v4), .unset, .unset, .unset, .unset, .unset, .unset] [(.int (n - (1 : Int32)))])) t
        refine XS.iloadN X2.here hx rfl (hb hby at_28) rfl ?_
        show Steps p.tables e below (T2.setTop (mkF m 29 #[.val (.int p0), .val (.int p1), .val (.int p2), .val (.int n), .val (.int v4), .unset, .unset, .unset, .unset, .unset, .unset] [(.int p1), (.int (n - (1 : Int32)))])) t
        refine XS.iconst X2.here hx rfl (hb hby at_29) ?_
        show Steps p.tables e below (T2.setTop (mkF m 30 #[.val (.int p0), .val (.int p1), .val (.int p2), .val (.int n), .val (.int v4), .unset, .unset, .unset, .unset, .unset, .unset] [(.int (1 : Int32)), (.int p1), (.int (n - (1 : Int32)))])) t
        refine XS.iand X2.here hx rfl (hb hby at_30) rfl ?_
        show Steps p.tables e below (T2.setTop (mkF m 31 #[.val (.int p0), .val (.int p1), .val (.int p2), .val (.int n), .val (.int v4), .unset, .unset, .unset, .unset, .unset, .unset] [(.int (p1 &&& (1 : Int32))), (.int (n - (1 : Int32)))])) t
        refine XS.isub X2.here hx rfl (hb hby at_31) rfl ?_
        show Steps p.tables e below (T2.setTop (mkF m 32 #[.val (.int p0), .val (.int p1), .val (.int p2), .val (.int n), .val (.int v4), .unset, .unset, .unset, .unset, .unset, .unset] [(.int ((n - (1 : Int32)) - (p1 &&& (1 : Int32))))])) t
        refine XS.iconst X2.here hx rfl (hb hby at_32) ?_
        show Steps p.tables e below (T2.setTop (mkF m 33 #[.val (.int p0), .val (.int p1), .val (.int p2), .val (.int n), .val (.int v4), .unset, .unset, .unset, .unset, .unset, .unset] [(.int (2 : Int32)), (.int ((n - (1 : Int32)) - (p1 &&& (1 : Int32))))])) t
        refine XS.idiv X2.here hx rfl (hb hby at_33) rfl hnz35 ?_
        show Steps p.tables e below (T2.setTop (mkF m 34 #[.val (.int p0), .val (.int p1), .val (.int p2), .val (.int n), .val (.int v4), .unset, .unset, .unset, .unset, .unset, .unset] [(.int (((n - (1 : Int32)) - (p1 &&& (1 : Int32))) / (2 : Int32)))])) t
        refine Own.nmI hv36 ?_
        show Steps p.tables e below (T2.setTop (mkF m 34 #[.val (.int p0), .val (.int p1), .val (.int p2), .val (.int n), .val (.int v4), .unset, .unset, .unset, .unset, .unset, .unset] [(.int v36)])) t
        refine XS.istore X2.here hx rfl (hb hby at_34) rfl (l' := #[.val (.int p0), .val (.int p1), .val (.int p2), .val (.int n), .val (.int v36), .unset, .unset, .unset, .unset, .unset, .unset]) rfl ?_
        show Steps p.tables e below (T2.setTop (mkF m 36 #[.val (.int p0), .val (.int p1), .val (.int p2), .val (.int n), .val (.int v36), .unset, .unset, .unset, .unset, .unset, .unset] [])) t
        exact k
      exact J36 T2 _ v36 X2 e2 N2 (own_a2 hn hv36)
  refine hD _ (s₁.setTop (mkF m 6 #[.val (.int p0), .val (.int p1), .val (.int p2), .val (.int v1), .unset, .unset, .unset, .unset, .unset, .unset, .unset] [(.int v1)])) (fun t k => ?_) ?_
  · show Steps p.tables e below (s₁.setTop (mkF m 5 #[.val (.int p0), .val (.int p1), .val (.int p2), .val (.int v1), .unset, .unset, .unset, .unset, .unset, .unset, .unset] [])) t
    refine XS.iloadN X0.here hx rfl (hb hby at_5) rfl ?_
    show Steps p.tables e below (s₁.setTop (mkF m 6 #[.val (.int p0), .val (.int p1), .val (.int p2), .val (.int v1), .unset, .unset, .unset, .unset, .unset, .unset, .unset] [(.int v1)])) t
    exact k
  by_cases hc37 : v1 = (0 : Int32)
  · refine hD _ (s₁.setTop (mkF m 11 #[.val (.int p0), .val (.int p1), .val (.int p2), .val (.int (1 : Int32)), .unset, .unset, .unset, .unset, .unset, .unset, .unset] [])) (fun t k => ?_) ?_
    · show Steps p.tables e below (s₁.setTop (mkF m 6 #[.val (.int p0), .val (.int p1), .val (.int p2), .val (.int v1), .unset, .unset, .unset, .unset, .unset, .unset, .unset] [(.int v1)])) t
      refine XS.ifNo X0.here hx rfl (hb hby at_6) rfl ((if0 _ _).trans (teq hc37).2) ?_
      show Steps p.tables e below (s₁.setTop (mkF m 9 #[.val (.int p0), .val (.int p1), .val (.int p2), .val (.int v1), .unset, .unset, .unset, .unset, .unset, .unset, .unset] [])) t
      refine XS.iconst X0.here hx rfl (hb hby at_9) ?_
      show Steps p.tables e below (s₁.setTop (mkF m 10 #[.val (.int p0), .val (.int p1), .val (.int p2), .val (.int v1), .unset, .unset, .unset, .unset, .unset, .unset, .unset] [(.int (1 : Int32))])) t
      refine XS.istoreN X0.here hx rfl (hb hby at_10) rfl (l' := #[.val (.int p0), .val (.int p1), .val (.int p2), .val (.int (1 : Int32)), .unset, .unset, .unset, .unset, .unset, .unset, .unset]) rfl ?_
      show Steps p.tables e below (s₁.setTop (mkF m 11 #[.val (.int p0), .val (.int p1), .val (.int p2), .val (.int (1 : Int32)), .unset, .unset, .unset, .unset, .unset, .unset, .unset] [])) t
      exact k
    exact J11 s₁ _ (1 : Int32) X0 e0 N0 (by decide)
  · refine hD _ (s₁.setTop (mkF m 11 #[.val (.int p0), .val (.int p1), .val (.int p2), .val (.int v1), .unset, .unset, .unset, .unset, .unset, .unset, .unset] [])) (fun t k => ?_) ?_
    · show Steps p.tables e below (s₁.setTop (mkF m 6 #[.val (.int p0), .val (.int p1), .val (.int p2), .val (.int v1), .unset, .unset, .unset, .unset, .unset, .unset, .unset] [(.int v1)])) t
      refine XS.ifYes X0.here hx rfl (pc0 := 6) (pc' := 11) rfl (hb hby at_6) rfl ((if0 _ _).trans (feq hc37).2) (by decide) (by decide) ?_
      show Steps p.tables e below (s₁.setTop (mkF m 11 #[.val (.int p0), .val (.int p1), .val (.int p2), .val (.int v1), .unset, .unset, .unset, .unset, .unset, .unset, .unset] [])) t
      exact k
    exact J11 s₁ _ v1 X0 e0 N0 (own_npos hv1 hc37)
set_option maxRecDepth 65536 in
set_option maxHeartbeats 40000000 in
theorem comes_1 {Post : Tables → Env → Array Value → State → Outcome → State → Prop} (hpost : ∀ tb e args s v u, (limb_1_1.after args s (.returned v) u = true ∧ limb_1_2.after args s (.returned v) u = true ∧ True) → FrameEnd s (.returned v) u (Jvm.fieldLocs frame_1_writes args s ++ Jvm.arrayLocs frame_1_arrays args s ++ Jvm.staticLocs frame_1_statics s) 16 128 → Post tb e args s (.returned v) u) :
    ArmFor flags0 classFile x code maxLocals ret World_1 tables_1 room_1 Calls_1 rest_1 Pre_1 Post := by
  intro l hfl _ _ p e ha hc hk s m args below hf hA hF happ hP
  obtain ⟨hcalls, hrest, hpre⟩ := hP
  obtain ⟨-, -, -, hnamed, -, -, -, hat⟩ := (Spec.applies_iff hf).mp happ
  obtain ⟨hg, hn⟩ := and_e (Cond.before_iff.mp (show (Jvm.Cond.and given_1 narrow_1).before args s = true from hpre))
  obtain ⟨hcnt, hg0⟩ := and_e hg
  obtain ⟨ga0, hg1⟩ := and_e hg0
  obtain ⟨ga1, hg2⟩ := and_e hg1
  obtain ⟨w0, w1, w2, rfl⟩ : ∃ w0 w1 w2 : Value, args = #[w0, w1, w2] := by
    have hs : args.size = 3 := by simpa [Cond.value, given_1] using hcnt
    obtain ⟨L⟩ := args
    match L, hs with
    | [w0, w1, w2], _ => exact ⟨w0, w1, w2, rfl⟩
  have hw := fun d (hd : d ∈ tables_1) => atoms_spec (ws := Jvm.Cond.code x code maxLocals ret :: tables_1) hat d (List.mem_cons_of_mem _ hd)
  obtain ⟨i0, ei0⟩ := is_v ga0
  obtain rfl : w0 = (.int i0) := Option.some.inj ei0
  obtain ⟨i1, ei1⟩ := is_v ga1
  obtain rfl : w1 = (.int i1) := Option.some.inj ei1
  obtain ⟨i2, ei2⟩ := is_v hg2
  obtain rfl : w2 = (.int i2) := Option.some.inj ei2
  obtain ⟨n, o, h1, h2, h3, _, L, rfl, ⟨rfl, N⟩, hq⟩ := rm0 l s _ hw tables_1 i0 i1 i2 s.heap s.heap.size (Nat.le_refl _) p e ha hc hk s m _ below hf ((Spec.applies_iff_loose hf).mp happ).1 ⟨rfl, State.Warmed39.refl s, rfl⟩ trivial
  refine ⟨n, _, h1, h2, h3, hpost _ _ _ _ _ _ ⟨Cond.after_iff.mpr rfl, Cond.after_iff.mpr (eq_i res_at (Term.int_eval (1)) rfl), trivial⟩ ⟨hq.1, hq.2.1, (hq.2.2.sift fun y hy => Or.inr (N y hy)).mono (by decide) (by decide)⟩⟩
theorem main_1_1 : Claimed_1_1 := comes_1 fun _ _ _ _ _ _ h hF => ⟨h.1, hF⟩
theorem main_1_2 : Claimed_1_2 := comes_1 fun _ _ _ _ _ _ h hF => ⟨h.2.1, hF⟩
end Jvm.Pilot.@@N@@
namespace Jvm.Pilot.@@N@@
open Jvm Jvm.ClassFile Sem Op Lib Jvm.Free Jvm.Stand Jvm.Pilot.@@N@@.Jvm.D
/-! MADE BY PROGRAM (witnessworld.py) out of the Statement's table words and the real class files: 9 classes; the members and pool entries that the words name. The judged class is class 1, her method 1. -/
namespace start1
open Jvm.ClassFile
def u (s : String) : CpInfo := .utf8 (stringToUtf16 s)
/-- a pool by its gaps: so many unusable entries, then the entry; so many at the end -/
def gap : Nat → List CpInfo → List CpInfo
  | 0, r => r
  | n + 1, r => .unusable :: gap n r
def poolList (es : List (Nat × CpInfo)) (last : Nat) : List CpInfo := es.foldr (fun e r => gap e.1 (e.2 :: r)) (gap last [])
def pool (es : List (Nat × CpInfo)) (last : Nat) : Array CpInfo := ⟨poolList es last⟩
def fileOf (pool : Array CpInfo) (this : Nat) (attrs : Array Attribute := #[]) (ms : Array MethodInfo := #[]) (fl : Nat := 33) (sup : Nat := 0) (ifs : Array Nat := #[]) (fds : Array FieldInfo := #[]) : ClassFile where
  minorVersion := 0
  majorVersion := 65
  constantPool := pool
  accessFlags := fl
  thisClass := this
  superClass := sup
  interfaces := ifs
  fields := fds
  methods := ms
  attributes := attrs
def plain (name : String) (sup : Option ClassId) : Class where
  name := name
  kind := .ordinary
  loader := none
  accessFlags := 33
  super := sup
  interfaces := #[]
  cf := none
  fields := #[]
  methods := #[]
  instanceTypes := #[]
  staticTypes := #[]
  resolved := #[]
  callSites := []
  init := .initialized
  statics := none
  mirror := none

def pool0 : Array CpInfo := pool [(5, u "<init>"), (0, u "()V"), (1, .class_ 10), (1, u "java/lang/Object")] 113

def k0c0 : Code := { maxStack := 0, maxLocals := 1, code := object_method_1_code, exceptionTable := #[], attributes := #[] }
def k0m0 : Method := { name := "<init>", desc := "()V", sig := { parameters := [], returnType := none }, accessFlags := 1, code := some k0c0 }
/-- java/lang/Object -/
def k0 : Class := { plain "java/lang/Object" none with
  accessFlags := 33
  interfaces := #[]
  cf := some (fileOf pool0 8 #[] #[{ accessFlags := 1, nameIndex := 5, descriptorIndex := 6, attributes := #[] }] 33 0 #[] #[])
  fields := #[]
  methods := #[k0m0]
  instanceTypes := #[]
  staticTypes := #[]
  resolved := Array.replicate 124 none
  statics := none }

def pool1 : Array CpInfo := pool [(2, .class_ 4), (1, u "java/lang/Object"), (0, u "<init>"), (0, u "()V"), (0, .integer 2147483647), (0, .class_ 9), (0, u "com/example/ballast/ballast/engine/lspa/IndexTree"), (0, .methodref 8 11), (0, .nameAndType 5 12), (0, u "(I)V"), (0, .methodref 8 14), (0, .nameAndType 15 16), (0, u "children"), (0, u "(I)[I"), (0, .long 2), (1, .methodref 20 21), (0, .class_ 22), (0, .nameAndType 23 24), (0, u "com/example/ballast/ballast/engine/lspa/IndexTreeChildrenPinLaw"), (0, u "isChild"), (0, u "(III)Z"), (2, u "law")] 5

def k1m0 : Method := { name := "<init>", desc := "()V", sig := { parameters := [], returnType := none }, accessFlags := 1, code := none }
def k1c1 : Code := { maxStack := 5, maxLocals := 11, code := code, exceptionTable := #[], attributes := #[] }
def k1m1 : Method := { name := "law", desc := "(III)Z", sig := { parameters := [.int, .int, .int], returnType := some .boolean }, accessFlags := 9, code := some k1c1 }
def k1c2 : Code := { maxStack := 2, maxLocals := 3, code := method_3_code, exceptionTable := #[], attributes := #[] }
def k1m2 : Method := { name := "isChild", desc := "(III)Z", sig := { parameters := [.int, .int, .int], returnType := some .boolean }, accessFlags := 10, code := some k1c2 }
/-- com/example/ballast/ballast/engine/lspa/IndexTreeChildrenPinLaw -/
def k1 : Class := { plain "com/example/ballast/ballast/engine/lspa/IndexTreeChildrenPinLaw" (some 0) with
  accessFlags := 49
  interfaces := #[]
  cf := some (fileOf pool1 20 #[] #[{ accessFlags := 1, nameIndex := 5, descriptorIndex := 6, attributes := #[] }, { accessFlags := 9, nameIndex := 27, descriptorIndex := 24, attributes := #[] }, { accessFlags := 10, nameIndex := 23, descriptorIndex := 24, attributes := #[] }] 49 2 #[] #[])
  fields := #[]
  methods := #[k1m0, k1m1, k1m2]
  instanceTypes := #[]
  staticTypes := #[]
  resolved := Array.replicate 33 none
  statics := none }

def pool2 : Array CpInfo := pool [(1, .methodref 2 3), (0, .class_ 4), (0, .nameAndType 5 6), (0, u "java/lang/Object"), (0, u "<init>"), (0, u "()V"), (0, .fieldref 8 9), (0, .class_ 10), (0, .nameAndType 11 12), (0, u "com/example/ballast/ballast/engine/lspa/IndexTree"), (0, u "agentCount"), (0, u "I"), (0, .long 2), (10, u "(I)V"), (4, u "children"), (0, u "(I)[I")] 6

def k2c0 : Code := { maxStack := 2, maxLocals := 2, code := prog_28_method_1_code, exceptionTable := #[], attributes := #[] }
def k2m0 : Method := { name := "<init>", desc := "(I)V", sig := { parameters := [.int], returnType := none }, accessFlags := 0, code := some k2c0 }
def k2c1 : Code := { maxStack := 5, maxLocals := 4, code := prog_28_method_3_code, exceptionTable := #[], attributes := #[] }
def k2m1 : Method := { name := "children", desc := "(I)[I", sig := { parameters := [.int], returnType := some (.array .int) }, accessFlags := 0, code := some k2c1 }
/-- com/example/ballast/ballast/engine/lspa/IndexTree -/
def k2 : Class := { plain "com/example/ballast/ballast/engine/lspa/IndexTree" (some 0) with
  accessFlags := 48
  interfaces := #[]
  cf := some (fileOf pool2 8 #[] #[{ accessFlags := 0, nameIndex := 5, descriptorIndex := 24, attributes := #[] }, { accessFlags := 0, nameIndex := 29, descriptorIndex := 30, attributes := #[] }] 48 2 #[] #[{ accessFlags := 18, nameIndex := 11, descriptorIndex := 12, attributes := #[] }])
  fields := #[{ name := "agentCount", type := .int, accessFlags := 18, slot := 0, constantValue := 0 }]
  methods := #[k2m0, k2m1]
  instanceTypes := #[.int]
  staticTypes := #[]
  resolved := Array.replicate 37 none
  statics := none }

def pool3 : Array CpInfo := pool [(1, u "java/lang/Cloneable"), (0, .class_ 1), (0, u "java/lang/Object"), (0, .class_ 3)] 3

/-- java/lang/Cloneable -/
def k3 : Class := { plain "java/lang/Cloneable" (some 0) with
  accessFlags := 1537
  interfaces := #[]
  cf := some (fileOf pool3 2 #[] #[] 1537 4 #[] #[])
  fields := #[]
  methods := #[]
  instanceTypes := #[]
  staticTypes := #[]
  resolved := Array.replicate 8 none
  statics := none }

def pool4 : Array CpInfo := pool [(1, u "java/io/Serializable"), (0, .class_ 1), (0, u "java/lang/Object"), (0, .class_ 3)] 3

/-- java/io/Serializable -/
def k4 : Class := { plain "java/io/Serializable" (some 0) with
  accessFlags := 1537
  interfaces := #[]
  cf := some (fileOf pool4 2 #[] #[] 1537 4 #[] #[])
  fields := #[]
  methods := #[]
  instanceTypes := #[]
  staticTypes := #[]
  resolved := Array.replicate 8 none
  statics := none }

/-- the primitive byte -/
def k5 : Class := { plain "byte" none with kind := .primitive 'B', accessFlags := 0x411 }
/-- [B -/
def k6 : Class := { plain "[B" (some 0) with kind := .array 5 .byte, interfaces := #[3, 4], accessFlags := 1041 }

/-- the primitive int -/
def k7 : Class := { plain "int" none with kind := .primitive 'I', accessFlags := 0x411 }
/-- [I -/
def k8 : Class := { plain "[I" (some 0) with kind := .array 7 .int, interfaces := #[3, 4], accessFlags := 1041 }

def heap : Heap := #[]
def classes : Array Class := #[k0, k1, k2, k3, k4, k5, k6, k7, k8]
def interned : List (Array UInt16 × Addr) := []
def slotsUsed : Nat := 0
def theMethod : MethodId := ⟨1, 1⟩
def args0 : Array Value := #[.int 7, .int 9, .int 0]
def aboutOver (below : List Frame) : State where
  vm := { classes := classes, interned := interned.toArray }
  heap := heap
  slotsUsed := slotsUsed
  threads := #[{ frames := .invoking theMethod args0 :: below }]
def below0 : List Frame := [.native { method := ⟨0, 0⟩, args := #[] }]
def about1 : State := aboutOver below0
def p0 : Program := .bare "" "" ""
def e0 : Env := launch0.env 0 0 0
theorem w_frames : about1.frames = Frame.invoking theMethod args0 :: below0 := rfl
set_option maxRecDepth 65536 in
theorem w_args : argsFit about1.vm theMethod args0 = true := by decide +kernel
set_option maxRecDepth 65536 in
theorem w_heap : heapFits about1 = true := by decide +kernel
set_option maxRecDepth 65536 in
theorem w_runnable : about1.curStatus? = some .runnable := by decide +kernel
set_option maxRecDepth 65536 in
theorem w_alone : about1.alone = true := by decide +kernel
set_option maxRecDepth 65536 in
theorem w_named : about1.methodNamed? x = some theMethod := by decide +kernel
set_option maxRecDepth 65536 in
theorem w_hears : about1.hears theMethod below0 = true := by decide +kernel
set_option maxRecDepth 65536 in
theorem w_ripe : about1.ripe theMethod args0 below0 = true := by decide +kernel
theorem w_running : about1.status = .running := rfl
set_option maxRecDepth 65536 in
theorem w_room : about1.hasRoom e0.platform room_1 = true :=
  launch0.hasRoom_least _ room_1 (by decide +kernel) (by decide +kernel) (by decide +kernel) (by decide +kernel) (by decide +kernel) (by decide +kernel)
theorem allAtoms_all (ts : List Jvm.Cond) (a : Array Jvm.Value) (st : Jvm.State) : (allAtoms ts).before a st = ts.all (fun c => c.before a st) := by
  induction ts with
  | nil => rfl
  | cons c t ih =>
    show (Jvm.Cond.and c (allAtoms t)).before a st = _
    rw [Jvm.Cond.before_and, ih, List.all_cons]
def words1 : List Jvm.Cond := Jvm.Cond.code x code maxLocals ret :: tables_1
/-- a 'code' word, met by the world's own term for the bytes: nothing is compared byte by byte -/
theorem code_word {y : MethodName} {bytes : ByteArray} {mx : Nat} {rt : Option FieldType} {a : Array Value} {s : State} {m : MethodId} {meth : Method} {c : Code} (h1 : s.methodNamed? y = some m) (h2 : s.vm.method? m = some meth) (h3 : meth.code = some c) (h4 : c.code = bytes)
    (h5 : (c.maxLocals == mx && c.exceptionTable.isEmpty && decide (c.maxStack ≤ mostOperands) && decide (meth.sig.returnType = rt) && !meth.locks && decide (parseMethodDescriptor y.desc = some meth.sig)) = true) : (Jvm.Cond.code y bytes mx rt).before a s = true := by
  simp only [Bool.and_eq_true, beq_iff_eq, Bool.not_eq_true', decide_eq_true_eq] at h5
  obtain ⟨⟨⟨⟨⟨g1, g2⟩, g3⟩, g4⟩, g5⟩, g6⟩ := h5
  simp [Cond.before, Cond.holds, Cond.value, h1, h2, h3, h4, g1, g2, g3, g4, g5, g6]
def isCode : Jvm.Cond → Bool
  | .code _ _ _ _ => true
  | _ => false
theorem all_split {L : List Jvm.Cond} {P : Jvm.Cond → Bool} (h1 : L.all (fun c => isCode c || P c) = true) (h2 : ∀ c ∈ L.filter isCode, P c = true) : L.all P = true := by
  refine List.all_eq_true.mpr fun c hc => ?_
  have h := List.all_eq_true.mp h1 c hc
  rcases Bool.eq_false_or_eq_true (isCode c) with hi | hi
  · exact h2 c (List.mem_filter.mpr ⟨hc, hi⟩)
  · simpa [hi] using h
set_option maxRecDepth 65536 in
theorem w_c0 : (Jvm.Cond.code x code maxLocals ret).before args0 about1 = true := code_word (m := ⟨1, 1⟩) (meth := k1m1) (c := k1c1) (by decide +kernel) rfl rfl rfl (by decide +kernel)
set_option maxRecDepth 65536 in
theorem w_c1 : (Jvm.Cond.code ({ cls := "com/example/ballast/ballast/engine/lspa/IndexTree", name := "<init>", desc := "(I)V" } : Jvm.MethodName) prog_28_method_1_code (2 : Nat) (Option.none : Option Jvm.ClassFile.FieldType)).before args0 about1 = true := code_word (m := ⟨2, 0⟩) (meth := k2m0) (c := k2c0) (by decide +kernel) rfl rfl rfl (by decide +kernel)
set_option maxRecDepth 65536 in
theorem w_c2 : (Jvm.Cond.code ({ cls := "java/lang/Object", name := "<init>", desc := "()V" } : Jvm.MethodName) object_method_1_code (1 : Nat) (Option.none : Option Jvm.ClassFile.FieldType)).before args0 about1 = true := code_word (m := ⟨0, 0⟩) (meth := k0m0) (c := k0c0) (by decide +kernel) rfl rfl rfl (by decide +kernel)
set_option maxRecDepth 65536 in
theorem w_c3 : (Jvm.Cond.code ({ cls := "com/example/ballast/ballast/engine/lspa/IndexTree", name := "children", desc := "(I)[I" } : Jvm.MethodName) prog_28_method_3_code (4 : Nat) (Option.some (Jvm.ClassFile.FieldType.array Jvm.ClassFile.FieldType.int))).before args0 about1 = true := code_word (m := ⟨2, 1⟩) (meth := k2m1) (c := k2c1) (by decide +kernel) rfl rfl rfl (by decide +kernel)
set_option maxRecDepth 65536 in
theorem w_c4 : (Jvm.Cond.code ({ cls := "com/example/ballast/ballast/engine/lspa/IndexTreeChildrenPinLaw", name := "isChild", desc := "(III)Z" } : Jvm.MethodName) method_3_code (3 : Nat) (Option.some Jvm.ClassFile.FieldType.boolean)).before args0 about1 = true := code_word (m := ⟨1, 2⟩) (meth := k1m2) (c := k1c2) (by decide +kernel) rfl rfl rfl (by decide +kernel)
def codes1 : List Jvm.Cond := [Jvm.Cond.code x code maxLocals ret, Jvm.Cond.code ({ cls := "com/example/ballast/ballast/engine/lspa/IndexTree", name := "<init>", desc := "(I)V" } : Jvm.MethodName) prog_28_method_1_code (2 : Nat) (Option.none : Option Jvm.ClassFile.FieldType), Jvm.Cond.code ({ cls := "java/lang/Object", name := "<init>", desc := "()V" } : Jvm.MethodName) object_method_1_code (1 : Nat) (Option.none : Option Jvm.ClassFile.FieldType), Jvm.Cond.code ({ cls := "com/example/ballast/ballast/engine/lspa/IndexTree", name := "children", desc := "(I)[I" } : Jvm.MethodName) prog_28_method_3_code (4 : Nat) (Option.some (Jvm.ClassFile.FieldType.array Jvm.ClassFile.FieldType.int)), Jvm.Cond.code ({ cls := "com/example/ballast/ballast/engine/lspa/IndexTreeChildrenPinLaw", name := "isChild", desc := "(III)Z" } : Jvm.MethodName) method_3_code (3 : Nat) (Option.some Jvm.ClassFile.FieldType.boolean)]
set_option maxRecDepth 65536 in
theorem codes_eq : words1.filter isCode = codes1 := rfl
theorem w_codes : ∀ c ∈ words1.filter isCode, c.before args0 about1 = true := by
  rw [codes_eq]
  intro c hc
  simp only [codes1, List.mem_cons, List.not_mem_nil, or_false] at hc
  rcases hc with rfl | rfl | rfl | rfl | rfl
  · exact w_c0
  · exact w_c1
  · exact w_c2
  · exact w_c3
  · exact w_c4
set_option maxRecDepth 65536 in
theorem w_t1 : (words1.take 24).all (fun c => isCode c || c.before args0 about1) = true := by decide +kernel
set_option maxRecDepth 65536 in
theorem w_t2 : (words1.drop 24).all (fun c => isCode c || c.before args0 about1) = true := by decide +kernel
theorem w_tables : (allAtoms (Jvm.Cond.code x code maxLocals ret :: tables_1)).before args0 about1 = true := by
  rw [allAtoms_all]
  show words1.all (fun c => c.before args0 about1) = true
  refine all_split ?_ w_codes
  rw [← List.take_append_drop 24 words1, List.all_append, w_t1, w_t2]
  rfl
set_option maxRecDepth 65536 in
theorem w_case : (Jvm.Cond.and given_1 narrow_1).before args0 about1 = true := by decide +kernel
theorem w_applies : (headSpec (Jvm.Cond.code x code maxLocals ret :: tables_1) room_1).applies x e0.platform about1 = true :=
  (Spec.applies_iff w_frames).mpr ⟨w_running, w_runnable, w_alone, w_named, w_hears, w_ripe, w_room, w_tables⟩
theorem atStart : AtStart classFile x code maxLocals ret World_1 tables_1 room_1 Calls_1 rest_1 Pre_1 launch0 p0 e0 about1 theMethod args0 below0 :=
  ⟨lists_1, trivial, launch0.admits_env _ _ _, launch0.least_env, fairChoices_fair.cas, fairChoices_fair.clock, w_frames, w_args, w_heap, w_applies, trivial, trivial, w_case⟩
end start1
theorem witness_1 : WitnessClaimed_1 := ⟨start1.p0, start1.e0, start1.about1, start1.theMethod, start1.args0, start1.below0, start1.atStart⟩
end Jvm.Pilot.@@N@@
