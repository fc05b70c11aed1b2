import JvmDerived
import JvmDerived.Pilot.@@N@@Statement
import JvmDerived.Pilot.@@N@@Code
set_option linter.unusedVariables false
set_option linter.unusedSimpArgs false
@@BLOCK:NumsL.lean.txt@@
namespace Jvm.Own
open Sem ClassFile Op Lib Jvm.Stand Jvm.Free Jvm.LawKit Jvm.RoadKit
section Kit
variable {p : Program} {l : Launch} {e : Env} {R : Room} {s : State} {m : MethodId} {args : Array Value} {below : List Frame} {meth : Method} {c : Code} {T : State} {locs : List Loc} {cells slots : Nat} {Z : State} {a0 : Array Value} {h : Heap}
/-- D is closed under going back over steps -/
def Clo (p : Program) (e : Env) (below : List Frame) (D : State → Prop) : Prop := ∀ (U U' : State), (∀ t, Steps p.tables e below U' t → Steps p.tables e below U t) → D U' → D U
/-- D holds wherever the body returns with what Q says -/
def Ret (p : Program) (l : Launch) (e : Env) (R : Room) (s : State) (m : MethodId) (args : Array Value) (below : List Frame) (meth : Method) (c : Code) (Q : Option Value → Heap → List Loc → Prop) (C N : Nat) (D : State → Prop) : Prop :=
  ∀ (T : State) (locs : List Loc) (cells slots : Nat) (v : Option Value) (U : State), Stand p l e R s m args below meth c T locs cells slots → (meth.sig.returnType = none → v = none) → cells ≤ C → slots ≤ N → Q v T.heap locs →
    (∀ fs, (∀ (f : JFrame) (acts : List Action), f.method = m → f.locked = none → f.entered = [] → (doReturn e (T.setTop f) acts v).1 = T.setFrames fs) → Steps p.tables e below U (T.setFrames fs)) → D U
theorem enter {y : MethodName} {code : ByteArray} {maxL : Nat} {ret : Option FieldType} {ws : List Cond} {rm : Room} {as' : Array Value} {h0 : Heap} {Q : Option Value → Heap → List Loc → Prop} {C N : Nat} (hpl : plainFor y = true)
    (body : ∀ (p : Program) (e : Env) (s : State) (m : MethodId) (below : List Frame) (meth : Method) (c : Code) (s₁ : State) (D : State → Prop),
      p.tables.exec = Jvm.exec → c.code = code → c.maxLocals = maxL → s.vm.findClass y.cls = some m.cls → meth.name = y.name → meth.sig.returnType = ret → Z.Warmed39 s.vm → Stand p l e rm s m as' below meth c s₁ [] 0 0 → s₁.heap = h0 →
      Clo p e below D → Ret p l e rm s m as' below meth c Q C N D → D (s₁.setTop (entryFrame m as' maxL))) :
    MetFree l y (head1 (Jvm.Cond.code y code maxL ret :: ws) rm) (fun a U => a = as' ∧ Z.Warmed39 U.vm ∧ U.heap = h0) (fun _ _ _ _ _ => True) (fun _ U o U' => ∃ v L, o = .returned v ∧ Q v U'.heap L ∧ FrameEnd U o U' L C N) := by
  refine MetFree.of_bodySF hpl hisR ?_
  intro p e s m args below meth c s₁ Bd hml hP hK
  obtain ⟨rfl, hZ, hh⟩ := hP
  have X0 : Stand p l e rm s m args below meth c s₁ [] 0 0 := Stand.of_body Bd
  refine body p e s m below meth c s₁ (fun U => ∃ s₂ o, Steps p.tables e below U s₂ ∧ s₂.status = .running ∧ Ended s₂ below o ∧ ∃ v L, o = .returned v ∧ Q v s₂.heap L ∧ FrameEnd s o s₂ L C N) Bd.exec Bd.bytes hml (findClass_of_methodNamed Bd.named) (name_of_methodNamed Bd.named Bd.method).1 Bd.returns hZ X0 (by rw [← hh, Bd.state]; rfl) ?_ ?_
  · rintro U U' k ⟨s₂, o, st, r⟩
    exact ⟨s₂, o, k _ st, r⟩
  · intro T locs cells slots v U X hv hc hn hQ k
    obtain ⟨fs, hr, hrun, hended, hW, hsame⟩ := X.leave (v := v) hv
    exact ⟨_, _, k fs hr, hrun, hended, v, locs, rfl, hQ, ⟨_, rfl⟩, hW, hsame.mono hc hn⟩
theorem mono {c' n' : Nat} (X : Stand p l e R s m args below meth c T locs cells slots) (hc : cells ≤ c') (hn : slots ≤ n') : Stand p l e R s m args below meth c T locs c' n' :=
  { X with same := X.same.weaken (fun _ hy _ => hy) hc hn }
theorem forget {k : Nat} (X : Stand p l e R s m args below meth c T locs cells slots) (N : Fr k locs) (hk : s.heap.size ≤ k) : Stand p l e R s m args below meth c T [] cells slots :=
  { X with same := X.same.weaken (fun y hy hlt => absurd hlt (Nat.not_lt.mpr (Nat.le_trans hk (N y hy)))) (Nat.le_refl _) (Nat.le_refl _) }
variable {Q : Option Value → Heap → List Loc → Prop} {C N : Nat} {D : State → Prop}
theorem retI (hR : Ret p l e R s m args below meth c Q C N D) (X : Stand p l e R s m args below meth c T locs cells slots) (hx : p.tables.exec = Jvm.exec) {pc : Nat} {Ls : Array Slot} {z : Int32} {rest : List Value} (hret : meth.sig.returnType = some .int) (hd : decode c.code pc = .ok (.ireturn, 1)) (hc : cells ≤ C) (hn : slots ≤ N) (hQ : Q (some (.int z)) T.heap locs) : D (T.setTop (mkF m pc Ls (.int z :: rest))) := by
  refine hR T locs cells slots (some (.int z)) _ X (fun h => by rw [hret] at h; cases h) hc hn hQ fun fs hl => ?_
  have hm' : T.vm.method? m = some meth := X.method'
  have hn : narrow .int (.int z) = .int z := rfl
  show Steps p.tables e below (T.setTop { method := m, pc := pc, locals := Ls, stack := _ :: rest, locked := none }) _
  jvm_step X.here [X.here.top, hx, hd, hm', hret, hn]
  first | (intro acts; rw [hl _ acts rfl rfl rfl]) | rw [hl _ _ rfl rfl rfl]
  exact Steps.refl _
theorem retN (hR : Ret p l e R s m args below meth c Q C N D) (X : Stand p l e R s m args below meth c T locs cells slots) (hx : p.tables.exec = Jvm.exec) {pc : Nat} {Ls : Array Slot} {z : Int32} {t : FieldType} {rest : List Value} (hret : meth.sig.returnType = some t) (ht : t = .boolean ∨ t = .byte ∨ t = .char ∨ t = .short) (hd : decode c.code pc = .ok (.ireturn, 1)) (hc : cells ≤ C) (hn : slots ≤ N) (hz : nar t z = z) (hQ : Q (some (.int z)) T.heap locs) : D (T.setTop (mkF m pc Ls (.int z :: rest))) := by
  refine hR T locs cells slots (some (.int z)) _ X (fun h => by rw [hret] at h; cases h) hc hn hQ fun fs hl => ?_
  exact Jvm.RoadKit.retN X hx hret ht hd (by rw [hz]; exact hl)
theorem retJ (hR : Ret p l e R s m args below meth c Q C N D) (X : Stand p l e R s m args below meth c T locs cells slots) (hx : p.tables.exec = Jvm.exec) {pc : Nat} {Ls : Array Slot} {z : Int64} (hret : meth.sig.returnType = some .long) (hd : decode c.code pc = .ok (.lreturn, 1)) (hc : cells ≤ C) (hn : slots ≤ N) (hQ : Q (some (.long z)) T.heap locs) : D (T.setTop (mkF m pc Ls [.long z])) :=
  hR T locs cells slots (some (.long z)) _ X (fun h => by rw [hret] at h; cases h) hc hn hQ fun fs hl => X.lreturnOut hx hret hd hl
theorem retA (hR : Ret p l e R s m args below meth c Q C N D) (X : Stand p l e R s m args below meth c T locs cells slots) (hx : p.tables.exec = Jvm.exec) {pc : Nat} {Ls : Array Slot} {w : Value} {t : FieldType} (hw : w.isRef = true) (hret : meth.sig.returnType = some t) (ht : t.isReference = true) (hd : decode c.code pc = .ok (.areturn, 1)) (hc : cells ≤ C) (hn : slots ≤ N) (hQ : Q (some w) T.heap locs) : D (T.setTop (mkF m pc Ls [w])) :=
  hR T locs cells slots (some w) _ X (fun h => by rw [hret] at h; cases h) hc hn hQ fun fs hl => X.areturnOut hx hw hret ht hd hl
theorem retV (hR : Ret p l e R s m args below meth c Q C N D) (X : Stand p l e R s m args below meth c T locs cells slots) (hx : p.tables.exec = Jvm.exec) {pc : Nat} {Ls : Array Slot} (hret : meth.sig.returnType = none) (hd : decode c.code pc = .ok (.return_, 1)) (hc : cells ≤ C) (hn : slots ≤ N) (hQ : Q none T.heap locs) : D (T.setTop (mkF m pc Ls [])) :=
  hR T locs cells slots none _ X (fun _ => rfl) hc hn hQ fun fs hl => X.returnOut hx hret hd hl
/-! calls -/
variable {y z : MethodName} {bytes : ByteArray} {maxL : Nat} {ret : Option FieldType} {rm : Room} {W : Nat} {Qc : Option Value → Heap → List Loc → Prop} {own Cn : String} {index : Nat} {g : JFrame} {argsL rest : List Value} {a : Addr}
theorem callS (X : Stand p l e R s m args below meth c T locs cells slots) (hx : p.tables.exec = Jvm.exec) (hZ : Z.Warmed39 s.vm) (hown : s.vm.findClass own = some m.cls)
    (w1 : (Cond.methodLink own index y).before a0 Z = true) (w2 : (Cond.static y).before a0 Z = true) (w3 : (Cond.initialized y.cls).before a0 Z = true) (w4 : (Cond.code y bytes maxL ret).before a0 Z = true)
    (hy : y.cls ≠ "java/lang/invoke/MethodHandle" ∧ y.cls ≠ "java/lang/invoke/VarHandle") (e0 : T.heap = h)
    (hM : MetFree l y (head1 [Cond.code y bytes maxL ret] rm) (fun a U => a = argsL.toArray ∧ Z.Warmed39 U.vm ∧ U.heap = h) (fun _ _ _ _ _ => True) (fun _ U o U' => ∃ v L, o = .returned v ∧ Qc v U'.heap L ∧ FrameEnd U o U' L rm.cells rm.slots))
    (hf : rm.frames + 1 ≤ R.frames) (hl : W + (maxL + 11) + rm.locals ≤ R.locals) (hcells : cells + rm.cells ≤ R.cells) (hslots : slots + rm.slots ≤ R.slots)
    (hg : g.method = m) (hsize : g.locals.size = c.maxLocals) (hlen : ∀ sig, parseMethodDescriptor y.desc = some sig → argsL.length = sig.parameters.length)
    (hstack : g.stack = argsL.reverse ++ rest) (hW : 2 * g.monitorRoom + (rest.map fun v => v.category).sum ≤ W) (hdg : decode c.code g.pc = .ok (.invokestatic index, 3)) :
    ∃ (T' : State) (v : Option Value) (L : List Loc), Stand p l e R s m args below meth c T' (locs ++ L) (cells + rm.cells) (slots + rm.slots) ∧ Qc v T'.heap L ∧
      ∀ t, Steps p.tables e below (T'.setTop { g with pc := g.pc + 3, stack := v.toList ++ rest }) t → Steps p.tables e below (T.setTop g) t := by
  obtain ⟨v, _, ⟨T', L', k', n'⟩, -, X', ⟨Lc, hQ, l1, y1, z1⟩, st⟩ := Jvm.LawKit.callS X hx (y := y) hown (mvT hZ w1) (mvT hZ w2) (mvT hZ w3) (mvT hZ w4) hy (backOf (W := W) hM hZ w4 w3 hf hl) hg hsize hlen hstack hW hdg (fun _ _ => ⟨rfl, e0, hcells, hslots⟩)
  dsimp only [Pt.U, Pt.locs, Pt.cells, Pt.slots] at X' l1 y1 z1 st hQ
  subst l1 y1 z1
  exact ⟨T', v, Lc, X', hQ, st⟩
theorem callI (X : Stand p l e R s m args below meth c T locs cells slots) (hx : p.tables.exec = Jvm.exec) (hZ : Z.Warmed39 s.vm) (hown : s.vm.findClass own = some m.cls) (hy1 : y.name = "<init>")
    (w1 : (Cond.methodLink own index y).before a0 Z = true) (w2 : (Cond.instanceMethod y).before a0 Z = true) (w3 : (Cond.initialized y.cls).before a0 Z = true) (w4 : (Cond.code y bytes maxL none).before a0 Z = true)
    (hy : y.cls ≠ "java/lang/invoke/MethodHandle" ∧ y.cls ≠ "java/lang/invoke/VarHandle") (e0 : T.heap = h)
    (hM : MetFree l y (head1 [Cond.code y bytes maxL none] rm) (fun q U => q = (.ref a :: argsL).toArray ∧ Z.Warmed39 U.vm ∧ U.heap = h) (fun _ _ _ _ _ => True) (fun _ U o U' => ∃ v L, o = .returned v ∧ Qc v U'.heap L ∧ FrameEnd U o U' L rm.cells rm.slots))
    (hf : rm.frames + 1 ≤ R.frames) (hl : W + (maxL + 11) + rm.locals ≤ R.locals) (hcells : cells + rm.cells ≤ R.cells) (hslots : slots + rm.slots ≤ R.slots)
    (hg : g.method = m) (hsize : g.locals.size = c.maxLocals) (hlen : ∀ sig, parseMethodDescriptor y.desc = some sig → argsL.length = sig.parameters.length)
    (hstack : g.stack = argsL.reverse ++ .ref a :: rest) (hW : 2 * g.monitorRoom + (rest.map fun v => v.category).sum ≤ W) (hdg : decode c.code g.pc = .ok (.invokespecial index, 3)) :
    ∃ (T' : State) (v : Option Value) (L : List Loc), Stand p l e R s m args below meth c T' (locs ++ L) (cells + rm.cells) (slots + rm.slots) ∧ Qc v T'.heap L ∧
      ∀ t, Steps p.tables e below (T'.setTop { g with pc := g.pc + 3, stack := v.toList ++ rest }) t → Steps p.tables e below (T.setTop g) t := by
  obtain ⟨v, _, ⟨T', L', k', n'⟩, -, X', ⟨Lc, hQ, l1, y1, z1⟩, st⟩ := X.specialBack hx (y := y) hy1 hown (mvT hZ w1) (mvT hZ w2) (mvT hZ w4) hy (backOf (W := W) hM hZ w4 w3 hf hl) hg hsize (Steps.refl _) hlen hstack hW hdg (fun _ _ => ⟨rfl, e0, hcells, hslots⟩)
  dsimp only [Pt.U, Pt.locs, Pt.cells, Pt.slots] at X' l1 y1 z1 st hQ
  subst l1 y1 z1
  exact ⟨T', v, Lc, X', hQ, fun t k => st.trans k⟩
theorem callV (X : Stand p l e R s m args below meth c T locs cells slots) (hx : p.tables.exec = Jvm.exec) (hZ : Z.Warmed39 s.vm) (hown : s.vm.findClass own = some m.cls)
    (w1 : (Cond.methodLink own index y).before a0 Z = true) (w5 : (Cond.declares y).before a0 Z = true) (w6 : (Cond.selects Cn y y).before a0 Z = true) (w2 : (Cond.instanceMethod y).before a0 Z = true) (w3 : (Cond.initialized y.cls).before a0 Z = true) (w4 : (Cond.code y bytes maxL ret).before a0 Z = true)
    (hy : y.cls ≠ "java/lang/invoke/MethodHandle" ∧ y.cls ≠ "java/lang/invoke/VarHandle") (e0 : T.heap = h) (E : Exa Z h a Cn)
    (hM : MetFree l y (head1 [Cond.code y bytes maxL ret] rm) (fun q U => q = (.ref a :: argsL).toArray ∧ Z.Warmed39 U.vm ∧ U.heap = h) (fun _ _ _ _ _ => True) (fun _ U o U' => ∃ v L, o = .returned v ∧ Qc v U'.heap L ∧ FrameEnd U o U' L rm.cells rm.slots))
    (hf : rm.frames + 1 ≤ R.frames) (hl : W + (maxL + 11) + rm.locals ≤ R.locals) (hcells : cells + rm.cells ≤ R.cells) (hslots : slots + rm.slots ≤ R.slots)
    (hg : g.method = m) (hsize : g.locals.size = c.maxLocals) (hlen : ∀ sig, parseMethodDescriptor y.desc = some sig → argsL.length = sig.parameters.length)
    (hstack : g.stack = argsL.reverse ++ .ref a :: rest) (hW : 2 * g.monitorRoom + (rest.map fun v => v.category).sum ≤ W) (hdg : decode c.code g.pc = .ok (.invokevirtual index, 3)) :
    ∃ (T' : State) (v : Option Value) (L : List Loc), Stand p l e R s m args below meth c T' (locs ++ L) (cells + rm.cells) (slots + rm.slots) ∧ Qc v T'.heap L ∧
      ∀ t, Steps p.tables e below (T'.setTop { g with pc := g.pc + 3, stack := v.toList ++ rest }) t → Steps p.tables e below (T.setTop g) t := by
  obtain ⟨cq, kq, q1, q2, q3⟩ := isOf hZ e0 E
  obtain ⟨v, _, ⟨T', L', k', n'⟩, -, X', ⟨Lc, hQ, l1, y1, z1⟩, st⟩ := X.virtualBack hx (y := y) (z := y) hown (mvT hZ w1) (mvT hZ w5) (notFace_of_selects (args := #[]) (mvT hZ w6)) (mvT hZ w6) (mvT hZ w2) hy (backOf (W := W) hM hZ w4 w3 hf hl) q1 q3 hg hsize (Steps.refl _) hlen hstack hW hdg (fun _ _ => ⟨rfl, e0, hcells, hslots⟩)
  dsimp only [Pt.U, Pt.locs, Pt.cells, Pt.slots] at X' l1 y1 z1 st hQ
  subst l1 y1 z1
  exact ⟨T', v, Lc, X', hQ, fun t k => st.trans k⟩
/-! arrays, as functions of the place -/
def AvI (Z : State) (h : Heap) (a : Addr) (ty : FieldType) (n : Nat) (f : Nat → Int32) : Prop := ∃ c : Cell, Arr Z h a c ty ∧ c.slots.size = n ∧ n < 2 ^ 31 ∧ ∀ i, i < n → c.slots[i]? = some (.int (f i))
def AvJ (Z : State) (h : Heap) (a : Addr) (n : Nat) (f : Nat → Int64) : Prop := ∃ c : Cell, Arr Z h a c .long ∧ c.slots.size = n ∧ n < 2 ^ 31 ∧ ∀ i, i < n → c.slots[i]? = some (.long (f i))
variable {h' : Heap} {ty : FieldType} {n : Nat} {f f' : Nat → Int32} {fj fj' : Nat → Int64} {j x : Int32} {xl : Int64} {b : Addr} {sl : Nat} {v : Value} {ws : List Addr}
theorem clamp (hj : 0 ≤ j.toInt ∧ j.toInt < n) : j.toNatClampNeg = j.toInt.toNat ∧ ¬ j < 0 := by
  refine ⟨rfl, ?_⟩
  rw [Int32.lt_iff_toInt_lt, Int32.toInt_zero]; omega
theorem inb {c : Cell} (S : c.slots.size = n) (hj : 0 ≤ j.toInt ∧ j.toInt < n) : ¬ (j < 0 ∨ c.slots.size ≤ j.toNatClampNeg) := by
  have q := clamp hj
  rw [q.1, S]
  intro w
  rcases w with w | w
  · exact q.2 w
  · omega
theorem AvI.lt (A : AvI Z h a ty n f) : a < h.size := by obtain ⟨c, A, -⟩ := A; exact A.lt
theorem AvJ.lt (A : AvJ Z h a n fj) : a < h.size := by obtain ⟨c, A, -⟩ := A; exact A.lt
theorem AvI.ext (A : AvI Z h a ty n f) (E : Ext h h') : AvI Z h' a ty n f := by obtain ⟨c, A, r⟩ := A; exact ⟨c, A.ext E, r⟩
theorem AvJ.ext (A : AvJ Z h a n fj) (E : Ext h h') : AvJ Z h' a n fj := by obtain ⟨c, A, r⟩ := A; exact ⟨c, A.ext E, r⟩
theorem AvI.other (A : AvI Z h b ty n f) (W : Wr h h' a sl v) (q : b ≠ a) : AvI Z h' b ty n f := by obtain ⟨c, A, r⟩ := A; exact ⟨c, A.other W q, r⟩
theorem AvJ.other (A : AvJ Z h b n fj) (W : Wr h h' a sl v) (q : b ≠ a) : AvJ Z h' b n fj := by obtain ⟨c, A, r⟩ := A; exact ⟨c, A.other W q, r⟩
theorem AvI.keep (A : AvI Z h a ty n f) (K : Keep h h' ws) (q : a ∉ ws) : AvI Z h' a ty n f := by obtain ⟨c, A, r⟩ := A; exact ⟨c, ⟨K.2.1 a c A.1 q, A.2⟩, r⟩
theorem AvJ.keep (A : AvJ Z h a n fj) (K : Keep h h' ws) (q : a ∉ ws) : AvJ Z h' a n fj := by obtain ⟨c, A, r⟩ := A; exact ⟨c, ⟨K.2.1 a c A.1 q, A.2⟩, r⟩
theorem AvI.congr (A : AvI Z h a ty n f) (q : ∀ i, i < n → f' i = f i) : AvI Z h a ty n f' := by obtain ⟨c, A, S, M, H⟩ := A; exact ⟨c, A, S, M, fun i hi => by rw [q i hi]; exact H i hi⟩
theorem AvJ.congr (A : AvJ Z h a n fj) (q : ∀ i, i < n → fj' i = fj i) : AvJ Z h a n fj' := by obtain ⟨c, A, S, M, H⟩ := A; exact ⟨c, A, S, M, fun i hi => by rw [q i hi]; exact H i hi⟩
theorem AvI.new {cA : ClassId} {z : Int32} (A : Arr Z h a (newA cA ty z) ty) (hz : z.toInt = n) (hd : defaultValue ty = .int 0) : AvI Z h a ty n (fun _ => 0) := by
  have q : z.toNatClampNeg = n := by show z.toInt.toNat = n; omega
  refine ⟨_, A, by rw [sz_new]; exact q, by have := z.toInt_lt; omega, fun i hi => ?_⟩
  simp [newA, q, hi, hd]
theorem AvJ.new {cA : ClassId} {z : Int32} (A : Arr Z h a (newA cA .long z) .long) (hz : z.toInt = n) : AvJ Z h a n (fun _ => 0) := by
  have q : z.toNatClampNeg = n := by show z.toInt.toNat = n; omega
  refine ⟨_, A, by rw [sz_new]; exact q, by have := z.toInt_lt; omega, fun i hi => ?_⟩
  simp [newA, q, hi, defaultValue]
theorem len_nat {c : Cell} (S : c.slots.size = n) (M : n < 2 ^ 31) : c.slots.size.toInt32 = Int32.ofNat n := by rw [S]
theorem lenI (X : Stand p l e R s m args below meth c T locs cells slots) (hx : p.tables.exec = Jvm.exec) (hZ : Z.Warmed39 s.vm) (e0 : T.heap = h) (A : AvI Z h a ty n f) (hg : g.method = m) (hs : g.stack = .ref a :: rest) (hd : decode c.code g.pc = .ok (.arraylength, 1)) :
    ∀ t, Steps p.tables e below (T.setTop { g with pc := g.pc + 1, stack := .int (Int32.ofNat n) :: rest }) t → Steps p.tables e below (T.setTop g) t := by
  obtain ⟨c, A, S, M, H⟩ := A
  intro t k
  refine X.arraylength hx (by rw [e0]; exact A.1) (State.isArrayOf_alike hZ.alike A.2.1) hg hs hd _ ?_
  rw [len_nat S M]; exact k
theorem lenJ (X : Stand p l e R s m args below meth c T locs cells slots) (hx : p.tables.exec = Jvm.exec) (hZ : Z.Warmed39 s.vm) (e0 : T.heap = h) (A : AvJ Z h a n fj) (hg : g.method = m) (hs : g.stack = .ref a :: rest) (hd : decode c.code g.pc = .ok (.arraylength, 1)) :
    ∀ t, Steps p.tables e below (T.setTop { g with pc := g.pc + 1, stack := .int (Int32.ofNat n) :: rest }) t → Steps p.tables e below (T.setTop g) t := by
  obtain ⟨c, A, S, M, H⟩ := A
  intro t k
  refine X.arraylength hx (by rw [e0]; exact A.1) (State.isArrayOf_alike hZ.alike A.2.1) hg hs hd _ ?_
  rw [len_nat S M]; exact k
theorem ldI (X : Stand p l e R s m args below meth c T locs cells slots) (hx : p.tables.exec = Jvm.exec) (hZ : Z.Warmed39 s.vm) (e0 : T.heap = h) (A : AvI Z h a .int n f) (hj : 0 ≤ j.toInt ∧ j.toInt < n) (hg : g.method = m) (hs : g.stack = .int j :: .ref a :: rest) (hd : decode c.code g.pc = .ok (.iaload, 1)) :
    ∀ t, Steps p.tables e below (T.setTop { g with pc := g.pc + 1, stack := .int (f j.toInt.toNat) :: rest }) t → Steps p.tables e below (T.setTop g) t := by
  obtain ⟨c, A, S, M, H⟩ := A
  exact fun t k => X.iaload hx (by rw [e0]; exact A.1) (State.isArrayOf_alike hZ.alike A.2.1) A.2.2 (inb S hj) (by rw [(clamp hj).1]; exact H _ (by omega)) hg hs hd _ k
theorem ldJ (X : Stand p l e R s m args below meth c T locs cells slots) (hx : p.tables.exec = Jvm.exec) (hZ : Z.Warmed39 s.vm) (e0 : T.heap = h) (A : AvJ Z h a n fj) (hj : 0 ≤ j.toInt ∧ j.toInt < n) (hg : g.method = m) (hs : g.stack = .int j :: .ref a :: rest) (hd : decode c.code g.pc = .ok (.laload, 1)) :
    ∀ t, Steps p.tables e below (T.setTop { g with pc := g.pc + 1, stack := .long (fj j.toInt.toNat) :: rest }) t → Steps p.tables e below (T.setTop g) t := by
  obtain ⟨c, A, S, M, H⟩ := A
  exact fun t k => X.laload hx (by rw [e0]; exact A.1) (State.isArrayOf_alike hZ.alike A.2.1) A.2.2 (inb S hj) (by rw [(clamp hj).1]; exact H _ (by omega)) hg hs hd _ k
theorem ldB (X : Stand p l e R s m args below meth c T locs cells slots) (hx : p.tables.exec = Jvm.exec) (hZ : Z.Warmed39 s.vm) (e0 : T.heap = h) (A : AvI Z h a .byte n f) (hj : 0 ≤ j.toInt ∧ j.toInt < n) (hg : g.method = m) (hs : g.stack = .int j :: .ref a :: rest) (hd : decode c.code g.pc = .ok (.baload, 1)) :
    ∀ t, Steps p.tables e below (T.setTop { g with pc := g.pc + 1, stack := .int (f j.toInt.toNat) :: rest }) t → Steps p.tables e below (T.setTop g) t := by
  obtain ⟨c, A, S, M, H⟩ := A
  exact fun t k => X.baloadBytes hx (by rw [e0]; exact A.1) (State.isArrayOf_alike hZ.alike A.2.1) A.2.2 (inb S hj) (by rw [(clamp hj).1]; exact H _ (by omega)) hg hs hd _ k
theorem AvI.set (A : AvI Z h a ty n f) (hj : 0 ≤ j.toInt ∧ j.toInt < n) (W : Wr h h' a j.toNatClampNeg (.int x)) : AvI Z h' a ty n (fun i => if i = j.toInt.toNat then x else f i) := by
  obtain ⟨c, A, S, M, H⟩ := A
  refine ⟨_, A.same W, by rw [sz_set]; exact S, M, fun i hi => ?_⟩
  rw [(clamp hj).1]
  by_cases q : i = j.toInt.toNat
  · subst q
    simp only [Cell.setSlot, if_true]
    show (c.slots.setIfInBounds j.toInt.toNat _)[j.toInt.toNat]? = _
    rw [Array.getElem?_setIfInBounds, if_pos rfl, if_pos (by rw [S]; exact hi)]
  · simp only [Cell.setSlot, q, if_false]
    rw [Array.getElem?_setIfInBounds_ne (Ne.symm q)]; exact H i hi
theorem AvJ.set (A : AvJ Z h a n fj) (hj : 0 ≤ j.toInt ∧ j.toInt < n) (W : Wr h h' a j.toNatClampNeg (.long xl)) : AvJ Z h' a n (fun i => if i = j.toInt.toNat then xl else fj i) := by
  obtain ⟨c, A, S, M, H⟩ := A
  refine ⟨_, A.same W, by rw [sz_set]; exact S, M, fun i hi => ?_⟩
  rw [(clamp hj).1]
  by_cases q : i = j.toInt.toNat
  · subst q
    simp only [Cell.setSlot, if_true]
    show (c.slots.setIfInBounds j.toInt.toNat _)[j.toInt.toNat]? = _
    rw [Array.getElem?_setIfInBounds, if_pos rfl, if_pos (by rw [S]; exact hi)]
  · simp only [Cell.setSlot, q, if_false]
    rw [Array.getElem?_setIfInBounds_ne (Ne.symm q)]; exact H i hi
theorem stoI (X : Stand p l e R s m args below meth c T locs cells slots) (hx : p.tables.exec = Jvm.exec) (hZ : Z.Warmed39 s.vm) (e0 : T.heap = h) (A : AvI Z h a .int n f) (hj : 0 ≤ j.toInt ∧ j.toInt < n) (hg : g.method = m) (hs : g.stack = .int x :: .int j :: .ref a :: rest) (hd : decode c.code g.pc = .ok (.iastore, 1)) :
    ∃ T' h', Stand p l e R s m args below meth c T' (locs ++ [⟨a, j.toNatClampNeg⟩]) cells slots ∧ T'.heap = h' ∧ AvI Z h' a .int n (fun i => if i = j.toInt.toNat then x else f i) ∧ Wr h h' a j.toNatClampNeg (.int x) ∧ ∀ t, Steps p.tables e below (T'.setTop { g with pc := g.pc + 1, stack := rest }) t → Steps p.tables e below (T.setTop g) t := by
  obtain ⟨c, A', S, M, H⟩ := id A
  obtain ⟨T', h', X', e', W, st⟩ := stI X hx hZ e0 A' (inb S hj) hg hs hd
  exact ⟨T', h', X', e', A.set hj W, W, st⟩
theorem stoJ (X : Stand p l e R s m args below meth c T locs cells slots) (hx : p.tables.exec = Jvm.exec) (hZ : Z.Warmed39 s.vm) (e0 : T.heap = h) (A : AvJ Z h a n fj) (hj : 0 ≤ j.toInt ∧ j.toInt < n) (hg : g.method = m) (hs : g.stack = .long xl :: .int j :: .ref a :: rest) (hd : decode c.code g.pc = .ok (.lastore, 1)) :
    ∃ T' h', Stand p l e R s m args below meth c T' (locs ++ [⟨a, j.toNatClampNeg⟩]) cells slots ∧ T'.heap = h' ∧ AvJ Z h' a n (fun i => if i = j.toInt.toNat then xl else fj i) ∧ Wr h h' a j.toNatClampNeg (.long xl) ∧ ∀ t, Steps p.tables e below (T'.setTop { g with pc := g.pc + 1, stack := rest }) t → Steps p.tables e below (T.setTop g) t := by
  obtain ⟨c, A', S, M, H⟩ := id A
  obtain ⟨T', h', X', e', W, st⟩ := stJ X hx hZ e0 A' (inb S hj) hg hs hd
  exact ⟨T', h', X', e', A.set hj W, W, st⟩
theorem stoB (X : Stand p l e R s m args below meth c T locs cells slots) (hx : p.tables.exec = Jvm.exec) (hZ : Z.Warmed39 s.vm) (e0 : T.heap = h) (A : AvI Z h a .byte n f) (hj : 0 ≤ j.toInt ∧ j.toInt < n) (hg : g.method = m) (hs : g.stack = .int x :: .int j :: .ref a :: rest) (hd : decode c.code g.pc = .ok (.bastore, 1)) :
    ∃ T' h', Stand p l e R s m args below meth c T' (locs ++ [⟨a, j.toNatClampNeg⟩]) cells slots ∧ T'.heap = h' ∧ AvI Z h' a .byte n (fun i => if i = j.toInt.toNat then nar .byte x else f i) ∧ Wr h h' a j.toNatClampNeg (.int (nar .byte x)) ∧ ∀ t, Steps p.tables e below (T'.setTop { g with pc := g.pc + 1, stack := rest }) t → Steps p.tables e below (T.setTop g) t := by
  obtain ⟨c, A', S, M, H⟩ := id A
  obtain ⟨T', h', X', e', W, st⟩ := stB X hx hZ e0 A' (inb S hj) hg hs hd
  exact ⟨T', h', X', e', A.set hj W, W, st⟩
theorem stoZ (X : Stand p l e R s m args below meth c T locs cells slots) (hx : p.tables.exec = Jvm.exec) (hZ : Z.Warmed39 s.vm) (e0 : T.heap = h) (A : AvI Z h a .boolean n f) (hj : 0 ≤ j.toInt ∧ j.toInt < n) (hg : g.method = m) (hs : g.stack = .int x :: .int j :: .ref a :: rest) (hd : decode c.code g.pc = .ok (.bastore, 1)) :
    ∃ T' h', Stand p l e R s m args below meth c T' (locs ++ [⟨a, j.toNatClampNeg⟩]) cells slots ∧ T'.heap = h' ∧ AvI Z h' a .boolean n (fun i => if i = j.toInt.toNat then nar .boolean x else f i) ∧ Wr h h' a j.toNatClampNeg (.int (nar .boolean x)) ∧ ∀ t, Steps p.tables e below (T'.setTop { g with pc := g.pc + 1, stack := rest }) t → Steps p.tables e below (T.setTop g) t := by
  obtain ⟨c, A', S, M, H⟩ := id A
  obtain ⟨T', h', X', e', W, st⟩ := stZ X hx hZ e0 A' (inb S hj) hg hs hd
  exact ⟨T', h', X', e', A.set hj W, W, st⟩
theorem snoc {k : Nat} (N : Fr k locs) (q : k ≤ a) : Fr k (locs ++ [⟨a, sl⟩]) := N.app fun y hy => by cases List.mem_singleton.mp hy; exact q
theorem nmI {v x : Int32} {pc : Nat} {ls : Array Slot} {st : List Value} {t : State} (q : v = x) (k : Steps p.tables e below (T.setTop (mkF m pc ls (.int v :: st))) t) : Steps p.tables e below (T.setTop (mkF m pc ls (.int x :: st))) t := by subst q; exact k
theorem nmJ {v x : Int64} {pc : Nat} {ls : Array Slot} {st : List Value} {t : State} (q : v = x) (k : Steps p.tables e below (T.setTop (mkF m pc ls (.long v :: st))) t) : Steps p.tables e below (T.setTop (mkF m pc ls (.long x :: st))) t := by subst q; exact k
theorem ne_of {x y : Nat} (q : @Ne Nat x y) : @Ne Addr x y := q
theorem ldZ (X : Stand p l e R s m args below meth c T locs cells slots) (hx : p.tables.exec = Jvm.exec) (hZ : Z.Warmed39 s.vm) (e0 : T.heap = h) (A : AvI Z h a .boolean n f) (hj : 0 ≤ j.toInt ∧ j.toInt < n) (hg : g.method = m) (hs : g.stack = .int j :: .ref a :: rest) (hd : decode c.code g.pc = .ok (.baload, 1)) :
    ∀ t, Steps p.tables e below (T.setTop { g with pc := g.pc + 1, stack := .int (f j.toInt.toNat) :: rest }) t → Steps p.tables e below (T.setTop g) t := by
  obtain ⟨c, A, S, M, H⟩ := A
  exact fun t k => X.baloadBooleans hx (by rw [e0]; exact A.1) (State.isArrayOf_alike hZ.alike A.2.1) A.2.2 (inb S hj) (by rw [(clamp hj).1]; exact H _ (by omega)) hg hs hd _ k
theorem lrem_eq (x y : Int64) : x - x / y * y = x % y := by
  apply Int64.toInt_inj.mp
  have hy := Int64.toInt_mod x y
  have q := Int64.toInt_div x y
  rw [hy, Int64.toInt_sub, Int64.toInt_mul, q]
  have h1 := Int.tmod_add_mul_tdiv x.toInt y.toInt
  have h2 : x.toInt.tmod y.toInt = x.toInt - x.toInt.tdiv y.toInt * y.toInt := by rw [Int.mul_comm]; omega
  have h3 := rng64 x
  have h4 := rng64 y
  have h5 : (x.toInt.tmod y.toInt) % (2 ^ 64) = (x.toInt - x.toInt.tdiv y.toInt * y.toInt) % (2 ^ 64) := by rw [h2]
  have h6 : -2 ^ 63 ≤ x.toInt.tmod y.toInt ∧ x.toInt.tmod y.toInt < 2 ^ 63 := by rw [← hy]; exact ⟨(x % y).le_toInt, (x % y).toInt_lt⟩
  rw [← Int.bmod_eq_of_le (n := x.toInt.tmod y.toInt) (m := 2 ^ 64) (by omega) (by omega), h2]
  simp only [Int.bmod_sub_bmod, Int.sub_bmod_bmod, Int.bmod_mul_bmod, Int.mul_bmod_bmod]
theorem lremM {t : State} (X : Stand p l e R s m args below meth c T locs cells slots) (hx : p.tables.exec = Jvm.exec) (hg : g.method = m) {x y : Int64} (hd : decode c.code g.pc = .ok (.lrem, 1)) (hs : g.stack = .long y :: .long x :: rest) (hy : y ≠ 0)
    (hr : Steps p.tables e below (T.setTop { g with pc := g.pc + 1, stack := .long (x % y) :: rest }) t) : Steps p.tables e below (T.setTop g) t :=
  XS.lrem X.here hx hg hd hs hy (by rw [lrem_eq]; exact hr)
/-- a boolean as an int -/
def b2i (b : Bool) : Int32 := if b then 1 else 0
theorem b2i_t : b2i true = 1 := rfl
theorem b2i_f : b2i false = 0 := rfl
theorem b2i_nar (b : Bool) : nar .boolean (b2i b) = b2i b := by cases b <;> decide
theorem b2i_eq0 {b : Bool} : b2i b = 0 ↔ ¬ b = true := by cases b <;> decide
theorem b2i_inj {b b' : Bool} : b2i b = b2i b' ↔ b = b' := by cases b <;> cases b' <;> decide
end Kit
end Jvm.Own
namespace Jvm.Pilot.@@N@@
open Jvm Jvm.ClassFile Sem Op Lib Jvm.Free Jvm.Stand Jvm.LawKit Jvm.RoadKit Bundle Jvm.Pilot.@@N@@.Jvm.D
def own_v : Nat → Int64 → (Nat → Int32) → (Nat → Int32) → Nat → Int32
  | 0, _, _, g => g
  | m + 1, k, f, g => own_v m (k / (f m).toInt64) f (fun i => if i = m then (k % (f m).toInt64).toInt32 else g i)
theorem own_eq {a b : Int32} : a = b ↔ a.toInt = b.toInt := Int32.toInt_inj.symm
theorem own_lt {a b : Int32} : a < b ↔ a.toInt < b.toInt := Int32.lt_iff_toInt_lt
theorem own_four {v x : Int32} (h : v = x &&& 3) : v = 0 ∨ v = 1 ∨ v = 2 ∨ v = 3 := by
  have e : (x &&& 3).toInt = x.toInt % 2 ^ 2 := Jvm.Kit.i32_mask x 3 (k := 2) (by decide) (by decide)
  rw [← h] at e
  have k0 : (0 : Int32).toInt = 0 := by decide
  have k1 : (1 : Int32).toInt = 1 := by decide
  have k2 : (2 : Int32).toInt = 2 := by decide
  have k3 : (3 : Int32).toInt = 3 := by decide
  simp only [own_eq]; omega
theorem own_d {v x : Int32} (h : v = (x &&& 1023) + 1) : 1 ≤ v.toInt ∧ v.toInt ≤ 1024 := by
  have e : (x &&& 1023).toInt = x.toInt % 2 ^ 10 := Jvm.Kit.i32_mask x 1023 (k := 10) (by decide) (by decide)
  have k1 : (1 : Int32).toInt = 1 := by decide
  rw [h, Jvm.Kit.i32_add, e, k1] <;> (try rw [e, k1]) <;> omega
theorem own_nzJ {d : Int32} (h : 1 ≤ d.toInt ∧ d.toInt ≤ 1024) : d.toInt64 ≠ 0 := fun q => by
  have := congrArg Int64.toInt q
  rw [Jvm.Kit.i64_of_i32] at this
  have k0 : (0 : Int64).toInt = 0 := by decide
  omega
theorem own_div {k : Int64} {d : Int32} (hk : 0 ≤ k.toInt) (h : 1 ≤ d.toInt ∧ d.toInt ≤ 1024) : (k / d.toInt64).toInt = k.toInt / d.toInt := by
  rw [Jvm.Kit.i64_div (by rintro ⟨q, -⟩; omega), Jvm.Kit.i64_of_i32, Int.tdiv_eq_ediv_of_nonneg hk]
theorem own_mod {k : Int64} {d v : Int32} (hk : 0 ≤ k.toInt) (h : 1 ≤ d.toInt ∧ d.toInt ≤ 1024) (hv : v = (k % d.toInt64).toInt32) : v.toInt = k.toInt % d.toInt := by
  have e : (k % d.toInt64).toInt = k.toInt % d.toInt := by rw [Int64.toInt_mod, Jvm.Kit.i64_of_i32, Int.tmod_eq_emod_of_nonneg hk]
  have b1 := Int.emod_nonneg k.toInt (by omega : d.toInt ≠ 0)
  have b2 := Int.emod_lt_of_pos k.toInt (by omega : 0 < d.toInt)
  rw [hv, Jvm.Kit.i32_of_i64, e] <;> rw [e] <;> omega
theorem own_p1 {p : Int64} {d : Int32} (h : 1 ≤ d.toInt ∧ d.toInt ≤ 1024) (hp : p = 1 * d.toInt64) : p.toInt = d.toInt := by
  rw [hp, Int64.one_mul, Jvm.Kit.i64_of_i32]
theorem own_pm {p q : Int64} {d : Int32} {B : Int} (h : 1 ≤ d.toInt ∧ d.toInt ≤ 1024) (hq : 1 ≤ q.toInt ∧ q.toInt ≤ B) (hB : B ≤ 1048576) (hp : p = q * d.toInt64) : p.toInt = q.toInt * d.toInt ∧ 1 ≤ p.toInt ∧ p.toInt ≤ B * 1024 := by
  have b1 : q.toInt * d.toInt ≤ B * 1024 := Int.mul_le_mul hq.2 h.2 (by omega) (by omega)
  have b0 : 1 * 1 ≤ q.toInt * d.toInt := Int.mul_le_mul hq.1 h.1 (by omega) (by omega)
  have e : p.toInt = q.toInt * d.toInt := by rw [hp, Jvm.Kit.i64_mul] <;> rw [Jvm.Kit.i64_of_i32] <;> omega
  exact ⟨e, by omega, by omega⟩
theorem own_nzp {p : Int64} (h : 1 ≤ p.toInt) : p ≠ 0 := fun q => by
  rw [q] at h; exact absurd h (by decide)
theorem own_key {k x p : Int64} (h : 1 ≤ p.toInt) (hk : k = (x &&& 9223372036854775807) % p) : 0 ≤ k.toInt ∧ k.toInt < p.toInt := by
  have hm : (x &&& 9223372036854775807).toInt = x.toInt % 2 ^ 63 := Jvm.Kit.i64_mask x 9223372036854775807 (k := 63) (by decide) (by decide)
  have e : k.toInt = (x &&& 9223372036854775807).toInt % p.toInt := by rw [hk, Int64.toInt_mod, Int.tmod_eq_emod_of_nonneg (by omega)]
  rw [e]
  exact ⟨Int.emod_nonneg _ (by omega), Int.emod_lt_of_pos _ (by omega)⟩
theorem own_rng {k : Int64} {d v : Int32} (hk : 0 ≤ k.toInt) (h : 1 ≤ d.toInt ∧ d.toInt ≤ 1024) (hv : v = (k % d.toInt64).toInt32) : ¬ v < 0 ∧ v < d := by
  have e := own_mod hk h hv
  have k0 : (0 : Int32).toInt = 0 := by decide
  have b1 := Int.emod_nonneg k.toInt (by omega : d.toInt ≠ 0)
  have b2 := Int.emod_lt_of_pos k.toInt (by omega : 0 < d.toInt)
  rw [own_lt, own_lt]; omega
theorem own_dn {k : Int64} {d : Int32} (hk : 0 ≤ k.toInt) (h : 1 ≤ d.toInt ∧ d.toInt ≤ 1024) : 0 ≤ (k / d.toInt64).toInt := by
  rw [own_div hk h]; exact Int.ediv_nonneg hk (by omega)
theorem own_dl {k q d : Int} (hd : 1 ≤ d) (hk : k < q * d) : k / d < q := Int.ediv_lt_of_lt_mul (by omega) hk
/-- one word put back: x * d + v, where x = k / d and v = k % d -/
theorem own_back {k r x : Int64} {d v : Int32} (hk : 0 ≤ k.toInt) (h : 1 ≤ d.toInt ∧ d.toInt ≤ 1024) (hv : v = (k % d.toInt64).toInt32) (hx : x.toInt = k.toInt / d.toInt) (hr : r = x * d.toInt64 + v.toInt64) : r = k := by
  have e := own_mod hk h hv
  have rk := rng64 k
  have m := Int.ediv_mul_add_emod k.toInt d.toInt
  have b1 := Int.emod_nonneg k.toInt (by omega : d.toInt ≠ 0)
  have p0 : 0 ≤ k.toInt / d.toInt * d.toInt := Int.mul_nonneg (Int.ediv_nonneg hk (by omega)) (by omega)
  have e1 : (x * d.toInt64).toInt = k.toInt / d.toInt * d.toInt := by rw [Jvm.Kit.i64_mul] <;> rw [Jvm.Kit.i64_of_i32, hx] <;> omega
  apply Int64.toInt_inj.mp
  rw [hr, Jvm.Kit.i64_add, e1, Jvm.Kit.i64_of_i32, e] <;> (try rw [e1, Jvm.Kit.i64_of_i32, e]) <;> omega
theorem own_top {k r : Int64} {d v : Int32} (hk : 0 ≤ k.toInt ∧ k.toInt < d.toInt) (h : 1 ≤ d.toInt ∧ d.toInt ≤ 1024) (hv : v = (k % d.toInt64).toInt32) (hr : r = v.toInt64) : r.toInt = k.toInt := by
  rw [hr, Jvm.Kit.i64_of_i32, own_mod hk.1 h hv, Int.emod_eq_of_lt hk.1 hk.2]
theorem d10_0 : decode prog_64_method_6_code 0 = .ok (.lload_n 1, 1) := by decide +kernel
theorem d10_1 : decode prog_64_method_6_code 1 = .ok (.lstore 4, 2) := by decide +kernel
theorem d10_3 : decode prog_64_method_6_code 3 = .ok (.aload_n 3, 1) := by decide +kernel
theorem d10_4 : decode prog_64_method_6_code 4 = .ok (.arraylength, 1) := by decide +kernel
theorem d10_5 : decode prog_64_method_6_code 5 = .ok (.iconst 1, 1) := by decide +kernel
theorem d10_6 : decode prog_64_method_6_code 6 = .ok (.isub, 1) := by decide +kernel
theorem d10_7 : decode prog_64_method_6_code 7 = .ok (.istore 6, 2) := by decide +kernel
theorem d10_9 : decode prog_64_method_6_code 9 = .ok (.iload 6, 2) := by decide +kernel
theorem d10_11 : decode prog_64_method_6_code 11 = .ok (.ifCond .lt 32, 3) := by decide +kernel
theorem d10_43 : decode prog_64_method_6_code 43 = .ok (.return_, 1) := by decide +kernel
theorem pn_0 : plainName "com/example/ballast/ballast/model/CostTable" = true := by first | (simp [plainName, overriddenIn]; done) | decide +kernel
theorem ef_10 (m : MethodId) (o0 : Addr) (q1 : Int64) (o2 : Addr) : entryFrame m #[(.ref o0), (.long q1), (.ref o2)] 7 = mkF m 0 #[.val (.ref o0), .val (.long q1), .second, .val (.ref o2), .unset, .unset, .unset] [] := by first | (simp [entryFrame, mkF, argsToLocals, Value.category]; done) | rfl
def Q10 (Z : State) (o0 : Nat) (q1 : Int64) (o2 : Nat) (f g : Nat → Int32) (h0 : Heap) (n0 : Nat) (v : Option Value) (h : Heap) (L : List Loc) : Prop := v = none ∧ Fr n0 L ∧ Own.AvI Z h o2 .int 0 (own_v 0 q1 f g)
set_option maxRecDepth 65536 in
set_option maxHeartbeats 40000000 in
theorem rm10 (l : Launch) (Z : State) (a0 : Array Value) (hw : ∀ d ∈ tables_1, d.before a0 Z = true) (ws : List Jvm.Cond) (o0 : Nat) (q1 : Int64) (o2 : Nat) (f g : Nat → Int32) (h0 : Heap) (n0 : Nat) (Z0 : n0 ≤ h0.size) (g0 : n0 ≤ o2) (l0 : o0 < o2) (hd : ∀ i, i < 0 → (f i).toInt64 ≠ 0) (A0 : Own.AvI Z h0 o0 .int 0 f) (A1 : Own.AvI Z h0 o2 .int 0 g) :
    MetFree l (⟨"com/example/ballast/ballast/model/CostTable", "values", "([IJ[I)V"⟩ : MethodName) (head1 (Jvm.Cond.code (⟨"com/example/ballast/ballast/model/CostTable", "values", "([IJ[I)V"⟩ : MethodName) prog_64_method_6_code 7 none :: ws) ({ frames := 0, cells := 0, slots := 0, locals := 0 } : Room)) (fun a U => a = #[(.ref o0), (.long q1), (.ref o2)] ∧ Z.Warmed39 U.vm ∧ U.heap = h0) (fun _ _ _ _ _ => True) (fun _ U o U' => ∃ v L, o = .returned v ∧ Q10 Z o0 q1 o2 f g h0 n0 v U'.heap L ∧ FrameEnd U o U' L ({ frames := 0, cells := 0, slots := 0, locals := 0 } : Room).cells ({ frames := 0, cells := 0, slots := 0, locals := 0 } : Room).slots) := by
  refine Own.enter (Q := Q10 Z o0 q1 o2 f g h0 n0) (plainFor_of_name pn_0) ?_
  intro p e s m below meth c s₁ D hx hby hml hown hnm hret hZ X0 e0 hD hR
  have N0 := Fr.nil n0
  rw [show entryFrame m #[(.ref o0), (.long q1), (.ref o2)] 7 = mkF m 0 #[.val (.ref o0), .val (.long q1), .second, .val (.ref o2), .unset, .unset, .unset] [] from ef_10 m o0 q1 o2]
  refine hD _ (s₁.setTop (mkF m 43 #[.val (.ref o0), .val (.long q1), .second, .val (.ref o2), .val (.long q1), .second, .val (.int (-1 : Int32))] [])) (fun t k => ?_) ?_
  · show Steps p.tables e below (s₁.setTop (mkF m 0 #[.val (.ref o0), .val (.long q1), .second, .val (.ref o2), .unset, .unset, .unset] [])) t
    refine XS.lloadN X0.here hx rfl (hb hby d10_0) rfl ?_
    show Steps p.tables e below (s₁.setTop (mkF m 1 #[.val (.ref o0), .val (.long q1), .second, .val (.ref o2), .unset, .unset, .unset] [(.long q1)])) t
    refine XS.lstore X0.here hx rfl (hb hby d10_1) rfl (l' := #[.val (.ref o0), .val (.long q1), .second, .val (.ref o2), .val (.long q1), .second, .unset]) rfl ?_
    show Steps p.tables e below (s₁.setTop (mkF m 3 #[.val (.ref o0), .val (.long q1), .second, .val (.ref o2), .val (.long q1), .second, .unset] [])) t
    refine XS.aloadN X0.here hx rfl (hb hby d10_3) rfl rfl ?_
    show Steps p.tables e below (s₁.setTop (mkF m 4 #[.val (.ref o0), .val (.long q1), .second, .val (.ref o2), .val (.long q1), .second, .unset] [(.ref o2)])) t
    refine Own.lenI X0 hx hZ e0 A1 (g := (mkF m 4 #[.val (.ref o0), .val (.long q1), .second, .val (.ref o2), .val (.long q1), .second, .unset] [(.ref o2)])) rfl rfl (hb hby d10_4) _ ?_
    show Steps p.tables e below (s₁.setTop (mkF m 5 #[.val (.ref o0), .val (.long q1), .second, .val (.ref o2), .val (.long q1), .second, .unset] [(.int (Int32.ofNat 0))])) t
    refine Own.nmI (by decide : (0 : Int32) = (Int32.ofNat 0)) ?_
    show Steps p.tables e below (s₁.setTop (mkF m 5 #[.val (.ref o0), .val (.long q1), .second, .val (.ref o2), .val (.long q1), .second, .unset] [(.int (0 : Int32))])) t
    refine XS.iconst X0.here hx rfl (hb hby d10_5) ?_
    show Steps p.tables e below (s₁.setTop (mkF m 6 #[.val (.ref o0), .val (.long q1), .second, .val (.ref o2), .val (.long q1), .second, .unset] [(.int (1 : Int32)), (.int (0 : Int32))])) t
    refine XS.isub X0.here hx rfl (hb hby d10_6) rfl ?_
    show Steps p.tables e below (s₁.setTop (mkF m 7 #[.val (.ref o0), .val (.long q1), .second, .val (.ref o2), .val (.long q1), .second, .unset] [(.int ((0 : Int32) - (1 : Int32)))])) t
    refine Own.nmI (by decide : (-1 : Int32) = ((0 : Int32) - (1 : Int32))) ?_
    show Steps p.tables e below (s₁.setTop (mkF m 7 #[.val (.ref o0), .val (.long q1), .second, .val (.ref o2), .val (.long q1), .second, .unset] [(.int (-1 : Int32))])) t
    refine XS.istore X0.here hx rfl (hb hby d10_7) rfl (l' := #[.val (.ref o0), .val (.long q1), .second, .val (.ref o2), .val (.long q1), .second, .val (.int (-1 : Int32))]) rfl ?_
    show Steps p.tables e below (s₁.setTop (mkF m 9 #[.val (.ref o0), .val (.long q1), .second, .val (.ref o2), .val (.long q1), .second, .val (.int (-1 : Int32))] [])) t
    refine XS.iload X0.here hx rfl (hb hby d10_9) rfl ?_
    show Steps p.tables e below (s₁.setTop (mkF m 11 #[.val (.ref o0), .val (.long q1), .second, .val (.ref o2), .val (.long q1), .second, .val (.int (-1 : Int32))] [(.int (-1 : Int32))])) t
    refine XS.ifYes X0.here hx rfl (pc0 := 11) (pc' := 43) rfl (hb hby d10_11) rfl (by decide) (by decide) (by decide) ?_
    show Steps p.tables e below (s₁.setTop (mkF m 43 #[.val (.ref o0), .val (.long q1), .second, .val (.ref o2), .val (.long q1), .second, .val (.int (-1 : Int32))] [])) t
    exact k
  have A_ := A1
  exact Own.retV hR X0 hx hret (hb hby d10_43) (by decide) (by decide) ⟨rfl, N0, by rw [e0];  exact A_⟩
theorem d11_0 : decode prog_64_method_6_code 0 = .ok (.lload_n 1, 1) := by decide +kernel
theorem d11_1 : decode prog_64_method_6_code 1 = .ok (.lstore 4, 2) := by decide +kernel
theorem d11_3 : decode prog_64_method_6_code 3 = .ok (.aload_n 3, 1) := by decide +kernel
theorem d11_4 : decode prog_64_method_6_code 4 = .ok (.arraylength, 1) := by decide +kernel
theorem d11_5 : decode prog_64_method_6_code 5 = .ok (.iconst 1, 1) := by decide +kernel
theorem d11_6 : decode prog_64_method_6_code 6 = .ok (.isub, 1) := by decide +kernel
theorem d11_7 : decode prog_64_method_6_code 7 = .ok (.istore 6, 2) := by decide +kernel
theorem d11_9 : decode prog_64_method_6_code 9 = .ok (.iload 6, 2) := by decide +kernel
theorem d11_11 : decode prog_64_method_6_code 11 = .ok (.ifCond .lt 32, 3) := by decide +kernel
theorem d11_14 : decode prog_64_method_6_code 14 = .ok (.aload_n 3, 1) := by decide +kernel
theorem d11_15 : decode prog_64_method_6_code 15 = .ok (.iload 6, 2) := by decide +kernel
theorem d11_17 : decode prog_64_method_6_code 17 = .ok (.lload 4, 2) := by decide +kernel
theorem d11_19 : decode prog_64_method_6_code 19 = .ok (.aload_n 0, 1) := by decide +kernel
theorem d11_20 : decode prog_64_method_6_code 20 = .ok (.iload 6, 2) := by decide +kernel
theorem d11_22 : decode prog_64_method_6_code 22 = .ok (.iaload, 1) := by decide +kernel
theorem d11_23 : decode prog_64_method_6_code 23 = .ok (.i2l, 1) := by decide +kernel
theorem d11_24 : decode prog_64_method_6_code 24 = .ok (.lrem, 1) := by decide +kernel
theorem d11_25 : decode prog_64_method_6_code 25 = .ok (.l2i, 1) := by decide +kernel
theorem d11_26 : decode prog_64_method_6_code 26 = .ok (.iastore, 1) := by decide +kernel
theorem d11_27 : decode prog_64_method_6_code 27 = .ok (.lload 4, 2) := by decide +kernel
theorem d11_29 : decode prog_64_method_6_code 29 = .ok (.aload_n 0, 1) := by decide +kernel
theorem d11_30 : decode prog_64_method_6_code 30 = .ok (.iload 6, 2) := by decide +kernel
theorem d11_32 : decode prog_64_method_6_code 32 = .ok (.iaload, 1) := by decide +kernel
theorem d11_33 : decode prog_64_method_6_code 33 = .ok (.i2l, 1) := by decide +kernel
theorem d11_34 : decode prog_64_method_6_code 34 = .ok (.ldiv, 1) := by decide +kernel
theorem d11_35 : decode prog_64_method_6_code 35 = .ok (.lstore 4, 2) := by decide +kernel
theorem d11_37 : decode prog_64_method_6_code 37 = .ok (.iinc 6 (-1), 3) := by decide +kernel
theorem d11_40 : decode prog_64_method_6_code 40 = .ok (.goto (-31), 3) := by decide +kernel
theorem d11_43 : decode prog_64_method_6_code 43 = .ok (.return_, 1) := by decide +kernel
theorem ef_11 (m : MethodId) (o0 : Addr) (q1 : Int64) (o2 : Addr) : entryFrame m #[(.ref o0), (.long q1), (.ref o2)] 7 = mkF m 0 #[.val (.ref o0), .val (.long q1), .second, .val (.ref o2), .unset, .unset, .unset] [] := by first | (simp [entryFrame, mkF, argsToLocals, Value.category]; done) | rfl
def Q11 (Z : State) (o0 : Nat) (q1 : Int64) (o2 : Nat) (f g : Nat → Int32) (h0 : Heap) (n0 : Nat) (v : Option Value) (h : Heap) (L : List Loc) : Prop := v = none ∧ Fr n0 L ∧ Own.AvI Z h o2 .int 1 (own_v 1 q1 f g)
set_option maxRecDepth 65536 in
set_option maxHeartbeats 40000000 in
theorem rm11 (l : Launch) (Z : State) (a0 : Array Value) (hw : ∀ d ∈ tables_1, d.before a0 Z = true) (ws : List Jvm.Cond) (o0 : Nat) (q1 : Int64) (o2 : Nat) (f g : Nat → Int32) (h0 : Heap) (n0 : Nat) (Z0 : n0 ≤ h0.size) (g0 : n0 ≤ o2) (l0 : o0 < o2) (hd : ∀ i, i < 1 → (f i).toInt64 ≠ 0) (A0 : Own.AvI Z h0 o0 .int 1 f) (A1 : Own.AvI Z h0 o2 .int 1 g) :
    MetFree l (⟨"com/example/ballast/ballast/model/CostTable", "values", "([IJ[I)V"⟩ : MethodName) (head1 (Jvm.Cond.code (⟨"com/example/ballast/ballast/model/CostTable", "values", "([IJ[I)V"⟩ : MethodName) prog_64_method_6_code 7 none :: ws) ({ frames := 0, cells := 0, slots := 0, locals := 0 } : Room)) (fun a U => a = #[(.ref o0), (.long q1), (.ref o2)] ∧ Z.Warmed39 U.vm ∧ U.heap = h0) (fun _ _ _ _ _ => True) (fun _ U o U' => ∃ v L, o = .returned v ∧ Q11 Z o0 q1 o2 f g h0 n0 v U'.heap L ∧ FrameEnd U o U' L ({ frames := 0, cells := 0, slots := 0, locals := 0 } : Room).cells ({ frames := 0, cells := 0, slots := 0, locals := 0 } : Room).slots) := by
  refine Own.enter (Q := Q11 Z o0 q1 o2 f g h0 n0) (plainFor_of_name pn_0) ?_
  intro p e s m below meth c s₁ D hx hby hml hown hnm hret hZ X0 e0 hD hR
  have N0 := Fr.nil n0
  rw [show entryFrame m #[(.ref o0), (.long q1), (.ref o2)] 7 = mkF m 0 #[.val (.ref o0), .val (.long q1), .second, .val (.ref o2), .unset, .unset, .unset] [] from ef_11 m o0 q1 o2]
  have hj1 : 0 ≤ (0 : Int32).toInt ∧ (0 : Int32).toInt < (1 : Nat) := ⟨by decide, by decide⟩
  have hnz2 : ((f 0).toInt64) ≠ 0 := hd 0 (by decide)
  have hj3 : 0 ≤ (0 : Int32).toInt ∧ (0 : Int32).toInt < (1 : Nat) := ⟨by decide, by decide⟩
  obtain ⟨T4, h4, X4, e4, A4, W4, st4⟩ := Own.stoI X0 hx hZ e0 A1 hj3 (g := (mkF m 26 #[.val (.ref o0), .val (.long q1), .second, .val (.ref o2), .val (.long q1), .second, .val (.int (0 : Int32))] [(.int ((q1 % ((f 0).toInt64)).toInt32)), (.int (0 : Int32)), (.ref o2)])) rfl rfl (hb hby d11_26)
  have f5 : Own.AvI Z h4 o0 .int 1 f := A0.other W4 (Own.ne_of (by omega))
  have N4 := Fr.snoc X4 N0 (show n0 ≤ o2 by omega)
  have Z4 : n0 ≤ h4.size := Nat.le_trans Z0 (Keep.of_wr W4).1
  have hj6 : 0 ≤ (0 : Int32).toInt ∧ (0 : Int32).toInt < (1 : Nat) := ⟨by decide, by decide⟩
  have hnz7 : ((f 0).toInt64) ≠ 0 := hd 0 (by decide)
  obtain ⟨v8, hv8⟩ : ∃ z : Int64, z = (q1 / ((f 0).toInt64)) := ⟨_, rfl⟩
  refine hD _ (T4.setTop (mkF m 43 #[.val (.ref o0), .val (.long q1), .second, .val (.ref o2), .val (.long v8), .second, .val (.int (-1 : Int32))] [])) (fun t k => ?_) ?_
  · show Steps p.tables e below (s₁.setTop (mkF m 0 #[.val (.ref o0), .val (.long q1), .second, .val (.ref o2), .unset, .unset, .unset] [])) t
    refine XS.lloadN X0.here hx rfl (hb hby d11_0) rfl ?_
    show Steps p.tables e below (s₁.setTop (mkF m 1 #[.val (.ref o0), .val (.long q1), .second, .val (.ref o2), .unset, .unset, .unset] [(.long q1)])) t
    refine XS.lstore X0.here hx rfl (hb hby d11_1) rfl (l' := #[.val (.ref o0), .val (.long q1), .second, .val (.ref o2), .val (.long q1), .second, .unset]) rfl ?_
    show Steps p.tables e below (s₁.setTop (mkF m 3 #[.val (.ref o0), .val (.long q1), .second, .val (.ref o2), .val (.long q1), .second, .unset] [])) t
    refine XS.aloadN X0.here hx rfl (hb hby d11_3) rfl rfl ?_
    show Steps p.tables e below (s₁.setTop (mkF m 4 #[.val (.ref o0), .val (.long q1), .second, .val (.ref o2), .val (.long q1), .second, .unset] [(.ref o2)])) t
    refine Own.lenI X0 hx hZ e0 A1 (g := (mkF m 4 #[.val (.ref o0), .val (.long q1), .second, .val (.ref o2), .val (.long q1), .second, .unset] [(.ref o2)])) rfl rfl (hb hby d11_4) _ ?_
    show Steps p.tables e below (s₁.setTop (mkF m 5 #[.val (.ref o0), .val (.long q1), .second, .val (.ref o2), .val (.long q1), .second, .unset] [(.int (Int32.ofNat 1))])) t
    refine Own.nmI (by decide : (1 : Int32) = (Int32.ofNat 1)) ?_
    show Steps p.tables e below (s₁.setTop (mkF m 5 #[.val (.ref o0), .val (.long q1), .second, .val (.ref o2), .val (.long q1), .second, .unset] [(.int (1 : Int32))])) t
    refine XS.iconst X0.here hx rfl (hb hby d11_5) ?_
    show Steps p.tables e below (s₁.setTop (mkF m 6 #[.val (.ref o0), .val (.long q1), .second, .val (.ref o2), .val (.long q1), .second, .unset] [(.int (1 : Int32)), (.int (1 : Int32))])) t
    refine XS.isub X0.here hx rfl (hb hby d11_6) rfl ?_
    show Steps p.tables e below (s₁.setTop (mkF m 7 #[.val (.ref o0), .val (.long q1), .second, .val (.ref o2), .val (.long q1), .second, .unset] [(.int ((1 : Int32) - (1 : Int32)))])) t
    refine Own.nmI (by decide : (0 : Int32) = ((1 : Int32) - (1 : Int32))) ?_
    show Steps p.tables e below (s₁.setTop (mkF m 7 #[.val (.ref o0), .val (.long q1), .second, .val (.ref o2), .val (.long q1), .second, .unset] [(.int (0 : Int32))])) t
    refine XS.istore X0.here hx rfl (hb hby d11_7) rfl (l' := #[.val (.ref o0), .val (.long q1), .second, .val (.ref o2), .val (.long q1), .second, .val (.int (0 : Int32))]) rfl ?_
    show Steps p.tables e below (s₁.setTop (mkF m 9 #[.val (.ref o0), .val (.long q1), .second, .val (.ref o2), .val (.long q1), .second, .val (.int (0 : Int32))] [])) t
    refine XS.iload X0.here hx rfl (hb hby d11_9) rfl ?_
    show Steps p.tables e below (s₁.setTop (mkF m 11 #[.val (.ref o0), .val (.long q1), .second, .val (.ref o2), .val (.long q1), .second, .val (.int (0 : Int32))] [(.int (0 : Int32))])) t
    refine XS.ifNo X0.here hx rfl (hb hby d11_11) rfl (by decide) ?_
    show Steps p.tables e below (s₁.setTop (mkF m 14 #[.val (.ref o0), .val (.long q1), .second, .val (.ref o2), .val (.long q1), .second, .val (.int (0 : Int32))] [])) t
    refine XS.aloadN X0.here hx rfl (hb hby d11_14) rfl rfl ?_
    show Steps p.tables e below (s₁.setTop (mkF m 15 #[.val (.ref o0), .val (.long q1), .second, .val (.ref o2), .val (.long q1), .second, .val (.int (0 : Int32))] [(.ref o2)])) t
    refine XS.iload X0.here hx rfl (hb hby d11_15) rfl ?_
    show Steps p.tables e below (s₁.setTop (mkF m 17 #[.val (.ref o0), .val (.long q1), .second, .val (.ref o2), .val (.long q1), .second, .val (.int (0 : Int32))] [(.int (0 : Int32)), (.ref o2)])) t
    refine XS.lload X0.here hx rfl (hb hby d11_17) rfl ?_
    show Steps p.tables e below (s₁.setTop (mkF m 19 #[.val (.ref o0), .val (.long q1), .second, .val (.ref o2), .val (.long q1), .second, .val (.int (0 : Int32))] [(.long q1), (.int (0 : Int32)), (.ref o2)])) t
    refine XS.aloadN X0.here hx rfl (hb hby d11_19) rfl rfl ?_
    show Steps p.tables e below (s₁.setTop (mkF m 20 #[.val (.ref o0), .val (.long q1), .second, .val (.ref o2), .val (.long q1), .second, .val (.int (0 : Int32))] [(.ref o0), (.long q1), (.int (0 : Int32)), (.ref o2)])) t
    refine XS.iload X0.here hx rfl (hb hby d11_20) rfl ?_
    show Steps p.tables e below (s₁.setTop (mkF m 22 #[.val (.ref o0), .val (.long q1), .second, .val (.ref o2), .val (.long q1), .second, .val (.int (0 : Int32))] [(.int (0 : Int32)), (.ref o0), (.long q1), (.int (0 : Int32)), (.ref o2)])) t
    refine Own.ldI X0 hx hZ e0 A0 hj1 (g := (mkF m 22 #[.val (.ref o0), .val (.long q1), .second, .val (.ref o2), .val (.long q1), .second, .val (.int (0 : Int32))] [(.int (0 : Int32)), (.ref o0), (.long q1), (.int (0 : Int32)), (.ref o2)])) rfl rfl (hb hby d11_22) _ ?_
    show Steps p.tables e below (s₁.setTop (mkF m 23 #[.val (.ref o0), .val (.long q1), .second, .val (.ref o2), .val (.long q1), .second, .val (.int (0 : Int32))] [(.int (f 0)), (.long q1), (.int (0 : Int32)), (.ref o2)])) t
    refine XS.i2l X0.here hx rfl (hb hby d11_23) rfl ?_
    show Steps p.tables e below (s₁.setTop (mkF m 24 #[.val (.ref o0), .val (.long q1), .second, .val (.ref o2), .val (.long q1), .second, .val (.int (0 : Int32))] [(.long ((f 0).toInt64)), (.long q1), (.int (0 : Int32)), (.ref o2)])) t
    refine Own.lremM (g := (mkF m 24 #[.val (.ref o0), .val (.long q1), .second, .val (.ref o2), .val (.long q1), .second, .val (.int (0 : Int32))] [(.long ((f 0).toInt64)), (.long q1), (.int (0 : Int32)), (.ref o2)])) X0 hx rfl (hb hby d11_24) rfl hnz2 ?_
    show Steps p.tables e below (s₁.setTop (mkF m 25 #[.val (.ref o0), .val (.long q1), .second, .val (.ref o2), .val (.long q1), .second, .val (.int (0 : Int32))] [(.long (q1 % ((f 0).toInt64))), (.int (0 : Int32)), (.ref o2)])) t
    refine XS.l2i X0.here hx rfl (hb hby d11_25) rfl ?_
    show Steps p.tables e below (s₁.setTop (mkF m 26 #[.val (.ref o0), .val (.long q1), .second, .val (.ref o2), .val (.long q1), .second, .val (.int (0 : Int32))] [(.int ((q1 % ((f 0).toInt64)).toInt32)), (.int (0 : Int32)), (.ref o2)])) t
    refine st4 _ ?_
    show Steps p.tables e below (T4.setTop (mkF m 27 #[.val (.ref o0), .val (.long q1), .second, .val (.ref o2), .val (.long q1), .second, .val (.int (0 : Int32))] [])) t
    refine XS.lload X4.here hx rfl (hb hby d11_27) rfl ?_
    show Steps p.tables e below (T4.setTop (mkF m 29 #[.val (.ref o0), .val (.long q1), .second, .val (.ref o2), .val (.long q1), .second, .val (.int (0 : Int32))] [(.long q1)])) t
    refine XS.aloadN X4.here hx rfl (hb hby d11_29) rfl rfl ?_
    show Steps p.tables e below (T4.setTop (mkF m 30 #[.val (.ref o0), .val (.long q1), .second, .val (.ref o2), .val (.long q1), .second, .val (.int (0 : Int32))] [(.ref o0), (.long q1)])) t
    refine XS.iload X4.here hx rfl (hb hby d11_30) rfl ?_
    show Steps p.tables e below (T4.setTop (mkF m 32 #[.val (.ref o0), .val (.long q1), .second, .val (.ref o2), .val (.long q1), .second, .val (.int (0 : Int32))] [(.int (0 : Int32)), (.ref o0), (.long q1)])) t
    refine Own.ldI X4 hx hZ e4 f5 hj6 (g := (mkF m 32 #[.val (.ref o0), .val (.long q1), .second, .val (.ref o2), .val (.long q1), .second, .val (.int (0 : Int32))] [(.int (0 : Int32)), (.ref o0), (.long q1)])) rfl rfl (hb hby d11_32) _ ?_
    show Steps p.tables e below (T4.setTop (mkF m 33 #[.val (.ref o0), .val (.long q1), .second, .val (.ref o2), .val (.long q1), .second, .val (.int (0 : Int32))] [(.int (f 0)), (.long q1)])) t
    refine XS.i2l X4.here hx rfl (hb hby d11_33) rfl ?_
    show Steps p.tables e below (T4.setTop (mkF m 34 #[.val (.ref o0), .val (.long q1), .second, .val (.ref o2), .val (.long q1), .second, .val (.int (0 : Int32))] [(.long ((f 0).toInt64)), (.long q1)])) t
    refine XS.ldiv X4.here hx rfl (hb hby d11_34) rfl hnz7 ?_
    show Steps p.tables e below (T4.setTop (mkF m 35 #[.val (.ref o0), .val (.long q1), .second, .val (.ref o2), .val (.long q1), .second, .val (.int (0 : Int32))] [(.long (q1 / ((f 0).toInt64)))])) t
    refine Own.nmJ hv8 ?_
    show Steps p.tables e below (T4.setTop (mkF m 35 #[.val (.ref o0), .val (.long q1), .second, .val (.ref o2), .val (.long q1), .second, .val (.int (0 : Int32))] [(.long v8)])) t
    refine XS.lstore X4.here hx rfl (hb hby d11_35) rfl (l' := #[.val (.ref o0), .val (.long q1), .second, .val (.ref o2), .val (.long v8), .second, .val (.int (0 : Int32))]) rfl ?_
    show Steps p.tables e below (T4.setTop (mkF m 37 #[.val (.ref o0), .val (.long q1), .second, .val (.ref o2), .val (.long v8), .second, .val (.int (0 : Int32))] [])) t
    refine XS.iinc X4.here hx rfl (hb hby d11_37) rfl (l' := #[.val (.ref o0), .val (.long q1), .second, .val (.ref o2), .val (.long v8), .second, .val (.int ((0 : Int32) + (-1 : Int32)))]) rfl ?_
    show Steps p.tables e below (T4.setTop (mkF m 40 #[.val (.ref o0), .val (.long q1), .second, .val (.ref o2), .val (.long v8), .second, .val (.int ((0 : Int32) + (-1 : Int32)))] [])) t
    rw [show ((0 : Int32) + (-1 : Int32)) = (-1 : Int32) from by decide]
    show Steps p.tables e below (T4.setTop (mkF m 40 #[.val (.ref o0), .val (.long q1), .second, .val (.ref o2), .val (.long v8), .second, .val (.int (-1 : Int32))] [])) t
    refine XS.goto X4.here hx rfl (pc0 := 40) (pc' := 9) rfl (hb hby d11_40) (by decide) (by decide) ?_
    show Steps p.tables e below (T4.setTop (mkF m 9 #[.val (.ref o0), .val (.long q1), .second, .val (.ref o2), .val (.long v8), .second, .val (.int (-1 : Int32))] [])) t
    refine XS.iload X4.here hx rfl (hb hby d11_9) rfl ?_
    show Steps p.tables e below (T4.setTop (mkF m 11 #[.val (.ref o0), .val (.long q1), .second, .val (.ref o2), .val (.long v8), .second, .val (.int (-1 : Int32))] [(.int (-1 : Int32))])) t
    refine XS.ifYes X4.here hx rfl (pc0 := 11) (pc' := 43) rfl (hb hby d11_11) rfl (by decide) (by decide) (by decide) ?_
    show Steps p.tables e below (T4.setTop (mkF m 43 #[.val (.ref o0), .val (.long q1), .second, .val (.ref o2), .val (.long v8), .second, .val (.int (-1 : Int32))] [])) t
    exact k
  have A_ := A4
  exact Own.retV hR X4 hx hret (hb hby d11_43) (by decide) (by decide) ⟨rfl, N4, by rw [e4]; subst hv8; exact A_⟩
theorem d12_0 : decode prog_64_method_6_code 0 = .ok (.lload_n 1, 1) := by decide +kernel
theorem d12_1 : decode prog_64_method_6_code 1 = .ok (.lstore 4, 2) := by decide +kernel
theorem d12_3 : decode prog_64_method_6_code 3 = .ok (.aload_n 3, 1) := by decide +kernel
theorem d12_4 : decode prog_64_method_6_code 4 = .ok (.arraylength, 1) := by decide +kernel
theorem d12_5 : decode prog_64_method_6_code 5 = .ok (.iconst 1, 1) := by decide +kernel
theorem d12_6 : decode prog_64_method_6_code 6 = .ok (.isub, 1) := by decide +kernel
theorem d12_7 : decode prog_64_method_6_code 7 = .ok (.istore 6, 2) := by decide +kernel
theorem d12_9 : decode prog_64_method_6_code 9 = .ok (.iload 6, 2) := by decide +kernel
theorem d12_11 : decode prog_64_method_6_code 11 = .ok (.ifCond .lt 32, 3) := by decide +kernel
theorem d12_14 : decode prog_64_method_6_code 14 = .ok (.aload_n 3, 1) := by decide +kernel
theorem d12_15 : decode prog_64_method_6_code 15 = .ok (.iload 6, 2) := by decide +kernel
theorem d12_17 : decode prog_64_method_6_code 17 = .ok (.lload 4, 2) := by decide +kernel
theorem d12_19 : decode prog_64_method_6_code 19 = .ok (.aload_n 0, 1) := by decide +kernel
theorem d12_20 : decode prog_64_method_6_code 20 = .ok (.iload 6, 2) := by decide +kernel
theorem d12_22 : decode prog_64_method_6_code 22 = .ok (.iaload, 1) := by decide +kernel
theorem d12_23 : decode prog_64_method_6_code 23 = .ok (.i2l, 1) := by decide +kernel
theorem d12_24 : decode prog_64_method_6_code 24 = .ok (.lrem, 1) := by decide +kernel
theorem d12_25 : decode prog_64_method_6_code 25 = .ok (.l2i, 1) := by decide +kernel
theorem d12_26 : decode prog_64_method_6_code 26 = .ok (.iastore, 1) := by decide +kernel
theorem d12_27 : decode prog_64_method_6_code 27 = .ok (.lload 4, 2) := by decide +kernel
theorem d12_29 : decode prog_64_method_6_code 29 = .ok (.aload_n 0, 1) := by decide +kernel
theorem d12_30 : decode prog_64_method_6_code 30 = .ok (.iload 6, 2) := by decide +kernel
theorem d12_32 : decode prog_64_method_6_code 32 = .ok (.iaload, 1) := by decide +kernel
theorem d12_33 : decode prog_64_method_6_code 33 = .ok (.i2l, 1) := by decide +kernel
theorem d12_34 : decode prog_64_method_6_code 34 = .ok (.ldiv, 1) := by decide +kernel
theorem d12_35 : decode prog_64_method_6_code 35 = .ok (.lstore 4, 2) := by decide +kernel
theorem d12_37 : decode prog_64_method_6_code 37 = .ok (.iinc 6 (-1), 3) := by decide +kernel
theorem d12_40 : decode prog_64_method_6_code 40 = .ok (.goto (-31), 3) := by decide +kernel
theorem d12_43 : decode prog_64_method_6_code 43 = .ok (.return_, 1) := by decide +kernel
theorem ef_12 (m : MethodId) (o0 : Addr) (q1 : Int64) (o2 : Addr) : entryFrame m #[(.ref o0), (.long q1), (.ref o2)] 7 = mkF m 0 #[.val (.ref o0), .val (.long q1), .second, .val (.ref o2), .unset, .unset, .unset] [] := by first | (simp [entryFrame, mkF, argsToLocals, Value.category]; done) | rfl
def Q12 (Z : State) (o0 : Nat) (q1 : Int64) (o2 : Nat) (f g : Nat → Int32) (h0 : Heap) (n0 : Nat) (v : Option Value) (h : Heap) (L : List Loc) : Prop := v = none ∧ Fr n0 L ∧ Own.AvI Z h o2 .int 2 (own_v 2 q1 f g)
set_option maxRecDepth 65536 in
set_option maxHeartbeats 40000000 in
theorem rm12 (l : Launch) (Z : State) (a0 : Array Value) (hw : ∀ d ∈ tables_1, d.before a0 Z = true) (ws : List Jvm.Cond) (o0 : Nat) (q1 : Int64) (o2 : Nat) (f g : Nat → Int32) (h0 : Heap) (n0 : Nat) (Z0 : n0 ≤ h0.size) (g0 : n0 ≤ o2) (l0 : o0 < o2) (hd : ∀ i, i < 2 → (f i).toInt64 ≠ 0) (A0 : Own.AvI Z h0 o0 .int 2 f) (A1 : Own.AvI Z h0 o2 .int 2 g) :
    MetFree l (⟨"com/example/ballast/ballast/model/CostTable", "values", "([IJ[I)V"⟩ : MethodName) (head1 (Jvm.Cond.code (⟨"com/example/ballast/ballast/model/CostTable", "values", "([IJ[I)V"⟩ : MethodName) prog_64_method_6_code 7 none :: ws) ({ frames := 0, cells := 0, slots := 0, locals := 0 } : Room)) (fun a U => a = #[(.ref o0), (.long q1), (.ref o2)] ∧ Z.Warmed39 U.vm ∧ U.heap = h0) (fun _ _ _ _ _ => True) (fun _ U o U' => ∃ v L, o = .returned v ∧ Q12 Z o0 q1 o2 f g h0 n0 v U'.heap L ∧ FrameEnd U o U' L ({ frames := 0, cells := 0, slots := 0, locals := 0 } : Room).cells ({ frames := 0, cells := 0, slots := 0, locals := 0 } : Room).slots) := by
  refine Own.enter (Q := Q12 Z o0 q1 o2 f g h0 n0) (plainFor_of_name pn_0) ?_
  intro p e s m below meth c s₁ D hx hby hml hown hnm hret hZ X0 e0 hD hR
  have N0 := Fr.nil n0
  rw [show entryFrame m #[(.ref o0), (.long q1), (.ref o2)] 7 = mkF m 0 #[.val (.ref o0), .val (.long q1), .second, .val (.ref o2), .unset, .unset, .unset] [] from ef_12 m o0 q1 o2]
  have hj1 : 0 ≤ (1 : Int32).toInt ∧ (1 : Int32).toInt < (2 : Nat) := ⟨by decide, by decide⟩
  have hnz2 : ((f 1).toInt64) ≠ 0 := hd 1 (by decide)
  have hj3 : 0 ≤ (1 : Int32).toInt ∧ (1 : Int32).toInt < (2 : Nat) := ⟨by decide, by decide⟩
  obtain ⟨T4, h4, X4, e4, A4, W4, st4⟩ := Own.stoI X0 hx hZ e0 A1 hj3 (g := (mkF m 26 #[.val (.ref o0), .val (.long q1), .second, .val (.ref o2), .val (.long q1), .second, .val (.int (1 : Int32))] [(.int ((q1 % ((f 1).toInt64)).toInt32)), (.int (1 : Int32)), (.ref o2)])) rfl rfl (hb hby d12_26)
  have f5 : Own.AvI Z h4 o0 .int 2 f := A0.other W4 (Own.ne_of (by omega))
  have N4 := Fr.snoc X4 N0 (show n0 ≤ o2 by omega)
  have Z4 : n0 ≤ h4.size := Nat.le_trans Z0 (Keep.of_wr W4).1
  have hj6 : 0 ≤ (1 : Int32).toInt ∧ (1 : Int32).toInt < (2 : Nat) := ⟨by decide, by decide⟩
  have hnz7 : ((f 1).toInt64) ≠ 0 := hd 1 (by decide)
  obtain ⟨v8, hv8⟩ : ∃ z : Int64, z = (q1 / ((f 1).toInt64)) := ⟨_, rfl⟩
  have hj9 : 0 ≤ (0 : Int32).toInt ∧ (0 : Int32).toInt < (2 : Nat) := ⟨by decide, by decide⟩
  have hnz10 : ((f 0).toInt64) ≠ 0 := hd 0 (by decide)
  have hj11 : 0 ≤ (0 : Int32).toInt ∧ (0 : Int32).toInt < (2 : Nat) := ⟨by decide, by decide⟩
  obtain ⟨T12, h12, X12, e12, A12, W12, st12⟩ := Own.stoI X4 hx hZ e4 A4 hj11 (g := (mkF m 26 #[.val (.ref o0), .val (.long q1), .second, .val (.ref o2), .val (.long v8), .second, .val (.int (0 : Int32))] [(.int ((v8 % ((f 0).toInt64)).toInt32)), (.int (0 : Int32)), (.ref o2)])) rfl rfl (hb hby d12_26)
  have f13 : Own.AvI Z h12 o0 .int 2 f := f5.other W12 (Own.ne_of (by omega))
  have N12 := Fr.snoc X12 N4 (show n0 ≤ o2 by omega)
  have Z12 : n0 ≤ h12.size := Nat.le_trans Z4 (Keep.of_wr W12).1
  have hj14 : 0 ≤ (0 : Int32).toInt ∧ (0 : Int32).toInt < (2 : Nat) := ⟨by decide, by decide⟩
  have hnz15 : ((f 0).toInt64) ≠ 0 := hd 0 (by decide)
  obtain ⟨v16, hv16⟩ : ∃ z : Int64, z = (v8 / ((f 0).toInt64)) := ⟨_, rfl⟩
  refine hD _ (T12.setTop (mkF m 43 #[.val (.ref o0), .val (.long q1), .second, .val (.ref o2), .val (.long v16), .second, .val (.int (-1 : Int32))] [])) (fun t k => ?_) ?_
  · show Steps p.tables e below (s₁.setTop (mkF m 0 #[.val (.ref o0), .val (.long q1), .second, .val (.ref o2), .unset, .unset, .unset] [])) t
    refine XS.lloadN X0.here hx rfl (hb hby d12_0) rfl ?_
    show Steps p.tables e below (s₁.setTop (mkF m 1 #[.val (.ref o0), .val (.long q1), .second, .val (.ref o2), .unset, .unset, .unset] [(.long q1)])) t
    refine XS.lstore X0.here hx rfl (hb hby d12_1) rfl (l' := #[.val (.ref o0), .val (.long q1), .second, .val (.ref o2), .val (.long q1), .second, .unset]) rfl ?_
    show Steps p.tables e below (s₁.setTop (mkF m 3 #[.val (.ref o0), .val (.long q1), .second, .val (.ref o2), .val (.long q1), .second, .unset] [])) t
    refine XS.aloadN X0.here hx rfl (hb hby d12_3) rfl rfl ?_
    show Steps p.tables e below (s₁.setTop (mkF m 4 #[.val (.ref o0), .val (.long q1), .second, .val (.ref o2), .val (.long q1), .second, .unset] [(.ref o2)])) t
    refine Own.lenI X0 hx hZ e0 A1 (g := (mkF m 4 #[.val (.ref o0), .val (.long q1), .second, .val (.ref o2), .val (.long q1), .second, .unset] [(.ref o2)])) rfl rfl (hb hby d12_4) _ ?_
    show Steps p.tables e below (s₁.setTop (mkF m 5 #[.val (.ref o0), .val (.long q1), .second, .val (.ref o2), .val (.long q1), .second, .unset] [(.int (Int32.ofNat 2))])) t
    refine Own.nmI (by decide : (2 : Int32) = (Int32.ofNat 2)) ?_
    show Steps p.tables e below (s₁.setTop (mkF m 5 #[.val (.ref o0), .val (.long q1), .second, .val (.ref o2), .val (.long q1), .second, .unset] [(.int (2 : Int32))])) t
    refine XS.iconst X0.here hx rfl (hb hby d12_5) ?_
    show Steps p.tables e below (s₁.setTop (mkF m 6 #[.val (.ref o0), .val (.long q1), .second, .val (.ref o2), .val (.long q1), .second, .unset] [(.int (1 : Int32)), (.int (2 : Int32))])) t
    refine XS.isub X0.here hx rfl (hb hby d12_6) rfl ?_
    show Steps p.tables e below (s₁.setTop (mkF m 7 #[.val (.ref o0), .val (.long q1), .second, .val (.ref o2), .val (.long q1), .second, .unset] [(.int ((2 : Int32) - (1 : Int32)))])) t
    refine Own.nmI (by decide : (1 : Int32) = ((2 : Int32) - (1 : Int32))) ?_
    show Steps p.tables e below (s₁.setTop (mkF m 7 #[.val (.ref o0), .val (.long q1), .second, .val (.ref o2), .val (.long q1), .second, .unset] [(.int (1 : Int32))])) t
    refine XS.istore X0.here hx rfl (hb hby d12_7) rfl (l' := #[.val (.ref o0), .val (.long q1), .second, .val (.ref o2), .val (.long q1), .second, .val (.int (1 : Int32))]) rfl ?_
    show Steps p.tables e below (s₁.setTop (mkF m 9 #[.val (.ref o0), .val (.long q1), .second, .val (.ref o2), .val (.long q1), .second, .val (.int (1 : Int32))] [])) t
    refine XS.iload X0.here hx rfl (hb hby d12_9) rfl ?_
    show Steps p.tables e below (s₁.setTop (mkF m 11 #[.val (.ref o0), .val (.long q1), .second, .val (.ref o2), .val (.long q1), .second, .val (.int (1 : Int32))] [(.int (1 : Int32))])) t
    refine XS.ifNo X0.here hx rfl (hb hby d12_11) rfl (by decide) ?_
    show Steps p.tables e below (s₁.setTop (mkF m 14 #[.val (.ref o0), .val (.long q1), .second, .val (.ref o2), .val (.long q1), .second, .val (.int (1 : Int32))] [])) t
    refine XS.aloadN X0.here hx rfl (hb hby d12_14) rfl rfl ?_
    show Steps p.tables e below (s₁.setTop (mkF m 15 #[.val (.ref o0), .val (.long q1), .second, .val (.ref o2), .val (.long q1), .second, .val (.int (1 : Int32))] [(.ref o2)])) t
    refine XS.iload X0.here hx rfl (hb hby d12_15) rfl ?_
    show Steps p.tables e below (s₁.setTop (mkF m 17 #[.val (.ref o0), .val (.long q1), .second, .val (.ref o2), .val (.long q1), .second, .val (.int (1 : Int32))] [(.int (1 : Int32)), (.ref o2)])) t
    refine XS.lload X0.here hx rfl (hb hby d12_17) rfl ?_
    show Steps p.tables e below (s₁.setTop (mkF m 19 #[.val (.ref o0), .val (.long q1), .second, .val (.ref o2), .val (.long q1), .second, .val (.int (1 : Int32))] [(.long q1), (.int (1 : Int32)), (.ref o2)])) t
    refine XS.aloadN X0.here hx rfl (hb hby d12_19) rfl rfl ?_
    show Steps p.tables e below (s₁.setTop (mkF m 20 #[.val (.ref o0), .val (.long q1), .second, .val (.ref o2), .val (.long q1), .second, .val (.int (1 : Int32))] [(.ref o0), (.long q1), (.int (1 : Int32)), (.ref o2)])) t
    refine XS.iload X0.here hx rfl (hb hby d12_20) rfl ?_
    show Steps p.tables e below (s₁.setTop (mkF m 22 #[.val (.ref o0), .val (.long q1), .second, .val (.ref o2), .val (.long q1), .second, .val (.int (1 : Int32))] [(.int (1 : Int32)), (.ref o0), (.long q1), (.int (1 : Int32)), (.ref o2)])) t
    refine Own.ldI X0 hx hZ e0 A0 hj1 (g := (mkF m 22 #[.val (.ref o0), .val (.long q1), .second, .val (.ref o2), .val (.long q1), .second, .val (.int (1 : Int32))] [(.int (1 : Int32)), (.ref o0), (.long q1), (.int (1 : Int32)), (.ref o2)])) rfl rfl (hb hby d12_22) _ ?_
    show Steps p.tables e below (s₁.setTop (mkF m 23 #[.val (.ref o0), .val (.long q1), .second, .val (.ref o2), .val (.long q1), .second, .val (.int (1 : Int32))] [(.int (f 1)), (.long q1), (.int (1 : Int32)), (.ref o2)])) t
    refine XS.i2l X0.here hx rfl (hb hby d12_23) rfl ?_
    show Steps p.tables e below (s₁.setTop (mkF m 24 #[.val (.ref o0), .val (.long q1), .second, .val (.ref o2), .val (.long q1), .second, .val (.int (1 : Int32))] [(.long ((f 1).toInt64)), (.long q1), (.int (1 : Int32)), (.ref o2)])) t
    refine Own.lremM (g := (mkF m 24 #[.val (.ref o0), .val (.long q1), .second, .val (.ref o2), .val (.long q1), .second, .val (.int (1 : Int32))] [(.long ((f 1).toInt64)), (.long q1), (.int (1 : Int32)), (.ref o2)])) X0 hx rfl (hb hby d12_24) rfl hnz2 ?_
    show Steps p.tables e below (s₁.setTop (mkF m 25 #[.val (.ref o0), .val (.long q1), .second, .val (.ref o2), .val (.long q1), .second, .val (.int (1 : Int32))] [(.long (q1 % ((f 1).toInt64))), (.int (1 : Int32)), (.ref o2)])) t
    refine XS.l2i X0.here hx rfl (hb hby d12_25) rfl ?_
    show Steps p.tables e below (s₁.setTop (mkF m 26 #[.val (.ref o0), .val (.long q1), .second, .val (.ref o2), .val (.long q1), .second, .val (.int (1 : Int32))] [(.int ((q1 % ((f 1).toInt64)).toInt32)), (.int (1 : Int32)), (.ref o2)])) t
    refine st4 _ ?_
    show Steps p.tables e below (T4.setTop (mkF m 27 #[.val (.ref o0), .val (.long q1), .second, .val (.ref o2), .val (.long q1), .second, .val (.int (1 : Int32))] [])) t
    refine XS.lload X4.here hx rfl (hb hby d12_27) rfl ?_
    show Steps p.tables e below (T4.setTop (mkF m 29 #[.val (.ref o0), .val (.long q1), .second, .val (.ref o2), .val (.long q1), .second, .val (.int (1 : Int32))] [(.long q1)])) t
    refine XS.aloadN X4.here hx rfl (hb hby d12_29) rfl rfl ?_
    show Steps p.tables e below (T4.setTop (mkF m 30 #[.val (.ref o0), .val (.long q1), .second, .val (.ref o2), .val (.long q1), .second, .val (.int (1 : Int32))] [(.ref o0), (.long q1)])) t
    refine XS.iload X4.here hx rfl (hb hby d12_30) rfl ?_
    show Steps p.tables e below (T4.setTop (mkF m 32 #[.val (.ref o0), .val (.long q1), .second, .val (.ref o2), .val (.long q1), .second, .val (.int (1 : Int32))] [(.int (1 : Int32)), (.ref o0), (.long q1)])) t
    refine Own.ldI X4 hx hZ e4 f5 hj6 (g := (mkF m 32 #[.val (.ref o0), .val (.long q1), .second, .val (.ref o2), .val (.long q1), .second, .val (.int (1 : Int32))] [(.int (1 : Int32)), (.ref o0), (.long q1)])) rfl rfl (hb hby d12_32) _ ?_
    show Steps p.tables e below (T4.setTop (mkF m 33 #[.val (.ref o0), .val (.long q1), .second, .val (.ref o2), .val (.long q1), .second, .val (.int (1 : Int32))] [(.int (f 1)), (.long q1)])) t
    refine XS.i2l X4.here hx rfl (hb hby d12_33) rfl ?_
    show Steps p.tables e below (T4.setTop (mkF m 34 #[.val (.ref o0), .val (.long q1), .second, .val (.ref o2), .val (.long q1), .second, .val (.int (1 : Int32))] [(.long ((f 1).toInt64)), (.long q1)])) t
    refine XS.ldiv X4.here hx rfl (hb hby d12_34) rfl hnz7 ?_
    show Steps p.tables e below (T4.setTop (mkF m 35 #[.val (.ref o0), .val (.long q1), .second, .val (.ref o2), .val (.long q1), .second, .val (.int (1 : Int32))] [(.long (q1 / ((f 1).toInt64)))])) t
    refine Own.nmJ hv8 ?_
    show Steps p.tables e below (T4.setTop (mkF m 35 #[.val (.ref o0), .val (.long q1), .second, .val (.ref o2), .val (.long q1), .second, .val (.int (1 : Int32))] [(.long v8)])) t
    refine XS.lstore X4.here hx rfl (hb hby d12_35) rfl (l' := #[.val (.ref o0), .val (.long q1), .second, .val (.ref o2), .val (.long v8), .second, .val (.int (1 : Int32))]) rfl ?_
    show Steps p.tables e below (T4.setTop (mkF m 37 #[.val (.ref o0), .val (.long q1), .second, .val (.ref o2), .val (.long v8), .second, .val (.int (1 : Int32))] [])) t
    refine XS.iinc X4.here hx rfl (hb hby d12_37) rfl (l' := #[.val (.ref o0), .val (.long q1), .second, .val (.ref o2), .val (.long v8), .second, .val (.int ((1 : Int32) + (-1 : Int32)))]) rfl ?_
    show Steps p.tables e below (T4.setTop (mkF m 40 #[.val (.ref o0), .val (.long q1), .second, .val (.ref o2), .val (.long v8), .second, .val (.int ((1 : Int32) + (-1 : Int32)))] [])) t
    rw [show ((1 : Int32) + (-1 : Int32)) = (0 : Int32) from by decide]
    show Steps p.tables e below (T4.setTop (mkF m 40 #[.val (.ref o0), .val (.long q1), .second, .val (.ref o2), .val (.long v8), .second, .val (.int (0 : Int32))] [])) t
    refine XS.goto X4.here hx rfl (pc0 := 40) (pc' := 9) rfl (hb hby d12_40) (by decide) (by decide) ?_
    show Steps p.tables e below (T4.setTop (mkF m 9 #[.val (.ref o0), .val (.long q1), .second, .val (.ref o2), .val (.long v8), .second, .val (.int (0 : Int32))] [])) t
    refine XS.iload X4.here hx rfl (hb hby d12_9) rfl ?_
    show Steps p.tables e below (T4.setTop (mkF m 11 #[.val (.ref o0), .val (.long q1), .second, .val (.ref o2), .val (.long v8), .second, .val (.int (0 : Int32))] [(.int (0 : Int32))])) t
    refine XS.ifNo X4.here hx rfl (hb hby d12_11) rfl (by decide) ?_
    show Steps p.tables e below (T4.setTop (mkF m 14 #[.val (.ref o0), .val (.long q1), .second, .val (.ref o2), .val (.long v8), .second, .val (.int (0 : Int32))] [])) t
    refine XS.aloadN X4.here hx rfl (hb hby d12_14) rfl rfl ?_
    show Steps p.tables e below (T4.setTop (mkF m 15 #[.val (.ref o0), .val (.long q1), .second, .val (.ref o2), .val (.long v8), .second, .val (.int (0 : Int32))] [(.ref o2)])) t
    refine XS.iload X4.here hx rfl (hb hby d12_15) rfl ?_
    show Steps p.tables e below (T4.setTop (mkF m 17 #[.val (.ref o0), .val (.long q1), .second, .val (.ref o2), .val (.long v8), .second, .val (.int (0 : Int32))] [(.int (0 : Int32)), (.ref o2)])) t
    refine XS.lload X4.here hx rfl (hb hby d12_17) rfl ?_
    show Steps p.tables e below (T4.setTop (mkF m 19 #[.val (.ref o0), .val (.long q1), .second, .val (.ref o2), .val (.long v8), .second, .val (.int (0 : Int32))] [(.long v8), (.int (0 : Int32)), (.ref o2)])) t
    refine XS.aloadN X4.here hx rfl (hb hby d12_19) rfl rfl ?_
    show Steps p.tables e below (T4.setTop (mkF m 20 #[.val (.ref o0), .val (.long q1), .second, .val (.ref o2), .val (.long v8), .second, .val (.int (0 : Int32))] [(.ref o0), (.long v8), (.int (0 : Int32)), (.ref o2)])) t
    refine XS.iload X4.here hx rfl (hb hby d12_20) rfl ?_
    show Steps p.tables e below (T4.setTop (mkF m 22 #[.val (.ref o0), .val (.long q1), .second, .val (.ref o2), .val (.long v8), .second, .val (.int (0 : Int32))] [(.int (0 : Int32)), (.ref o0), (.long v8), (.int (0 : Int32)), (.ref o2)])) t
    refine Own.ldI X4 hx hZ e4 f5 hj9 (g := (mkF m 22 #[.val (.ref o0), .val (.long q1), .second, .val (.ref o2), .val (.long v8), .second, .val (.int (0 : Int32))] [(.int (0 : Int32)), (.ref o0), (.long v8), (.int (0 : Int32)), (.ref o2)])) rfl rfl (hb hby d12_22) _ ?_
    show Steps p.tables e below (T4.setTop (mkF m 23 #[.val (.ref o0), .val (.long q1), .second, .val (.ref o2), .val (.long v8), .second, .val (.int (0 : Int32))] [(.int (f 0)), (.long v8), (.int (0 : Int32)), (.ref o2)])) t
    refine XS.i2l X4.here hx rfl (hb hby d12_23) rfl ?_
    show Steps p.tables e below (T4.setTop (mkF m 24 #[.val (.ref o0), .val (.long q1), .second, .val (.ref o2), .val (.long v8), .second, .val (.int (0 : Int32))] [(.long ((f 0).toInt64)), (.long v8), (.int (0 : Int32)), (.ref o2)])) t
    refine Own.lremM (g := (mkF m 24 #[.val (.ref o0), .val (.long q1), .second, .val (.ref o2), .val (.long v8), .second, .val (.int (0 : Int32))] [(.long ((f 0).toInt64)), (.long v8), (.int (0 : Int32)), (.ref o2)])) X4 hx rfl (hb hby d12_24) rfl hnz10 ?_
    show Steps p.tables e below (T4.setTop (mkF m 25 #[.val (.ref o0), .val (.long q1), .second, .val (.ref o2), .val (.long v8), .second, .val (.int (0 : Int32))] [(.long (v8 % ((f 0).toInt64))), (.int (0 : Int32)), (.ref o2)])) t
    refine XS.l2i X4.here hx rfl (hb hby d12_25) rfl ?_
    show Steps p.tables e below (T4.setTop (mkF m 26 #[.val (.ref o0), .val (.long q1), .second, .val (.ref o2), .val (.long v8), .second, .val (.int (0 : Int32))] [(.int ((v8 % ((f 0).toInt64)).toInt32)), (.int (0 : Int32)), (.ref o2)])) t
    refine st12 _ ?_
    show Steps p.tables e below (T12.setTop (mkF m 27 #[.val (.ref o0), .val (.long q1), .second, .val (.ref o2), .val (.long v8), .second, .val (.int (0 : Int32))] [])) t
    refine XS.lload X12.here hx rfl (hb hby d12_27) rfl ?_
    show Steps p.tables e below (T12.setTop (mkF m 29 #[.val (.ref o0), .val (.long q1), .second, .val (.ref o2), .val (.long v8), .second, .val (.int (0 : Int32))] [(.long v8)])) t
    refine XS.aloadN X12.here hx rfl (hb hby d12_29) rfl rfl ?_
    show Steps p.tables e below (T12.setTop (mkF m 30 #[.val (.ref o0), .val (.long q1), .second, .val (.ref o2), .val (.long v8), .second, .val (.int (0 : Int32))] [(.ref o0), (.long v8)])) t
    refine XS.iload X12.here hx rfl (hb hby d12_30) rfl ?_
    show Steps p.tables e below (T12.setTop (mkF m 32 #[.val (.ref o0), .val (.long q1), .second, .val (.ref o2), .val (.long v8), .second, .val (.int (0 : Int32))] [(.int (0 : Int32)), (.ref o0), (.long v8)])) t
    refine Own.ldI X12 hx hZ e12 f13 hj14 (g := (mkF m 32 #[.val (.ref o0), .val (.long q1), .second, .val (.ref o2), .val (.long v8), .second, .val (.int (0 : Int32))] [(.int (0 : Int32)), (.ref o0), (.long v8)])) rfl rfl (hb hby d12_32) _ ?_
    show Steps p.tables e below (T12.setTop (mkF m 33 #[.val (.ref o0), .val (.long q1), .second, .val (.ref o2), .val (.long v8), .second, .val (.int (0 : Int32))] [(.int (f 0)), (.long v8)])) t
    refine XS.i2l X12.here hx rfl (hb hby d12_33) rfl ?_
    show Steps p.tables e below (T12.setTop (mkF m 34 #[.val (.ref o0), .val (.long q1), .second, .val (.ref o2), .val (.long v8), .second, .val (.int (0 : Int32))] [(.long ((f 0).toInt64)), (.long v8)])) t
    refine XS.ldiv X12.here hx rfl (hb hby d12_34) rfl hnz15 ?_
    show Steps p.tables e below (T12.setTop (mkF m 35 #[.val (.ref o0), .val (.long q1), .second, .val (.ref o2), .val (.long v8), .second, .val (.int (0 : Int32))] [(.long (v8 / ((f 0).toInt64)))])) t
    refine Own.nmJ hv16 ?_
    show Steps p.tables e below (T12.setTop (mkF m 35 #[.val (.ref o0), .val (.long q1), .second, .val (.ref o2), .val (.long v8), .second, .val (.int (0 : Int32))] [(.long v16)])) t
    refine XS.lstore X12.here hx rfl (hb hby d12_35) rfl (l' := #[.val (.ref o0), .val (.long q1), .second, .val (.ref o2), .val (.long v16), .second, .val (.int (0 : Int32))]) rfl ?_
    show Steps p.tables e below (T12.setTop (mkF m 37 #[.val (.ref o0), .val (.long q1), .second, .val (.ref o2), .val (.long v16), .second, .val (.int (0 : Int32))] [])) t
    refine XS.iinc X12.here hx rfl (hb hby d12_37) rfl (l' := #[.val (.ref o0), .val (.long q1), .second, .val (.ref o2), .val (.long v16), .second, .val (.int ((0 : Int32) + (-1 : Int32)))]) rfl ?_
    show Steps p.tables e below (T12.setTop (mkF m 40 #[.val (.ref o0), .val (.long q1), .second, .val (.ref o2), .val (.long v16), .second, .val (.int ((0 : Int32) + (-1 : Int32)))] [])) t
    rw [show ((0 : Int32) + (-1 : Int32)) = (-1 : Int32) from by decide]
    show Steps p.tables e below (T12.setTop (mkF m 40 #[.val (.ref o0), .val (.long q1), .second, .val (.ref o2), .val (.long v16), .second, .val (.int (-1 : Int32))] [])) t
    refine XS.goto X12.here hx rfl (pc0 := 40) (pc' := 9) rfl (hb hby d12_40) (by decide) (by decide) ?_
    show Steps p.tables e below (T12.setTop (mkF m 9 #[.val (.ref o0), .val (.long q1), .second, .val (.ref o2), .val (.long v16), .second, .val (.int (-1 : Int32))] [])) t
    refine XS.iload X12.here hx rfl (hb hby d12_9) rfl ?_
    show Steps p.tables e below (T12.setTop (mkF m 11 #[.val (.ref o0), .val (.long q1), .second, .val (.ref o2), .val (.long v16), .second, .val (.int (-1 : Int32))] [(.int (-1 : Int32))])) t
    refine XS.ifYes X12.here hx rfl (pc0 := 11) (pc' := 43) rfl (hb hby d12_11) rfl (by decide) (by decide) (by decide) ?_
    show Steps p.tables e below (T12.setTop (mkF m 43 #[.val (.ref o0), .val (.long q1), .second, .val (.ref o2), .val (.long v16), .second, .val (.int (-1 : Int32))] [])) t
    exact k
  have A_ := A12
  exact Own.retV hR X12 hx hret (hb hby d12_43) (by decide) (by decide) ⟨rfl, N12, by rw [e12]; subst hv16; subst hv8; exact A_⟩
theorem d13_0 : decode prog_64_method_6_code 0 = .ok (.lload_n 1, 1) := by decide +kernel
theorem d13_1 : decode prog_64_method_6_code 1 = .ok (.lstore 4, 2) := by decide +kernel
theorem d13_3 : decode prog_64_method_6_code 3 = .ok (.aload_n 3, 1) := by decide +kernel
theorem d13_4 : decode prog_64_method_6_code 4 = .ok (.arraylength, 1) := by decide +kernel
theorem d13_5 : decode prog_64_method_6_code 5 = .ok (.iconst 1, 1) := by decide +kernel
theorem d13_6 : decode prog_64_method_6_code 6 = .ok (.isub, 1) := by decide +kernel
theorem d13_7 : decode prog_64_method_6_code 7 = .ok (.istore 6, 2) := by decide +kernel
theorem d13_9 : decode prog_64_method_6_code 9 = .ok (.iload 6, 2) := by decide +kernel
theorem d13_11 : decode prog_64_method_6_code 11 = .ok (.ifCond .lt 32, 3) := by decide +kernel
theorem d13_14 : decode prog_64_method_6_code 14 = .ok (.aload_n 3, 1) := by decide +kernel
theorem d13_15 : decode prog_64_method_6_code 15 = .ok (.iload 6, 2) := by decide +kernel
theorem d13_17 : decode prog_64_method_6_code 17 = .ok (.lload 4, 2) := by decide +kernel
theorem d13_19 : decode prog_64_method_6_code 19 = .ok (.aload_n 0, 1) := by decide +kernel
theorem d13_20 : decode prog_64_method_6_code 20 = .ok (.iload 6, 2) := by decide +kernel
theorem d13_22 : decode prog_64_method_6_code 22 = .ok (.iaload, 1) := by decide +kernel
theorem d13_23 : decode prog_64_method_6_code 23 = .ok (.i2l, 1) := by decide +kernel
theorem d13_24 : decode prog_64_method_6_code 24 = .ok (.lrem, 1) := by decide +kernel
theorem d13_25 : decode prog_64_method_6_code 25 = .ok (.l2i, 1) := by decide +kernel
theorem d13_26 : decode prog_64_method_6_code 26 = .ok (.iastore, 1) := by decide +kernel
theorem d13_27 : decode prog_64_method_6_code 27 = .ok (.lload 4, 2) := by decide +kernel
theorem d13_29 : decode prog_64_method_6_code 29 = .ok (.aload_n 0, 1) := by decide +kernel
theorem d13_30 : decode prog_64_method_6_code 30 = .ok (.iload 6, 2) := by decide +kernel
theorem d13_32 : decode prog_64_method_6_code 32 = .ok (.iaload, 1) := by decide +kernel
theorem d13_33 : decode prog_64_method_6_code 33 = .ok (.i2l, 1) := by decide +kernel
theorem d13_34 : decode prog_64_method_6_code 34 = .ok (.ldiv, 1) := by decide +kernel
theorem d13_35 : decode prog_64_method_6_code 35 = .ok (.lstore 4, 2) := by decide +kernel
theorem d13_37 : decode prog_64_method_6_code 37 = .ok (.iinc 6 (-1), 3) := by decide +kernel
theorem d13_40 : decode prog_64_method_6_code 40 = .ok (.goto (-31), 3) := by decide +kernel
theorem d13_43 : decode prog_64_method_6_code 43 = .ok (.return_, 1) := by decide +kernel
theorem ef_13 (m : MethodId) (o0 : Addr) (q1 : Int64) (o2 : Addr) : entryFrame m #[(.ref o0), (.long q1), (.ref o2)] 7 = mkF m 0 #[.val (.ref o0), .val (.long q1), .second, .val (.ref o2), .unset, .unset, .unset] [] := by first | (simp [entryFrame, mkF, argsToLocals, Value.category]; done) | rfl
def Q13 (Z : State) (o0 : Nat) (q1 : Int64) (o2 : Nat) (f g : Nat → Int32) (h0 : Heap) (n0 : Nat) (v : Option Value) (h : Heap) (L : List Loc) : Prop := v = none ∧ Fr n0 L ∧ Own.AvI Z h o2 .int 3 (own_v 3 q1 f g)
set_option maxRecDepth 65536 in
set_option maxHeartbeats 40000000 in
theorem rm13 (l : Launch) (Z : State) (a0 : Array Value) (hw : ∀ d ∈ tables_1, d.before a0 Z = true) (ws : List Jvm.Cond) (o0 : Nat) (q1 : Int64) (o2 : Nat) (f g : Nat → Int32) (h0 : Heap) (n0 : Nat) (Z0 : n0 ≤ h0.size) (g0 : n0 ≤ o2) (l0 : o0 < o2) (hd : ∀ i, i < 3 → (f i).toInt64 ≠ 0) (A0 : Own.AvI Z h0 o0 .int 3 f) (A1 : Own.AvI Z h0 o2 .int 3 g) :
    MetFree l (⟨"com/example/ballast/ballast/model/CostTable", "values", "([IJ[I)V"⟩ : MethodName) (head1 (Jvm.Cond.code (⟨"com/example/ballast/ballast/model/CostTable", "values", "([IJ[I)V"⟩ : MethodName) prog_64_method_6_code 7 none :: ws) ({ frames := 0, cells := 0, slots := 0, locals := 0 } : Room)) (fun a U => a = #[(.ref o0), (.long q1), (.ref o2)] ∧ Z.Warmed39 U.vm ∧ U.heap = h0) (fun _ _ _ _ _ => True) (fun _ U o U' => ∃ v L, o = .returned v ∧ Q13 Z o0 q1 o2 f g h0 n0 v U'.heap L ∧ FrameEnd U o U' L ({ frames := 0, cells := 0, slots := 0, locals := 0 } : Room).cells ({ frames := 0, cells := 0, slots := 0, locals := 0 } : Room).slots) := by
  refine Own.enter (Q := Q13 Z o0 q1 o2 f g h0 n0) (plainFor_of_name pn_0) ?_
  intro p e s m below meth c s₁ D hx hby hml hown hnm hret hZ X0 e0 hD hR
  have N0 := Fr.nil n0
  rw [show entryFrame m #[(.ref o0), (.long q1), (.ref o2)] 7 = mkF m 0 #[.val (.ref o0), .val (.long q1), .second, .val (.ref o2), .unset, .unset, .unset] [] from ef_13 m o0 q1 o2]
  have hj1 : 0 ≤ (2 : Int32).toInt ∧ (2 : Int32).toInt < (3 : Nat) := ⟨by decide, by decide⟩
  have hnz2 : ((f 2).toInt64) ≠ 0 := hd 2 (by decide)
  have hj3 : 0 ≤ (2 : Int32).toInt ∧ (2 : Int32).toInt < (3 : Nat) := ⟨by decide, by decide⟩
  obtain ⟨T4, h4, X4, e4, A4, W4, st4⟩ := Own.stoI X0 hx hZ e0 A1 hj3 (g := (mkF m 26 #[.val (.ref o0), .val (.long q1), .second, .val (.ref o2), .val (.long q1), .second, .val (.int (2 : Int32))] [(.int ((q1 % ((f 2).toInt64)).toInt32)), (.int (2 : Int32)), (.ref o2)])) rfl rfl (hb hby d13_26)
  have f5 : Own.AvI Z h4 o0 .int 3 f := A0.other W4 (Own.ne_of (by omega))
  have N4 := Fr.snoc X4 N0 (show n0 ≤ o2 by omega)
  have Z4 : n0 ≤ h4.size := Nat.le_trans Z0 (Keep.of_wr W4).1
  have hj6 : 0 ≤ (2 : Int32).toInt ∧ (2 : Int32).toInt < (3 : Nat) := ⟨by decide, by decide⟩
  have hnz7 : ((f 2).toInt64) ≠ 0 := hd 2 (by decide)
  obtain ⟨v8, hv8⟩ : ∃ z : Int64, z = (q1 / ((f 2).toInt64)) := ⟨_, rfl⟩
  have hj9 : 0 ≤ (1 : Int32).toInt ∧ (1 : Int32).toInt < (3 : Nat) := ⟨by decide, by decide⟩
  have hnz10 : ((f 1).toInt64) ≠ 0 := hd 1 (by decide)
  have hj11 : 0 ≤ (1 : Int32).toInt ∧ (1 : Int32).toInt < (3 : Nat) := ⟨by decide, by decide⟩
  obtain ⟨T12, h12, X12, e12, A12, W12, st12⟩ := Own.stoI X4 hx hZ e4 A4 hj11 (g := (mkF m 26 #[.val (.ref o0), .val (.long q1), .second, .val (.ref o2), .val (.long v8), .second, .val (.int (1 : Int32))] [(.int ((v8 % ((f 1).toInt64)).toInt32)), (.int (1 : Int32)), (.ref o2)])) rfl rfl (hb hby d13_26)
  have f13 : Own.AvI Z h12 o0 .int 3 f := f5.other W12 (Own.ne_of (by omega))
  have N12 := Fr.snoc X12 N4 (show n0 ≤ o2 by omega)
  have Z12 : n0 ≤ h12.size := Nat.le_trans Z4 (Keep.of_wr W12).1
  have hj14 : 0 ≤ (1 : Int32).toInt ∧ (1 : Int32).toInt < (3 : Nat) := ⟨by decide, by decide⟩
  have hnz15 : ((f 1).toInt64) ≠ 0 := hd 1 (by decide)
  obtain ⟨v16, hv16⟩ : ∃ z : Int64, z = (v8 / ((f 1).toInt64)) := ⟨_, rfl⟩
  have hj17 : 0 ≤ (0 : Int32).toInt ∧ (0 : Int32).toInt < (3 : Nat) := ⟨by decide, by decide⟩
  have hnz18 : ((f 0).toInt64) ≠ 0 := hd 0 (by decide)
  have hj19 : 0 ≤ (0 : Int32).toInt ∧ (0 : Int32).toInt < (3 : Nat) := ⟨by decide, by decide⟩
  obtain ⟨T20, h20, X20, e20, A20, W20, st20⟩ := Own.stoI X12 hx hZ e12 A12 hj19 (g := (mkF m 26 #[.val (.ref o0), .val (.long q1), .second, .val (.ref o2), .val (.long v16), .second, .val (.int (0 : Int32))] [(.int ((v16 % ((f 0).toInt64)).toInt32)), (.int (0 : Int32)), (.ref o2)])) rfl rfl (hb hby d13_26)
  have f21 : Own.AvI Z h20 o0 .int 3 f := f13.other W20 (Own.ne_of (by omega))
  have N20 := Fr.snoc X20 N12 (show n0 ≤ o2 by omega)
  have Z20 : n0 ≤ h20.size := Nat.le_trans Z12 (Keep.of_wr W20).1
  have hj22 : 0 ≤ (0 : Int32).toInt ∧ (0 : Int32).toInt < (3 : Nat) := ⟨by decide, by decide⟩
  have hnz23 : ((f 0).toInt64) ≠ 0 := hd 0 (by decide)
  obtain ⟨v24, hv24⟩ : ∃ z : Int64, z = (v16 / ((f 0).toInt64)) := ⟨_, rfl⟩
  refine hD _ (T20.setTop (mkF m 43 #[.val (.ref o0), .val (.long q1), .second, .val (.ref o2), .val (.long v24), .second, .val (.int (-1 : Int32))] [])) (fun t k => ?_) ?_
  · show Steps p.tables e below (s₁.setTop (mkF m 0 #[.val (.ref o0), .val (.long q1), .second, .val (.ref o2), .unset, .unset, .unset] [])) t
    refine XS.lloadN X0.here hx rfl (hb hby d13_0) rfl ?_
    show Steps p.tables e below (s₁.setTop (mkF m 1 #[.val (.ref o0), .val (.long q1), .second, .val (.ref o2), .unset, .unset, .unset] [(.long q1)])) t
    refine XS.lstore X0.here hx rfl (hb hby d13_1) rfl (l' := #[.val (.ref o0), .val (.long q1), .second, .val (.ref o2), .val (.long q1), .second, .unset]) rfl ?_
    show Steps p.tables e below (s₁.setTop (mkF m 3 #[.val (.ref o0), .val (.long q1), .second, .val (.ref o2), .val (.long q1), .second, .unset] [])) t
    refine XS.aloadN X0.here hx rfl (hb hby d13_3) rfl rfl ?_
    show Steps p.tables e below (s₁.setTop (mkF m 4 #[.val (.ref o0), .val (.long q1), .second, .val (.ref o2), .val (.long q1), .second, .unset] [(.ref o2)])) t
    refine Own.lenI X0 hx hZ e0 A1 (g := (mkF m 4 #[.val (.ref o0), .val (.long q1), .second, .val (.ref o2), .val (.long q1), .second, .unset] [(.ref o2)])) rfl rfl (hb hby d13_4) _ ?_
    show Steps p.tables e below (s₁.setTop (mkF m 5 #[.val (.ref o0), .val (.long q1), .second, .val (.ref o2), .val (.long q1), .second, .unset] [(.int (Int32.ofNat 3))])) t
    refine Own.nmI (by decide : (3 : Int32) = (Int32.ofNat 3)) ?_
    show Steps p.tables e below (s₁.setTop (mkF m 5 #[.val (.ref o0), .val (.long q1), .second, .val (.ref o2), .val (.long q1), .second, .unset] [(.int (3 : Int32))])) t
    refine XS.iconst X0.here hx rfl (hb hby d13_5) ?_
    show Steps p.tables e below (s₁.setTop (mkF m 6 #[.val (.ref o0), .val (.long q1), .second, .val (.ref o2), .val (.long q1), .second, .unset] [(.int (1 : Int32)), (.int (3 : Int32))])) t
    refine XS.isub X0.here hx rfl (hb hby d13_6) rfl ?_
    show Steps p.tables e below (s₁.setTop (mkF m 7 #[.val (.ref o0), .val (.long q1), .second, .val (.ref o2), .val (.long q1), .second, .unset] [(.int ((3 : Int32) - (1 : Int32)))])) t
    refine Own.nmI (by decide : (2 : Int32) = ((3 : Int32) - (1 : Int32))) ?_
    show Steps p.tables e below (s₁.setTop (mkF m 7 #[.val (.ref o0), .val (.long q1), .second, .val (.ref o2), .val (.long q1), .second, .unset] [(.int (2 : Int32))])) t
    refine XS.istore X0.here hx rfl (hb hby d13_7) rfl (l' := #[.val (.ref o0), .val (.long q1), .second, .val (.ref o2), .val (.long q1), .second, .val (.int (2 : Int32))]) rfl ?_
    show Steps p.tables e below (s₁.setTop (mkF m 9 #[.val (.ref o0), .val (.long q1), .second, .val (.ref o2), .val (.long q1), .second, .val (.int (2 : Int32))] [])) t
    refine XS.iload X0.here hx rfl (hb hby d13_9) rfl ?_
    show Steps p.tables e below (s₁.setTop (mkF m 11 #[.val (.ref o0), .val (.long q1), .second, .val (.ref o2), .val (.long q1), .second, .val (.int (2 : Int32))] [(.int (2 : Int32))])) t
    refine XS.ifNo X0.here hx rfl (hb hby d13_11) rfl (by decide) ?_
    show Steps p.tables e below (s₁.setTop (mkF m 14 #[.val (.ref o0), .val (.long q1), .second, .val (.ref o2), .val (.long q1), .second, .val (.int (2 : Int32))] [])) t
    refine XS.aloadN X0.here hx rfl (hb hby d13_14) rfl rfl ?_
    show Steps p.tables e below (s₁.setTop (mkF m 15 #[.val (.ref o0), .val (.long q1), .second, .val (.ref o2), .val (.long q1), .second, .val (.int (2 : Int32))] [(.ref o2)])) t
    refine XS.iload X0.here hx rfl (hb hby d13_15) rfl ?_
    show Steps p.tables e below (s₁.setTop (mkF m 17 #[.val (.ref o0), .val (.long q1), .second, .val (.ref o2), .val (.long q1), .second, .val (.int (2 : Int32))] [(.int (2 : Int32)), (.ref o2)])) t
    refine XS.lload X0.here hx rfl (hb hby d13_17) rfl ?_
    show Steps p.tables e below (s₁.setTop (mkF m 19 #[.val (.ref o0), .val (.long q1), .second, .val (.ref o2), .val (.long q1), .second, .val (.int (2 : Int32))] [(.long q1), (.int (2 : Int32)), (.ref o2)])) t
    refine XS.aloadN X0.here hx rfl (hb hby d13_19) rfl rfl ?_
    show Steps p.tables e below (s₁.setTop (mkF m 20 #[.val (.ref o0), .val (.long q1), .second, .val (.ref o2), .val (.long q1), .second, .val (.int (2 : Int32))] [(.ref o0), (.long q1), (.int (2 : Int32)), (.ref o2)])) t
    refine XS.iload X0.here hx rfl (hb hby d13_20) rfl ?_
    show Steps p.tables e below (s₁.setTop (mkF m 22 #[.val (.ref o0), .val (.long q1), .second, .val (.ref o2), .val (.long q1), .second, .val (.int (2 : Int32))] [(.int (2 : Int32)), (.ref o0), (.long q1), (.int (2 : Int32)), (.ref o2)])) t
    refine Own.ldI X0 hx hZ e0 A0 hj1 (g := (mkF m 22 #[.val (.ref o0), .val (.long q1), .second, .val (.ref o2), .val (.long q1), .second, .val (.int (2 : Int32))] [(.int (2 : Int32)), (.ref o0), (.long q1), (.int (2 : Int32)), (.ref o2)])) rfl rfl (hb hby d13_22) _ ?_
    show Steps p.tables e below (s₁.setTop (mkF m 23 #[.val (.ref o0), .val (.long q1), .second, .val (.ref o2), .val (.long q1), .second, .val (.int (2 : Int32))] [(.int (f 2)), (.long q1), (.int (2 : Int32)), (.ref o2)])) t
    refine XS.i2l X0.here hx rfl (hb hby d13_23) rfl ?_
    show Steps p.tables e below (s₁.setTop (mkF m 24 #[.val (.ref o0), .val (.long q1), .second, .val (.ref o2), .val (.long q1), .second, .val (.int (2 : Int32))] [(.long ((f 2).toInt64)), (.long q1), (.int (2 : Int32)), (.ref o2)])) t
    refine Own.lremM (g := (mkF m 24 #[.val (.ref o0), .val (.long q1), .second, .val (.ref o2), .val (.long q1), .second, .val (.int (2 : Int32))] [(.long ((f 2).toInt64)), (.long q1), (.int (2 : Int32)), (.ref o2)])) X0 hx rfl (hb hby d13_24) rfl hnz2 ?_
    show Steps p.tables e below (s₁.setTop (mkF m 25 #[.val (.ref o0), .val (.long q1), .second, .val (.ref o2), .val (.long q1), .second, .val (.int (2 : Int32))] [(.long (q1 % ((f 2).toInt64))), (.int (2 : Int32)), (.ref o2)])) t
    refine XS.l2i X0.here hx rfl (hb hby d13_25) rfl ?_
    show Steps p.tables e below (s₁.setTop (mkF m 26 #[.val (.ref o0), .val (.long q1), .second, .val (.ref o2), .val (.long q1), .second, .val (.int (2 : Int32))] [(.int ((q1 % ((f 2).toInt64)).toInt32)), (.int (2 : Int32)), (.ref o2)])) t
    refine st4 _ ?_
    show Steps p.tables e below (T4.setTop (mkF m 27 #[.val (.ref o0), .val (.long q1), .second, .val (.ref o2), .val (.long q1), .second, .val (.int (2 : Int32))] [])) t
    refine XS.lload X4.here hx rfl (hb hby d13_27) rfl ?_
    show Steps p.tables e below (T4.setTop (mkF m 29 #[.val (.ref o0), .val (.long q1), .second, .val (.ref o2), .val (.long q1), .second, .val (.int (2 : Int32))] [(.long q1)])) t
    refine XS.aloadN X4.here hx rfl (hb hby d13_29) rfl rfl ?_
    show Steps p.tables e below (T4.setTop (mkF m 30 #[.val (.ref o0), .val (.long q1), .second, .val (.ref o2), .val (.long q1), .second, .val (.int (2 : Int32))] [(.ref o0), (.long q1)])) t
    refine XS.iload X4.here hx rfl (hb hby d13_30) rfl ?_
    show Steps p.tables e below (T4.setTop (mkF m 32 #[.val (.ref o0), .val (.long q1), .second, .val (.ref o2), .val (.long q1), .second, .val (.int (2 : Int32))] [(.int (2 : Int32)), (.ref o0), (.long q1)])) t
    refine Own.ldI X4 hx hZ e4 f5 hj6 (g := (mkF m 32 #[.val (.ref o0), .val (.long q1), .second, .val (.ref o2), .val (.long q1), .second, .val (.int (2 : Int32))] [(.int (2 : Int32)), (.ref o0), (.long q1)])) rfl rfl (hb hby d13_32) _ ?_
    show Steps p.tables e below (T4.setTop (mkF m 33 #[.val (.ref o0), .val (.long q1), .second, .val (.ref o2), .val (.long q1), .second, .val (.int (2 : Int32))] [(.int (f 2)), (.long q1)])) t
    refine XS.i2l X4.here hx rfl (hb hby d13_33) rfl ?_
    show Steps p.tables e below (T4.setTop (mkF m 34 #[.val (.ref o0), .val (.long q1), .second, .val (.ref o2), .val (.long q1), .second, .val (.int (2 : Int32))] [(.long ((f 2).toInt64)), (.long q1)])) t
    refine XS.ldiv X4.here hx rfl (hb hby d13_34) rfl hnz7 ?_
    show Steps p.tables e below (T4.setTop (mkF m 35 #[.val (.ref o0), .val (.long q1), .second, .val (.ref o2), .val (.long q1), .second, .val (.int (2 : Int32))] [(.long (q1 / ((f 2).toInt64)))])) t
    refine Own.nmJ hv8 ?_
    show Steps p.tables e below (T4.setTop (mkF m 35 #[.val (.ref o0), .val (.long q1), .second, .val (.ref o2), .val (.long q1), .second, .val (.int (2 : Int32))] [(.long v8)])) t
    refine XS.lstore X4.here hx rfl (hb hby d13_35) rfl (l' := #[.val (.ref o0), .val (.long q1), .second, .val (.ref o2), .val (.long v8), .second, .val (.int (2 : Int32))]) rfl ?_
    show Steps p.tables e below (T4.setTop (mkF m 37 #[.val (.ref o0), .val (.long q1), .second, .val (.ref o2), .val (.long v8), .second, .val (.int (2 : Int32))] [])) t
    refine XS.iinc X4.here hx rfl (hb hby d13_37) rfl (l' := #[.val (.ref o0), .val (.long q1), .second, .val (.ref o2), .val (.long v8), .second, .val (.int ((2 : Int32) + (-1 : Int32)))]) rfl ?_
    show Steps p.tables e below (T4.setTop (mkF m 40 #[.val (.ref o0), .val (.long q1), .second, .val (.ref o2), .val (.long v8), .second, .val (.int ((2 : Int32) + (-1 : Int32)))] [])) t
    rw [show ((2 : Int32) + (-1 : Int32)) = (1 : Int32) from by decide]
    show Steps p.tables e below (T4.setTop (mkF m 40 #[.val (.ref o0), .val (.long q1), .second, .val (.ref o2), .val (.long v8), .second, .val (.int (1 : Int32))] [])) t
    refine XS.goto X4.here hx rfl (pc0 := 40) (pc' := 9) rfl (hb hby d13_40) (by decide) (by decide) ?_
    show Steps p.tables e below (T4.setTop (mkF m 9 #[.val (.ref o0), .val (.long q1), .second, .val (.ref o2), .val (.long v8), .second, .val (.int (1 : Int32))] [])) t
    refine XS.iload X4.here hx rfl (hb hby d13_9) rfl ?_
    show Steps p.tables e below (T4.setTop (mkF m 11 #[.val (.ref o0), .val (.long q1), .second, .val (.ref o2), .val (.long v8), .second, .val (.int (1 : Int32))] [(.int (1 : Int32))])) t
    refine XS.ifNo X4.here hx rfl (hb hby d13_11) rfl (by decide) ?_
    show Steps p.tables e below (T4.setTop (mkF m 14 #[.val (.ref o0), .val (.long q1), .second, .val (.ref o2), .val (.long v8), .second, .val (.int (1 : Int32))] [])) t
    refine XS.aloadN X4.here hx rfl (hb hby d13_14) rfl rfl ?_
    show Steps p.tables e below (T4.setTop (mkF m 15 #[.val (.ref o0), .val (.long q1), .second, .val (.ref o2), .val (.long v8), .second, .val (.int (1 : Int32))] [(.ref o2)])) t
    refine XS.iload X4.here hx rfl (hb hby d13_15) rfl ?_
    show Steps p.tables e below (T4.setTop (mkF m 17 #[.val (.ref o0), .val (.long q1), .second, .val (.ref o2), .val (.long v8), .second, .val (.int (1 : Int32))] [(.int (1 : Int32)), (.ref o2)])) t
    refine XS.lload X4.here hx rfl (hb hby d13_17) rfl ?_
    show Steps p.tables e below (T4.setTop (mkF m 19 #[.val (.ref o0), .val (.long q1), .second, .val (.ref o2), .val (.long v8), .second, .val (.int (1 : Int32))] [(.long v8), (.int (1 : Int32)), (.ref o2)])) t
    refine XS.aloadN X4.here hx rfl (hb hby d13_19) rfl rfl ?_
    show Steps p.tables e below (T4.setTop (mkF m 20 #[.val (.ref o0), .val (.long q1), .second, .val (.ref o2), .val (.long v8), .second, .val (.int (1 : Int32))] [(.ref o0), (.long v8), (.int (1 : Int32)), (.ref o2)])) t
    refine XS.iload X4.here hx rfl (hb hby d13_20) rfl ?_
    show Steps p.tables e below (T4.setTop (mkF m 22 #[.val (.ref o0), .val (.long q1), .second, .val (.ref o2), .val (.long v8), .second, .val (.int (1 : Int32))] [(.int (1 : Int32)), (.ref o0), (.long v8), (.int (1 : Int32)), (.ref o2)])) t
    refine Own.ldI X4 hx hZ e4 f5 hj9 (g := (mkF m 22 #[.val (.ref o0), .val (.long q1), .second, .val (.ref o2), .val (.long v8), .second, .val (.int (1 : Int32))] [(.int (1 : Int32)), (.ref o0), (.long v8), (.int (1 : Int32)), (.ref o2)])) rfl rfl (hb hby d13_22) _ ?_
    show Steps p.tables e below (T4.setTop (mkF m 23 #[.val (.ref o0), .val (.long q1), .second, .val (.ref o2), .val (.long v8), .second, .val (.int (1 : Int32))] [(.int (f 1)), (.long v8), (.int (1 : Int32)), (.ref o2)])) t
    refine XS.i2l X4.here hx rfl (hb hby d13_23) rfl ?_
    show Steps p.tables e below (T4.setTop (mkF m 24 #[.val (.ref o0), .val (.long q1), .second, .val (.ref o2), .val (.long v8), .second, .val (.int (1 : Int32))] [(.long ((f 1).toInt64)), (.long v8), (.int (1 : Int32)), (.ref o2)])) t
    refine Own.lremM (g := (mkF m 24 #[.val (.ref o0), .val (.long q1), .second, .val (.ref o2), .val (.long v8), .second, .val (.int (1 : Int32))] [(.long ((f 1).toInt64)), (.long v8), (.int (1 : Int32)), (.ref o2)])) X4 hx rfl (hb hby d13_24) rfl hnz10 ?_
    show Steps p.tables e below (T4.setTop (mkF m 25 #[.val (.ref o0), .val (.long q1), .second, .val (.ref o2), .val (.long v8), .second, .val (.int (1 : Int32))] [(.long (v8 % ((f 1).toInt64))), (.int (1 : Int32)), (.ref o2)])) t
    refine XS.l2i X4.here hx rfl (hb hby d13_25) rfl ?_
    show Steps p.tables e below (T4.setTop (mkF m 26 #[.val (.ref o0), .val (.long q1), .second, .val (.ref o2), .val (.long v8), .second, .val (.int (1 : Int32))] [(.int ((v8 % ((f 1).toInt64)).toInt32)), (.int (1 : Int32)), (.ref o2)])) t
    refine st12 _ ?_
    show Steps p.tables e below (T12.setTop (mkF m 27 #[.val (.ref o0), .val (.long q1), .second, .val (.ref o2), .val (.long v8), .second, .val (.int (1 : Int32))] [])) t
    refine XS.lload X12.here hx rfl (hb hby d13_27) rfl ?_
    show Steps p.tables e below (T12.setTop (mkF m 29 #[.val (.ref o0), .val (.long q1), .second, .val (.ref o2), .val (.long v8), .second, .val (.int (1 : Int32))] [(.long v8)])) t
    refine XS.aloadN X12.here hx rfl (hb hby d13_29) rfl rfl ?_
    show Steps p.tables e below (T12.setTop (mkF m 30 #[.val (.ref o0), .val (.long q1), .second, .val (.ref o2), .val (.long v8), .second, .val (.int (1 : Int32))] [(.ref o0), (.long v8)])) t
    refine XS.iload X12.here hx rfl (hb hby d13_30) rfl ?_
    show Steps p.tables e below (T12.setTop (mkF m 32 #[.val (.ref o0), .val (.long q1), .second, .val (.ref o2), .val (.long v8), .second, .val (.int (1 : Int32))] [(.int (1 : Int32)), (.ref o0), (.long v8)])) t
    refine Own.ldI X12 hx hZ e12 f13 hj14 (g := (mkF m 32 #[.val (.ref o0), .val (.long q1), .second, .val (.ref o2), .val (.long v8), .second, .val (.int (1 : Int32))] [(.int (1 : Int32)), (.ref o0), (.long v8)])) rfl rfl (hb hby d13_32) _ ?_
    show Steps p.tables e below (T12.setTop (mkF m 33 #[.val (.ref o0), .val (.long q1), .second, .val (.ref o2), .val (.long v8), .second, .val (.int (1 : Int32))] [(.int (f 1)), (.long v8)])) t
    refine XS.i2l X12.here hx rfl (hb hby d13_33) rfl ?_
    show Steps p.tables e below (T12.setTop (mkF m 34 #[.val (.ref o0), .val (.long q1), .second, .val (.ref o2), .val (.long v8), .second, .val (.int (1 : Int32))] [(.long ((f 1).toInt64)), (.long v8)])) t
    refine XS.ldiv X12.here hx rfl (hb hby d13_34) rfl hnz15 ?_
    show Steps p.tables e below (T12.setTop (mkF m 35 #[.val (.ref o0), .val (.long q1), .second, .val (.ref o2), .val (.long v8), .second, .val (.int (1 : Int32))] [(.long (v8 / ((f 1).toInt64)))])) t
    refine Own.nmJ hv16 ?_
    show Steps p.tables e below (T12.setTop (mkF m 35 #[.val (.ref o0), .val (.long q1), .second, .val (.ref o2), .val (.long v8), .second, .val (.int (1 : Int32))] [(.long v16)])) t
    refine XS.lstore X12.here hx rfl (hb hby d13_35) rfl (l' := #[.val (.ref o0), .val (.long q1), .second, .val (.ref o2), .val (.long v16), .second, .val (.int (1 : Int32))]) rfl ?_
    show Steps p.tables e below (T12.setTop (mkF m 37 #[.val (.ref o0), .val (.long q1), .second, .val (.ref o2), .val (.long v16), .second, .val (.int (1 : Int32))] [])) t
    refine XS.iinc X12.here hx rfl (hb hby d13_37) rfl (l' := #[.val (.ref o0), .val (.long q1), .second, .val (.ref o2), .val (.long v16), .second, .val (.int ((1 : Int32) + (-1 : Int32)))]) rfl ?_
    show Steps p.tables e below (T12.setTop (mkF m 40 #[.val (.ref o0), .val (.long q1), .second, .val (.ref o2), .val (.long v16), .second, .val (.int ((1 : Int32) + (-1 : Int32)))] [])) t
    rw [show ((1 : Int32) + (-1 : Int32)) = (0 : Int32) from by decide]
    show Steps p.tables e below (T12.setTop (mkF m 40 #[.val (.ref o0), .val (.long q1), .second, .val (.ref o2), .val (.long v16), .second, .val (.int (0 : Int32))] [])) t
    refine XS.goto X12.here hx rfl (pc0 := 40) (pc' := 9) rfl (hb hby d13_40) (by decide) (by decide) ?_
    show Steps p.tables e below (T12.setTop (mkF m 9 #[.val (.ref o0), .val (.long q1), .second, .val (.ref o2), .val (.long v16), .second, .val (.int (0 : Int32))] [])) t
    refine XS.iload X12.here hx rfl (hb hby d13_9) rfl ?_
    show Steps p.tables e below (T12.setTop (mkF m 11 #[.val (.ref o0), .val (.long q1), .second, .val (.ref o2), .val (.long v16), .second, .val (.int (0 : Int32))] [(.int (0 : Int32))])) t
    refine XS.ifNo X12.here hx rfl (hb hby d13_11) rfl (by decide) ?_
    show Steps p.tables e below (T12.setTop (mkF m 14 #[.val (.ref o0), .val (.long q1), .second, .val (.ref o2), .val (.long v16), .second, .val (.int (0 : Int32))] [])) t
    refine XS.aloadN X12.here hx rfl (hb hby d13_14) rfl rfl ?_
    show Steps p.tables e below (T12.setTop (mkF m 15 #[.val (.ref o0), .val (.long q1), .second, .val (.ref o2), .val (.long v16), .second, .val (.int (0 : Int32))] [(.ref o2)])) t
    refine XS.iload X12.here hx rfl (hb hby d13_15) rfl ?_
    show Steps p.tables e below (T12.setTop (mkF m 17 #[.val (.ref o0), .val (.long q1), .second, .val (.ref o2), .val (.long v16), .second, .val (.int (0 : Int32))] [(.int (0 : Int32)), (.ref o2)])) t
    refine XS.lload X12.here hx rfl (hb hby d13_17) rfl ?_
    show Steps p.tables e below (T12.setTop (mkF m 19 #[.val (.ref o0), .val (.long q1), .second, .val (.ref o2), .val (.long v16), .second, .val (.int (0 : Int32))] [(.long v16), (.int (0 : Int32)), (.ref o2)])) t
    refine XS.aloadN X12.here hx rfl (hb hby d13_19) rfl rfl ?_
    show Steps p.tables e below (T12.setTop (mkF m 20 #[.val (.ref o0), .val (.long q1), .second, .val (.ref o2), .val (.long v16), .second, .val (.int (0 : Int32))] [(.ref o0), (.long v16), (.int (0 : Int32)), (.ref o2)])) t
    refine XS.iload X12.here hx rfl (hb hby d13_20) rfl ?_
    show Steps p.tables e below (T12.setTop (mkF m 22 #[.val (.ref o0), .val (.long q1), .second, .val (.ref o2), .val (.long v16), .second, .val (.int (0 : Int32))] [(.int (0 : Int32)), (.ref o0), (.long v16), (.int (0 : Int32)), (.ref o2)])) t
    refine Own.ldI X12 hx hZ e12 f13 hj17 (g := (mkF m 22 #[.val (.ref o0), .val (.long q1), .second, .val (.ref o2), .val (.long v16), .second, .val (.int (0 : Int32))] [(.int (0 : Int32)), (.ref o0), (.long v16), (.int (0 : Int32)), (.ref o2)])) rfl rfl (hb hby d13_22) _ ?_
    show Steps p.tables e below (T12.setTop (mkF m 23 #[.val (.ref o0), .val (.long q1), .second, .val (.ref o2), .val (.long v16), .second, .val (.int (0 : Int32))] [(.int (f 0)), (.long v16), (.int (0 : Int32)), (.ref o2)])) t
    refine XS.i2l X12.here hx rfl (hb hby d13_23) rfl ?_
    show Steps p.tables e below (T12.setTop (mkF m 24 #[.val (.ref o0), .val (.long q1), .second, .val (.ref o2), .val (.long v16), .second, .val (.int (0 : Int32))] [(.long ((f 0).toInt64)), (.long v16), (.int (0 : Int32)), (.ref o2)])) t
    refine Own.lremM (g := (mkF m 24 #[.val (.ref o0), .val (.long q1), .second, .val (.ref o2), .val (.long v16), .second, .val (.int (0 : Int32))] [(.long ((f 0).toInt64)), (.long v16), (.int (0 : Int32)), (.ref o2)])) X12 hx rfl (hb hby d13_24) rfl hnz18 ?_
    show Steps p.tables e below (T12.setTop (mkF m 25 #[.val (.ref o0), .val (.long q1), .second, .val (.ref o2), .val (.long v16), .second, .val (.int (0 : Int32))] [(.long (v16 % ((f 0).toInt64))), (.int (0 : Int32)), (.ref o2)])) t
    refine XS.l2i X12.here hx rfl (hb hby d13_25) rfl ?_
    show Steps p.tables e below (T12.setTop (mkF m 26 #[.val (.ref o0), .val (.long q1), .second, .val (.ref o2), .val (.long v16), .second, .val (.int (0 : Int32))] [(.int ((v16 % ((f 0).toInt64)).toInt32)), (.int (0 : Int32)), (.ref o2)])) t
    refine st20 _ ?_
    show Steps p.tables e below (T20.setTop (mkF m 27 #[.val (.ref o0), .val (.long q1), .second, .val (.ref o2), .val (.long v16), .second, .val (.int (0 : Int32))] [])) t
    refine XS.lload X20.here hx rfl (hb hby d13_27) rfl ?_
    show Steps p.tables e below (T20.setTop (mkF m 29 #[.val (.ref o0), .val (.long q1), .second, .val (.ref o2), .val (.long v16), .second, .val (.int (0 : Int32))] [(.long v16)])) t
    refine XS.aloadN X20.here hx rfl (hb hby d13_29) rfl rfl ?_
    show Steps p.tables e below (T20.setTop (mkF m 30 #[.val (.ref o0), .val (.long q1), .second, .val (.ref o2), .val (.long v16), .second, .val (.int (0 : Int32))] [(.ref o0), (.long v16)])) t
    refine XS.iload X20.here hx rfl (hb hby d13_30) rfl ?_
    show Steps p.tables e below (T20.setTop (mkF m 32 #[.val (.ref o0), .val (.long q1), .second, .val (.ref o2), .val (.long v16), .second, .val (.int (0 : Int32))] [(.int (0 : Int32)), (.ref o0), (.long v16)])) t
    refine Own.ldI X20 hx hZ e20 f21 hj22 (g := (mkF m 32 #[.val (.ref o0), .val (.long q1), .second, .val (.ref o2), .val (.long v16), .second, .val (.int (0 : Int32))] [(.int (0 : Int32)), (.ref o0), (.long v16)])) rfl rfl (hb hby d13_32) _ ?_
    show Steps p.tables e below (T20.setTop (mkF m 33 #[.val (.ref o0), .val (.long q1), .second, .val (.ref o2), .val (.long v16), .second, .val (.int (0 : Int32))] [(.int (f 0)), (.long v16)])) t
    refine XS.i2l X20.here hx rfl (hb hby d13_33) rfl ?_
    show Steps p.tables e below (T20.setTop (mkF m 34 #[.val (.ref o0), .val (.long q1), .second, .val (.ref o2), .val (.long v16), .second, .val (.int (0 : Int32))] [(.long ((f 0).toInt64)), (.long v16)])) t
    refine XS.ldiv X20.here hx rfl (hb hby d13_34) rfl hnz23 ?_
    show Steps p.tables e below (T20.setTop (mkF m 35 #[.val (.ref o0), .val (.long q1), .second, .val (.ref o2), .val (.long v16), .second, .val (.int (0 : Int32))] [(.long (v16 / ((f 0).toInt64)))])) t
    refine Own.nmJ hv24 ?_
    show Steps p.tables e below (T20.setTop (mkF m 35 #[.val (.ref o0), .val (.long q1), .second, .val (.ref o2), .val (.long v16), .second, .val (.int (0 : Int32))] [(.long v24)])) t
    refine XS.lstore X20.here hx rfl (hb hby d13_35) rfl (l' := #[.val (.ref o0), .val (.long q1), .second, .val (.ref o2), .val (.long v24), .second, .val (.int (0 : Int32))]) rfl ?_
    show Steps p.tables e below (T20.setTop (mkF m 37 #[.val (.ref o0), .val (.long q1), .second, .val (.ref o2), .val (.long v24), .second, .val (.int (0 : Int32))] [])) t
    refine XS.iinc X20.here hx rfl (hb hby d13_37) rfl (l' := #[.val (.ref o0), .val (.long q1), .second, .val (.ref o2), .val (.long v24), .second, .val (.int ((0 : Int32) + (-1 : Int32)))]) rfl ?_
    show Steps p.tables e below (T20.setTop (mkF m 40 #[.val (.ref o0), .val (.long q1), .second, .val (.ref o2), .val (.long v24), .second, .val (.int ((0 : Int32) + (-1 : Int32)))] [])) t
    rw [show ((0 : Int32) + (-1 : Int32)) = (-1 : Int32) from by decide]
    show Steps p.tables e below (T20.setTop (mkF m 40 #[.val (.ref o0), .val (.long q1), .second, .val (.ref o2), .val (.long v24), .second, .val (.int (-1 : Int32))] [])) t
    refine XS.goto X20.here hx rfl (pc0 := 40) (pc' := 9) rfl (hb hby d13_40) (by decide) (by decide) ?_
    show Steps p.tables e below (T20.setTop (mkF m 9 #[.val (.ref o0), .val (.long q1), .second, .val (.ref o2), .val (.long v24), .second, .val (.int (-1 : Int32))] [])) t
    refine XS.iload X20.here hx rfl (hb hby d13_9) rfl ?_
    show Steps p.tables e below (T20.setTop (mkF m 11 #[.val (.ref o0), .val (.long q1), .second, .val (.ref o2), .val (.long v24), .second, .val (.int (-1 : Int32))] [(.int (-1 : Int32))])) t
    refine XS.ifYes X20.here hx rfl (pc0 := 11) (pc' := 43) rfl (hb hby d13_11) rfl (by decide) (by decide) (by decide) ?_
    show Steps p.tables e below (T20.setTop (mkF m 43 #[.val (.ref o0), .val (.long q1), .second, .val (.ref o2), .val (.long v24), .second, .val (.int (-1 : Int32))] [])) t
    exact k
  have A_ := A20
  exact Own.retV hR X20 hx hret (hb hby d13_43) (by decide) (by decide) ⟨rfl, N20, by rw [e20]; subst hv24; subst hv16; subst hv8; exact A_⟩
theorem pd_0 : parseMethodDescriptor "([IJ[I)V" = some ⟨[(.array .int), .long, (.array .int)], none⟩ := by decide +kernel
theorem pn_1 : plainName "com/example/ballast/ballast/model/CostTableValuesPinLaw" = true := by first | (simp [plainName, overriddenIn]; done) | decide +kernel
theorem ef_0 (m : MethodId) (p0 : Int32) (p1 : Int32) (p2 : Int32) (p3 : Int32) (q4 : Int64) : entryFrame m #[(.int p0), (.int p1), (.int p2), (.int p3), (.long q4)] maxLocals = mkF m 0 #[.val (.int p0), .val (.int p1), .val (.int p2), .val (.int p3), .val (.long q4), .second, .unset, .unset, .unset, .unset, .unset, .unset, .unset, .unset, .unset, .unset, .unset, .unset, .unset, .unset] [] := by first | (simp [entryFrame, mkF, argsToLocals, Value.category, maxLocals]; done) | rfl
def Q0 (Z : State) (p0 : Int32) (p1 : Int32) (p2 : Int32) (p3 : Int32) (q4 : Int64) (h0 : Heap) (n0 : Nat) (v : Option Value) (h : Heap) (L : List Loc) : Prop := v = some (.int 1) ∧ Fr n0 L
set_option maxRecDepth 65536 in
set_option maxHeartbeats 40000000 in
theorem rm0 (l : Launch) (Z : State) (a0 : Array Value) (hw : ∀ d ∈ tables_1, d.before a0 Z = true) (ws : List Jvm.Cond) (p0 : Int32) (p1 : Int32) (p2 : Int32) (p3 : Int32) (q4 : Int64) (h0 : Heap) (n0 : Nat) (Z0 : n0 ≤ h0.size) :
    MetFree l x (head1 (Jvm.Cond.code x code maxLocals ret :: ws) room_1) (fun a U => a = #[(.int p0), (.int p1), (.int p2), (.int p3), (.long q4)] ∧ Z.Warmed39 U.vm ∧ U.heap = h0) (fun _ _ _ _ _ => True) (fun _ U o U' => ∃ v L, o = .returned v ∧ Q0 Z p0 p1 p2 p3 q4 h0 n0 v U'.heap L ∧ FrameEnd U o U' L room_1.cells room_1.slots) := by
  refine Own.enter (Q := Q0 Z p0 p1 p2 p3 q4 h0 n0) (plainFor_of_name pn_1) ?_
  intro p e s m below meth c s₁ D hx hby hml hown hnm hret hZ X0 e0 hD hR
  have N0 := Fr.nil n0
  rw [show entryFrame m #[(.int p0), (.int p1), (.int p2), (.int p3), (.long q4)] maxLocals = mkF m 0 #[.val (.int p0), .val (.int p1), .val (.int p2), .val (.int p3), .val (.long q4), .second, .unset, .unset, .unset, .unset, .unset, .unset, .unset, .unset, .unset, .unset, .unset, .unset, .unset, .unset] [] from ef_0 m p0 p1 p2 p3 q4]
  obtain ⟨v1, hv1⟩ : ∃ z : Int32, z = (p0 &&& (3 : Int32)) := ⟨_, rfl⟩
  refine hD _ (s₁.setTop (mkF m 5 #[.val (.int p0), .val (.int p1), .val (.int p2), .val (.int p3), .val (.long q4), .second, .val (.int v1), .unset, .unset, .unset, .unset, .unset, .unset, .unset, .unset, .unset, .unset, .unset, .unset, .unset] [])) (fun t k => ?_) ?_
  · show Steps p.tables e below (s₁.setTop (mkF m 0 #[.val (.int p0), .val (.int p1), .val (.int p2), .val (.int p3), .val (.long q4), .second, .unset, .unset, .unset, .unset, .unset, .unset, .unset, .unset, .unset, .unset, .unset, .unset, .unset, .unset] [])) t
    refine XS.iloadN X0.here hx rfl (hb hby at_0) rfl ?_
    show Steps p.tables e below (s₁.setTop (mkF m 1 #[.val (.int p0), .val (.int p1), .val (.int p2), .val (.int p3), .val (.long q4), .second, .unset, .unset, .unset, .unset, .unset, .unset, .unset, .unset, .unset, .unset, .unset, .unset, .unset, .unset] [(.int p0)])) t
    refine XS.iconst X0.here hx rfl (hb hby at_1) ?_
    show Steps p.tables e below (s₁.setTop (mkF m 2 #[.val (.int p0), .val (.int p1), .val (.int p2), .val (.int p3), .val (.long q4), .second, .unset, .unset, .unset, .unset, .unset, .unset, .unset, .unset, .unset, .unset, .unset, .unset, .unset, .unset] [(.int (3 : Int32)), (.int p0)])) t
    refine XS.iand X0.here hx rfl (hb hby at_2) rfl ?_
    show Steps p.tables e below (s₁.setTop (mkF m 3 #[.val (.int p0), .val (.int p1), .val (.int p2), .val (.int p3), .val (.long q4), .second, .unset, .unset, .unset, .unset, .unset, .unset, .unset, .unset, .unset, .unset, .unset, .unset, .unset, .unset] [(.int (p0 &&& (3 : Int32)))])) t
    refine Own.nmI hv1 ?_
    show Steps p.tables e below (s₁.setTop (mkF m 3 #[.val (.int p0), .val (.int p1), .val (.int p2), .val (.int p3), .val (.long q4), .second, .unset, .unset, .unset, .unset, .unset, .unset, .unset, .unset, .unset, .unset, .unset, .unset, .unset, .unset] [(.int v1)])) t
    refine XS.istore X0.here hx rfl (hb hby at_3) rfl (l' := #[.val (.int p0), .val (.int p1), .val (.int p2), .val (.int p3), .val (.long q4), .second, .val (.int v1), .unset, .unset, .unset, .unset, .unset, .unset, .unset, .unset, .unset, .unset, .unset, .unset, .unset]) rfl ?_
    show Steps p.tables e below (s₁.setTop (mkF m 5 #[.val (.int p0), .val (.int p1), .val (.int p2), .val (.int p3), .val (.long q4), .second, .val (.int v1), .unset, .unset, .unset, .unset, .unset, .unset, .unset, .unset, .unset, .unset, .unset, .unset, .unset] [])) t
    exact k
  rcases own_four hv1 with rfl | rfl | rfl | rfl
  · obtain ⟨v2, hv2⟩ : ∃ z : Int32, z = ((p1 &&& (1023 : Int32)) + (1 : Int32)) := ⟨_, rfl⟩
    obtain ⟨v3, hv3⟩ : ∃ z : Int32, z = ((p2 &&& (1023 : Int32)) + (1 : Int32)) := ⟨_, rfl⟩
    obtain ⟨v4, hv4⟩ : ∃ z : Int32, z = ((p3 &&& (1023 : Int32)) + (1 : Int32)) := ⟨_, rfl⟩
    obtain ⟨T5, h5, k5, X5, e5, E5, A5, st5⟩ := newP X0 hx hZ (hw _ (List.mem_of_getElem? (i := 0) rfl)) e0 (g := (mkF m 34 #[.val (.int p0), .val (.int p1), .val (.int p2), .val (.int p3), .val (.long q4), .second, .val (.int (0 : Int32)), .val (.int v2), .val (.int v3), .val (.int v4), .unset, .unset, .unset, .unset, .unset, .unset, .unset, .unset, .unset, .unset] [(.int (0 : Int32))])) rfl (hb hby at_34) rfl (by decide) (cap := 0) (by decide) (by decide) (by decide) (by decide)
    obtain ⟨b5, g_b5⟩ : ∃ z : Nat, z = h0.size := ⟨_, rfl⟩
    rw [← g_b5] at A5 st5
    have g0_b5 : n0 ≤ b5 := by rw [g_b5]; exact Z0
    have f6 : Own.AvI Z h5 b5 .int 0 (fun _ => 0) := Own.AvI.new A5 (by decide) rfl
    have Z5 : n0 ≤ h5.size := Nat.le_trans Z0 E5.1
    obtain ⟨T7, h7, k7, X7, e7, E7, A7, st7⟩ := newP X5 hx hZ (hw _ (List.mem_of_getElem? (i := 0) rfl)) e5 (g := (mkF m 40 #[.val (.int p0), .val (.int p1), .val (.int p2), .val (.int p3), .val (.long q4), .second, .val (.int (0 : Int32)), .val (.int v2), .val (.int v3), .val (.int v4), .val (.ref b5), .unset, .unset, .unset, .unset, .unset, .unset, .unset, .unset, .unset] [(.int (0 : Int32))])) rfl (hb hby at_40) rfl (by decide) (cap := 0) (by decide) (by decide) (by decide) (by decide)
    obtain ⟨b7, g_b7⟩ : ∃ z : Nat, z = h5.size := ⟨_, rfl⟩
    rw [← g_b7] at A7 st7
    have lt_b5_b7 : (b5 : Nat) < b7 := by rw [g_b7]; exact f6.lt
    have g0_b7 : n0 ≤ b7 := by rw [g_b7]; exact Z5
    have f8 : Own.AvI Z h7 b5 .int 0 (fun _ => 0) := f6.ext E7
    have f9 : Own.AvI Z h7 b7 .int 0 (fun _ => 0) := Own.AvI.new A7 (by decide) rfl
    have Z7 : n0 ≤ h7.size := Nat.le_trans Z5 E7.1
    have hp : 1 ≤ (1 : Int64).toInt := by decide
    have hnz10 : (1 : Int64) ≠ 0 := own_nzp hp
    obtain ⟨v11, hv11⟩ : ∃ z : Int64, z = ((q4 &&& (9223372036854775807 : Int64)) % (1 : Int64)) := ⟨_, rfl⟩
    have hk := own_key hp hv11
    obtain ⟨T12, _, L12, X12, ⟨rfl, Nq12, A12⟩, st12⟩ := Own.callS (y := (⟨"com/example/ballast/ballast/model/CostTable", "values", "([IJ[I)V"⟩ : MethodName)) (W := 0) (argsL := [(.ref b5), (.long v11), (.ref b7)]) (rest := []) X7 hx hZ hown (hw _ (List.mem_of_getElem? (i := 2) rfl)) (hw _ (List.mem_of_getElem? (i := 3) rfl)) (hw _ (List.mem_of_getElem? (i := 4) rfl)) (hw _ (List.mem_of_getElem? (i := 5) rfl)) (by decide) e7 (rm10 l Z a0 hw [] b5 v11 b7 (fun _ => 0) (fun _ => 0) h7 n0 Z7 g0_b7 lt_b5_b7 (fun i hi => by omega) f8 f9) (by decide) (by decide) (by decide) (by decide) (g := (mkF m 138 #[.val (.int p0), .val (.int p1), .val (.int p2), .val (.int p3), .val (.long q4), .second, .val (.int (0 : Int32)), .val (.int v2), .val (.int v3), .val (.int v4), .val (.ref b5), .val (.ref b7), .val (.long (1 : Int64)), .second, .val (.long v11), .second, .unset, .unset, .unset, .unset] [(.ref b7), (.long v11), (.ref b5)])) rfl (by rw [hml]; rfl) (lenOf pd_0 rfl) rfl (by show 2 * 0 + _ ≤ _; exact Nat.le_of_eq rfl) (hb hby at_138)
    have N12 := Fr.app N0 Nq12
    refine hD _ (T12.setTop (mkF m 296 #[.val (.int p0), .val (.int p1), .val (.int p2), .val (.int p3), .val (.long q4), .second, .val (.int (0 : Int32)), .val (.int v2), .val (.int v3), .val (.int v4), .val (.ref b5), .val (.ref b7), .val (.long (1 : Int64)), .second, .val (.long v11), .second, .val (.int (1 : Int32)), .val (.long (0 : Int64)), .second, .unset] [(.int (lcmpW (0 : Int64) v11))])) (fun t k => ?_) ?_
    · show Steps p.tables e below (s₁.setTop (mkF m 5 #[.val (.int p0), .val (.int p1), .val (.int p2), .val (.int p3), .val (.long q4), .second, .val (.int (0 : Int32)), .unset, .unset, .unset, .unset, .unset, .unset, .unset, .unset, .unset, .unset, .unset, .unset, .unset] [])) t
      refine XS.iloadN X0.here hx rfl (hb hby at_5) rfl ?_
      show Steps p.tables e below (s₁.setTop (mkF m 6 #[.val (.int p0), .val (.int p1), .val (.int p2), .val (.int p3), .val (.long q4), .second, .val (.int (0 : Int32)), .unset, .unset, .unset, .unset, .unset, .unset, .unset, .unset, .unset, .unset, .unset, .unset, .unset] [(.int p1)])) t
      refine XS.sipush X0.here hx rfl (hb hby at_6) ?_
      show Steps p.tables e below (s₁.setTop (mkF m 9 #[.val (.int p0), .val (.int p1), .val (.int p2), .val (.int p3), .val (.long q4), .second, .val (.int (0 : Int32)), .unset, .unset, .unset, .unset, .unset, .unset, .unset, .unset, .unset, .unset, .unset, .unset, .unset] [(.int (1023 : Int32)), (.int p1)])) t
      refine XS.iand X0.here hx rfl (hb hby at_9) rfl ?_
      show Steps p.tables e below (s₁.setTop (mkF m 10 #[.val (.int p0), .val (.int p1), .val (.int p2), .val (.int p3), .val (.long q4), .second, .val (.int (0 : Int32)), .unset, .unset, .unset, .unset, .unset, .unset, .unset, .unset, .unset, .unset, .unset, .unset, .unset] [(.int (p1 &&& (1023 : Int32)))])) t
      refine XS.iconst X0.here hx rfl (hb hby at_10) ?_
      show Steps p.tables e below (s₁.setTop (mkF m 11 #[.val (.int p0), .val (.int p1), .val (.int p2), .val (.int p3), .val (.long q4), .second, .val (.int (0 : Int32)), .unset, .unset, .unset, .unset, .unset, .unset, .unset, .unset, .unset, .unset, .unset, .unset, .unset] [(.int (1 : Int32)), (.int (p1 &&& (1023 : Int32)))])) t
      refine XS.iadd X0.here hx rfl (hb hby at_11) rfl ?_
      show Steps p.tables e below (s₁.setTop (mkF m 12 #[.val (.int p0), .val (.int p1), .val (.int p2), .val (.int p3), .val (.long q4), .second, .val (.int (0 : Int32)), .unset, .unset, .unset, .unset, .unset, .unset, .unset, .unset, .unset, .unset, .unset, .unset, .unset] [(.int ((p1 &&& (1023 : Int32)) + (1 : Int32)))])) t
      refine Own.nmI hv2 ?_
      show Steps p.tables e below (s₁.setTop (mkF m 12 #[.val (.int p0), .val (.int p1), .val (.int p2), .val (.int p3), .val (.long q4), .second, .val (.int (0 : Int32)), .unset, .unset, .unset, .unset, .unset, .unset, .unset, .unset, .unset, .unset, .unset, .unset, .unset] [(.int v2)])) t
      refine XS.istore X0.here hx rfl (hb hby at_12) rfl (l' := #[.val (.int p0), .val (.int p1), .val (.int p2), .val (.int p3), .val (.long q4), .second, .val (.int (0 : Int32)), .val (.int v2), .unset, .unset, .unset, .unset, .unset, .unset, .unset, .unset, .unset, .unset, .unset, .unset]) rfl ?_
      show Steps p.tables e below (s₁.setTop (mkF m 14 #[.val (.int p0), .val (.int p1), .val (.int p2), .val (.int p3), .val (.long q4), .second, .val (.int (0 : Int32)), .val (.int v2), .unset, .unset, .unset, .unset, .unset, .unset, .unset, .unset, .unset, .unset, .unset, .unset] [])) t
      refine XS.iloadN X0.here hx rfl (hb hby at_14) rfl ?_
      show Steps p.tables e below (s₁.setTop (mkF m 15 #[.val (.int p0), .val (.int p1), .val (.int p2), .val (.int p3), .val (.long q4), .second, .val (.int (0 : Int32)), .val (.int v2), .unset, .unset, .unset, .unset, .unset, .unset, .unset, .unset, .unset, .unset, .unset, .unset] [(.int p2)])) t
      refine XS.sipush X0.here hx rfl (hb hby at_15) ?_
      show Steps p.tables e below (s₁.setTop (mkF m 18 #[.val (.int p0), .val (.int p1), .val (.int p2), .val (.int p3), .val (.long q4), .second, .val (.int (0 : Int32)), .val (.int v2), .unset, .unset, .unset, .unset, .unset, .unset, .unset, .unset, .unset, .unset, .unset, .unset] [(.int (1023 : Int32)), (.int p2)])) t
      refine XS.iand X0.here hx rfl (hb hby at_18) rfl ?_
      show Steps p.tables e below (s₁.setTop (mkF m 19 #[.val (.int p0), .val (.int p1), .val (.int p2), .val (.int p3), .val (.long q4), .second, .val (.int (0 : Int32)), .val (.int v2), .unset, .unset, .unset, .unset, .unset, .unset, .unset, .unset, .unset, .unset, .unset, .unset] [(.int (p2 &&& (1023 : Int32)))])) t
      refine XS.iconst X0.here hx rfl (hb hby at_19) ?_
      show Steps p.tables e below (s₁.setTop (mkF m 20 #[.val (.int p0), .val (.int p1), .val (.int p2), .val (.int p3), .val (.long q4), .second, .val (.int (0 : Int32)), .val (.int v2), .unset, .unset, .unset, .unset, .unset, .unset, .unset, .unset, .unset, .unset, .unset, .unset] [(.int (1 : Int32)), (.int (p2 &&& (1023 : Int32)))])) t
      refine XS.iadd X0.here hx rfl (hb hby at_20) rfl ?_
      show Steps p.tables e below (s₁.setTop (mkF m 21 #[.val (.int p0), .val (.int p1), .val (.int p2), .val (.int p3), .val (.long q4), .second, .val (.int (0 : Int32)), .val (.int v2), .unset, .unset, .unset, .unset, .unset, .unset, .unset, .unset, .unset, .unset, .unset, .unset] [(.int ((p2 &&& (1023 : Int32)) + (1 : Int32)))])) t
      refine Own.nmI hv3 ?_
      show Steps p.tables e below (s₁.setTop (mkF m 21 #[.val (.int p0), .val (.int p1), .val (.int p2), .val (.int p3), .val (.long q4), .second, .val (.int (0 : Int32)), .val (.int v2), .unset, .unset, .unset, .unset, .unset, .unset, .unset, .unset, .unset, .unset, .unset, .unset] [(.int v3)])) t
      refine XS.istore X0.here hx rfl (hb hby at_21) rfl (l' := #[.val (.int p0), .val (.int p1), .val (.int p2), .val (.int p3), .val (.long q4), .second, .val (.int (0 : Int32)), .val (.int v2), .val (.int v3), .unset, .unset, .unset, .unset, .unset, .unset, .unset, .unset, .unset, .unset, .unset]) rfl ?_
      show Steps p.tables e below (s₁.setTop (mkF m 23 #[.val (.int p0), .val (.int p1), .val (.int p2), .val (.int p3), .val (.long q4), .second, .val (.int (0 : Int32)), .val (.int v2), .val (.int v3), .unset, .unset, .unset, .unset, .unset, .unset, .unset, .unset, .unset, .unset, .unset] [])) t
      refine XS.iloadN X0.here hx rfl (hb hby at_23) rfl ?_
      show Steps p.tables e below (s₁.setTop (mkF m 24 #[.val (.int p0), .val (.int p1), .val (.int p2), .val (.int p3), .val (.long q4), .second, .val (.int (0 : Int32)), .val (.int v2), .val (.int v3), .unset, .unset, .unset, .unset, .unset, .unset, .unset, .unset, .unset, .unset, .unset] [(.int p3)])) t
      refine XS.sipush X0.here hx rfl (hb hby at_24) ?_
      show Steps p.tables e below (s₁.setTop (mkF m 27 #[.val (.int p0), .val (.int p1), .val (.int p2), .val (.int p3), .val (.long q4), .second, .val (.int (0 : Int32)), .val (.int v2), .val (.int v3), .unset, .unset, .unset, .unset, .unset, .unset, .unset, .unset, .unset, .unset, .unset] [(.int (1023 : Int32)), (.int p3)])) t
      refine XS.iand X0.here hx rfl (hb hby at_27) rfl ?_
      show Steps p.tables e below (s₁.setTop (mkF m 28 #[.val (.int p0), .val (.int p1), .val (.int p2), .val (.int p3), .val (.long q4), .second, .val (.int (0 : Int32)), .val (.int v2), .val (.int v3), .unset, .unset, .unset, .unset, .unset, .unset, .unset, .unset, .unset, .unset, .unset] [(.int (p3 &&& (1023 : Int32)))])) t
      refine XS.iconst X0.here hx rfl (hb hby at_28) ?_
      show Steps p.tables e below (s₁.setTop (mkF m 29 #[.val (.int p0), .val (.int p1), .val (.int p2), .val (.int p3), .val (.long q4), .second, .val (.int (0 : Int32)), .val (.int v2), .val (.int v3), .unset, .unset, .unset, .unset, .unset, .unset, .unset, .unset, .unset, .unset, .unset] [(.int (1 : Int32)), (.int (p3 &&& (1023 : Int32)))])) t
      refine XS.iadd X0.here hx rfl (hb hby at_29) rfl ?_
      show Steps p.tables e below (s₁.setTop (mkF m 30 #[.val (.int p0), .val (.int p1), .val (.int p2), .val (.int p3), .val (.long q4), .second, .val (.int (0 : Int32)), .val (.int v2), .val (.int v3), .unset, .unset, .unset, .unset, .unset, .unset, .unset, .unset, .unset, .unset, .unset] [(.int ((p3 &&& (1023 : Int32)) + (1 : Int32)))])) t
      refine Own.nmI hv4 ?_
      show Steps p.tables e below (s₁.setTop (mkF m 30 #[.val (.int p0), .val (.int p1), .val (.int p2), .val (.int p3), .val (.long q4), .second, .val (.int (0 : Int32)), .val (.int v2), .val (.int v3), .unset, .unset, .unset, .unset, .unset, .unset, .unset, .unset, .unset, .unset, .unset] [(.int v4)])) t
      refine XS.istore X0.here hx rfl (hb hby at_30) rfl (l' := #[.val (.int p0), .val (.int p1), .val (.int p2), .val (.int p3), .val (.long q4), .second, .val (.int (0 : Int32)), .val (.int v2), .val (.int v3), .val (.int v4), .unset, .unset, .unset, .unset, .unset, .unset, .unset, .unset, .unset, .unset]) rfl ?_
      show Steps p.tables e below (s₁.setTop (mkF m 32 #[.val (.int p0), .val (.int p1), .val (.int p2), .val (.int p3), .val (.long q4), .second, .val (.int (0 : Int32)), .val (.int v2), .val (.int v3), .val (.int v4), .unset, .unset, .unset, .unset, .unset, .unset, .unset, .unset, .unset, .unset] [])) t
      refine XS.iload X0.here hx rfl (hb hby at_32) rfl ?_
      show Steps p.tables e below (s₁.setTop (mkF m 34 #[.val (.int p0), .val (.int p1), .val (.int p2), .val (.int p3), .val (.long q4), .second, .val (.int (0 : Int32)), .val (.int v2), .val (.int v3), .val (.int v4), .unset, .unset, .unset, .unset, .unset, .unset, .unset, .unset, .unset, .unset] [(.int (0 : Int32))])) t
      refine st5 _ ?_
      show Steps p.tables e below (T5.setTop (mkF m 36 #[.val (.int p0), .val (.int p1), .val (.int p2), .val (.int p3), .val (.long q4), .second, .val (.int (0 : Int32)), .val (.int v2), .val (.int v3), .val (.int v4), .unset, .unset, .unset, .unset, .unset, .unset, .unset, .unset, .unset, .unset] [(.ref b5)])) t
      refine XS.astore X5.here hx rfl (hb hby at_36) rfl rfl (l' := #[.val (.int p0), .val (.int p1), .val (.int p2), .val (.int p3), .val (.long q4), .second, .val (.int (0 : Int32)), .val (.int v2), .val (.int v3), .val (.int v4), .val (.ref b5), .unset, .unset, .unset, .unset, .unset, .unset, .unset, .unset, .unset]) rfl ?_
      show Steps p.tables e below (T5.setTop (mkF m 38 #[.val (.int p0), .val (.int p1), .val (.int p2), .val (.int p3), .val (.long q4), .second, .val (.int (0 : Int32)), .val (.int v2), .val (.int v3), .val (.int v4), .val (.ref b5), .unset, .unset, .unset, .unset, .unset, .unset, .unset, .unset, .unset] [])) t
      refine XS.iload X5.here hx rfl (hb hby at_38) rfl ?_
      show Steps p.tables e below (T5.setTop (mkF m 40 #[.val (.int p0), .val (.int p1), .val (.int p2), .val (.int p3), .val (.long q4), .second, .val (.int (0 : Int32)), .val (.int v2), .val (.int v3), .val (.int v4), .val (.ref b5), .unset, .unset, .unset, .unset, .unset, .unset, .unset, .unset, .unset] [(.int (0 : Int32))])) t
      refine st7 _ ?_
      show Steps p.tables e below (T7.setTop (mkF m 42 #[.val (.int p0), .val (.int p1), .val (.int p2), .val (.int p3), .val (.long q4), .second, .val (.int (0 : Int32)), .val (.int v2), .val (.int v3), .val (.int v4), .val (.ref b5), .unset, .unset, .unset, .unset, .unset, .unset, .unset, .unset, .unset] [(.ref b7)])) t
      refine XS.astore X7.here hx rfl (hb hby at_42) rfl rfl (l' := #[.val (.int p0), .val (.int p1), .val (.int p2), .val (.int p3), .val (.long q4), .second, .val (.int (0 : Int32)), .val (.int v2), .val (.int v3), .val (.int v4), .val (.ref b5), .val (.ref b7), .unset, .unset, .unset, .unset, .unset, .unset, .unset, .unset]) rfl ?_
      show Steps p.tables e below (T7.setTop (mkF m 44 #[.val (.int p0), .val (.int p1), .val (.int p2), .val (.int p3), .val (.long q4), .second, .val (.int (0 : Int32)), .val (.int v2), .val (.int v3), .val (.int v4), .val (.ref b5), .val (.ref b7), .unset, .unset, .unset, .unset, .unset, .unset, .unset, .unset] [])) t
      refine XS.lconst X7.here hx rfl (hb hby at_44) ?_
      show Steps p.tables e below (T7.setTop (mkF m 45 #[.val (.int p0), .val (.int p1), .val (.int p2), .val (.int p3), .val (.long q4), .second, .val (.int (0 : Int32)), .val (.int v2), .val (.int v3), .val (.int v4), .val (.ref b5), .val (.ref b7), .unset, .unset, .unset, .unset, .unset, .unset, .unset, .unset] [(.long (1 : Int64))])) t
      refine XS.lstore X7.here hx rfl (hb hby at_45) rfl (l' := #[.val (.int p0), .val (.int p1), .val (.int p2), .val (.int p3), .val (.long q4), .second, .val (.int (0 : Int32)), .val (.int v2), .val (.int v3), .val (.int v4), .val (.ref b5), .val (.ref b7), .val (.long (1 : Int64)), .second, .unset, .unset, .unset, .unset, .unset, .unset]) rfl ?_
      show Steps p.tables e below (T7.setTop (mkF m 47 #[.val (.int p0), .val (.int p1), .val (.int p2), .val (.int p3), .val (.long q4), .second, .val (.int (0 : Int32)), .val (.int v2), .val (.int v3), .val (.int v4), .val (.ref b5), .val (.ref b7), .val (.long (1 : Int64)), .second, .unset, .unset, .unset, .unset, .unset, .unset] [])) t
      refine XS.iload X7.here hx rfl (hb hby at_47) rfl ?_
      show Steps p.tables e below (T7.setTop (mkF m 49 #[.val (.int p0), .val (.int p1), .val (.int p2), .val (.int p3), .val (.long q4), .second, .val (.int (0 : Int32)), .val (.int v2), .val (.int v3), .val (.int v4), .val (.ref b5), .val (.ref b7), .val (.long (1 : Int64)), .second, .unset, .unset, .unset, .unset, .unset, .unset] [(.int (0 : Int32))])) t
      refine XS.ifYes X7.here hx rfl (pc0 := 49) (pc' := 71) rfl (hb hby at_49) rfl (by decide) (by decide) (by decide) ?_
      show Steps p.tables e below (T7.setTop (mkF m 71 #[.val (.int p0), .val (.int p1), .val (.int p2), .val (.int p3), .val (.long q4), .second, .val (.int (0 : Int32)), .val (.int v2), .val (.int v3), .val (.int v4), .val (.ref b5), .val (.ref b7), .val (.long (1 : Int64)), .second, .unset, .unset, .unset, .unset, .unset, .unset] [])) t
      refine XS.iload X7.here hx rfl (hb hby at_71) rfl ?_
      show Steps p.tables e below (T7.setTop (mkF m 73 #[.val (.int p0), .val (.int p1), .val (.int p2), .val (.int p3), .val (.long q4), .second, .val (.int (0 : Int32)), .val (.int v2), .val (.int v3), .val (.int v4), .val (.ref b5), .val (.ref b7), .val (.long (1 : Int64)), .second, .unset, .unset, .unset, .unset, .unset, .unset] [(.int (0 : Int32))])) t
      refine XS.iconst X7.here hx rfl (hb hby at_73) ?_
      show Steps p.tables e below (T7.setTop (mkF m 74 #[.val (.int p0), .val (.int p1), .val (.int p2), .val (.int p3), .val (.long q4), .second, .val (.int (0 : Int32)), .val (.int v2), .val (.int v3), .val (.int v4), .val (.ref b5), .val (.ref b7), .val (.long (1 : Int64)), .second, .unset, .unset, .unset, .unset, .unset, .unset] [(.int (1 : Int32)), (.int (0 : Int32))])) t
      refine XS.icmpYes X7.here hx rfl (pc0 := 74) (pc' := 96) rfl (hb hby at_74) rfl (by decide) (by decide) (by decide) ?_
      show Steps p.tables e below (T7.setTop (mkF m 96 #[.val (.int p0), .val (.int p1), .val (.int p2), .val (.int p3), .val (.long q4), .second, .val (.int (0 : Int32)), .val (.int v2), .val (.int v3), .val (.int v4), .val (.ref b5), .val (.ref b7), .val (.long (1 : Int64)), .second, .unset, .unset, .unset, .unset, .unset, .unset] [])) t
      refine XS.iload X7.here hx rfl (hb hby at_96) rfl ?_
      show Steps p.tables e below (T7.setTop (mkF m 98 #[.val (.int p0), .val (.int p1), .val (.int p2), .val (.int p3), .val (.long q4), .second, .val (.int (0 : Int32)), .val (.int v2), .val (.int v3), .val (.int v4), .val (.ref b5), .val (.ref b7), .val (.long (1 : Int64)), .second, .unset, .unset, .unset, .unset, .unset, .unset] [(.int (0 : Int32))])) t
      refine XS.iconst X7.here hx rfl (hb hby at_98) ?_
      show Steps p.tables e below (T7.setTop (mkF m 99 #[.val (.int p0), .val (.int p1), .val (.int p2), .val (.int p3), .val (.long q4), .second, .val (.int (0 : Int32)), .val (.int v2), .val (.int v3), .val (.int v4), .val (.ref b5), .val (.ref b7), .val (.long (1 : Int64)), .second, .unset, .unset, .unset, .unset, .unset, .unset] [(.int (2 : Int32)), (.int (0 : Int32))])) t
      refine XS.icmpYes X7.here hx rfl (pc0 := 99) (pc' := 121) rfl (hb hby at_99) rfl (by decide) (by decide) (by decide) ?_
      show Steps p.tables e below (T7.setTop (mkF m 121 #[.val (.int p0), .val (.int p1), .val (.int p2), .val (.int p3), .val (.long q4), .second, .val (.int (0 : Int32)), .val (.int v2), .val (.int v3), .val (.int v4), .val (.ref b5), .val (.ref b7), .val (.long (1 : Int64)), .second, .unset, .unset, .unset, .unset, .unset, .unset] [])) t
      refine XS.lload X7.here hx rfl (hb hby at_121) rfl ?_
      show Steps p.tables e below (T7.setTop (mkF m 123 #[.val (.int p0), .val (.int p1), .val (.int p2), .val (.int p3), .val (.long q4), .second, .val (.int (0 : Int32)), .val (.int v2), .val (.int v3), .val (.int v4), .val (.ref b5), .val (.ref b7), .val (.long (1 : Int64)), .second, .unset, .unset, .unset, .unset, .unset, .unset] [(.long q4)])) t
      refine X7.ldc2Long hx hown (mvT hZ (hw _ (List.mem_of_getElem? (i := 1) rfl))) (g := (mkF m 123 #[.val (.int p0), .val (.int p1), .val (.int p2), .val (.int p3), .val (.long q4), .second, .val (.int (0 : Int32)), .val (.int v2), .val (.int v3), .val (.int v4), .val (.ref b5), .val (.ref b7), .val (.long (1 : Int64)), .second, .unset, .unset, .unset, .unset, .unset, .unset] [(.long q4)])) rfl (hb hby at_123) _ ?_
      show Steps p.tables e below (T7.setTop (mkF m 126 #[.val (.int p0), .val (.int p1), .val (.int p2), .val (.int p3), .val (.long q4), .second, .val (.int (0 : Int32)), .val (.int v2), .val (.int v3), .val (.int v4), .val (.ref b5), .val (.ref b7), .val (.long (1 : Int64)), .second, .unset, .unset, .unset, .unset, .unset, .unset] [(.long (9223372036854775807 : Int64)), (.long q4)])) t
      refine XS.land X7.here hx rfl (hb hby at_126) rfl ?_
      show Steps p.tables e below (T7.setTop (mkF m 127 #[.val (.int p0), .val (.int p1), .val (.int p2), .val (.int p3), .val (.long q4), .second, .val (.int (0 : Int32)), .val (.int v2), .val (.int v3), .val (.int v4), .val (.ref b5), .val (.ref b7), .val (.long (1 : Int64)), .second, .unset, .unset, .unset, .unset, .unset, .unset] [(.long (q4 &&& (9223372036854775807 : Int64)))])) t
      refine XS.lload X7.here hx rfl (hb hby at_127) rfl ?_
      show Steps p.tables e below (T7.setTop (mkF m 129 #[.val (.int p0), .val (.int p1), .val (.int p2), .val (.int p3), .val (.long q4), .second, .val (.int (0 : Int32)), .val (.int v2), .val (.int v3), .val (.int v4), .val (.ref b5), .val (.ref b7), .val (.long (1 : Int64)), .second, .unset, .unset, .unset, .unset, .unset, .unset] [(.long (1 : Int64)), (.long (q4 &&& (9223372036854775807 : Int64)))])) t
      refine Own.lremM (g := (mkF m 129 #[.val (.int p0), .val (.int p1), .val (.int p2), .val (.int p3), .val (.long q4), .second, .val (.int (0 : Int32)), .val (.int v2), .val (.int v3), .val (.int v4), .val (.ref b5), .val (.ref b7), .val (.long (1 : Int64)), .second, .unset, .unset, .unset, .unset, .unset, .unset] [(.long (1 : Int64)), (.long (q4 &&& (9223372036854775807 : Int64)))])) X7 hx rfl (hb hby at_129) rfl hnz10 ?_
      show Steps p.tables e below (T7.setTop (mkF m 130 #[.val (.int p0), .val (.int p1), .val (.int p2), .val (.int p3), .val (.long q4), .second, .val (.int (0 : Int32)), .val (.int v2), .val (.int v3), .val (.int v4), .val (.ref b5), .val (.ref b7), .val (.long (1 : Int64)), .second, .unset, .unset, .unset, .unset, .unset, .unset] [(.long ((q4 &&& (9223372036854775807 : Int64)) % (1 : Int64)))])) t
      refine Own.nmJ hv11 ?_
      show Steps p.tables e below (T7.setTop (mkF m 130 #[.val (.int p0), .val (.int p1), .val (.int p2), .val (.int p3), .val (.long q4), .second, .val (.int (0 : Int32)), .val (.int v2), .val (.int v3), .val (.int v4), .val (.ref b5), .val (.ref b7), .val (.long (1 : Int64)), .second, .unset, .unset, .unset, .unset, .unset, .unset] [(.long v11)])) t
      refine XS.lstore X7.here hx rfl (hb hby at_130) rfl (l' := #[.val (.int p0), .val (.int p1), .val (.int p2), .val (.int p3), .val (.long q4), .second, .val (.int (0 : Int32)), .val (.int v2), .val (.int v3), .val (.int v4), .val (.ref b5), .val (.ref b7), .val (.long (1 : Int64)), .second, .val (.long v11), .second, .unset, .unset, .unset, .unset]) rfl ?_
      show Steps p.tables e below (T7.setTop (mkF m 132 #[.val (.int p0), .val (.int p1), .val (.int p2), .val (.int p3), .val (.long q4), .second, .val (.int (0 : Int32)), .val (.int v2), .val (.int v3), .val (.int v4), .val (.ref b5), .val (.ref b7), .val (.long (1 : Int64)), .second, .val (.long v11), .second, .unset, .unset, .unset, .unset] [])) t
      refine XS.aload X7.here hx rfl (hb hby at_132) rfl rfl ?_
      show Steps p.tables e below (T7.setTop (mkF m 134 #[.val (.int p0), .val (.int p1), .val (.int p2), .val (.int p3), .val (.long q4), .second, .val (.int (0 : Int32)), .val (.int v2), .val (.int v3), .val (.int v4), .val (.ref b5), .val (.ref b7), .val (.long (1 : Int64)), .second, .val (.long v11), .second, .unset, .unset, .unset, .unset] [(.ref b5)])) t
      refine XS.lload X7.here hx rfl (hb hby at_134) rfl ?_
      show Steps p.tables e below (T7.setTop (mkF m 136 #[.val (.int p0), .val (.int p1), .val (.int p2), .val (.int p3), .val (.long q4), .second, .val (.int (0 : Int32)), .val (.int v2), .val (.int v3), .val (.int v4), .val (.ref b5), .val (.ref b7), .val (.long (1 : Int64)), .second, .val (.long v11), .second, .unset, .unset, .unset, .unset] [(.long v11), (.ref b5)])) t
      refine XS.aload X7.here hx rfl (hb hby at_136) rfl rfl ?_
      show Steps p.tables e below (T7.setTop (mkF m 138 #[.val (.int p0), .val (.int p1), .val (.int p2), .val (.int p3), .val (.long q4), .second, .val (.int (0 : Int32)), .val (.int v2), .val (.int v3), .val (.int v4), .val (.ref b5), .val (.ref b7), .val (.long (1 : Int64)), .second, .val (.long v11), .second, .unset, .unset, .unset, .unset] [(.ref b7), (.long v11), (.ref b5)])) t
      refine st12 _ ?_
      show Steps p.tables e below (T12.setTop (mkF m 141 #[.val (.int p0), .val (.int p1), .val (.int p2), .val (.int p3), .val (.long q4), .second, .val (.int (0 : Int32)), .val (.int v2), .val (.int v3), .val (.int v4), .val (.ref b5), .val (.ref b7), .val (.long (1 : Int64)), .second, .val (.long v11), .second, .unset, .unset, .unset, .unset] [])) t
      refine XS.iconst X12.here hx rfl (hb hby at_141) ?_
      show Steps p.tables e below (T12.setTop (mkF m 142 #[.val (.int p0), .val (.int p1), .val (.int p2), .val (.int p3), .val (.long q4), .second, .val (.int (0 : Int32)), .val (.int v2), .val (.int v3), .val (.int v4), .val (.ref b5), .val (.ref b7), .val (.long (1 : Int64)), .second, .val (.long v11), .second, .unset, .unset, .unset, .unset] [(.int (1 : Int32))])) t
      refine XS.istore X12.here hx rfl (hb hby at_142) rfl (l' := #[.val (.int p0), .val (.int p1), .val (.int p2), .val (.int p3), .val (.long q4), .second, .val (.int (0 : Int32)), .val (.int v2), .val (.int v3), .val (.int v4), .val (.ref b5), .val (.ref b7), .val (.long (1 : Int64)), .second, .val (.long v11), .second, .val (.int (1 : Int32)), .unset, .unset, .unset]) rfl ?_
      show Steps p.tables e below (T12.setTop (mkF m 144 #[.val (.int p0), .val (.int p1), .val (.int p2), .val (.int p3), .val (.long q4), .second, .val (.int (0 : Int32)), .val (.int v2), .val (.int v3), .val (.int v4), .val (.ref b5), .val (.ref b7), .val (.long (1 : Int64)), .second, .val (.long v11), .second, .val (.int (1 : Int32)), .unset, .unset, .unset] [])) t
      refine XS.lconst X12.here hx rfl (hb hby at_144) ?_
      show Steps p.tables e below (T12.setTop (mkF m 145 #[.val (.int p0), .val (.int p1), .val (.int p2), .val (.int p3), .val (.long q4), .second, .val (.int (0 : Int32)), .val (.int v2), .val (.int v3), .val (.int v4), .val (.ref b5), .val (.ref b7), .val (.long (1 : Int64)), .second, .val (.long v11), .second, .val (.int (1 : Int32)), .unset, .unset, .unset] [(.long (0 : Int64))])) t
      refine XS.lstore X12.here hx rfl (hb hby at_145) rfl (l' := #[.val (.int p0), .val (.int p1), .val (.int p2), .val (.int p3), .val (.long q4), .second, .val (.int (0 : Int32)), .val (.int v2), .val (.int v3), .val (.int v4), .val (.ref b5), .val (.ref b7), .val (.long (1 : Int64)), .second, .val (.long v11), .second, .val (.int (1 : Int32)), .val (.long (0 : Int64)), .second, .unset]) rfl ?_
      show Steps p.tables e below (T12.setTop (mkF m 147 #[.val (.int p0), .val (.int p1), .val (.int p2), .val (.int p3), .val (.long q4), .second, .val (.int (0 : Int32)), .val (.int v2), .val (.int v3), .val (.int v4), .val (.ref b5), .val (.ref b7), .val (.long (1 : Int64)), .second, .val (.long v11), .second, .val (.int (1 : Int32)), .val (.long (0 : Int64)), .second, .unset] [])) t
      refine XS.iload X12.here hx rfl (hb hby at_147) rfl ?_
      show Steps p.tables e below (T12.setTop (mkF m 149 #[.val (.int p0), .val (.int p1), .val (.int p2), .val (.int p3), .val (.long q4), .second, .val (.int (0 : Int32)), .val (.int v2), .val (.int v3), .val (.int v4), .val (.ref b5), .val (.ref b7), .val (.long (1 : Int64)), .second, .val (.long v11), .second, .val (.int (1 : Int32)), .val (.long (0 : Int64)), .second, .unset] [(.int (0 : Int32))])) t
      refine XS.ifYes X12.here hx rfl (pc0 := 149) (pc' := 188) rfl (hb hby at_149) rfl (by decide) (by decide) (by decide) ?_
      show Steps p.tables e below (T12.setTop (mkF m 188 #[.val (.int p0), .val (.int p1), .val (.int p2), .val (.int p3), .val (.long q4), .second, .val (.int (0 : Int32)), .val (.int v2), .val (.int v3), .val (.int v4), .val (.ref b5), .val (.ref b7), .val (.long (1 : Int64)), .second, .val (.long v11), .second, .val (.int (1 : Int32)), .val (.long (0 : Int64)), .second, .unset] [])) t
      refine XS.iload X12.here hx rfl (hb hby at_188) rfl ?_
      show Steps p.tables e below (T12.setTop (mkF m 190 #[.val (.int p0), .val (.int p1), .val (.int p2), .val (.int p3), .val (.long q4), .second, .val (.int (0 : Int32)), .val (.int v2), .val (.int v3), .val (.int v4), .val (.ref b5), .val (.ref b7), .val (.long (1 : Int64)), .second, .val (.long v11), .second, .val (.int (1 : Int32)), .val (.long (0 : Int64)), .second, .unset] [(.int (0 : Int32))])) t
      refine XS.iconst X12.here hx rfl (hb hby at_190) ?_
      show Steps p.tables e below (T12.setTop (mkF m 191 #[.val (.int p0), .val (.int p1), .val (.int p2), .val (.int p3), .val (.long q4), .second, .val (.int (0 : Int32)), .val (.int v2), .val (.int v3), .val (.int v4), .val (.ref b5), .val (.ref b7), .val (.long (1 : Int64)), .second, .val (.long v11), .second, .val (.int (1 : Int32)), .val (.long (0 : Int64)), .second, .unset] [(.int (1 : Int32)), (.int (0 : Int32))])) t
      refine XS.icmpYes X12.here hx rfl (pc0 := 191) (pc' := 237) rfl (hb hby at_191) rfl (by decide) (by decide) (by decide) ?_
      show Steps p.tables e below (T12.setTop (mkF m 237 #[.val (.int p0), .val (.int p1), .val (.int p2), .val (.int p3), .val (.long q4), .second, .val (.int (0 : Int32)), .val (.int v2), .val (.int v3), .val (.int v4), .val (.ref b5), .val (.ref b7), .val (.long (1 : Int64)), .second, .val (.long v11), .second, .val (.int (1 : Int32)), .val (.long (0 : Int64)), .second, .unset] [])) t
      refine XS.iload X12.here hx rfl (hb hby at_237) rfl ?_
      show Steps p.tables e below (T12.setTop (mkF m 239 #[.val (.int p0), .val (.int p1), .val (.int p2), .val (.int p3), .val (.long q4), .second, .val (.int (0 : Int32)), .val (.int v2), .val (.int v3), .val (.int v4), .val (.ref b5), .val (.ref b7), .val (.long (1 : Int64)), .second, .val (.long v11), .second, .val (.int (1 : Int32)), .val (.long (0 : Int64)), .second, .unset] [(.int (0 : Int32))])) t
      refine XS.iconst X12.here hx rfl (hb hby at_239) ?_
      show Steps p.tables e below (T12.setTop (mkF m 240 #[.val (.int p0), .val (.int p1), .val (.int p2), .val (.int p3), .val (.long q4), .second, .val (.int (0 : Int32)), .val (.int v2), .val (.int v3), .val (.int v4), .val (.ref b5), .val (.ref b7), .val (.long (1 : Int64)), .second, .val (.long v11), .second, .val (.int (1 : Int32)), .val (.long (0 : Int64)), .second, .unset] [(.int (2 : Int32)), (.int (0 : Int32))])) t
      refine XS.icmpYes X12.here hx rfl (pc0 := 240) (pc' := 286) rfl (hb hby at_240) rfl (by decide) (by decide) (by decide) ?_
      show Steps p.tables e below (T12.setTop (mkF m 286 #[.val (.int p0), .val (.int p1), .val (.int p2), .val (.int p3), .val (.long q4), .second, .val (.int (0 : Int32)), .val (.int v2), .val (.int v3), .val (.int v4), .val (.ref b5), .val (.ref b7), .val (.long (1 : Int64)), .second, .val (.long v11), .second, .val (.int (1 : Int32)), .val (.long (0 : Int64)), .second, .unset] [])) t
      refine XS.iload X12.here hx rfl (hb hby at_286) rfl ?_
      show Steps p.tables e below (T12.setTop (mkF m 288 #[.val (.int p0), .val (.int p1), .val (.int p2), .val (.int p3), .val (.long q4), .second, .val (.int (0 : Int32)), .val (.int v2), .val (.int v3), .val (.int v4), .val (.ref b5), .val (.ref b7), .val (.long (1 : Int64)), .second, .val (.long v11), .second, .val (.int (1 : Int32)), .val (.long (0 : Int64)), .second, .unset] [(.int (1 : Int32))])) t
      refine XS.ifNo X12.here hx rfl (hb hby at_288) rfl (by decide) ?_
      show Steps p.tables e below (T12.setTop (mkF m 291 #[.val (.int p0), .val (.int p1), .val (.int p2), .val (.int p3), .val (.long q4), .second, .val (.int (0 : Int32)), .val (.int v2), .val (.int v3), .val (.int v4), .val (.ref b5), .val (.ref b7), .val (.long (1 : Int64)), .second, .val (.long v11), .second, .val (.int (1 : Int32)), .val (.long (0 : Int64)), .second, .unset] [])) t
      refine XS.lload X12.here hx rfl (hb hby at_291) rfl ?_
      show Steps p.tables e below (T12.setTop (mkF m 293 #[.val (.int p0), .val (.int p1), .val (.int p2), .val (.int p3), .val (.long q4), .second, .val (.int (0 : Int32)), .val (.int v2), .val (.int v3), .val (.int v4), .val (.ref b5), .val (.ref b7), .val (.long (1 : Int64)), .second, .val (.long v11), .second, .val (.int (1 : Int32)), .val (.long (0 : Int64)), .second, .unset] [(.long (0 : Int64))])) t
      refine XS.lload X12.here hx rfl (hb hby at_293) rfl ?_
      show Steps p.tables e below (T12.setTop (mkF m 295 #[.val (.int p0), .val (.int p1), .val (.int p2), .val (.int p3), .val (.long q4), .second, .val (.int (0 : Int32)), .val (.int v2), .val (.int v3), .val (.int v4), .val (.ref b5), .val (.ref b7), .val (.long (1 : Int64)), .second, .val (.long v11), .second, .val (.int (1 : Int32)), .val (.long (0 : Int64)), .second, .unset] [(.long v11), (.long (0 : Int64))])) t
      refine XS.lcmp X12.here hx rfl (hb hby at_295) rfl ?_
      show Steps p.tables e below (T12.setTop (mkF m 296 #[.val (.int p0), .val (.int p1), .val (.int p2), .val (.int p3), .val (.long q4), .second, .val (.int (0 : Int32)), .val (.int v2), .val (.int v3), .val (.int v4), .val (.ref b5), .val (.ref b7), .val (.long (1 : Int64)), .second, .val (.long v11), .second, .val (.int (1 : Int32)), .val (.long (0 : Int64)), .second, .unset] [(.int (lcmpW (0 : Int64) v11))])) t
      exact k
    have hc13 : (0 : Int64) = v11 := by
      have k1 : (1 : Int64).toInt = 1 := by decide
      apply Int64.toInt_inj.mp
      rw [show (0 : Int64).toInt = 0 from by decide]; omega
    refine hD _ (T12.setTop (mkF m 304 #[.val (.int p0), .val (.int p1), .val (.int p2), .val (.int p3), .val (.long q4), .second, .val (.int (0 : Int32)), .val (.int v2), .val (.int v3), .val (.int v4), .val (.ref b5), .val (.ref b7), .val (.long (1 : Int64)), .second, .val (.long v11), .second, .val (.int (1 : Int32)), .val (.long (0 : Int64)), .second, .unset] [(.int (1 : Int32))])) (fun t k => ?_) ?_
    · show Steps p.tables e below (T12.setTop (mkF m 296 #[.val (.int p0), .val (.int p1), .val (.int p2), .val (.int p3), .val (.long q4), .second, .val (.int (0 : Int32)), .val (.int v2), .val (.int v3), .val (.int v4), .val (.ref b5), .val (.ref b7), .val (.long (1 : Int64)), .second, .val (.long v11), .second, .val (.int (1 : Int32)), .val (.long (0 : Int64)), .second, .unset] [(.int (lcmpW (0 : Int64) v11))])) t
      refine XS.ifNo X12.here hx rfl (hb hby at_296) rfl ((if0 _ _).trans (teq ((lw_eq (0 : Int64) v11).mpr hc13)).2) ?_
      show Steps p.tables e below (T12.setTop (mkF m 299 #[.val (.int p0), .val (.int p1), .val (.int p2), .val (.int p3), .val (.long q4), .second, .val (.int (0 : Int32)), .val (.int v2), .val (.int v3), .val (.int v4), .val (.ref b5), .val (.ref b7), .val (.long (1 : Int64)), .second, .val (.long v11), .second, .val (.int (1 : Int32)), .val (.long (0 : Int64)), .second, .unset] [])) t
      refine XS.iconst X12.here hx rfl (hb hby at_299) ?_
      show Steps p.tables e below (T12.setTop (mkF m 300 #[.val (.int p0), .val (.int p1), .val (.int p2), .val (.int p3), .val (.long q4), .second, .val (.int (0 : Int32)), .val (.int v2), .val (.int v3), .val (.int v4), .val (.ref b5), .val (.ref b7), .val (.long (1 : Int64)), .second, .val (.long v11), .second, .val (.int (1 : Int32)), .val (.long (0 : Int64)), .second, .unset] [(.int (1 : Int32))])) t
      refine XS.goto X12.here hx rfl (pc0 := 300) (pc' := 304) rfl (hb hby at_300) (by decide) (by decide) ?_
      show Steps p.tables e below (T12.setTop (mkF m 304 #[.val (.int p0), .val (.int p1), .val (.int p2), .val (.int p3), .val (.long q4), .second, .val (.int (0 : Int32)), .val (.int v2), .val (.int v3), .val (.int v4), .val (.ref b5), .val (.ref b7), .val (.long (1 : Int64)), .second, .val (.long v11), .second, .val (.int (1 : Int32)), .val (.long (0 : Int64)), .second, .unset] [(.int (1 : Int32))])) t
      exact k
    exact Own.retN hR X12 hx (t := .boolean) hret (by simp) (hb hby at_304) (by decide) (by decide) (by decide) ⟨rfl, N12⟩
  · obtain ⟨v14, hv14⟩ : ∃ z : Int32, z = ((p1 &&& (1023 : Int32)) + (1 : Int32)) := ⟨_, rfl⟩
    obtain ⟨v15, hv15⟩ : ∃ z : Int32, z = ((p2 &&& (1023 : Int32)) + (1 : Int32)) := ⟨_, rfl⟩
    obtain ⟨v16, hv16⟩ : ∃ z : Int32, z = ((p3 &&& (1023 : Int32)) + (1 : Int32)) := ⟨_, rfl⟩
    obtain ⟨T17, h17, k17, X17, e17, E17, A17, st17⟩ := newP X0 hx hZ (hw _ (List.mem_of_getElem? (i := 0) rfl)) e0 (g := (mkF m 34 #[.val (.int p0), .val (.int p1), .val (.int p2), .val (.int p3), .val (.long q4), .second, .val (.int (1 : Int32)), .val (.int v14), .val (.int v15), .val (.int v16), .unset, .unset, .unset, .unset, .unset, .unset, .unset, .unset, .unset, .unset] [(.int (1 : Int32))])) rfl (hb hby at_34) rfl (by decide) (cap := 1) (by decide) (by decide) (by decide) (by decide)
    obtain ⟨b17, g_b17⟩ : ∃ z : Nat, z = h0.size := ⟨_, rfl⟩
    rw [← g_b17] at A17 st17
    have g0_b17 : n0 ≤ b17 := by rw [g_b17]; exact Z0
    have f18 : Own.AvI Z h17 b17 .int 1 (fun _ => 0) := Own.AvI.new A17 (by decide) rfl
    have Z17 : n0 ≤ h17.size := Nat.le_trans Z0 E17.1
    obtain ⟨T19, h19, k19, X19, e19, E19, A19, st19⟩ := newP X17 hx hZ (hw _ (List.mem_of_getElem? (i := 0) rfl)) e17 (g := (mkF m 40 #[.val (.int p0), .val (.int p1), .val (.int p2), .val (.int p3), .val (.long q4), .second, .val (.int (1 : Int32)), .val (.int v14), .val (.int v15), .val (.int v16), .val (.ref b17), .unset, .unset, .unset, .unset, .unset, .unset, .unset, .unset, .unset] [(.int (1 : Int32))])) rfl (hb hby at_40) rfl (by decide) (cap := 1) (by decide) (by decide) (by decide) (by decide)
    obtain ⟨b19, g_b19⟩ : ∃ z : Nat, z = h17.size := ⟨_, rfl⟩
    rw [← g_b19] at A19 st19
    have lt_b17_b19 : (b17 : Nat) < b19 := by rw [g_b19]; exact f18.lt
    have g0_b19 : n0 ≤ b19 := by rw [g_b19]; exact Z17
    have f20 : Own.AvI Z h19 b17 .int 1 (fun _ => 0) := f18.ext E19
    have f21 : Own.AvI Z h19 b19 .int 1 (fun _ => 0) := Own.AvI.new A19 (by decide) rfl
    have Z19 : n0 ≤ h19.size := Nat.le_trans Z17 E19.1
    have hj22 : 0 ≤ (0 : Int32).toInt ∧ (0 : Int32).toInt < (1 : Nat) := ⟨by decide, by decide⟩
    obtain ⟨T23, h23, X23, e23, A23, W23, st23⟩ := Own.stoI X19 hx hZ e19 f20 hj22 (g := (mkF m 57 #[.val (.int p0), .val (.int p1), .val (.int p2), .val (.int p3), .val (.long q4), .second, .val (.int (1 : Int32)), .val (.int v14), .val (.int v15), .val (.int v16), .val (.ref b17), .val (.ref b19), .val (.long (1 : Int64)), .second, .unset, .unset, .unset, .unset, .unset, .unset] [(.int v14), (.int (0 : Int32)), (.ref b17)])) rfl rfl (hb hby at_57)
    have f24 : Own.AvI Z h23 b19 .int 1 (fun _ => 0) := f21.other W23 (Own.ne_of (by omega))
    have N23 := Fr.snoc X23 N0 (show n0 ≤ b17 by omega)
    have Z23 : n0 ≤ h23.size := Nat.le_trans Z19 (Keep.of_wr W23).1
    have hj25 : 0 ≤ (0 : Int32).toInt ∧ (0 : Int32).toInt < (1 : Nat) := ⟨by decide, by decide⟩
    obtain ⟨T26, h26, X26, e26, A26, W26, st26⟩ := Own.stoI X23 hx hZ e23 f24 hj25 (g := (mkF m 62 #[.val (.int p0), .val (.int p1), .val (.int p2), .val (.int p3), .val (.long q4), .second, .val (.int (1 : Int32)), .val (.int v14), .val (.int v15), .val (.int v16), .val (.ref b17), .val (.ref b19), .val (.long (1 : Int64)), .second, .unset, .unset, .unset, .unset, .unset, .unset] [(.int (-1 : Int32)), (.int (0 : Int32)), (.ref b19)])) rfl rfl (hb hby at_62)
    have f27 : Own.AvI Z h26 b17 .int 1 (fun i => if i = 0 then v14 else (fun _ => 0) i) := A23.other W26 (Own.ne_of (by omega))
    have N26 := Fr.snoc X26 N23 (show n0 ≤ b19 by omega)
    have Z26 : n0 ≤ h26.size := Nat.le_trans Z23 (Keep.of_wr W26).1
    obtain ⟨v28, hv28⟩ : ∃ z : Int64, z = ((1 : Int64) * (v14.toInt64)) := ⟨_, rfl⟩
    have hp1 := own_p1 (own_d hv14) hv28
    have hd1 := own_d hv14
    have hp : 1 ≤ v28.toInt := by omega
    have hnz29 : v28 ≠ 0 := own_nzp hp
    obtain ⟨v30, hv30⟩ : ∃ z : Int64, z = ((q4 &&& (9223372036854775807 : Int64)) % v28) := ⟨_, rfl⟩
    have hk := own_key hp hv30
    obtain ⟨T31, _, L31, X31, ⟨rfl, Nq31, A31⟩, st31⟩ := Own.callS (y := (⟨"com/example/ballast/ballast/model/CostTable", "values", "([IJ[I)V"⟩ : MethodName)) (W := 0) (argsL := [(.ref b17), (.long v30), (.ref b19)]) (rest := []) X26 hx hZ hown (hw _ (List.mem_of_getElem? (i := 2) rfl)) (hw _ (List.mem_of_getElem? (i := 3) rfl)) (hw _ (List.mem_of_getElem? (i := 4) rfl)) (hw _ (List.mem_of_getElem? (i := 5) rfl)) (by decide) e26 (rm11 l Z a0 hw [] b17 v30 b19 (fun i => if i = 0 then v14 else (fun _ => 0) i) (fun i => if i = 0 then (-1 : Int32) else (fun _ => 0) i) h26 n0 Z26 g0_b19 lt_b17_b19 (fun i hi => by match i, hi with | 0, _ => exact own_nzJ (own_d hv14)) f27 A26) (by decide) (by decide) (by decide) (by decide) (g := (mkF m 138 #[.val (.int p0), .val (.int p1), .val (.int p2), .val (.int p3), .val (.long q4), .second, .val (.int (1 : Int32)), .val (.int v14), .val (.int v15), .val (.int v16), .val (.ref b17), .val (.ref b19), .val (.long v28), .second, .val (.long v30), .second, .unset, .unset, .unset, .unset] [(.ref b19), (.long v30), (.ref b17)])) rfl (by rw [hml]; rfl) (lenOf pd_0 rfl) rfl (by show 2 * 0 + _ ≤ _; exact Nat.le_of_eq rfl) (hb hby at_138)
    have N31 := Fr.app N26 Nq31
    have hj32 : 0 ≤ (0 : Int32).toInt ∧ (0 : Int32).toInt < (1 : Nat) := ⟨by decide, by decide⟩
    obtain ⟨v33, hv33⟩ : ∃ z : Int32, z = ((own_v 1 v30 (fun i => if i = 0 then v14 else (fun _ => 0) i) (fun i => if i = 0 then (-1 : Int32) else (fun _ => 0) i)) 0) := ⟨_, rfl⟩
    have hw0 : v33 = (v30 % v14.toInt64).toInt32 := hv33
    have hr0 := own_rng hk.1 (own_d hv14) hw0
    refine hD _ (T31.setTop (mkF m 166 #[.val (.int p0), .val (.int p1), .val (.int p2), .val (.int p3), .val (.long q4), .second, .val (.int (1 : Int32)), .val (.int v14), .val (.int v15), .val (.int v16), .val (.ref b17), .val (.ref b19), .val (.long v28), .second, .val (.long v30), .second, .val (.int (1 : Int32)), .val (.long (0 : Int64)), .second, .val (.int v33)] [(.int v33), (.int (0 : Int32))])) (fun t k => ?_) ?_
    · show Steps p.tables e below (s₁.setTop (mkF m 5 #[.val (.int p0), .val (.int p1), .val (.int p2), .val (.int p3), .val (.long q4), .second, .val (.int (1 : Int32)), .unset, .unset, .unset, .unset, .unset, .unset, .unset, .unset, .unset, .unset, .unset, .unset, .unset] [])) t
      refine XS.iloadN X0.here hx rfl (hb hby at_5) rfl ?_
      show Steps p.tables e below (s₁.setTop (mkF m 6 #[.val (.int p0), .val (.int p1), .val (.int p2), .val (.int p3), .val (.long q4), .second, .val (.int (1 : Int32)), .unset, .unset, .unset, .unset, .unset, .unset, .unset, .unset, .unset, .unset, .unset, .unset, .unset] [(.int p1)])) t
      refine XS.sipush X0.here hx rfl (hb hby at_6) ?_
      show Steps p.tables e below (s₁.setTop (mkF m 9 #[.val (.int p0), .val (.int p1), .val (.int p2), .val (.int p3), .val (.long q4), .second, .val (.int (1 : Int32)), .unset, .unset, .unset, .unset, .unset, .unset, .unset, .unset, .unset, .unset, .unset, .unset, .unset] [(.int (1023 : Int32)), (.int p1)])) t
      refine XS.iand X0.here hx rfl (hb hby at_9) rfl ?_
      show Steps p.tables e below (s₁.setTop (mkF m 10 #[.val (.int p0), .val (.int p1), .val (.int p2), .val (.int p3), .val (.long q4), .second, .val (.int (1 : Int32)), .unset, .unset, .unset, .unset, .unset, .unset, .unset, .unset, .unset, .unset, .unset, .unset, .unset] [(.int (p1 &&& (1023 : Int32)))])) t
      refine XS.iconst X0.here hx rfl (hb hby at_10) ?_
      show Steps p.tables e below (s₁.setTop (mkF m 11 #[.val (.int p0), .val (.int p1), .val (.int p2), .val (.int p3), .val (.long q4), .second, .val (.int (1 : Int32)), .unset, .unset, .unset, .unset, .unset, .unset, .unset, .unset, .unset, .unset, .unset, .unset, .unset] [(.int (1 : Int32)), (.int (p1 &&& (1023 : Int32)))])) t
      refine XS.iadd X0.here hx rfl (hb hby at_11) rfl ?_
      show Steps p.tables e below (s₁.setTop (mkF m 12 #[.val (.int p0), .val (.int p1), .val (.int p2), .val (.int p3), .val (.long q4), .second, .val (.int (1 : Int32)), .unset, .unset, .unset, .unset, .unset, .unset, .unset, .unset, .unset, .unset, .unset, .unset, .unset] [(.int ((p1 &&& (1023 : Int32)) + (1 : Int32)))])) t
      refine Own.nmI hv14 ?_
      show Steps p.tables e below (s₁.setTop (mkF m 12 #[.val (.int p0), .val (.int p1), .val (.int p2), .val (.int p3), .val (.long q4), .second, .val (.int (1 : Int32)), .unset, .unset, .unset, .unset, .unset, .unset, .unset, .unset, .unset, .unset, .unset, .unset, .unset] [(.int v14)])) t
      refine XS.istore X0.here hx rfl (hb hby at_12) rfl (l' := #[.val (.int p0), .val (.int p1), .val (.int p2), .val (.int p3), .val (.long q4), .second, .val (.int (1 : Int32)), .val (.int v14), .unset, .unset, .unset, .unset, .unset, .unset, .unset, .unset, .unset, .unset, .unset, .unset]) rfl ?_
      show Steps p.tables e below (s₁.setTop (mkF m 14 #[.val (.int p0), .val (.int p1), .val (.int p2), .val (.int p3), .val (.long q4), .second, .val (.int (1 : Int32)), .val (.int v14), .unset, .unset, .unset, .unset, .unset, .unset, .unset, .unset, .unset, .unset, .unset, .unset] [])) t
      refine XS.iloadN X0.here hx rfl (hb hby at_14) rfl ?_
      show Steps p.tables e below (s₁.setTop (mkF m 15 #[.val (.int p0), .val (.int p1), .val (.int p2), .val (.int p3), .val (.long q4), .second, .val (.int (1 : Int32)), .val (.int v14), .unset, .unset, .unset, .unset, .unset, .unset, .unset, .unset, .unset, .unset, .unset, .unset] [(.int p2)])) t
      refine XS.sipush X0.here hx rfl (hb hby at_15) ?_
      show Steps p.tables e below (s₁.setTop (mkF m 18 #[.val (.int p0), .val (.int p1), .val (.int p2), .val (.int p3), .val (.long q4), .second, .val (.int (1 : Int32)), .val (.int v14), .unset, .unset, .unset, .unset, .unset, .unset, .unset, .unset, .unset, .unset, .unset, .unset] [(.int (1023 : Int32)), (.int p2)])) t
      refine XS.iand X0.here hx rfl (hb hby at_18) rfl ?_
      show Steps p.tables e below (s₁.setTop (mkF m 19 #[.val (.int p0), .val (.int p1), .val (.int p2), .val (.int p3), .val (.long q4), .second, .val (.int (1 : Int32)), .val (.int v14), .unset, .unset, .unset, .unset, .unset, .unset, .unset, .unset, .unset, .unset, .unset, .unset] [(.int (p2 &&& (1023 : Int32)))])) t
      refine XS.iconst X0.here hx rfl (hb hby at_19) ?_
      show Steps p.tables e below (s₁.setTop (mkF m 20 #[.val (.int p0), .val (.int p1), .val (.int p2), .val (.int p3), .val (.long q4), .second, .val (.int (1 : Int32)), .val (.int v14), .unset, .unset, .unset, .unset, .unset, .unset, .unset, .unset, .unset, .unset, .unset, .unset] [(.int (1 : Int32)), (.int (p2 &&& (1023 : Int32)))])) t
      refine XS.iadd X0.here hx rfl (hb hby at_20) rfl ?_
      show Steps p.tables e below (s₁.setTop (mkF m 21 #[.val (.int p0), .val (.int p1), .val (.int p2), .val (.int p3), .val (.long q4), .second, .val (.int (1 : Int32)), .val (.int v14), .unset, .unset, .unset, .unset, .unset, .unset, .unset, .unset, .unset, .unset, .unset, .unset] [(.int ((p2 &&& (1023 : Int32)) + (1 : Int32)))])) t
      refine Own.nmI hv15 ?_
      show Steps p.tables e below (s₁.setTop (mkF m 21 #[.val (.int p0), .val (.int p1), .val (.int p2), .val (.int p3), .val (.long q4), .second, .val (.int (1 : Int32)), .val (.int v14), .unset, .unset, .unset, .unset, .unset, .unset, .unset, .unset, .unset, .unset, .unset, .unset] [(.int v15)])) t
      refine XS.istore X0.here hx rfl (hb hby at_21) rfl (l' := #[.val (.int p0), .val (.int p1), .val (.int p2), .val (.int p3), .val (.long q4), .second, .val (.int (1 : Int32)), .val (.int v14), .val (.int v15), .unset, .unset, .unset, .unset, .unset, .unset, .unset, .unset, .unset, .unset, .unset]) rfl ?_
      show Steps p.tables e below (s₁.setTop (mkF m 23 #[.val (.int p0), .val (.int p1), .val (.int p2), .val (.int p3), .val (.long q4), .second, .val (.int (1 : Int32)), .val (.int v14), .val (.int v15), .unset, .unset, .unset, .unset, .unset, .unset, .unset, .unset, .unset, .unset, .unset] [])) t
      refine XS.iloadN X0.here hx rfl (hb hby at_23) rfl ?_
      show Steps p.tables e below (s₁.setTop (mkF m 24 #[.val (.int p0), .val (.int p1), .val (.int p2), .val (.int p3), .val (.long q4), .second, .val (.int (1 : Int32)), .val (.int v14), .val (.int v15), .unset, .unset, .unset, .unset, .unset, .unset, .unset, .unset, .unset, .unset, .unset] [(.int p3)])) t
      refine XS.sipush X0.here hx rfl (hb hby at_24) ?_
      show Steps p.tables e below (s₁.setTop (mkF m 27 #[.val (.int p0), .val (.int p1), .val (.int p2), .val (.int p3), .val (.long q4), .second, .val (.int (1 : Int32)), .val (.int v14), .val (.int v15), .unset, .unset, .unset, .unset, .unset, .unset, .unset, .unset, .unset, .unset, .unset] [(.int (1023 : Int32)), (.int p3)])) t
      refine XS.iand X0.here hx rfl (hb hby at_27) rfl ?_
      show Steps p.tables e below (s₁.setTop (mkF m 28 #[.val (.int p0), .val (.int p1), .val (.int p2), .val (.int p3), .val (.long q4), .second, .val (.int (1 : Int32)), .val (.int v14), .val (.int v15), .unset, .unset, .unset, .unset, .unset, .unset, .unset, .unset, .unset, .unset, .unset] [(.int (p3 &&& (1023 : Int32)))])) t
      refine XS.iconst X0.here hx rfl (hb hby at_28) ?_
      show Steps p.tables e below (s₁.setTop (mkF m 29 #[.val (.int p0), .val (.int p1), .val (.int p2), .val (.int p3), .val (.long q4), .second, .val (.int (1 : Int32)), .val (.int v14), .val (.int v15), .unset, .unset, .unset, .unset, .unset, .unset, .unset, .unset, .unset, .unset, .unset] [(.int (1 : Int32)), (.int (p3 &&& (1023 : Int32)))])) t
      refine XS.iadd X0.here hx rfl (hb hby at_29) rfl ?_
      show Steps p.tables e below (s₁.setTop (mkF m 30 #[.val (.int p0), .val (.int p1), .val (.int p2), .val (.int p3), .val (.long q4), .second, .val (.int (1 : Int32)), .val (.int v14), .val (.int v15), .unset, .unset, .unset, .unset, .unset, .unset, .unset, .unset, .unset, .unset, .unset] [(.int ((p3 &&& (1023 : Int32)) + (1 : Int32)))])) t
      refine Own.nmI hv16 ?_
      show Steps p.tables e below (s₁.setTop (mkF m 30 #[.val (.int p0), .val (.int p1), .val (.int p2), .val (.int p3), .val (.long q4), .second, .val (.int (1 : Int32)), .val (.int v14), .val (.int v15), .unset, .unset, .unset, .unset, .unset, .unset, .unset, .unset, .unset, .unset, .unset] [(.int v16)])) t
      refine XS.istore X0.here hx rfl (hb hby at_30) rfl (l' := #[.val (.int p0), .val (.int p1), .val (.int p2), .val (.int p3), .val (.long q4), .second, .val (.int (1 : Int32)), .val (.int v14), .val (.int v15), .val (.int v16), .unset, .unset, .unset, .unset, .unset, .unset, .unset, .unset, .unset, .unset]) rfl ?_
      show Steps p.tables e below (s₁.setTop (mkF m 32 #[.val (.int p0), .val (.int p1), .val (.int p2), .val (.int p3), .val (.long q4), .second, .val (.int (1 : Int32)), .val (.int v14), .val (.int v15), .val (.int v16), .unset, .unset, .unset, .unset, .unset, .unset, .unset, .unset, .unset, .unset] [])) t
      refine XS.iload X0.here hx rfl (hb hby at_32) rfl ?_
      show Steps p.tables e below (s₁.setTop (mkF m 34 #[.val (.int p0), .val (.int p1), .val (.int p2), .val (.int p3), .val (.long q4), .second, .val (.int (1 : Int32)), .val (.int v14), .val (.int v15), .val (.int v16), .unset, .unset, .unset, .unset, .unset, .unset, .unset, .unset, .unset, .unset] [(.int (1 : Int32))])) t
      refine st17 _ ?_
      show Steps p.tables e below (T17.setTop (mkF m 36 #[.val (.int p0), .val (.int p1), .val (.int p2), .val (.int p3), .val (.long q4), .second, .val (.int (1 : Int32)), .val (.int v14), .val (.int v15), .val (.int v16), .unset, .unset, .unset, .unset, .unset, .unset, .unset, .unset, .unset, .unset] [(.ref b17)])) t
      refine XS.astore X17.here hx rfl (hb hby at_36) rfl rfl (l' := #[.val (.int p0), .val (.int p1), .val (.int p2), .val (.int p3), .val (.long q4), .second, .val (.int (1 : Int32)), .val (.int v14), .val (.int v15), .val (.int v16), .val (.ref b17), .unset, .unset, .unset, .unset, .unset, .unset, .unset, .unset, .unset]) rfl ?_
      show Steps p.tables e below (T17.setTop (mkF m 38 #[.val (.int p0), .val (.int p1), .val (.int p2), .val (.int p3), .val (.long q4), .second, .val (.int (1 : Int32)), .val (.int v14), .val (.int v15), .val (.int v16), .val (.ref b17), .unset, .unset, .unset, .unset, .unset, .unset, .unset, .unset, .unset] [])) t
      refine XS.iload X17.here hx rfl (hb hby at_38) rfl ?_
      show Steps p.tables e below (T17.setTop (mkF m 40 #[.val (.int p0), .val (.int p1), .val (.int p2), .val (.int p3), .val (.long q4), .second, .val (.int (1 : Int32)), .val (.int v14), .val (.int v15), .val (.int v16), .val (.ref b17), .unset, .unset, .unset, .unset, .unset, .unset, .unset, .unset, .unset] [(.int (1 : Int32))])) t
      refine st19 _ ?_
      show Steps p.tables e below (T19.setTop (mkF m 42 #[.val (.int p0), .val (.int p1), .val (.int p2), .val (.int p3), .val (.long q4), .second, .val (.int (1 : Int32)), .val (.int v14), .val (.int v15), .val (.int v16), .val (.ref b17), .unset, .unset, .unset, .unset, .unset, .unset, .unset, .unset, .unset] [(.ref b19)])) t
      refine XS.astore X19.here hx rfl (hb hby at_42) rfl rfl (l' := #[.val (.int p0), .val (.int p1), .val (.int p2), .val (.int p3), .val (.long q4), .second, .val (.int (1 : Int32)), .val (.int v14), .val (.int v15), .val (.int v16), .val (.ref b17), .val (.ref b19), .unset, .unset, .unset, .unset, .unset, .unset, .unset, .unset]) rfl ?_
      show Steps p.tables e below (T19.setTop (mkF m 44 #[.val (.int p0), .val (.int p1), .val (.int p2), .val (.int p3), .val (.long q4), .second, .val (.int (1 : Int32)), .val (.int v14), .val (.int v15), .val (.int v16), .val (.ref b17), .val (.ref b19), .unset, .unset, .unset, .unset, .unset, .unset, .unset, .unset] [])) t
      refine XS.lconst X19.here hx rfl (hb hby at_44) ?_
      show Steps p.tables e below (T19.setTop (mkF m 45 #[.val (.int p0), .val (.int p1), .val (.int p2), .val (.int p3), .val (.long q4), .second, .val (.int (1 : Int32)), .val (.int v14), .val (.int v15), .val (.int v16), .val (.ref b17), .val (.ref b19), .unset, .unset, .unset, .unset, .unset, .unset, .unset, .unset] [(.long (1 : Int64))])) t
      refine XS.lstore X19.here hx rfl (hb hby at_45) rfl (l' := #[.val (.int p0), .val (.int p1), .val (.int p2), .val (.int p3), .val (.long q4), .second, .val (.int (1 : Int32)), .val (.int v14), .val (.int v15), .val (.int v16), .val (.ref b17), .val (.ref b19), .val (.long (1 : Int64)), .second, .unset, .unset, .unset, .unset, .unset, .unset]) rfl ?_
      show Steps p.tables e below (T19.setTop (mkF m 47 #[.val (.int p0), .val (.int p1), .val (.int p2), .val (.int p3), .val (.long q4), .second, .val (.int (1 : Int32)), .val (.int v14), .val (.int v15), .val (.int v16), .val (.ref b17), .val (.ref b19), .val (.long (1 : Int64)), .second, .unset, .unset, .unset, .unset, .unset, .unset] [])) t
      refine XS.iload X19.here hx rfl (hb hby at_47) rfl ?_
      show Steps p.tables e below (T19.setTop (mkF m 49 #[.val (.int p0), .val (.int p1), .val (.int p2), .val (.int p3), .val (.long q4), .second, .val (.int (1 : Int32)), .val (.int v14), .val (.int v15), .val (.int v16), .val (.ref b17), .val (.ref b19), .val (.long (1 : Int64)), .second, .unset, .unset, .unset, .unset, .unset, .unset] [(.int (1 : Int32))])) t
      refine XS.ifNo X19.here hx rfl (hb hby at_49) rfl (by decide) ?_
      show Steps p.tables e below (T19.setTop (mkF m 52 #[.val (.int p0), .val (.int p1), .val (.int p2), .val (.int p3), .val (.long q4), .second, .val (.int (1 : Int32)), .val (.int v14), .val (.int v15), .val (.int v16), .val (.ref b17), .val (.ref b19), .val (.long (1 : Int64)), .second, .unset, .unset, .unset, .unset, .unset, .unset] [])) t
      refine XS.aload X19.here hx rfl (hb hby at_52) rfl rfl ?_
      show Steps p.tables e below (T19.setTop (mkF m 54 #[.val (.int p0), .val (.int p1), .val (.int p2), .val (.int p3), .val (.long q4), .second, .val (.int (1 : Int32)), .val (.int v14), .val (.int v15), .val (.int v16), .val (.ref b17), .val (.ref b19), .val (.long (1 : Int64)), .second, .unset, .unset, .unset, .unset, .unset, .unset] [(.ref b17)])) t
      refine XS.iconst X19.here hx rfl (hb hby at_54) ?_
      show Steps p.tables e below (T19.setTop (mkF m 55 #[.val (.int p0), .val (.int p1), .val (.int p2), .val (.int p3), .val (.long q4), .second, .val (.int (1 : Int32)), .val (.int v14), .val (.int v15), .val (.int v16), .val (.ref b17), .val (.ref b19), .val (.long (1 : Int64)), .second, .unset, .unset, .unset, .unset, .unset, .unset] [(.int (0 : Int32)), (.ref b17)])) t
      refine XS.iload X19.here hx rfl (hb hby at_55) rfl ?_
      show Steps p.tables e below (T19.setTop (mkF m 57 #[.val (.int p0), .val (.int p1), .val (.int p2), .val (.int p3), .val (.long q4), .second, .val (.int (1 : Int32)), .val (.int v14), .val (.int v15), .val (.int v16), .val (.ref b17), .val (.ref b19), .val (.long (1 : Int64)), .second, .unset, .unset, .unset, .unset, .unset, .unset] [(.int v14), (.int (0 : Int32)), (.ref b17)])) t
      refine st23 _ ?_
      show Steps p.tables e below (T23.setTop (mkF m 58 #[.val (.int p0), .val (.int p1), .val (.int p2), .val (.int p3), .val (.long q4), .second, .val (.int (1 : Int32)), .val (.int v14), .val (.int v15), .val (.int v16), .val (.ref b17), .val (.ref b19), .val (.long (1 : Int64)), .second, .unset, .unset, .unset, .unset, .unset, .unset] [])) t
      refine XS.aload X23.here hx rfl (hb hby at_58) rfl rfl ?_
      show Steps p.tables e below (T23.setTop (mkF m 60 #[.val (.int p0), .val (.int p1), .val (.int p2), .val (.int p3), .val (.long q4), .second, .val (.int (1 : Int32)), .val (.int v14), .val (.int v15), .val (.int v16), .val (.ref b17), .val (.ref b19), .val (.long (1 : Int64)), .second, .unset, .unset, .unset, .unset, .unset, .unset] [(.ref b19)])) t
      refine XS.iconst X23.here hx rfl (hb hby at_60) ?_
      show Steps p.tables e below (T23.setTop (mkF m 61 #[.val (.int p0), .val (.int p1), .val (.int p2), .val (.int p3), .val (.long q4), .second, .val (.int (1 : Int32)), .val (.int v14), .val (.int v15), .val (.int v16), .val (.ref b17), .val (.ref b19), .val (.long (1 : Int64)), .second, .unset, .unset, .unset, .unset, .unset, .unset] [(.int (0 : Int32)), (.ref b19)])) t
      refine XS.iconst X23.here hx rfl (hb hby at_61) ?_
      show Steps p.tables e below (T23.setTop (mkF m 62 #[.val (.int p0), .val (.int p1), .val (.int p2), .val (.int p3), .val (.long q4), .second, .val (.int (1 : Int32)), .val (.int v14), .val (.int v15), .val (.int v16), .val (.ref b17), .val (.ref b19), .val (.long (1 : Int64)), .second, .unset, .unset, .unset, .unset, .unset, .unset] [(.int (-1 : Int32)), (.int (0 : Int32)), (.ref b19)])) t
      refine st26 _ ?_
      show Steps p.tables e below (T26.setTop (mkF m 63 #[.val (.int p0), .val (.int p1), .val (.int p2), .val (.int p3), .val (.long q4), .second, .val (.int (1 : Int32)), .val (.int v14), .val (.int v15), .val (.int v16), .val (.ref b17), .val (.ref b19), .val (.long (1 : Int64)), .second, .unset, .unset, .unset, .unset, .unset, .unset] [])) t
      refine XS.lload X26.here hx rfl (hb hby at_63) rfl ?_
      show Steps p.tables e below (T26.setTop (mkF m 65 #[.val (.int p0), .val (.int p1), .val (.int p2), .val (.int p3), .val (.long q4), .second, .val (.int (1 : Int32)), .val (.int v14), .val (.int v15), .val (.int v16), .val (.ref b17), .val (.ref b19), .val (.long (1 : Int64)), .second, .unset, .unset, .unset, .unset, .unset, .unset] [(.long (1 : Int64))])) t
      refine XS.iload X26.here hx rfl (hb hby at_65) rfl ?_
      show Steps p.tables e below (T26.setTop (mkF m 67 #[.val (.int p0), .val (.int p1), .val (.int p2), .val (.int p3), .val (.long q4), .second, .val (.int (1 : Int32)), .val (.int v14), .val (.int v15), .val (.int v16), .val (.ref b17), .val (.ref b19), .val (.long (1 : Int64)), .second, .unset, .unset, .unset, .unset, .unset, .unset] [(.int v14), (.long (1 : Int64))])) t
      refine XS.i2l X26.here hx rfl (hb hby at_67) rfl ?_
      show Steps p.tables e below (T26.setTop (mkF m 68 #[.val (.int p0), .val (.int p1), .val (.int p2), .val (.int p3), .val (.long q4), .second, .val (.int (1 : Int32)), .val (.int v14), .val (.int v15), .val (.int v16), .val (.ref b17), .val (.ref b19), .val (.long (1 : Int64)), .second, .unset, .unset, .unset, .unset, .unset, .unset] [(.long (v14.toInt64)), (.long (1 : Int64))])) t
      refine XS.lmul X26.here hx rfl (hb hby at_68) rfl ?_
      show Steps p.tables e below (T26.setTop (mkF m 69 #[.val (.int p0), .val (.int p1), .val (.int p2), .val (.int p3), .val (.long q4), .second, .val (.int (1 : Int32)), .val (.int v14), .val (.int v15), .val (.int v16), .val (.ref b17), .val (.ref b19), .val (.long (1 : Int64)), .second, .unset, .unset, .unset, .unset, .unset, .unset] [(.long ((1 : Int64) * (v14.toInt64)))])) t
      refine Own.nmJ hv28 ?_
      show Steps p.tables e below (T26.setTop (mkF m 69 #[.val (.int p0), .val (.int p1), .val (.int p2), .val (.int p3), .val (.long q4), .second, .val (.int (1 : Int32)), .val (.int v14), .val (.int v15), .val (.int v16), .val (.ref b17), .val (.ref b19), .val (.long (1 : Int64)), .second, .unset, .unset, .unset, .unset, .unset, .unset] [(.long v28)])) t
      refine XS.lstore X26.here hx rfl (hb hby at_69) rfl (l' := #[.val (.int p0), .val (.int p1), .val (.int p2), .val (.int p3), .val (.long q4), .second, .val (.int (1 : Int32)), .val (.int v14), .val (.int v15), .val (.int v16), .val (.ref b17), .val (.ref b19), .val (.long v28), .second, .unset, .unset, .unset, .unset, .unset, .unset]) rfl ?_
      show Steps p.tables e below (T26.setTop (mkF m 71 #[.val (.int p0), .val (.int p1), .val (.int p2), .val (.int p3), .val (.long q4), .second, .val (.int (1 : Int32)), .val (.int v14), .val (.int v15), .val (.int v16), .val (.ref b17), .val (.ref b19), .val (.long v28), .second, .unset, .unset, .unset, .unset, .unset, .unset] [])) t
      refine XS.iload X26.here hx rfl (hb hby at_71) rfl ?_
      show Steps p.tables e below (T26.setTop (mkF m 73 #[.val (.int p0), .val (.int p1), .val (.int p2), .val (.int p3), .val (.long q4), .second, .val (.int (1 : Int32)), .val (.int v14), .val (.int v15), .val (.int v16), .val (.ref b17), .val (.ref b19), .val (.long v28), .second, .unset, .unset, .unset, .unset, .unset, .unset] [(.int (1 : Int32))])) t
      refine XS.iconst X26.here hx rfl (hb hby at_73) ?_
      show Steps p.tables e below (T26.setTop (mkF m 74 #[.val (.int p0), .val (.int p1), .val (.int p2), .val (.int p3), .val (.long q4), .second, .val (.int (1 : Int32)), .val (.int v14), .val (.int v15), .val (.int v16), .val (.ref b17), .val (.ref b19), .val (.long v28), .second, .unset, .unset, .unset, .unset, .unset, .unset] [(.int (1 : Int32)), (.int (1 : Int32))])) t
      refine XS.icmpYes X26.here hx rfl (pc0 := 74) (pc' := 96) rfl (hb hby at_74) rfl (by decide) (by decide) (by decide) ?_
      show Steps p.tables e below (T26.setTop (mkF m 96 #[.val (.int p0), .val (.int p1), .val (.int p2), .val (.int p3), .val (.long q4), .second, .val (.int (1 : Int32)), .val (.int v14), .val (.int v15), .val (.int v16), .val (.ref b17), .val (.ref b19), .val (.long v28), .second, .unset, .unset, .unset, .unset, .unset, .unset] [])) t
      refine XS.iload X26.here hx rfl (hb hby at_96) rfl ?_
      show Steps p.tables e below (T26.setTop (mkF m 98 #[.val (.int p0), .val (.int p1), .val (.int p2), .val (.int p3), .val (.long q4), .second, .val (.int (1 : Int32)), .val (.int v14), .val (.int v15), .val (.int v16), .val (.ref b17), .val (.ref b19), .val (.long v28), .second, .unset, .unset, .unset, .unset, .unset, .unset] [(.int (1 : Int32))])) t
      refine XS.iconst X26.here hx rfl (hb hby at_98) ?_
      show Steps p.tables e below (T26.setTop (mkF m 99 #[.val (.int p0), .val (.int p1), .val (.int p2), .val (.int p3), .val (.long q4), .second, .val (.int (1 : Int32)), .val (.int v14), .val (.int v15), .val (.int v16), .val (.ref b17), .val (.ref b19), .val (.long v28), .second, .unset, .unset, .unset, .unset, .unset, .unset] [(.int (2 : Int32)), (.int (1 : Int32))])) t
      refine XS.icmpYes X26.here hx rfl (pc0 := 99) (pc' := 121) rfl (hb hby at_99) rfl (by decide) (by decide) (by decide) ?_
      show Steps p.tables e below (T26.setTop (mkF m 121 #[.val (.int p0), .val (.int p1), .val (.int p2), .val (.int p3), .val (.long q4), .second, .val (.int (1 : Int32)), .val (.int v14), .val (.int v15), .val (.int v16), .val (.ref b17), .val (.ref b19), .val (.long v28), .second, .unset, .unset, .unset, .unset, .unset, .unset] [])) t
      refine XS.lload X26.here hx rfl (hb hby at_121) rfl ?_
      show Steps p.tables e below (T26.setTop (mkF m 123 #[.val (.int p0), .val (.int p1), .val (.int p2), .val (.int p3), .val (.long q4), .second, .val (.int (1 : Int32)), .val (.int v14), .val (.int v15), .val (.int v16), .val (.ref b17), .val (.ref b19), .val (.long v28), .second, .unset, .unset, .unset, .unset, .unset, .unset] [(.long q4)])) t
      refine X26.ldc2Long hx hown (mvT hZ (hw _ (List.mem_of_getElem? (i := 1) rfl))) (g := (mkF m 123 #[.val (.int p0), .val (.int p1), .val (.int p2), .val (.int p3), .val (.long q4), .second, .val (.int (1 : Int32)), .val (.int v14), .val (.int v15), .val (.int v16), .val (.ref b17), .val (.ref b19), .val (.long v28), .second, .unset, .unset, .unset, .unset, .unset, .unset] [(.long q4)])) rfl (hb hby at_123) _ ?_
      show Steps p.tables e below (T26.setTop (mkF m 126 #[.val (.int p0), .val (.int p1), .val (.int p2), .val (.int p3), .val (.long q4), .second, .val (.int (1 : Int32)), .val (.int v14), .val (.int v15), .val (.int v16), .val (.ref b17), .val (.ref b19), .val (.long v28), .second, .unset, .unset, .unset, .unset, .unset, .unset] [(.long (9223372036854775807 : Int64)), (.long q4)])) t
      refine XS.land X26.here hx rfl (hb hby at_126) rfl ?_
      show Steps p.tables e below (T26.setTop (mkF m 127 #[.val (.int p0), .val (.int p1), .val (.int p2), .val (.int p3), .val (.long q4), .second, .val (.int (1 : Int32)), .val (.int v14), .val (.int v15), .val (.int v16), .val (.ref b17), .val (.ref b19), .val (.long v28), .second, .unset, .unset, .unset, .unset, .unset, .unset] [(.long (q4 &&& (9223372036854775807 : Int64)))])) t
      refine XS.lload X26.here hx rfl (hb hby at_127) rfl ?_
      show Steps p.tables e below (T26.setTop (mkF m 129 #[.val (.int p0), .val (.int p1), .val (.int p2), .val (.int p3), .val (.long q4), .second, .val (.int (1 : Int32)), .val (.int v14), .val (.int v15), .val (.int v16), .val (.ref b17), .val (.ref b19), .val (.long v28), .second, .unset, .unset, .unset, .unset, .unset, .unset] [(.long v28), (.long (q4 &&& (9223372036854775807 : Int64)))])) t
      refine Own.lremM (g := (mkF m 129 #[.val (.int p0), .val (.int p1), .val (.int p2), .val (.int p3), .val (.long q4), .second, .val (.int (1 : Int32)), .val (.int v14), .val (.int v15), .val (.int v16), .val (.ref b17), .val (.ref b19), .val (.long v28), .second, .unset, .unset, .unset, .unset, .unset, .unset] [(.long v28), (.long (q4 &&& (9223372036854775807 : Int64)))])) X26 hx rfl (hb hby at_129) rfl hnz29 ?_
      show Steps p.tables e below (T26.setTop (mkF m 130 #[.val (.int p0), .val (.int p1), .val (.int p2), .val (.int p3), .val (.long q4), .second, .val (.int (1 : Int32)), .val (.int v14), .val (.int v15), .val (.int v16), .val (.ref b17), .val (.ref b19), .val (.long v28), .second, .unset, .unset, .unset, .unset, .unset, .unset] [(.long ((q4 &&& (9223372036854775807 : Int64)) % v28))])) t
      refine Own.nmJ hv30 ?_
      show Steps p.tables e below (T26.setTop (mkF m 130 #[.val (.int p0), .val (.int p1), .val (.int p2), .val (.int p3), .val (.long q4), .second, .val (.int (1 : Int32)), .val (.int v14), .val (.int v15), .val (.int v16), .val (.ref b17), .val (.ref b19), .val (.long v28), .second, .unset, .unset, .unset, .unset, .unset, .unset] [(.long v30)])) t
      refine XS.lstore X26.here hx rfl (hb hby at_130) rfl (l' := #[.val (.int p0), .val (.int p1), .val (.int p2), .val (.int p3), .val (.long q4), .second, .val (.int (1 : Int32)), .val (.int v14), .val (.int v15), .val (.int v16), .val (.ref b17), .val (.ref b19), .val (.long v28), .second, .val (.long v30), .second, .unset, .unset, .unset, .unset]) rfl ?_
      show Steps p.tables e below (T26.setTop (mkF m 132 #[.val (.int p0), .val (.int p1), .val (.int p2), .val (.int p3), .val (.long q4), .second, .val (.int (1 : Int32)), .val (.int v14), .val (.int v15), .val (.int v16), .val (.ref b17), .val (.ref b19), .val (.long v28), .second, .val (.long v30), .second, .unset, .unset, .unset, .unset] [])) t
      refine XS.aload X26.here hx rfl (hb hby at_132) rfl rfl ?_
      show Steps p.tables e below (T26.setTop (mkF m 134 #[.val (.int p0), .val (.int p1), .val (.int p2), .val (.int p3), .val (.long q4), .second, .val (.int (1 : Int32)), .val (.int v14), .val (.int v15), .val (.int v16), .val (.ref b17), .val (.ref b19), .val (.long v28), .second, .val (.long v30), .second, .unset, .unset, .unset, .unset] [(.ref b17)])) t
      refine XS.lload X26.here hx rfl (hb hby at_134) rfl ?_
      show Steps p.tables e below (T26.setTop (mkF m 136 #[.val (.int p0), .val (.int p1), .val (.int p2), .val (.int p3), .val (.long q4), .second, .val (.int (1 : Int32)), .val (.int v14), .val (.int v15), .val (.int v16), .val (.ref b17), .val (.ref b19), .val (.long v28), .second, .val (.long v30), .second, .unset, .unset, .unset, .unset] [(.long v30), (.ref b17)])) t
      refine XS.aload X26.here hx rfl (hb hby at_136) rfl rfl ?_
      show Steps p.tables e below (T26.setTop (mkF m 138 #[.val (.int p0), .val (.int p1), .val (.int p2), .val (.int p3), .val (.long q4), .second, .val (.int (1 : Int32)), .val (.int v14), .val (.int v15), .val (.int v16), .val (.ref b17), .val (.ref b19), .val (.long v28), .second, .val (.long v30), .second, .unset, .unset, .unset, .unset] [(.ref b19), (.long v30), (.ref b17)])) t
      refine st31 _ ?_
      show Steps p.tables e below (T31.setTop (mkF m 141 #[.val (.int p0), .val (.int p1), .val (.int p2), .val (.int p3), .val (.long q4), .second, .val (.int (1 : Int32)), .val (.int v14), .val (.int v15), .val (.int v16), .val (.ref b17), .val (.ref b19), .val (.long v28), .second, .val (.long v30), .second, .unset, .unset, .unset, .unset] [])) t
      refine XS.iconst X31.here hx rfl (hb hby at_141) ?_
      show Steps p.tables e below (T31.setTop (mkF m 142 #[.val (.int p0), .val (.int p1), .val (.int p2), .val (.int p3), .val (.long q4), .second, .val (.int (1 : Int32)), .val (.int v14), .val (.int v15), .val (.int v16), .val (.ref b17), .val (.ref b19), .val (.long v28), .second, .val (.long v30), .second, .unset, .unset, .unset, .unset] [(.int (1 : Int32))])) t
      refine XS.istore X31.here hx rfl (hb hby at_142) rfl (l' := #[.val (.int p0), .val (.int p1), .val (.int p2), .val (.int p3), .val (.long q4), .second, .val (.int (1 : Int32)), .val (.int v14), .val (.int v15), .val (.int v16), .val (.ref b17), .val (.ref b19), .val (.long v28), .second, .val (.long v30), .second, .val (.int (1 : Int32)), .unset, .unset, .unset]) rfl ?_
      show Steps p.tables e below (T31.setTop (mkF m 144 #[.val (.int p0), .val (.int p1), .val (.int p2), .val (.int p3), .val (.long q4), .second, .val (.int (1 : Int32)), .val (.int v14), .val (.int v15), .val (.int v16), .val (.ref b17), .val (.ref b19), .val (.long v28), .second, .val (.long v30), .second, .val (.int (1 : Int32)), .unset, .unset, .unset] [])) t
      refine XS.lconst X31.here hx rfl (hb hby at_144) ?_
      show Steps p.tables e below (T31.setTop (mkF m 145 #[.val (.int p0), .val (.int p1), .val (.int p2), .val (.int p3), .val (.long q4), .second, .val (.int (1 : Int32)), .val (.int v14), .val (.int v15), .val (.int v16), .val (.ref b17), .val (.ref b19), .val (.long v28), .second, .val (.long v30), .second, .val (.int (1 : Int32)), .unset, .unset, .unset] [(.long (0 : Int64))])) t
      refine XS.lstore X31.here hx rfl (hb hby at_145) rfl (l' := #[.val (.int p0), .val (.int p1), .val (.int p2), .val (.int p3), .val (.long q4), .second, .val (.int (1 : Int32)), .val (.int v14), .val (.int v15), .val (.int v16), .val (.ref b17), .val (.ref b19), .val (.long v28), .second, .val (.long v30), .second, .val (.int (1 : Int32)), .val (.long (0 : Int64)), .second, .unset]) rfl ?_
      show Steps p.tables e below (T31.setTop (mkF m 147 #[.val (.int p0), .val (.int p1), .val (.int p2), .val (.int p3), .val (.long q4), .second, .val (.int (1 : Int32)), .val (.int v14), .val (.int v15), .val (.int v16), .val (.ref b17), .val (.ref b19), .val (.long v28), .second, .val (.long v30), .second, .val (.int (1 : Int32)), .val (.long (0 : Int64)), .second, .unset] [])) t
      refine XS.iload X31.here hx rfl (hb hby at_147) rfl ?_
      show Steps p.tables e below (T31.setTop (mkF m 149 #[.val (.int p0), .val (.int p1), .val (.int p2), .val (.int p3), .val (.long q4), .second, .val (.int (1 : Int32)), .val (.int v14), .val (.int v15), .val (.int v16), .val (.ref b17), .val (.ref b19), .val (.long v28), .second, .val (.long v30), .second, .val (.int (1 : Int32)), .val (.long (0 : Int64)), .second, .unset] [(.int (1 : Int32))])) t
      refine XS.ifNo X31.here hx rfl (hb hby at_149) rfl (by decide) ?_
      show Steps p.tables e below (T31.setTop (mkF m 152 #[.val (.int p0), .val (.int p1), .val (.int p2), .val (.int p3), .val (.long q4), .second, .val (.int (1 : Int32)), .val (.int v14), .val (.int v15), .val (.int v16), .val (.ref b17), .val (.ref b19), .val (.long v28), .second, .val (.long v30), .second, .val (.int (1 : Int32)), .val (.long (0 : Int64)), .second, .unset] [])) t
      refine XS.aload X31.here hx rfl (hb hby at_152) rfl rfl ?_
      show Steps p.tables e below (T31.setTop (mkF m 154 #[.val (.int p0), .val (.int p1), .val (.int p2), .val (.int p3), .val (.long q4), .second, .val (.int (1 : Int32)), .val (.int v14), .val (.int v15), .val (.int v16), .val (.ref b17), .val (.ref b19), .val (.long v28), .second, .val (.long v30), .second, .val (.int (1 : Int32)), .val (.long (0 : Int64)), .second, .unset] [(.ref b19)])) t
      refine XS.iconst X31.here hx rfl (hb hby at_154) ?_
      show Steps p.tables e below (T31.setTop (mkF m 155 #[.val (.int p0), .val (.int p1), .val (.int p2), .val (.int p3), .val (.long q4), .second, .val (.int (1 : Int32)), .val (.int v14), .val (.int v15), .val (.int v16), .val (.ref b17), .val (.ref b19), .val (.long v28), .second, .val (.long v30), .second, .val (.int (1 : Int32)), .val (.long (0 : Int64)), .second, .unset] [(.int (0 : Int32)), (.ref b19)])) t
      refine Own.ldI X31 hx hZ rfl A31 hj32 (g := (mkF m 155 #[.val (.int p0), .val (.int p1), .val (.int p2), .val (.int p3), .val (.long q4), .second, .val (.int (1 : Int32)), .val (.int v14), .val (.int v15), .val (.int v16), .val (.ref b17), .val (.ref b19), .val (.long v28), .second, .val (.long v30), .second, .val (.int (1 : Int32)), .val (.long (0 : Int64)), .second, .unset] [(.int (0 : Int32)), (.ref b19)])) rfl rfl (hb hby at_155) _ ?_
      show Steps p.tables e below (T31.setTop (mkF m 156 #[.val (.int p0), .val (.int p1), .val (.int p2), .val (.int p3), .val (.long q4), .second, .val (.int (1 : Int32)), .val (.int v14), .val (.int v15), .val (.int v16), .val (.ref b17), .val (.ref b19), .val (.long v28), .second, .val (.long v30), .second, .val (.int (1 : Int32)), .val (.long (0 : Int64)), .second, .unset] [(.int ((own_v 1 v30 (fun i => if i = 0 then v14 else (fun _ => 0) i) (fun i => if i = 0 then (-1 : Int32) else (fun _ => 0) i)) 0))])) t
      refine Own.nmI hv33 ?_
      show Steps p.tables e below (T31.setTop (mkF m 156 #[.val (.int p0), .val (.int p1), .val (.int p2), .val (.int p3), .val (.long q4), .second, .val (.int (1 : Int32)), .val (.int v14), .val (.int v15), .val (.int v16), .val (.ref b17), .val (.ref b19), .val (.long v28), .second, .val (.long v30), .second, .val (.int (1 : Int32)), .val (.long (0 : Int64)), .second, .unset] [(.int v33)])) t
      refine XS.istore X31.here hx rfl (hb hby at_156) rfl (l' := #[.val (.int p0), .val (.int p1), .val (.int p2), .val (.int p3), .val (.long q4), .second, .val (.int (1 : Int32)), .val (.int v14), .val (.int v15), .val (.int v16), .val (.ref b17), .val (.ref b19), .val (.long v28), .second, .val (.long v30), .second, .val (.int (1 : Int32)), .val (.long (0 : Int64)), .second, .val (.int v33)]) rfl ?_
      show Steps p.tables e below (T31.setTop (mkF m 158 #[.val (.int p0), .val (.int p1), .val (.int p2), .val (.int p3), .val (.long q4), .second, .val (.int (1 : Int32)), .val (.int v14), .val (.int v15), .val (.int v16), .val (.ref b17), .val (.ref b19), .val (.long v28), .second, .val (.long v30), .second, .val (.int (1 : Int32)), .val (.long (0 : Int64)), .second, .val (.int v33)] [])) t
      refine XS.iload X31.here hx rfl (hb hby at_158) rfl ?_
      show Steps p.tables e below (T31.setTop (mkF m 160 #[.val (.int p0), .val (.int p1), .val (.int p2), .val (.int p3), .val (.long q4), .second, .val (.int (1 : Int32)), .val (.int v14), .val (.int v15), .val (.int v16), .val (.ref b17), .val (.ref b19), .val (.long v28), .second, .val (.long v30), .second, .val (.int (1 : Int32)), .val (.long (0 : Int64)), .second, .val (.int v33)] [(.int (1 : Int32))])) t
      refine XS.ifNo X31.here hx rfl (hb hby at_160) rfl (by decide) ?_
      show Steps p.tables e below (T31.setTop (mkF m 163 #[.val (.int p0), .val (.int p1), .val (.int p2), .val (.int p3), .val (.long q4), .second, .val (.int (1 : Int32)), .val (.int v14), .val (.int v15), .val (.int v16), .val (.ref b17), .val (.ref b19), .val (.long v28), .second, .val (.long v30), .second, .val (.int (1 : Int32)), .val (.long (0 : Int64)), .second, .val (.int v33)] [])) t
      refine XS.iconst X31.here hx rfl (hb hby at_163) ?_
      show Steps p.tables e below (T31.setTop (mkF m 164 #[.val (.int p0), .val (.int p1), .val (.int p2), .val (.int p3), .val (.long q4), .second, .val (.int (1 : Int32)), .val (.int v14), .val (.int v15), .val (.int v16), .val (.ref b17), .val (.ref b19), .val (.long v28), .second, .val (.long v30), .second, .val (.int (1 : Int32)), .val (.long (0 : Int64)), .second, .val (.int v33)] [(.int (0 : Int32))])) t
      refine XS.iload X31.here hx rfl (hb hby at_164) rfl ?_
      show Steps p.tables e below (T31.setTop (mkF m 166 #[.val (.int p0), .val (.int p1), .val (.int p2), .val (.int p3), .val (.long q4), .second, .val (.int (1 : Int32)), .val (.int v14), .val (.int v15), .val (.int v16), .val (.ref b17), .val (.ref b19), .val (.long v28), .second, .val (.long v30), .second, .val (.int (1 : Int32)), .val (.long (0 : Int64)), .second, .val (.int v33)] [(.int v33), (.int (0 : Int32))])) t
      exact k
    have hc34 : ¬ (v33 < (0 : Int32)) := hr0.1
    refine hD _ (T31.setTop (mkF m 173 #[.val (.int p0), .val (.int p1), .val (.int p2), .val (.int p3), .val (.long q4), .second, .val (.int (1 : Int32)), .val (.int v14), .val (.int v15), .val (.int v16), .val (.ref b17), .val (.ref b19), .val (.long v28), .second, .val (.long v30), .second, .val (.int (1 : Int32)), .val (.long (0 : Int64)), .second, .val (.int v33)] [(.int v14), (.int v33)])) (fun t k => ?_) ?_
    · show Steps p.tables e below (T31.setTop (mkF m 166 #[.val (.int p0), .val (.int p1), .val (.int p2), .val (.int p3), .val (.long q4), .second, .val (.int (1 : Int32)), .val (.int v14), .val (.int v15), .val (.int v16), .val (.ref b17), .val (.ref b19), .val (.long v28), .second, .val (.long v30), .second, .val (.int (1 : Int32)), .val (.long (0 : Int64)), .second, .val (.int v33)] [(.int v33), (.int (0 : Int32))])) t
      refine XS.icmpNo X31.here hx rfl (hb hby at_166) rfl (flt hc34).2.2.1 ?_
      show Steps p.tables e below (T31.setTop (mkF m 169 #[.val (.int p0), .val (.int p1), .val (.int p2), .val (.int p3), .val (.long q4), .second, .val (.int (1 : Int32)), .val (.int v14), .val (.int v15), .val (.int v16), .val (.ref b17), .val (.ref b19), .val (.long v28), .second, .val (.long v30), .second, .val (.int (1 : Int32)), .val (.long (0 : Int64)), .second, .val (.int v33)] [])) t
      refine XS.iload X31.here hx rfl (hb hby at_169) rfl ?_
      show Steps p.tables e below (T31.setTop (mkF m 171 #[.val (.int p0), .val (.int p1), .val (.int p2), .val (.int p3), .val (.long q4), .second, .val (.int (1 : Int32)), .val (.int v14), .val (.int v15), .val (.int v16), .val (.ref b17), .val (.ref b19), .val (.long v28), .second, .val (.long v30), .second, .val (.int (1 : Int32)), .val (.long (0 : Int64)), .second, .val (.int v33)] [(.int v33)])) t
      refine XS.iload X31.here hx rfl (hb hby at_171) rfl ?_
      show Steps p.tables e below (T31.setTop (mkF m 173 #[.val (.int p0), .val (.int p1), .val (.int p2), .val (.int p3), .val (.long q4), .second, .val (.int (1 : Int32)), .val (.int v14), .val (.int v15), .val (.int v16), .val (.ref b17), .val (.ref b19), .val (.long v28), .second, .val (.long v30), .second, .val (.int (1 : Int32)), .val (.long (0 : Int64)), .second, .val (.int v33)] [(.int v14), (.int v33)])) t
      exact k
    have hc35 : v33 < v14 := hr0.2
    obtain ⟨v36, hv36⟩ : ∃ z : Int64, z = (v33.toInt64) := ⟨_, rfl⟩
    refine hD _ (T31.setTop (mkF m 296 #[.val (.int p0), .val (.int p1), .val (.int p2), .val (.int p3), .val (.long q4), .second, .val (.int (1 : Int32)), .val (.int v14), .val (.int v15), .val (.int v16), .val (.ref b17), .val (.ref b19), .val (.long v28), .second, .val (.long v30), .second, .val (.int (1 : Int32)), .val (.long v36), .second, .val (.int v33)] [(.int (lcmpW v36 v30))])) (fun t k => ?_) ?_
    · show Steps p.tables e below (T31.setTop (mkF m 173 #[.val (.int p0), .val (.int p1), .val (.int p2), .val (.int p3), .val (.long q4), .second, .val (.int (1 : Int32)), .val (.int v14), .val (.int v15), .val (.int v16), .val (.ref b17), .val (.ref b19), .val (.long v28), .second, .val (.long v30), .second, .val (.int (1 : Int32)), .val (.long (0 : Int64)), .second, .val (.int v33)] [(.int v14), (.int v33)])) t
      refine XS.icmpNo X31.here hx rfl (hb hby at_173) rfl (tlt hc35).2.1 ?_
      show Steps p.tables e below (T31.setTop (mkF m 176 #[.val (.int p0), .val (.int p1), .val (.int p2), .val (.int p3), .val (.long q4), .second, .val (.int (1 : Int32)), .val (.int v14), .val (.int v15), .val (.int v16), .val (.ref b17), .val (.ref b19), .val (.long v28), .second, .val (.long v30), .second, .val (.int (1 : Int32)), .val (.long (0 : Int64)), .second, .val (.int v33)] [])) t
      refine XS.iconst X31.here hx rfl (hb hby at_176) ?_
      show Steps p.tables e below (T31.setTop (mkF m 177 #[.val (.int p0), .val (.int p1), .val (.int p2), .val (.int p3), .val (.long q4), .second, .val (.int (1 : Int32)), .val (.int v14), .val (.int v15), .val (.int v16), .val (.ref b17), .val (.ref b19), .val (.long v28), .second, .val (.long v30), .second, .val (.int (1 : Int32)), .val (.long (0 : Int64)), .second, .val (.int v33)] [(.int (1 : Int32))])) t
      refine XS.goto X31.here hx rfl (pc0 := 177) (pc' := 181) rfl (hb hby at_177) (by decide) (by decide) ?_
      show Steps p.tables e below (T31.setTop (mkF m 181 #[.val (.int p0), .val (.int p1), .val (.int p2), .val (.int p3), .val (.long q4), .second, .val (.int (1 : Int32)), .val (.int v14), .val (.int v15), .val (.int v16), .val (.ref b17), .val (.ref b19), .val (.long v28), .second, .val (.long v30), .second, .val (.int (1 : Int32)), .val (.long (0 : Int64)), .second, .val (.int v33)] [(.int (1 : Int32))])) t
      refine XS.istore X31.here hx rfl (hb hby at_181) rfl (l' := #[.val (.int p0), .val (.int p1), .val (.int p2), .val (.int p3), .val (.long q4), .second, .val (.int (1 : Int32)), .val (.int v14), .val (.int v15), .val (.int v16), .val (.ref b17), .val (.ref b19), .val (.long v28), .second, .val (.long v30), .second, .val (.int (1 : Int32)), .val (.long (0 : Int64)), .second, .val (.int v33)]) rfl ?_
      show Steps p.tables e below (T31.setTop (mkF m 183 #[.val (.int p0), .val (.int p1), .val (.int p2), .val (.int p3), .val (.long q4), .second, .val (.int (1 : Int32)), .val (.int v14), .val (.int v15), .val (.int v16), .val (.ref b17), .val (.ref b19), .val (.long v28), .second, .val (.long v30), .second, .val (.int (1 : Int32)), .val (.long (0 : Int64)), .second, .val (.int v33)] [])) t
      refine XS.iload X31.here hx rfl (hb hby at_183) rfl ?_
      show Steps p.tables e below (T31.setTop (mkF m 185 #[.val (.int p0), .val (.int p1), .val (.int p2), .val (.int p3), .val (.long q4), .second, .val (.int (1 : Int32)), .val (.int v14), .val (.int v15), .val (.int v16), .val (.ref b17), .val (.ref b19), .val (.long v28), .second, .val (.long v30), .second, .val (.int (1 : Int32)), .val (.long (0 : Int64)), .second, .val (.int v33)] [(.int v33)])) t
      refine XS.i2l X31.here hx rfl (hb hby at_185) rfl ?_
      show Steps p.tables e below (T31.setTop (mkF m 186 #[.val (.int p0), .val (.int p1), .val (.int p2), .val (.int p3), .val (.long q4), .second, .val (.int (1 : Int32)), .val (.int v14), .val (.int v15), .val (.int v16), .val (.ref b17), .val (.ref b19), .val (.long v28), .second, .val (.long v30), .second, .val (.int (1 : Int32)), .val (.long (0 : Int64)), .second, .val (.int v33)] [(.long (v33.toInt64))])) t
      refine Own.nmJ hv36 ?_
      show Steps p.tables e below (T31.setTop (mkF m 186 #[.val (.int p0), .val (.int p1), .val (.int p2), .val (.int p3), .val (.long q4), .second, .val (.int (1 : Int32)), .val (.int v14), .val (.int v15), .val (.int v16), .val (.ref b17), .val (.ref b19), .val (.long v28), .second, .val (.long v30), .second, .val (.int (1 : Int32)), .val (.long (0 : Int64)), .second, .val (.int v33)] [(.long v36)])) t
      refine XS.lstore X31.here hx rfl (hb hby at_186) rfl (l' := #[.val (.int p0), .val (.int p1), .val (.int p2), .val (.int p3), .val (.long q4), .second, .val (.int (1 : Int32)), .val (.int v14), .val (.int v15), .val (.int v16), .val (.ref b17), .val (.ref b19), .val (.long v28), .second, .val (.long v30), .second, .val (.int (1 : Int32)), .val (.long v36), .second, .val (.int v33)]) rfl ?_
      show Steps p.tables e below (T31.setTop (mkF m 188 #[.val (.int p0), .val (.int p1), .val (.int p2), .val (.int p3), .val (.long q4), .second, .val (.int (1 : Int32)), .val (.int v14), .val (.int v15), .val (.int v16), .val (.ref b17), .val (.ref b19), .val (.long v28), .second, .val (.long v30), .second, .val (.int (1 : Int32)), .val (.long v36), .second, .val (.int v33)] [])) t
      refine XS.iload X31.here hx rfl (hb hby at_188) rfl ?_
      show Steps p.tables e below (T31.setTop (mkF m 190 #[.val (.int p0), .val (.int p1), .val (.int p2), .val (.int p3), .val (.long q4), .second, .val (.int (1 : Int32)), .val (.int v14), .val (.int v15), .val (.int v16), .val (.ref b17), .val (.ref b19), .val (.long v28), .second, .val (.long v30), .second, .val (.int (1 : Int32)), .val (.long v36), .second, .val (.int v33)] [(.int (1 : Int32))])) t
      refine XS.iconst X31.here hx rfl (hb hby at_190) ?_
      show Steps p.tables e below (T31.setTop (mkF m 191 #[.val (.int p0), .val (.int p1), .val (.int p2), .val (.int p3), .val (.long q4), .second, .val (.int (1 : Int32)), .val (.int v14), .val (.int v15), .val (.int v16), .val (.ref b17), .val (.ref b19), .val (.long v28), .second, .val (.long v30), .second, .val (.int (1 : Int32)), .val (.long v36), .second, .val (.int v33)] [(.int (1 : Int32)), (.int (1 : Int32))])) t
      refine XS.icmpYes X31.here hx rfl (pc0 := 191) (pc' := 237) rfl (hb hby at_191) rfl (by decide) (by decide) (by decide) ?_
      show Steps p.tables e below (T31.setTop (mkF m 237 #[.val (.int p0), .val (.int p1), .val (.int p2), .val (.int p3), .val (.long q4), .second, .val (.int (1 : Int32)), .val (.int v14), .val (.int v15), .val (.int v16), .val (.ref b17), .val (.ref b19), .val (.long v28), .second, .val (.long v30), .second, .val (.int (1 : Int32)), .val (.long v36), .second, .val (.int v33)] [])) t
      refine XS.iload X31.here hx rfl (hb hby at_237) rfl ?_
      show Steps p.tables e below (T31.setTop (mkF m 239 #[.val (.int p0), .val (.int p1), .val (.int p2), .val (.int p3), .val (.long q4), .second, .val (.int (1 : Int32)), .val (.int v14), .val (.int v15), .val (.int v16), .val (.ref b17), .val (.ref b19), .val (.long v28), .second, .val (.long v30), .second, .val (.int (1 : Int32)), .val (.long v36), .second, .val (.int v33)] [(.int (1 : Int32))])) t
      refine XS.iconst X31.here hx rfl (hb hby at_239) ?_
      show Steps p.tables e below (T31.setTop (mkF m 240 #[.val (.int p0), .val (.int p1), .val (.int p2), .val (.int p3), .val (.long q4), .second, .val (.int (1 : Int32)), .val (.int v14), .val (.int v15), .val (.int v16), .val (.ref b17), .val (.ref b19), .val (.long v28), .second, .val (.long v30), .second, .val (.int (1 : Int32)), .val (.long v36), .second, .val (.int v33)] [(.int (2 : Int32)), (.int (1 : Int32))])) t
      refine XS.icmpYes X31.here hx rfl (pc0 := 240) (pc' := 286) rfl (hb hby at_240) rfl (by decide) (by decide) (by decide) ?_
      show Steps p.tables e below (T31.setTop (mkF m 286 #[.val (.int p0), .val (.int p1), .val (.int p2), .val (.int p3), .val (.long q4), .second, .val (.int (1 : Int32)), .val (.int v14), .val (.int v15), .val (.int v16), .val (.ref b17), .val (.ref b19), .val (.long v28), .second, .val (.long v30), .second, .val (.int (1 : Int32)), .val (.long v36), .second, .val (.int v33)] [])) t
      refine XS.iload X31.here hx rfl (hb hby at_286) rfl ?_
      show Steps p.tables e below (T31.setTop (mkF m 288 #[.val (.int p0), .val (.int p1), .val (.int p2), .val (.int p3), .val (.long q4), .second, .val (.int (1 : Int32)), .val (.int v14), .val (.int v15), .val (.int v16), .val (.ref b17), .val (.ref b19), .val (.long v28), .second, .val (.long v30), .second, .val (.int (1 : Int32)), .val (.long v36), .second, .val (.int v33)] [(.int (1 : Int32))])) t
      refine XS.ifNo X31.here hx rfl (hb hby at_288) rfl (by decide) ?_
      show Steps p.tables e below (T31.setTop (mkF m 291 #[.val (.int p0), .val (.int p1), .val (.int p2), .val (.int p3), .val (.long q4), .second, .val (.int (1 : Int32)), .val (.int v14), .val (.int v15), .val (.int v16), .val (.ref b17), .val (.ref b19), .val (.long v28), .second, .val (.long v30), .second, .val (.int (1 : Int32)), .val (.long v36), .second, .val (.int v33)] [])) t
      refine XS.lload X31.here hx rfl (hb hby at_291) rfl ?_
      show Steps p.tables e below (T31.setTop (mkF m 293 #[.val (.int p0), .val (.int p1), .val (.int p2), .val (.int p3), .val (.long q4), .second, .val (.int (1 : Int32)), .val (.int v14), .val (.int v15), .val (.int v16), .val (.ref b17), .val (.ref b19), .val (.long v28), .second, .val (.long v30), .second, .val (.int (1 : Int32)), .val (.long v36), .second, .val (.int v33)] [(.long v36)])) t
      refine XS.lload X31.here hx rfl (hb hby at_293) rfl ?_
      show Steps p.tables e below (T31.setTop (mkF m 295 #[.val (.int p0), .val (.int p1), .val (.int p2), .val (.int p3), .val (.long q4), .second, .val (.int (1 : Int32)), .val (.int v14), .val (.int v15), .val (.int v16), .val (.ref b17), .val (.ref b19), .val (.long v28), .second, .val (.long v30), .second, .val (.int (1 : Int32)), .val (.long v36), .second, .val (.int v33)] [(.long v30), (.long v36)])) t
      refine XS.lcmp X31.here hx rfl (hb hby at_295) rfl ?_
      show Steps p.tables e below (T31.setTop (mkF m 296 #[.val (.int p0), .val (.int p1), .val (.int p2), .val (.int p3), .val (.long q4), .second, .val (.int (1 : Int32)), .val (.int v14), .val (.int v15), .val (.int v16), .val (.ref b17), .val (.ref b19), .val (.long v28), .second, .val (.long v30), .second, .val (.int (1 : Int32)), .val (.long v36), .second, .val (.int v33)] [(.int (lcmpW v36 v30))])) t
      exact k
    have hc37 : v36 = v30 := by
      apply Int64.toInt_inj.mp
      exact own_top (show 0 ≤ v30.toInt ∧ v30.toInt < v14.toInt by omega) (own_d hv14) hw0 hv36
    refine hD _ (T31.setTop (mkF m 304 #[.val (.int p0), .val (.int p1), .val (.int p2), .val (.int p3), .val (.long q4), .second, .val (.int (1 : Int32)), .val (.int v14), .val (.int v15), .val (.int v16), .val (.ref b17), .val (.ref b19), .val (.long v28), .second, .val (.long v30), .second, .val (.int (1 : Int32)), .val (.long v36), .second, .val (.int v33)] [(.int (1 : Int32))])) (fun t k => ?_) ?_
    · show Steps p.tables e below (T31.setTop (mkF m 296 #[.val (.int p0), .val (.int p1), .val (.int p2), .val (.int p3), .val (.long q4), .second, .val (.int (1 : Int32)), .val (.int v14), .val (.int v15), .val (.int v16), .val (.ref b17), .val (.ref b19), .val (.long v28), .second, .val (.long v30), .second, .val (.int (1 : Int32)), .val (.long v36), .second, .val (.int v33)] [(.int (lcmpW v36 v30))])) t
      refine XS.ifNo X31.here hx rfl (hb hby at_296) rfl ((if0 _ _).trans (teq ((lw_eq v36 v30).mpr hc37)).2) ?_
      show Steps p.tables e below (T31.setTop (mkF m 299 #[.val (.int p0), .val (.int p1), .val (.int p2), .val (.int p3), .val (.long q4), .second, .val (.int (1 : Int32)), .val (.int v14), .val (.int v15), .val (.int v16), .val (.ref b17), .val (.ref b19), .val (.long v28), .second, .val (.long v30), .second, .val (.int (1 : Int32)), .val (.long v36), .second, .val (.int v33)] [])) t
      refine XS.iconst X31.here hx rfl (hb hby at_299) ?_
      show Steps p.tables e below (T31.setTop (mkF m 300 #[.val (.int p0), .val (.int p1), .val (.int p2), .val (.int p3), .val (.long q4), .second, .val (.int (1 : Int32)), .val (.int v14), .val (.int v15), .val (.int v16), .val (.ref b17), .val (.ref b19), .val (.long v28), .second, .val (.long v30), .second, .val (.int (1 : Int32)), .val (.long v36), .second, .val (.int v33)] [(.int (1 : Int32))])) t
      refine XS.goto X31.here hx rfl (pc0 := 300) (pc' := 304) rfl (hb hby at_300) (by decide) (by decide) ?_
      show Steps p.tables e below (T31.setTop (mkF m 304 #[.val (.int p0), .val (.int p1), .val (.int p2), .val (.int p3), .val (.long q4), .second, .val (.int (1 : Int32)), .val (.int v14), .val (.int v15), .val (.int v16), .val (.ref b17), .val (.ref b19), .val (.long v28), .second, .val (.long v30), .second, .val (.int (1 : Int32)), .val (.long v36), .second, .val (.int v33)] [(.int (1 : Int32))])) t
      exact k
    exact Own.retN hR X31 hx (t := .boolean) hret (by simp) (hb hby at_304) (by decide) (by decide) (by decide) ⟨rfl, N31⟩
  · obtain ⟨v38, hv38⟩ : ∃ z : Int32, z = ((p1 &&& (1023 : Int32)) + (1 : Int32)) := ⟨_, rfl⟩
    obtain ⟨v39, hv39⟩ : ∃ z : Int32, z = ((p2 &&& (1023 : Int32)) + (1 : Int32)) := ⟨_, rfl⟩
    obtain ⟨v40, hv40⟩ : ∃ z : Int32, z = ((p3 &&& (1023 : Int32)) + (1 : Int32)) := ⟨_, rfl⟩
    obtain ⟨T41, h41, k41, X41, e41, E41, A41, st41⟩ := newP X0 hx hZ (hw _ (List.mem_of_getElem? (i := 0) rfl)) e0 (g := (mkF m 34 #[.val (.int p0), .val (.int p1), .val (.int p2), .val (.int p3), .val (.long q4), .second, .val (.int (2 : Int32)), .val (.int v38), .val (.int v39), .val (.int v40), .unset, .unset, .unset, .unset, .unset, .unset, .unset, .unset, .unset, .unset] [(.int (2 : Int32))])) rfl (hb hby at_34) rfl (by decide) (cap := 2) (by decide) (by decide) (by decide) (by decide)
    obtain ⟨b41, g_b41⟩ : ∃ z : Nat, z = h0.size := ⟨_, rfl⟩
    rw [← g_b41] at A41 st41
    have g0_b41 : n0 ≤ b41 := by rw [g_b41]; exact Z0
    have f42 : Own.AvI Z h41 b41 .int 2 (fun _ => 0) := Own.AvI.new A41 (by decide) rfl
    have Z41 : n0 ≤ h41.size := Nat.le_trans Z0 E41.1
    obtain ⟨T43, h43, k43, X43, e43, E43, A43, st43⟩ := newP X41 hx hZ (hw _ (List.mem_of_getElem? (i := 0) rfl)) e41 (g := (mkF m 40 #[.val (.int p0), .val (.int p1), .val (.int p2), .val (.int p3), .val (.long q4), .second, .val (.int (2 : Int32)), .val (.int v38), .val (.int v39), .val (.int v40), .val (.ref b41), .unset, .unset, .unset, .unset, .unset, .unset, .unset, .unset, .unset] [(.int (2 : Int32))])) rfl (hb hby at_40) rfl (by decide) (cap := 2) (by decide) (by decide) (by decide) (by decide)
    obtain ⟨b43, g_b43⟩ : ∃ z : Nat, z = h41.size := ⟨_, rfl⟩
    rw [← g_b43] at A43 st43
    have lt_b41_b43 : (b41 : Nat) < b43 := by rw [g_b43]; exact f42.lt
    have g0_b43 : n0 ≤ b43 := by rw [g_b43]; exact Z41
    have f44 : Own.AvI Z h43 b41 .int 2 (fun _ => 0) := f42.ext E43
    have f45 : Own.AvI Z h43 b43 .int 2 (fun _ => 0) := Own.AvI.new A43 (by decide) rfl
    have Z43 : n0 ≤ h43.size := Nat.le_trans Z41 E43.1
    have hj46 : 0 ≤ (0 : Int32).toInt ∧ (0 : Int32).toInt < (2 : Nat) := ⟨by decide, by decide⟩
    obtain ⟨T47, h47, X47, e47, A47, W47, st47⟩ := Own.stoI X43 hx hZ e43 f44 hj46 (g := (mkF m 57 #[.val (.int p0), .val (.int p1), .val (.int p2), .val (.int p3), .val (.long q4), .second, .val (.int (2 : Int32)), .val (.int v38), .val (.int v39), .val (.int v40), .val (.ref b41), .val (.ref b43), .val (.long (1 : Int64)), .second, .unset, .unset, .unset, .unset, .unset, .unset] [(.int v38), (.int (0 : Int32)), (.ref b41)])) rfl rfl (hb hby at_57)
    have f48 : Own.AvI Z h47 b43 .int 2 (fun _ => 0) := f45.other W47 (Own.ne_of (by omega))
    have N47 := Fr.snoc X47 N0 (show n0 ≤ b41 by omega)
    have Z47 : n0 ≤ h47.size := Nat.le_trans Z43 (Keep.of_wr W47).1
    have hj49 : 0 ≤ (0 : Int32).toInt ∧ (0 : Int32).toInt < (2 : Nat) := ⟨by decide, by decide⟩
    obtain ⟨T50, h50, X50, e50, A50, W50, st50⟩ := Own.stoI X47 hx hZ e47 f48 hj49 (g := (mkF m 62 #[.val (.int p0), .val (.int p1), .val (.int p2), .val (.int p3), .val (.long q4), .second, .val (.int (2 : Int32)), .val (.int v38), .val (.int v39), .val (.int v40), .val (.ref b41), .val (.ref b43), .val (.long (1 : Int64)), .second, .unset, .unset, .unset, .unset, .unset, .unset] [(.int (-1 : Int32)), (.int (0 : Int32)), (.ref b43)])) rfl rfl (hb hby at_62)
    have f51 : Own.AvI Z h50 b41 .int 2 (fun i => if i = 0 then v38 else (fun _ => 0) i) := A47.other W50 (Own.ne_of (by omega))
    have N50 := Fr.snoc X50 N47 (show n0 ≤ b43 by omega)
    have Z50 : n0 ≤ h50.size := Nat.le_trans Z47 (Keep.of_wr W50).1
    obtain ⟨v52, hv52⟩ : ∃ z : Int64, z = ((1 : Int64) * (v38.toInt64)) := ⟨_, rfl⟩
    have hj53 : 0 ≤ (1 : Int32).toInt ∧ (1 : Int32).toInt < (2 : Nat) := ⟨by decide, by decide⟩
    obtain ⟨T54, h54, X54, e54, A54, W54, st54⟩ := Own.stoI X50 hx hZ e50 f51 hj53 (g := (mkF m 82 #[.val (.int p0), .val (.int p1), .val (.int p2), .val (.int p3), .val (.long q4), .second, .val (.int (2 : Int32)), .val (.int v38), .val (.int v39), .val (.int v40), .val (.ref b41), .val (.ref b43), .val (.long v52), .second, .unset, .unset, .unset, .unset, .unset, .unset] [(.int v39), (.int (1 : Int32)), (.ref b41)])) rfl rfl (hb hby at_82)
    have f55 : Own.AvI Z h54 b43 .int 2 (fun i => if i = 0 then (-1 : Int32) else (fun _ => 0) i) := A50.other W54 (Own.ne_of (by omega))
    have N54 := Fr.snoc X54 N50 (show n0 ≤ b41 by omega)
    have Z54 : n0 ≤ h54.size := Nat.le_trans Z50 (Keep.of_wr W54).1
    have hj56 : 0 ≤ (1 : Int32).toInt ∧ (1 : Int32).toInt < (2 : Nat) := ⟨by decide, by decide⟩
    obtain ⟨T57, h57, X57, e57, A57, W57, st57⟩ := Own.stoI X54 hx hZ e54 f55 hj56 (g := (mkF m 87 #[.val (.int p0), .val (.int p1), .val (.int p2), .val (.int p3), .val (.long q4), .second, .val (.int (2 : Int32)), .val (.int v38), .val (.int v39), .val (.int v40), .val (.ref b41), .val (.ref b43), .val (.long v52), .second, .unset, .unset, .unset, .unset, .unset, .unset] [(.int (-1 : Int32)), (.int (1 : Int32)), (.ref b43)])) rfl rfl (hb hby at_87)
    have f58 : Own.AvI Z h57 b41 .int 2 (fun i => if i = 1 then v39 else (fun i => if i = 0 then v38 else (fun _ => 0) i) i) := A54.other W57 (Own.ne_of (by omega))
    have N57 := Fr.snoc X57 N54 (show n0 ≤ b43 by omega)
    have Z57 : n0 ≤ h57.size := Nat.le_trans Z54 (Keep.of_wr W57).1
    obtain ⟨v59, hv59⟩ : ∃ z : Int64, z = (v52 * (v39.toInt64)) := ⟨_, rfl⟩
    have hp1 := own_p1 (own_d hv38) hv52
    have hd1 := own_d hv38
    have hp2 := own_pm (B := 1024) (own_d hv39) (show 1 ≤ v52.toInt ∧ v52.toInt ≤ 1024 by omega) (by decide) hv59
    have hp := hp2.2.1
    have hnz60 : v59 ≠ 0 := own_nzp hp
    obtain ⟨v61, hv61⟩ : ∃ z : Int64, z = ((q4 &&& (9223372036854775807 : Int64)) % v59) := ⟨_, rfl⟩
    have hk := own_key hp hv61
    have hq1 := own_dn hk.1 (own_d hv39)
    obtain ⟨T62, _, L62, X62, ⟨rfl, Nq62, A62⟩, st62⟩ := Own.callS (y := (⟨"com/example/ballast/ballast/model/CostTable", "values", "([IJ[I)V"⟩ : MethodName)) (W := 0) (argsL := [(.ref b41), (.long v61), (.ref b43)]) (rest := []) X57 hx hZ hown (hw _ (List.mem_of_getElem? (i := 2) rfl)) (hw _ (List.mem_of_getElem? (i := 3) rfl)) (hw _ (List.mem_of_getElem? (i := 4) rfl)) (hw _ (List.mem_of_getElem? (i := 5) rfl)) (by decide) e57 (rm12 l Z a0 hw [] b41 v61 b43 (fun i => if i = 1 then v39 else (fun i => if i = 0 then v38 else (fun _ => 0) i) i) (fun i => if i = 1 then (-1 : Int32) else (fun i => if i = 0 then (-1 : Int32) else (fun _ => 0) i) i) h57 n0 Z57 g0_b43 lt_b41_b43 (fun i hi => by match i, hi with | 0, _ => exact own_nzJ (own_d hv38) | 1, _ => exact own_nzJ (own_d hv39)) f58 A57) (by decide) (by decide) (by decide) (by decide) (g := (mkF m 138 #[.val (.int p0), .val (.int p1), .val (.int p2), .val (.int p3), .val (.long q4), .second, .val (.int (2 : Int32)), .val (.int v38), .val (.int v39), .val (.int v40), .val (.ref b41), .val (.ref b43), .val (.long v59), .second, .val (.long v61), .second, .unset, .unset, .unset, .unset] [(.ref b43), (.long v61), (.ref b41)])) rfl (by rw [hml]; rfl) (lenOf pd_0 rfl) rfl (by show 2 * 0 + _ ≤ _; exact Nat.le_of_eq rfl) (hb hby at_138)
    have N62 := Fr.app N57 Nq62
    have hj63 : 0 ≤ (0 : Int32).toInt ∧ (0 : Int32).toInt < (2 : Nat) := ⟨by decide, by decide⟩
    obtain ⟨v64, hv64⟩ : ∃ z : Int32, z = ((own_v 2 v61 (fun i => if i = 1 then v39 else (fun i => if i = 0 then v38 else (fun _ => 0) i) i) (fun i => if i = 1 then (-1 : Int32) else (fun i => if i = 0 then (-1 : Int32) else (fun _ => 0) i) i)) 0) := ⟨_, rfl⟩
    have hw0 : v64 = ((v61 / v39.toInt64) % v38.toInt64).toInt32 := hv64
    have hr0 := own_rng hq1 (own_d hv38) hw0
    refine hD _ (T62.setTop (mkF m 166 #[.val (.int p0), .val (.int p1), .val (.int p2), .val (.int p3), .val (.long q4), .second, .val (.int (2 : Int32)), .val (.int v38), .val (.int v39), .val (.int v40), .val (.ref b41), .val (.ref b43), .val (.long v59), .second, .val (.long v61), .second, .val (.int (1 : Int32)), .val (.long (0 : Int64)), .second, .val (.int v64)] [(.int v64), (.int (0 : Int32))])) (fun t k => ?_) ?_
    · show Steps p.tables e below (s₁.setTop (mkF m 5 #[.val (.int p0), .val (.int p1), .val (.int p2), .val (.int p3), .val (.long q4), .second, .val (.int (2 : Int32)), .unset, .unset, .unset, .unset, .unset, .unset, .unset, .unset, .unset, .unset, .unset, .unset, .unset] [])) t
      refine XS.iloadN X0.here hx rfl (hb hby at_5) rfl ?_
      show Steps p.tables e below (s₁.setTop (mkF m 6 #[.val (.int p0), .val (.int p1), .val (.int p2), .val (.int p3), .val (.long q4), .second, .val (.int (2 : Int32)), .unset, .unset, .unset, .unset, .unset, .unset, .unset, .unset, .unset, .unset, .unset, .unset, .unset] [(.int p1)])) t
      refine XS.sipush X0.here hx rfl (hb hby at_6) ?_
      show Steps p.tables e below (s₁.setTop (mkF m 9 #[.val (.int p0), .val (.int p1), .val (.int p2), .val (.int p3), .val (.long q4), .second, .val (.int (2 : Int32)), .unset, .unset, .unset, .unset, .unset, .unset, .unset, .unset, .unset, .unset, .unset, .unset, .unset] [(.int (1023 : Int32)), (.int p1)])) t
      refine XS.iand X0.here hx rfl (hb hby at_9) rfl ?_
      show Steps p.tables e below (s₁.setTop (mkF m 10 #[.val (.int p0), .val (.int p1), .val (.int p2), .val (.int p3), .val (.long q4), .second, .val (.int (2 : Int32)), .unset, .unset, .unset, .unset, .unset, .unset, .unset, .unset, .unset, .unset, .unset, .unset, .unset] [(.int (p1 &&& (1023 : Int32)))])) t
      refine XS.iconst X0.here hx rfl (hb hby at_10) ?_
      show Steps p.tables e below (s₁.setTop (mkF m 11 #[.val (.int p0), .val (.int p1), .val (.int p2), .val (.int p3), .val (.long q4), .second, .val (.int (2 : Int32)), .unset, .unset, .unset, .unset, .unset, .unset, .unset, .unset, .unset, .unset, .unset, .unset, .unset] [(.int (1 : Int32)), (.int (p1 &&& (1023 : Int32)))])) t
      refine XS.iadd X0.here hx rfl (hb hby at_11) rfl ?_
      show Steps p.tables e below (s₁.setTop (mkF m 12 #[.val (.int p0), .val (.int p1), .val (.int p2), .val (.int p3), .val (.long q4), .second, .val (.int (2 : Int32)), .unset, .unset, .unset, .unset, .unset, .unset, .unset, .unset, .unset, .unset, .unset, .unset, .unset] [(.int ((p1 &&& (1023 : Int32)) + (1 : Int32)))])) t
      refine Own.nmI hv38 ?_
      show Steps p.tables e below (s₁.setTop (mkF m 12 #[.val (.int p0), .val (.int p1), .val (.int p2), .val (.int p3), .val (.long q4), .second, .val (.int (2 : Int32)), .unset, .unset, .unset, .unset, .unset, .unset, .unset, .unset, .unset, .unset, .unset, .unset, .unset] [(.int v38)])) t
      refine XS.istore X0.here hx rfl (hb hby at_12) rfl (l' := #[.val (.int p0), .val (.int p1), .val (.int p2), .val (.int p3), .val (.long q4), .second, .val (.int (2 : Int32)), .val (.int v38), .unset, .unset, .unset, .unset, .unset, .unset, .unset, .unset, .unset, .unset, .unset, .unset]) rfl ?_
      show Steps p.tables e below (s₁.setTop (mkF m 14 #[.val (.int p0), .val (.int p1), .val (.int p2), .val (.int p3), .val (.long q4), .second, .val (.int (2 : Int32)), .val (.int v38), .unset, .unset, .unset, .unset, .unset, .unset, .unset, .unset, .unset, .unset, .unset, .unset] [])) t
      refine XS.iloadN X0.here hx rfl (hb hby at_14) rfl ?_
      show Steps p.tables e below (s₁.setTop (mkF m 15 #[.val (.int p0), .val (.int p1), .val (.int p2), .val (.int p3), .val (.long q4), .second, .val (.int (2 : Int32)), .val (.int v38), .unset, .unset, .unset, .unset, .unset, .unset, .unset, .unset, .unset, .unset, .unset, .unset] [(.int p2)])) t
      refine XS.sipush X0.here hx rfl (hb hby at_15) ?_
      show Steps p.tables e below (s₁.setTop (mkF m 18 #[.val (.int p0), .val (.int p1), .val (.int p2), .val (.int p3), .val (.long q4), .second, .val (.int (2 : Int32)), .val (.int v38), .unset, .unset, .unset, .unset, .unset, .unset, .unset, .unset, .unset, .unset, .unset, .unset] [(.int (1023 : Int32)), (.int p2)])) t
      refine XS.iand X0.here hx rfl (hb hby at_18) rfl ?_
      show Steps p.tables e below (s₁.setTop (mkF m 19 #[.val (.int p0), .val (.int p1), .val (.int p2), .val (.int p3), .val (.long q4), .second, .val (.int (2 : Int32)), .val (.int v38), .unset, .unset, .unset, .unset, .unset, .unset, .unset, .unset, .unset, .unset, .unset, .unset] [(.int (p2 &&& (1023 : Int32)))])) t
      refine XS.iconst X0.here hx rfl (hb hby at_19) ?_
      show Steps p.tables e below (s₁.setTop (mkF m 20 #[.val (.int p0), .val (.int p1), .val (.int p2), .val (.int p3), .val (.long q4), .second, .val (.int (2 : Int32)), .val (.int v38), .unset, .unset, .unset, .unset, .unset, .unset, .unset, .unset, .unset, .unset, .unset, .unset] [(.int (1 : Int32)), (.int (p2 &&& (1023 : Int32)))])) t
      refine XS.iadd X0.here hx rfl (hb hby at_20) rfl ?_
      show Steps p.tables e below (s₁.setTop (mkF m 21 #[.val (.int p0), .val (.int p1), .val (.int p2), .val (.int p3), .val (.long q4), .second, .val (.int (2 : Int32)), .val (.int v38), .unset, .unset, .unset, .unset, .unset, .unset, .unset, .unset, .unset, .unset, .unset, .unset] [(.int ((p2 &&& (1023 : Int32)) + (1 : Int32)))])) t
      refine Own.nmI hv39 ?_
      show Steps p.tables e below (s₁.setTop (mkF m 21 #[.val (.int p0), .val (.int p1), .val (.int p2), .val (.int p3), .val (.long q4), .second, .val (.int (2 : Int32)), .val (.int v38), .unset, .unset, .unset, .unset, .unset, .unset, .unset, .unset, .unset, .unset, .unset, .unset] [(.int v39)])) t
      refine XS.istore X0.here hx rfl (hb hby at_21) rfl (l' := #[.val (.int p0), .val (.int p1), .val (.int p2), .val (.int p3), .val (.long q4), .second, .val (.int (2 : Int32)), .val (.int v38), .val (.int v39), .unset, .unset, .unset, .unset, .unset, .unset, .unset, .unset, .unset, .unset, .unset]) rfl ?_
      show Steps p.tables e below (s₁.setTop (mkF m 23 #[.val (.int p0), .val (.int p1), .val (.int p2), .val (.int p3), .val (.long q4), .second, .val (.int (2 : Int32)), .val (.int v38), .val (.int v39), .unset, .unset, .unset, .unset, .unset, .unset, .unset, .unset, .unset, .unset, .unset] [])) t
      refine XS.iloadN X0.here hx rfl (hb hby at_23) rfl ?_
      show Steps p.tables e below (s₁.setTop (mkF m 24 #[.val (.int p0), .val (.int p1), .val (.int p2), .val (.int p3), .val (.long q4), .second, .val (.int (2 : Int32)), .val (.int v38), .val (.int v39), .unset, .unset, .unset, .unset, .unset, .unset, .unset, .unset, .unset, .unset, .unset] [(.int p3)])) t
      refine XS.sipush X0.here hx rfl (hb hby at_24) ?_
      show Steps p.tables e below (s₁.setTop (mkF m 27 #[.val (.int p0), .val (.int p1), .val (.int p2), .val (.int p3), .val (.long q4), .second, .val (.int (2 : Int32)), .val (.int v38), .val (.int v39), .unset, .unset, .unset, .unset, .unset, .unset, .unset, .unset, .unset, .unset, .unset] [(.int (1023 : Int32)), (.int p3)])) t
      refine XS.iand X0.here hx rfl (hb hby at_27) rfl ?_
      show Steps p.tables e below (s₁.setTop (mkF m 28 #[.val (.int p0), .val (.int p1), .val (.int p2), .val (.int p3), .val (.long q4), .second, .val (.int (2 : Int32)), .val (.int v38), .val (.int v39), .unset, .unset, .unset, .unset, .unset, .unset, .unset, .unset, .unset, .unset, .unset] [(.int (p3 &&& (1023 : Int32)))])) t
      refine XS.iconst X0.here hx rfl (hb hby at_28) ?_
      show Steps p.tables e below (s₁.setTop (mkF m 29 #[.val (.int p0), .val (.int p1), .val (.int p2), .val (.int p3), .val (.long q4), .second, .val (.int (2 : Int32)), .val (.int v38), .val (.int v39), .unset, .unset, .unset, .unset, .unset, .unset, .unset, .unset, .unset, .unset, .unset] [(.int (1 : Int32)), (.int (p3 &&& (1023 : Int32)))])) t
      refine XS.iadd X0.here hx rfl (hb hby at_29) rfl ?_
      show Steps p.tables e below (s₁.setTop (mkF m 30 #[.val (.int p0), .val (.int p1), .val (.int p2), .val (.int p3), .val (.long q4), .second, .val (.int (2 : Int32)), .val (.int v38), .val (.int v39), .unset, .unset, .unset, .unset, .unset, .unset, .unset, .unset, .unset, .unset, .unset] [(.int ((p3 &&& (1023 : Int32)) + (1 : Int32)))])) t
      refine Own.nmI hv40 ?_
      show Steps p.tables e below (s₁.setTop (mkF m 30 #[.val (.int p0), .val (.int p1), .val (.int p2), .val (.int p3), .val (.long q4), .second, .val (.int (2 : Int32)), .val (.int v38), .val (.int v39), .unset, .unset, .unset, .unset, .unset, .unset, .unset, .unset, .unset, .unset, .unset] [(.int v40)])) t
      refine XS.istore X0.here hx rfl (hb hby at_30) rfl (l' := #[.val (.int p0), .val (.int p1), .val (.int p2), .val (.int p3), .val (.long q4), .second, .val (.int (2 : Int32)), .val (.int v38), .val (.int v39), .val (.int v40), .unset, .unset, .unset, .unset, .unset, .unset, .unset, .unset, .unset, .unset]) rfl ?_
      show Steps p.tables e below (s₁.setTop (mkF m 32 #[.val (.int p0), .val (.int p1), .val (.int p2), .val (.int p3), .val (.long q4), .second, .val (.int (2 : Int32)), .val (.int v38), .val (.int v39), .val (.int v40), .unset, .unset, .unset, .unset, .unset, .unset, .unset, .unset, .unset, .unset] [])) t
      refine XS.iload X0.here hx rfl (hb hby at_32) rfl ?_
      show Steps p.tables e below (s₁.setTop (mkF m 34 #[.val (.int p0), .val (.int p1), .val (.int p2), .val (.int p3), .val (.long q4), .second, .val (.int (2 : Int32)), .val (.int v38), .val (.int v39), .val (.int v40), .unset, .unset, .unset, .unset, .unset, .unset, .unset, .unset, .unset, .unset] [(.int (2 : Int32))])) t
      refine st41 _ ?_
      show Steps p.tables e below (T41.setTop (mkF m 36 #[.val (.int p0), .val (.int p1), .val (.int p2), .val (.int p3), .val (.long q4), .second, .val (.int (2 : Int32)), .val (.int v38), .val (.int v39), .val (.int v40), .unset, .unset, .unset, .unset, .unset, .unset, .unset, .unset, .unset, .unset] [(.ref b41)])) t
      refine XS.astore X41.here hx rfl (hb hby at_36) rfl rfl (l' := #[.val (.int p0), .val (.int p1), .val (.int p2), .val (.int p3), .val (.long q4), .second, .val (.int (2 : Int32)), .val (.int v38), .val (.int v39), .val (.int v40), .val (.ref b41), .unset, .unset, .unset, .unset, .unset, .unset, .unset, .unset, .unset]) rfl ?_
      show Steps p.tables e below (T41.setTop (mkF m 38 #[.val (.int p0), .val (.int p1), .val (.int p2), .val (.int p3), .val (.long q4), .second, .val (.int (2 : Int32)), .val (.int v38), .val (.int v39), .val (.int v40), .val (.ref b41), .unset, .unset, .unset, .unset, .unset, .unset, .unset, .unset, .unset] [])) t
      refine XS.iload X41.here hx rfl (hb hby at_38) rfl ?_
      show Steps p.tables e below (T41.setTop (mkF m 40 #[.val (.int p0), .val (.int p1), .val (.int p2), .val (.int p3), .val (.long q4), .second, .val (.int (2 : Int32)), .val (.int v38), .val (.int v39), .val (.int v40), .val (.ref b41), .unset, .unset, .unset, .unset, .unset, .unset, .unset, .unset, .unset] [(.int (2 : Int32))])) t
      refine st43 _ ?_
      show Steps p.tables e below (T43.setTop (mkF m 42 #[.val (.int p0), .val (.int p1), .val (.int p2), .val (.int p3), .val (.long q4), .second, .val (.int (2 : Int32)), .val (.int v38), .val (.int v39), .val (.int v40), .val (.ref b41), .unset, .unset, .unset, .unset, .unset, .unset, .unset, .unset, .unset] [(.ref b43)])) t
      refine XS.astore X43.here hx rfl (hb hby at_42) rfl rfl (l' := #[.val (.int p0), .val (.int p1), .val (.int p2), .val (.int p3), .val (.long q4), .second, .val (.int (2 : Int32)), .val (.int v38), .val (.int v39), .val (.int v40), .val (.ref b41), .val (.ref b43), .unset, .unset, .unset, .unset, .unset, .unset, .unset, .unset]) rfl ?_
      show Steps p.tables e below (T43.setTop (mkF m 44 #[.val (.int p0), .val (.int p1), .val (.int p2), .val (.int p3), .val (.long q4), .second, .val (.int (2 : Int32)), .val (.int v38), .val (.int v39), .val (.int v40), .val (.ref b41), .val (.ref b43), .unset, .unset, .unset, .unset, .unset, .unset, .unset, .unset] [])) t
      refine XS.lconst X43.here hx rfl (hb hby at_44) ?_
      show Steps p.tables e below (T43.setTop (mkF m 45 #[.val (.int p0), .val (.int p1), .val (.int p2), .val (.int p3), .val (.long q4), .second, .val (.int (2 : Int32)), .val (.int v38), .val (.int v39), .val (.int v40), .val (.ref b41), .val (.ref b43), .unset, .unset, .unset, .unset, .unset, .unset, .unset, .unset] [(.long (1 : Int64))])) t
      refine XS.lstore X43.here hx rfl (hb hby at_45) rfl (l' := #[.val (.int p0), .val (.int p1), .val (.int p2), .val (.int p3), .val (.long q4), .second, .val (.int (2 : Int32)), .val (.int v38), .val (.int v39), .val (.int v40), .val (.ref b41), .val (.ref b43), .val (.long (1 : Int64)), .second, .unset, .unset, .unset, .unset, .unset, .unset]) rfl ?_
      show Steps p.tables e below (T43.setTop (mkF m 47 #[.val (.int p0), .val (.int p1), .val (.int p2), .val (.int p3), .val (.long q4), .second, .val (.int (2 : Int32)), .val (.int v38), .val (.int v39), .val (.int v40), .val (.ref b41), .val (.ref b43), .val (.long (1 : Int64)), .second, .unset, .unset, .unset, .unset, .unset, .unset] [])) t
      refine XS.iload X43.here hx rfl (hb hby at_47) rfl ?_
      show Steps p.tables e below (T43.setTop (mkF m 49 #[.val (.int p0), .val (.int p1), .val (.int p2), .val (.int p3), .val (.long q4), .second, .val (.int (2 : Int32)), .val (.int v38), .val (.int v39), .val (.int v40), .val (.ref b41), .val (.ref b43), .val (.long (1 : Int64)), .second, .unset, .unset, .unset, .unset, .unset, .unset] [(.int (2 : Int32))])) t
      refine XS.ifNo X43.here hx rfl (hb hby at_49) rfl (by decide) ?_
      show Steps p.tables e below (T43.setTop (mkF m 52 #[.val (.int p0), .val (.int p1), .val (.int p2), .val (.int p3), .val (.long q4), .second, .val (.int (2 : Int32)), .val (.int v38), .val (.int v39), .val (.int v40), .val (.ref b41), .val (.ref b43), .val (.long (1 : Int64)), .second, .unset, .unset, .unset, .unset, .unset, .unset] [])) t
      refine XS.aload X43.here hx rfl (hb hby at_52) rfl rfl ?_
      show Steps p.tables e below (T43.setTop (mkF m 54 #[.val (.int p0), .val (.int p1), .val (.int p2), .val (.int p3), .val (.long q4), .second, .val (.int (2 : Int32)), .val (.int v38), .val (.int v39), .val (.int v40), .val (.ref b41), .val (.ref b43), .val (.long (1 : Int64)), .second, .unset, .unset, .unset, .unset, .unset, .unset] [(.ref b41)])) t
      refine XS.iconst X43.here hx rfl (hb hby at_54) ?_
      show Steps p.tables e below (T43.setTop (mkF m 55 #[.val (.int p0), .val (.int p1), .val (.int p2), .val (.int p3), .val (.long q4), .second, .val (.int (2 : Int32)), .val (.int v38), .val (.int v39), .val (.int v40), .val (.ref b41), .val (.ref b43), .val (.long (1 : Int64)), .second, .unset, .unset, .unset, .unset, .unset, .unset] [(.int (0 : Int32)), (.ref b41)])) t
      refine XS.iload X43.here hx rfl (hb hby at_55) rfl ?_
      show Steps p.tables e below (T43.setTop (mkF m 57 #[.val (.int p0), .val (.int p1), .val (.int p2), .val (.int p3), .val (.long q4), .second, .val (.int (2 : Int32)), .val (.int v38), .val (.int v39), .val (.int v40), .val (.ref b41), .val (.ref b43), .val (.long (1 : Int64)), .second, .unset, .unset, .unset, .unset, .unset, .unset] [(.int v38), (.int (0 : Int32)), (.ref b41)])) t
      refine st47 _ ?_
      show Steps p.tables e below (T47.setTop (mkF m 58 #[.val (.int p0), .val (.int p1), .val (.int p2), .val (.int p3), .val (.long q4), .second, .val (.int (2 : Int32)), .val (.int v38), .val (.int v39), .val (.int v40), .val (.ref b41), .val (.ref b43), .val (.long (1 : Int64)), .second, .unset, .unset, .unset, .unset, .unset, .unset] [])) t
      refine XS.aload X47.here hx rfl (hb hby at_58) rfl rfl ?_
      show Steps p.tables e below (T47.setTop (mkF m 60 #[.val (.int p0), .val (.int p1), .val (.int p2), .val (.int p3), .val (.long q4), .second, .val (.int (2 : Int32)), .val (.int v38), .val (.int v39), .val (.int v40), .val (.ref b41), .val (.ref b43), .val (.long (1 : Int64)), .second, .unset, .unset, .unset, .unset, .unset, .unset] [(.ref b43)])) t
      refine XS.iconst X47.here hx rfl (hb hby at_60) ?_
      show Steps p.tables e below (T47.setTop (mkF m 61 #[.val (.int p0), .val (.int p1), .val (.int p2), .val (.int p3), .val (.long q4), .second, .val (.int (2 : Int32)), .val (.int v38), .val (.int v39), .val (.int v40), .val (.ref b41), .val (.ref b43), .val (.long (1 : Int64)), .second, .unset, .unset, .unset, .unset, .unset, .unset] [(.int (0 : Int32)), (.ref b43)])) t
      refine XS.iconst X47.here hx rfl (hb hby at_61) ?_
      show Steps p.tables e below (T47.setTop (mkF m 62 #[.val (.int p0), .val (.int p1), .val (.int p2), .val (.int p3), .val (.long q4), .second, .val (.int (2 : Int32)), .val (.int v38), .val (.int v39), .val (.int v40), .val (.ref b41), .val (.ref b43), .val (.long (1 : Int64)), .second, .unset, .unset, .unset, .unset, .unset, .unset] [(.int (-1 : Int32)), (.int (0 : Int32)), (.ref b43)])) t
      refine st50 _ ?_
      show Steps p.tables e below (T50.setTop (mkF m 63 #[.val (.int p0), .val (.int p1), .val (.int p2), .val (.int p3), .val (.long q4), .second, .val (.int (2 : Int32)), .val (.int v38), .val (.int v39), .val (.int v40), .val (.ref b41), .val (.ref b43), .val (.long (1 : Int64)), .second, .unset, .unset, .unset, .unset, .unset, .unset] [])) t
      refine XS.lload X50.here hx rfl (hb hby at_63) rfl ?_
      show Steps p.tables e below (T50.setTop (mkF m 65 #[.val (.int p0), .val (.int p1), .val (.int p2), .val (.int p3), .val (.long q4), .second, .val (.int (2 : Int32)), .val (.int v38), .val (.int v39), .val (.int v40), .val (.ref b41), .val (.ref b43), .val (.long (1 : Int64)), .second, .unset, .unset, .unset, .unset, .unset, .unset] [(.long (1 : Int64))])) t
      refine XS.iload X50.here hx rfl (hb hby at_65) rfl ?_
      show Steps p.tables e below (T50.setTop (mkF m 67 #[.val (.int p0), .val (.int p1), .val (.int p2), .val (.int p3), .val (.long q4), .second, .val (.int (2 : Int32)), .val (.int v38), .val (.int v39), .val (.int v40), .val (.ref b41), .val (.ref b43), .val (.long (1 : Int64)), .second, .unset, .unset, .unset, .unset, .unset, .unset] [(.int v38), (.long (1 : Int64))])) t
      refine XS.i2l X50.here hx rfl (hb hby at_67) rfl ?_
      show Steps p.tables e below (T50.setTop (mkF m 68 #[.val (.int p0), .val (.int p1), .val (.int p2), .val (.int p3), .val (.long q4), .second, .val (.int (2 : Int32)), .val (.int v38), .val (.int v39), .val (.int v40), .val (.ref b41), .val (.ref b43), .val (.long (1 : Int64)), .second, .unset, .unset, .unset, .unset, .unset, .unset] [(.long (v38.toInt64)), (.long (1 : Int64))])) t
      refine XS.lmul X50.here hx rfl (hb hby at_68) rfl ?_
      show Steps p.tables e below (T50.setTop (mkF m 69 #[.val (.int p0), .val (.int p1), .val (.int p2), .val (.int p3), .val (.long q4), .second, .val (.int (2 : Int32)), .val (.int v38), .val (.int v39), .val (.int v40), .val (.ref b41), .val (.ref b43), .val (.long (1 : Int64)), .second, .unset, .unset, .unset, .unset, .unset, .unset] [(.long ((1 : Int64) * (v38.toInt64)))])) t
      refine Own.nmJ hv52 ?_
      show Steps p.tables e below (T50.setTop (mkF m 69 #[.val (.int p0), .val (.int p1), .val (.int p2), .val (.int p3), .val (.long q4), .second, .val (.int (2 : Int32)), .val (.int v38), .val (.int v39), .val (.int v40), .val (.ref b41), .val (.ref b43), .val (.long (1 : Int64)), .second, .unset, .unset, .unset, .unset, .unset, .unset] [(.long v52)])) t
      refine XS.lstore X50.here hx rfl (hb hby at_69) rfl (l' := #[.val (.int p0), .val (.int p1), .val (.int p2), .val (.int p3), .val (.long q4), .second, .val (.int (2 : Int32)), .val (.int v38), .val (.int v39), .val (.int v40), .val (.ref b41), .val (.ref b43), .val (.long v52), .second, .unset, .unset, .unset, .unset, .unset, .unset]) rfl ?_
      show Steps p.tables e below (T50.setTop (mkF m 71 #[.val (.int p0), .val (.int p1), .val (.int p2), .val (.int p3), .val (.long q4), .second, .val (.int (2 : Int32)), .val (.int v38), .val (.int v39), .val (.int v40), .val (.ref b41), .val (.ref b43), .val (.long v52), .second, .unset, .unset, .unset, .unset, .unset, .unset] [])) t
      refine XS.iload X50.here hx rfl (hb hby at_71) rfl ?_
      show Steps p.tables e below (T50.setTop (mkF m 73 #[.val (.int p0), .val (.int p1), .val (.int p2), .val (.int p3), .val (.long q4), .second, .val (.int (2 : Int32)), .val (.int v38), .val (.int v39), .val (.int v40), .val (.ref b41), .val (.ref b43), .val (.long v52), .second, .unset, .unset, .unset, .unset, .unset, .unset] [(.int (2 : Int32))])) t
      refine XS.iconst X50.here hx rfl (hb hby at_73) ?_
      show Steps p.tables e below (T50.setTop (mkF m 74 #[.val (.int p0), .val (.int p1), .val (.int p2), .val (.int p3), .val (.long q4), .second, .val (.int (2 : Int32)), .val (.int v38), .val (.int v39), .val (.int v40), .val (.ref b41), .val (.ref b43), .val (.long v52), .second, .unset, .unset, .unset, .unset, .unset, .unset] [(.int (1 : Int32)), (.int (2 : Int32))])) t
      refine XS.icmpNo X50.here hx rfl (hb hby at_74) rfl (by decide) ?_
      show Steps p.tables e below (T50.setTop (mkF m 77 #[.val (.int p0), .val (.int p1), .val (.int p2), .val (.int p3), .val (.long q4), .second, .val (.int (2 : Int32)), .val (.int v38), .val (.int v39), .val (.int v40), .val (.ref b41), .val (.ref b43), .val (.long v52), .second, .unset, .unset, .unset, .unset, .unset, .unset] [])) t
      refine XS.aload X50.here hx rfl (hb hby at_77) rfl rfl ?_
      show Steps p.tables e below (T50.setTop (mkF m 79 #[.val (.int p0), .val (.int p1), .val (.int p2), .val (.int p3), .val (.long q4), .second, .val (.int (2 : Int32)), .val (.int v38), .val (.int v39), .val (.int v40), .val (.ref b41), .val (.ref b43), .val (.long v52), .second, .unset, .unset, .unset, .unset, .unset, .unset] [(.ref b41)])) t
      refine XS.iconst X50.here hx rfl (hb hby at_79) ?_
      show Steps p.tables e below (T50.setTop (mkF m 80 #[.val (.int p0), .val (.int p1), .val (.int p2), .val (.int p3), .val (.long q4), .second, .val (.int (2 : Int32)), .val (.int v38), .val (.int v39), .val (.int v40), .val (.ref b41), .val (.ref b43), .val (.long v52), .second, .unset, .unset, .unset, .unset, .unset, .unset] [(.int (1 : Int32)), (.ref b41)])) t
      refine XS.iload X50.here hx rfl (hb hby at_80) rfl ?_
      show Steps p.tables e below (T50.setTop (mkF m 82 #[.val (.int p0), .val (.int p1), .val (.int p2), .val (.int p3), .val (.long q4), .second, .val (.int (2 : Int32)), .val (.int v38), .val (.int v39), .val (.int v40), .val (.ref b41), .val (.ref b43), .val (.long v52), .second, .unset, .unset, .unset, .unset, .unset, .unset] [(.int v39), (.int (1 : Int32)), (.ref b41)])) t
      refine st54 _ ?_
      show Steps p.tables e below (T54.setTop (mkF m 83 #[.val (.int p0), .val (.int p1), .val (.int p2), .val (.int p3), .val (.long q4), .second, .val (.int (2 : Int32)), .val (.int v38), .val (.int v39), .val (.int v40), .val (.ref b41), .val (.ref b43), .val (.long v52), .second, .unset, .unset, .unset, .unset, .unset, .unset] [])) t
      refine XS.aload X54.here hx rfl (hb hby at_83) rfl rfl ?_
      show Steps p.tables e below (T54.setTop (mkF m 85 #[.val (.int p0), .val (.int p1), .val (.int p2), .val (.int p3), .val (.long q4), .second, .val (.int (2 : Int32)), .val (.int v38), .val (.int v39), .val (.int v40), .val (.ref b41), .val (.ref b43), .val (.long v52), .second, .unset, .unset, .unset, .unset, .unset, .unset] [(.ref b43)])) t
      refine XS.iconst X54.here hx rfl (hb hby at_85) ?_
      show Steps p.tables e below (T54.setTop (mkF m 86 #[.val (.int p0), .val (.int p1), .val (.int p2), .val (.int p3), .val (.long q4), .second, .val (.int (2 : Int32)), .val (.int v38), .val (.int v39), .val (.int v40), .val (.ref b41), .val (.ref b43), .val (.long v52), .second, .unset, .unset, .unset, .unset, .unset, .unset] [(.int (1 : Int32)), (.ref b43)])) t
      refine XS.iconst X54.here hx rfl (hb hby at_86) ?_
      show Steps p.tables e below (T54.setTop (mkF m 87 #[.val (.int p0), .val (.int p1), .val (.int p2), .val (.int p3), .val (.long q4), .second, .val (.int (2 : Int32)), .val (.int v38), .val (.int v39), .val (.int v40), .val (.ref b41), .val (.ref b43), .val (.long v52), .second, .unset, .unset, .unset, .unset, .unset, .unset] [(.int (-1 : Int32)), (.int (1 : Int32)), (.ref b43)])) t
      refine st57 _ ?_
      show Steps p.tables e below (T57.setTop (mkF m 88 #[.val (.int p0), .val (.int p1), .val (.int p2), .val (.int p3), .val (.long q4), .second, .val (.int (2 : Int32)), .val (.int v38), .val (.int v39), .val (.int v40), .val (.ref b41), .val (.ref b43), .val (.long v52), .second, .unset, .unset, .unset, .unset, .unset, .unset] [])) t
      refine XS.lload X57.here hx rfl (hb hby at_88) rfl ?_
      show Steps p.tables e below (T57.setTop (mkF m 90 #[.val (.int p0), .val (.int p1), .val (.int p2), .val (.int p3), .val (.long q4), .second, .val (.int (2 : Int32)), .val (.int v38), .val (.int v39), .val (.int v40), .val (.ref b41), .val (.ref b43), .val (.long v52), .second, .unset, .unset, .unset, .unset, .unset, .unset] [(.long v52)])) t
      refine XS.iload X57.here hx rfl (hb hby at_90) rfl ?_
      show Steps p.tables e below (T57.setTop (mkF m 92 #[.val (.int p0), .val (.int p1), .val (.int p2), .val (.int p3), .val (.long q4), .second, .val (.int (2 : Int32)), .val (.int v38), .val (.int v39), .val (.int v40), .val (.ref b41), .val (.ref b43), .val (.long v52), .second, .unset, .unset, .unset, .unset, .unset, .unset] [(.int v39), (.long v52)])) t
      refine XS.i2l X57.here hx rfl (hb hby at_92) rfl ?_
      show Steps p.tables e below (T57.setTop (mkF m 93 #[.val (.int p0), .val (.int p1), .val (.int p2), .val (.int p3), .val (.long q4), .second, .val (.int (2 : Int32)), .val (.int v38), .val (.int v39), .val (.int v40), .val (.ref b41), .val (.ref b43), .val (.long v52), .second, .unset, .unset, .unset, .unset, .unset, .unset] [(.long (v39.toInt64)), (.long v52)])) t
      refine XS.lmul X57.here hx rfl (hb hby at_93) rfl ?_
      show Steps p.tables e below (T57.setTop (mkF m 94 #[.val (.int p0), .val (.int p1), .val (.int p2), .val (.int p3), .val (.long q4), .second, .val (.int (2 : Int32)), .val (.int v38), .val (.int v39), .val (.int v40), .val (.ref b41), .val (.ref b43), .val (.long v52), .second, .unset, .unset, .unset, .unset, .unset, .unset] [(.long (v52 * (v39.toInt64)))])) t
      refine Own.nmJ hv59 ?_
      show Steps p.tables e below (T57.setTop (mkF m 94 #[.val (.int p0), .val (.int p1), .val (.int p2), .val (.int p3), .val (.long q4), .second, .val (.int (2 : Int32)), .val (.int v38), .val (.int v39), .val (.int v40), .val (.ref b41), .val (.ref b43), .val (.long v52), .second, .unset, .unset, .unset, .unset, .unset, .unset] [(.long v59)])) t
      refine XS.lstore X57.here hx rfl (hb hby at_94) rfl (l' := #[.val (.int p0), .val (.int p1), .val (.int p2), .val (.int p3), .val (.long q4), .second, .val (.int (2 : Int32)), .val (.int v38), .val (.int v39), .val (.int v40), .val (.ref b41), .val (.ref b43), .val (.long v59), .second, .unset, .unset, .unset, .unset, .unset, .unset]) rfl ?_
      show Steps p.tables e below (T57.setTop (mkF m 96 #[.val (.int p0), .val (.int p1), .val (.int p2), .val (.int p3), .val (.long q4), .second, .val (.int (2 : Int32)), .val (.int v38), .val (.int v39), .val (.int v40), .val (.ref b41), .val (.ref b43), .val (.long v59), .second, .unset, .unset, .unset, .unset, .unset, .unset] [])) t
      refine XS.iload X57.here hx rfl (hb hby at_96) rfl ?_
      show Steps p.tables e below (T57.setTop (mkF m 98 #[.val (.int p0), .val (.int p1), .val (.int p2), .val (.int p3), .val (.long q4), .second, .val (.int (2 : Int32)), .val (.int v38), .val (.int v39), .val (.int v40), .val (.ref b41), .val (.ref b43), .val (.long v59), .second, .unset, .unset, .unset, .unset, .unset, .unset] [(.int (2 : Int32))])) t
      refine XS.iconst X57.here hx rfl (hb hby at_98) ?_
      show Steps p.tables e below (T57.setTop (mkF m 99 #[.val (.int p0), .val (.int p1), .val (.int p2), .val (.int p3), .val (.long q4), .second, .val (.int (2 : Int32)), .val (.int v38), .val (.int v39), .val (.int v40), .val (.ref b41), .val (.ref b43), .val (.long v59), .second, .unset, .unset, .unset, .unset, .unset, .unset] [(.int (2 : Int32)), (.int (2 : Int32))])) t
      refine XS.icmpYes X57.here hx rfl (pc0 := 99) (pc' := 121) rfl (hb hby at_99) rfl (by decide) (by decide) (by decide) ?_
      show Steps p.tables e below (T57.setTop (mkF m 121 #[.val (.int p0), .val (.int p1), .val (.int p2), .val (.int p3), .val (.long q4), .second, .val (.int (2 : Int32)), .val (.int v38), .val (.int v39), .val (.int v40), .val (.ref b41), .val (.ref b43), .val (.long v59), .second, .unset, .unset, .unset, .unset, .unset, .unset] [])) t
      refine XS.lload X57.here hx rfl (hb hby at_121) rfl ?_
      show Steps p.tables e below (T57.setTop (mkF m 123 #[.val (.int p0), .val (.int p1), .val (.int p2), .val (.int p3), .val (.long q4), .second, .val (.int (2 : Int32)), .val (.int v38), .val (.int v39), .val (.int v40), .val (.ref b41), .val (.ref b43), .val (.long v59), .second, .unset, .unset, .unset, .unset, .unset, .unset] [(.long q4)])) t
      refine X57.ldc2Long hx hown (mvT hZ (hw _ (List.mem_of_getElem? (i := 1) rfl))) (g := (mkF m 123 #[.val (.int p0), .val (.int p1), .val (.int p2), .val (.int p3), .val (.long q4), .second, .val (.int (2 : Int32)), .val (.int v38), .val (.int v39), .val (.int v40), .val (.ref b41), .val (.ref b43), .val (.long v59), .second, .unset, .unset, .unset, .unset, .unset, .unset] [(.long q4)])) rfl (hb hby at_123) _ ?_
      show Steps p.tables e below (T57.setTop (mkF m 126 #[.val (.int p0), .val (.int p1), .val (.int p2), .val (.int p3), .val (.long q4), .second, .val (.int (2 : Int32)), .val (.int v38), .val (.int v39), .val (.int v40), .val (.ref b41), .val (.ref b43), .val (.long v59), .second, .unset, .unset, .unset, .unset, .unset, .unset] [(.long (9223372036854775807 : Int64)), (.long q4)])) t
      refine XS.land X57.here hx rfl (hb hby at_126) rfl ?_
      show Steps p.tables e below (T57.setTop (mkF m 127 #[.val (.int p0), .val (.int p1), .val (.int p2), .val (.int p3), .val (.long q4), .second, .val (.int (2 : Int32)), .val (.int v38), .val (.int v39), .val (.int v40), .val (.ref b41), .val (.ref b43), .val (.long v59), .second, .unset, .unset, .unset, .unset, .unset, .unset] [(.long (q4 &&& (9223372036854775807 : Int64)))])) t
      refine XS.lload X57.here hx rfl (hb hby at_127) rfl ?_
      show Steps p.tables e below (T57.setTop (mkF m 129 #[.val (.int p0), .val (.int p1), .val (.int p2), .val (.int p3), .val (.long q4), .second, .val (.int (2 : Int32)), .val (.int v38), .val (.int v39), .val (.int v40), .val (.ref b41), .val (.ref b43), .val (.long v59), .second, .unset, .unset, .unset, .unset, .unset, .unset] [(.long v59), (.long (q4 &&& (9223372036854775807 : Int64)))])) t
      refine Own.lremM (g := (mkF m 129 #[.val (.int p0), .val (.int p1), .val (.int p2), .val (.int p3), .val (.long q4), .second, .val (.int (2 : Int32)), .val (.int v38), .val (.int v39), .val (.int v40), .val (.ref b41), .val (.ref b43), .val (.long v59), .second, .unset, .unset, .unset, .unset, .unset, .unset] [(.long v59), (.long (q4 &&& (9223372036854775807 : Int64)))])) X57 hx rfl (hb hby at_129) rfl hnz60 ?_
      show Steps p.tables e below (T57.setTop (mkF m 130 #[.val (.int p0), .val (.int p1), .val (.int p2), .val (.int p3), .val (.long q4), .second, .val (.int (2 : Int32)), .val (.int v38), .val (.int v39), .val (.int v40), .val (.ref b41), .val (.ref b43), .val (.long v59), .second, .unset, .unset, .unset, .unset, .unset, .unset] [(.long ((q4 &&& (9223372036854775807 : Int64)) % v59))])) t
      refine Own.nmJ hv61 ?_
      show Steps p.tables e below (T57.setTop (mkF m 130 #[.val (.int p0), .val (.int p1), .val (.int p2), .val (.int p3), .val (.long q4), .second, .val (.int (2 : Int32)), .val (.int v38), .val (.int v39), .val (.int v40), .val (.ref b41), .val (.ref b43), .val (.long v59), .second, .unset, .unset, .unset, .unset, .unset, .unset] [(.long v61)])) t
      refine XS.lstore X57.here hx rfl (hb hby at_130) rfl (l' := #[.val (.int p0), .val (.int p1), .val (.int p2), .val (.int p3), .val (.long q4), .second, .val (.int (2 : Int32)), .val (.int v38), .val (.int v39), .val (.int v40), .val (.ref b41), .val (.ref b43), .val (.long v59), .second, .val (.long v61), .second, .unset, .unset, .unset, .unset]) rfl ?_
      show Steps p.tables e below (T57.setTop (mkF m 132 #[.val (.int p0), .val (.int p1), .val (.int p2), .val (.int p3), .val (.long q4), .second, .val (.int (2 : Int32)), .val (.int v38), .val (.int v39), .val (.int v40), .val (.ref b41), .val (.ref b43), .val (.long v59), .second, .val (.long v61), .second, .unset, .unset, .unset, .unset] [])) t
      refine XS.aload X57.here hx rfl (hb hby at_132) rfl rfl ?_
      show Steps p.tables e below (T57.setTop (mkF m 134 #[.val (.int p0), .val (.int p1), .val (.int p2), .val (.int p3), .val (.long q4), .second, .val (.int (2 : Int32)), .val (.int v38), .val (.int v39), .val (.int v40), .val (.ref b41), .val (.ref b43), .val (.long v59), .second, .val (.long v61), .second, .unset, .unset, .unset, .unset] [(.ref b41)])) t
      refine XS.lload X57.here hx rfl (hb hby at_134) rfl ?_
      show Steps p.tables e below (T57.setTop (mkF m 136 #[.val (.int p0), .val (.int p1), .val (.int p2), .val (.int p3), .val (.long q4), .second, .val (.int (2 : Int32)), .val (.int v38), .val (.int v39), .val (.int v40), .val (.ref b41), .val (.ref b43), .val (.long v59), .second, .val (.long v61), .second, .unset, .unset, .unset, .unset] [(.long v61), (.ref b41)])) t
      refine XS.aload X57.here hx rfl (hb hby at_136) rfl rfl ?_
      show Steps p.tables e below (T57.setTop (mkF m 138 #[.val (.int p0), .val (.int p1), .val (.int p2), .val (.int p3), .val (.long q4), .second, .val (.int (2 : Int32)), .val (.int v38), .val (.int v39), .val (.int v40), .val (.ref b41), .val (.ref b43), .val (.long v59), .second, .val (.long v61), .second, .unset, .unset, .unset, .unset] [(.ref b43), (.long v61), (.ref b41)])) t
      refine st62 _ ?_
      show Steps p.tables e below (T62.setTop (mkF m 141 #[.val (.int p0), .val (.int p1), .val (.int p2), .val (.int p3), .val (.long q4), .second, .val (.int (2 : Int32)), .val (.int v38), .val (.int v39), .val (.int v40), .val (.ref b41), .val (.ref b43), .val (.long v59), .second, .val (.long v61), .second, .unset, .unset, .unset, .unset] [])) t
      refine XS.iconst X62.here hx rfl (hb hby at_141) ?_
      show Steps p.tables e below (T62.setTop (mkF m 142 #[.val (.int p0), .val (.int p1), .val (.int p2), .val (.int p3), .val (.long q4), .second, .val (.int (2 : Int32)), .val (.int v38), .val (.int v39), .val (.int v40), .val (.ref b41), .val (.ref b43), .val (.long v59), .second, .val (.long v61), .second, .unset, .unset, .unset, .unset] [(.int (1 : Int32))])) t
      refine XS.istore X62.here hx rfl (hb hby at_142) rfl (l' := #[.val (.int p0), .val (.int p1), .val (.int p2), .val (.int p3), .val (.long q4), .second, .val (.int (2 : Int32)), .val (.int v38), .val (.int v39), .val (.int v40), .val (.ref b41), .val (.ref b43), .val (.long v59), .second, .val (.long v61), .second, .val (.int (1 : Int32)), .unset, .unset, .unset]) rfl ?_
      show Steps p.tables e below (T62.setTop (mkF m 144 #[.val (.int p0), .val (.int p1), .val (.int p2), .val (.int p3), .val (.long q4), .second, .val (.int (2 : Int32)), .val (.int v38), .val (.int v39), .val (.int v40), .val (.ref b41), .val (.ref b43), .val (.long v59), .second, .val (.long v61), .second, .val (.int (1 : Int32)), .unset, .unset, .unset] [])) t
      refine XS.lconst X62.here hx rfl (hb hby at_144) ?_
      show Steps p.tables e below (T62.setTop (mkF m 145 #[.val (.int p0), .val (.int p1), .val (.int p2), .val (.int p3), .val (.long q4), .second, .val (.int (2 : Int32)), .val (.int v38), .val (.int v39), .val (.int v40), .val (.ref b41), .val (.ref b43), .val (.long v59), .second, .val (.long v61), .second, .val (.int (1 : Int32)), .unset, .unset, .unset] [(.long (0 : Int64))])) t
      refine XS.lstore X62.here hx rfl (hb hby at_145) rfl (l' := #[.val (.int p0), .val (.int p1), .val (.int p2), .val (.int p3), .val (.long q4), .second, .val (.int (2 : Int32)), .val (.int v38), .val (.int v39), .val (.int v40), .val (.ref b41), .val (.ref b43), .val (.long v59), .second, .val (.long v61), .second, .val (.int (1 : Int32)), .val (.long (0 : Int64)), .second, .unset]) rfl ?_
      show Steps p.tables e below (T62.setTop (mkF m 147 #[.val (.int p0), .val (.int p1), .val (.int p2), .val (.int p3), .val (.long q4), .second, .val (.int (2 : Int32)), .val (.int v38), .val (.int v39), .val (.int v40), .val (.ref b41), .val (.ref b43), .val (.long v59), .second, .val (.long v61), .second, .val (.int (1 : Int32)), .val (.long (0 : Int64)), .second, .unset] [])) t
      refine XS.iload X62.here hx rfl (hb hby at_147) rfl ?_
      show Steps p.tables e below (T62.setTop (mkF m 149 #[.val (.int p0), .val (.int p1), .val (.int p2), .val (.int p3), .val (.long q4), .second, .val (.int (2 : Int32)), .val (.int v38), .val (.int v39), .val (.int v40), .val (.ref b41), .val (.ref b43), .val (.long v59), .second, .val (.long v61), .second, .val (.int (1 : Int32)), .val (.long (0 : Int64)), .second, .unset] [(.int (2 : Int32))])) t
      refine XS.ifNo X62.here hx rfl (hb hby at_149) rfl (by decide) ?_
      show Steps p.tables e below (T62.setTop (mkF m 152 #[.val (.int p0), .val (.int p1), .val (.int p2), .val (.int p3), .val (.long q4), .second, .val (.int (2 : Int32)), .val (.int v38), .val (.int v39), .val (.int v40), .val (.ref b41), .val (.ref b43), .val (.long v59), .second, .val (.long v61), .second, .val (.int (1 : Int32)), .val (.long (0 : Int64)), .second, .unset] [])) t
      refine XS.aload X62.here hx rfl (hb hby at_152) rfl rfl ?_
      show Steps p.tables e below (T62.setTop (mkF m 154 #[.val (.int p0), .val (.int p1), .val (.int p2), .val (.int p3), .val (.long q4), .second, .val (.int (2 : Int32)), .val (.int v38), .val (.int v39), .val (.int v40), .val (.ref b41), .val (.ref b43), .val (.long v59), .second, .val (.long v61), .second, .val (.int (1 : Int32)), .val (.long (0 : Int64)), .second, .unset] [(.ref b43)])) t
      refine XS.iconst X62.here hx rfl (hb hby at_154) ?_
      show Steps p.tables e below (T62.setTop (mkF m 155 #[.val (.int p0), .val (.int p1), .val (.int p2), .val (.int p3), .val (.long q4), .second, .val (.int (2 : Int32)), .val (.int v38), .val (.int v39), .val (.int v40), .val (.ref b41), .val (.ref b43), .val (.long v59), .second, .val (.long v61), .second, .val (.int (1 : Int32)), .val (.long (0 : Int64)), .second, .unset] [(.int (0 : Int32)), (.ref b43)])) t
      refine Own.ldI X62 hx hZ rfl A62 hj63 (g := (mkF m 155 #[.val (.int p0), .val (.int p1), .val (.int p2), .val (.int p3), .val (.long q4), .second, .val (.int (2 : Int32)), .val (.int v38), .val (.int v39), .val (.int v40), .val (.ref b41), .val (.ref b43), .val (.long v59), .second, .val (.long v61), .second, .val (.int (1 : Int32)), .val (.long (0 : Int64)), .second, .unset] [(.int (0 : Int32)), (.ref b43)])) rfl rfl (hb hby at_155) _ ?_
      show Steps p.tables e below (T62.setTop (mkF m 156 #[.val (.int p0), .val (.int p1), .val (.int p2), .val (.int p3), .val (.long q4), .second, .val (.int (2 : Int32)), .val (.int v38), .val (.int v39), .val (.int v40), .val (.ref b41), .val (.ref b43), .val (.long v59), .second, .val (.long v61), .second, .val (.int (1 : Int32)), .val (.long (0 : Int64)), .second, .unset] [(.int ((own_v 2 v61 (fun i => if i = 1 then v39 else (fun i => if i = 0 then v38 else (fun _ => 0) i) i) (fun i => if i = 1 then (-1 : Int32) else (fun i => if i = 0 then (-1 : Int32) else (fun _ => 0) i) i)) 0))])) t
      refine Own.nmI hv64 ?_
      show Steps p.tables e below (T62.setTop (mkF m 156 #[.val (.int p0), .val (.int p1), .val (.int p2), .val (.int p3), .val (.long q4), .second, .val (.int (2 : Int32)), .val (.int v38), .val (.int v39), .val (.int v40), .val (.ref b41), .val (.ref b43), .val (.long v59), .second, .val (.long v61), .second, .val (.int (1 : Int32)), .val (.long (0 : Int64)), .second, .unset] [(.int v64)])) t
      refine XS.istore X62.here hx rfl (hb hby at_156) rfl (l' := #[.val (.int p0), .val (.int p1), .val (.int p2), .val (.int p3), .val (.long q4), .second, .val (.int (2 : Int32)), .val (.int v38), .val (.int v39), .val (.int v40), .val (.ref b41), .val (.ref b43), .val (.long v59), .second, .val (.long v61), .second, .val (.int (1 : Int32)), .val (.long (0 : Int64)), .second, .val (.int v64)]) rfl ?_
      show Steps p.tables e below (T62.setTop (mkF m 158 #[.val (.int p0), .val (.int p1), .val (.int p2), .val (.int p3), .val (.long q4), .second, .val (.int (2 : Int32)), .val (.int v38), .val (.int v39), .val (.int v40), .val (.ref b41), .val (.ref b43), .val (.long v59), .second, .val (.long v61), .second, .val (.int (1 : Int32)), .val (.long (0 : Int64)), .second, .val (.int v64)] [])) t
      refine XS.iload X62.here hx rfl (hb hby at_158) rfl ?_
      show Steps p.tables e below (T62.setTop (mkF m 160 #[.val (.int p0), .val (.int p1), .val (.int p2), .val (.int p3), .val (.long q4), .second, .val (.int (2 : Int32)), .val (.int v38), .val (.int v39), .val (.int v40), .val (.ref b41), .val (.ref b43), .val (.long v59), .second, .val (.long v61), .second, .val (.int (1 : Int32)), .val (.long (0 : Int64)), .second, .val (.int v64)] [(.int (1 : Int32))])) t
      refine XS.ifNo X62.here hx rfl (hb hby at_160) rfl (by decide) ?_
      show Steps p.tables e below (T62.setTop (mkF m 163 #[.val (.int p0), .val (.int p1), .val (.int p2), .val (.int p3), .val (.long q4), .second, .val (.int (2 : Int32)), .val (.int v38), .val (.int v39), .val (.int v40), .val (.ref b41), .val (.ref b43), .val (.long v59), .second, .val (.long v61), .second, .val (.int (1 : Int32)), .val (.long (0 : Int64)), .second, .val (.int v64)] [])) t
      refine XS.iconst X62.here hx rfl (hb hby at_163) ?_
      show Steps p.tables e below (T62.setTop (mkF m 164 #[.val (.int p0), .val (.int p1), .val (.int p2), .val (.int p3), .val (.long q4), .second, .val (.int (2 : Int32)), .val (.int v38), .val (.int v39), .val (.int v40), .val (.ref b41), .val (.ref b43), .val (.long v59), .second, .val (.long v61), .second, .val (.int (1 : Int32)), .val (.long (0 : Int64)), .second, .val (.int v64)] [(.int (0 : Int32))])) t
      refine XS.iload X62.here hx rfl (hb hby at_164) rfl ?_
      show Steps p.tables e below (T62.setTop (mkF m 166 #[.val (.int p0), .val (.int p1), .val (.int p2), .val (.int p3), .val (.long q4), .second, .val (.int (2 : Int32)), .val (.int v38), .val (.int v39), .val (.int v40), .val (.ref b41), .val (.ref b43), .val (.long v59), .second, .val (.long v61), .second, .val (.int (1 : Int32)), .val (.long (0 : Int64)), .second, .val (.int v64)] [(.int v64), (.int (0 : Int32))])) t
      exact k
    have hc65 : ¬ (v64 < (0 : Int32)) := hr0.1
    refine hD _ (T62.setTop (mkF m 173 #[.val (.int p0), .val (.int p1), .val (.int p2), .val (.int p3), .val (.long q4), .second, .val (.int (2 : Int32)), .val (.int v38), .val (.int v39), .val (.int v40), .val (.ref b41), .val (.ref b43), .val (.long v59), .second, .val (.long v61), .second, .val (.int (1 : Int32)), .val (.long (0 : Int64)), .second, .val (.int v64)] [(.int v38), (.int v64)])) (fun t k => ?_) ?_
    · show Steps p.tables e below (T62.setTop (mkF m 166 #[.val (.int p0), .val (.int p1), .val (.int p2), .val (.int p3), .val (.long q4), .second, .val (.int (2 : Int32)), .val (.int v38), .val (.int v39), .val (.int v40), .val (.ref b41), .val (.ref b43), .val (.long v59), .second, .val (.long v61), .second, .val (.int (1 : Int32)), .val (.long (0 : Int64)), .second, .val (.int v64)] [(.int v64), (.int (0 : Int32))])) t
      refine XS.icmpNo X62.here hx rfl (hb hby at_166) rfl (flt hc65).2.2.1 ?_
      show Steps p.tables e below (T62.setTop (mkF m 169 #[.val (.int p0), .val (.int p1), .val (.int p2), .val (.int p3), .val (.long q4), .second, .val (.int (2 : Int32)), .val (.int v38), .val (.int v39), .val (.int v40), .val (.ref b41), .val (.ref b43), .val (.long v59), .second, .val (.long v61), .second, .val (.int (1 : Int32)), .val (.long (0 : Int64)), .second, .val (.int v64)] [])) t
      refine XS.iload X62.here hx rfl (hb hby at_169) rfl ?_
      show Steps p.tables e below (T62.setTop (mkF m 171 #[.val (.int p0), .val (.int p1), .val (.int p2), .val (.int p3), .val (.long q4), .second, .val (.int (2 : Int32)), .val (.int v38), .val (.int v39), .val (.int v40), .val (.ref b41), .val (.ref b43), .val (.long v59), .second, .val (.long v61), .second, .val (.int (1 : Int32)), .val (.long (0 : Int64)), .second, .val (.int v64)] [(.int v64)])) t
      refine XS.iload X62.here hx rfl (hb hby at_171) rfl ?_
      show Steps p.tables e below (T62.setTop (mkF m 173 #[.val (.int p0), .val (.int p1), .val (.int p2), .val (.int p3), .val (.long q4), .second, .val (.int (2 : Int32)), .val (.int v38), .val (.int v39), .val (.int v40), .val (.ref b41), .val (.ref b43), .val (.long v59), .second, .val (.long v61), .second, .val (.int (1 : Int32)), .val (.long (0 : Int64)), .second, .val (.int v64)] [(.int v38), (.int v64)])) t
      exact k
    have hc66 : v64 < v38 := hr0.2
    obtain ⟨v67, hv67⟩ : ∃ z : Int64, z = (v64.toInt64) := ⟨_, rfl⟩
    have hj68 : 0 ≤ (1 : Int32).toInt ∧ (1 : Int32).toInt < (2 : Nat) := ⟨by decide, by decide⟩
    obtain ⟨v69, hv69⟩ : ∃ z : Int32, z = ((own_v 2 v61 (fun i => if i = 1 then v39 else (fun i => if i = 0 then v38 else (fun _ => 0) i) i) (fun i => if i = 1 then (-1 : Int32) else (fun i => if i = 0 then (-1 : Int32) else (fun _ => 0) i) i)) 1) := ⟨_, rfl⟩
    have hw1 : v69 = (v61 % v39.toInt64).toInt32 := hv69
    have hr1 := own_rng hk.1 (own_d hv39) hw1
    refine hD _ (T62.setTop (mkF m 208 #[.val (.int p0), .val (.int p1), .val (.int p2), .val (.int p3), .val (.long q4), .second, .val (.int (2 : Int32)), .val (.int v38), .val (.int v39), .val (.int v40), .val (.ref b41), .val (.ref b43), .val (.long v59), .second, .val (.long v61), .second, .val (.int (1 : Int32)), .val (.long v67), .second, .val (.int v69)] [(.int v69), (.int (0 : Int32))])) (fun t k => ?_) ?_
    · show Steps p.tables e below (T62.setTop (mkF m 173 #[.val (.int p0), .val (.int p1), .val (.int p2), .val (.int p3), .val (.long q4), .second, .val (.int (2 : Int32)), .val (.int v38), .val (.int v39), .val (.int v40), .val (.ref b41), .val (.ref b43), .val (.long v59), .second, .val (.long v61), .second, .val (.int (1 : Int32)), .val (.long (0 : Int64)), .second, .val (.int v64)] [(.int v38), (.int v64)])) t
      refine XS.icmpNo X62.here hx rfl (hb hby at_173) rfl (tlt hc66).2.1 ?_
      show Steps p.tables e below (T62.setTop (mkF m 176 #[.val (.int p0), .val (.int p1), .val (.int p2), .val (.int p3), .val (.long q4), .second, .val (.int (2 : Int32)), .val (.int v38), .val (.int v39), .val (.int v40), .val (.ref b41), .val (.ref b43), .val (.long v59), .second, .val (.long v61), .second, .val (.int (1 : Int32)), .val (.long (0 : Int64)), .second, .val (.int v64)] [])) t
      refine XS.iconst X62.here hx rfl (hb hby at_176) ?_
      show Steps p.tables e below (T62.setTop (mkF m 177 #[.val (.int p0), .val (.int p1), .val (.int p2), .val (.int p3), .val (.long q4), .second, .val (.int (2 : Int32)), .val (.int v38), .val (.int v39), .val (.int v40), .val (.ref b41), .val (.ref b43), .val (.long v59), .second, .val (.long v61), .second, .val (.int (1 : Int32)), .val (.long (0 : Int64)), .second, .val (.int v64)] [(.int (1 : Int32))])) t
      refine XS.goto X62.here hx rfl (pc0 := 177) (pc' := 181) rfl (hb hby at_177) (by decide) (by decide) ?_
      show Steps p.tables e below (T62.setTop (mkF m 181 #[.val (.int p0), .val (.int p1), .val (.int p2), .val (.int p3), .val (.long q4), .second, .val (.int (2 : Int32)), .val (.int v38), .val (.int v39), .val (.int v40), .val (.ref b41), .val (.ref b43), .val (.long v59), .second, .val (.long v61), .second, .val (.int (1 : Int32)), .val (.long (0 : Int64)), .second, .val (.int v64)] [(.int (1 : Int32))])) t
      refine XS.istore X62.here hx rfl (hb hby at_181) rfl (l' := #[.val (.int p0), .val (.int p1), .val (.int p2), .val (.int p3), .val (.long q4), .second, .val (.int (2 : Int32)), .val (.int v38), .val (.int v39), .val (.int v40), .val (.ref b41), .val (.ref b43), .val (.long v59), .second, .val (.long v61), .second, .val (.int (1 : Int32)), .val (.long (0 : Int64)), .second, .val (.int v64)]) rfl ?_
      show Steps p.tables e below (T62.setTop (mkF m 183 #[.val (.int p0), .val (.int p1), .val (.int p2), .val (.int p3), .val (.long q4), .second, .val (.int (2 : Int32)), .val (.int v38), .val (.int v39), .val (.int v40), .val (.ref b41), .val (.ref b43), .val (.long v59), .second, .val (.long v61), .second, .val (.int (1 : Int32)), .val (.long (0 : Int64)), .second, .val (.int v64)] [])) t
      refine XS.iload X62.here hx rfl (hb hby at_183) rfl ?_
      show Steps p.tables e below (T62.setTop (mkF m 185 #[.val (.int p0), .val (.int p1), .val (.int p2), .val (.int p3), .val (.long q4), .second, .val (.int (2 : Int32)), .val (.int v38), .val (.int v39), .val (.int v40), .val (.ref b41), .val (.ref b43), .val (.long v59), .second, .val (.long v61), .second, .val (.int (1 : Int32)), .val (.long (0 : Int64)), .second, .val (.int v64)] [(.int v64)])) t
      refine XS.i2l X62.here hx rfl (hb hby at_185) rfl ?_
      show Steps p.tables e below (T62.setTop (mkF m 186 #[.val (.int p0), .val (.int p1), .val (.int p2), .val (.int p3), .val (.long q4), .second, .val (.int (2 : Int32)), .val (.int v38), .val (.int v39), .val (.int v40), .val (.ref b41), .val (.ref b43), .val (.long v59), .second, .val (.long v61), .second, .val (.int (1 : Int32)), .val (.long (0 : Int64)), .second, .val (.int v64)] [(.long (v64.toInt64))])) t
      refine Own.nmJ hv67 ?_
      show Steps p.tables e below (T62.setTop (mkF m 186 #[.val (.int p0), .val (.int p1), .val (.int p2), .val (.int p3), .val (.long q4), .second, .val (.int (2 : Int32)), .val (.int v38), .val (.int v39), .val (.int v40), .val (.ref b41), .val (.ref b43), .val (.long v59), .second, .val (.long v61), .second, .val (.int (1 : Int32)), .val (.long (0 : Int64)), .second, .val (.int v64)] [(.long v67)])) t
      refine XS.lstore X62.here hx rfl (hb hby at_186) rfl (l' := #[.val (.int p0), .val (.int p1), .val (.int p2), .val (.int p3), .val (.long q4), .second, .val (.int (2 : Int32)), .val (.int v38), .val (.int v39), .val (.int v40), .val (.ref b41), .val (.ref b43), .val (.long v59), .second, .val (.long v61), .second, .val (.int (1 : Int32)), .val (.long v67), .second, .val (.int v64)]) rfl ?_
      show Steps p.tables e below (T62.setTop (mkF m 188 #[.val (.int p0), .val (.int p1), .val (.int p2), .val (.int p3), .val (.long q4), .second, .val (.int (2 : Int32)), .val (.int v38), .val (.int v39), .val (.int v40), .val (.ref b41), .val (.ref b43), .val (.long v59), .second, .val (.long v61), .second, .val (.int (1 : Int32)), .val (.long v67), .second, .val (.int v64)] [])) t
      refine XS.iload X62.here hx rfl (hb hby at_188) rfl ?_
      show Steps p.tables e below (T62.setTop (mkF m 190 #[.val (.int p0), .val (.int p1), .val (.int p2), .val (.int p3), .val (.long q4), .second, .val (.int (2 : Int32)), .val (.int v38), .val (.int v39), .val (.int v40), .val (.ref b41), .val (.ref b43), .val (.long v59), .second, .val (.long v61), .second, .val (.int (1 : Int32)), .val (.long v67), .second, .val (.int v64)] [(.int (2 : Int32))])) t
      refine XS.iconst X62.here hx rfl (hb hby at_190) ?_
      show Steps p.tables e below (T62.setTop (mkF m 191 #[.val (.int p0), .val (.int p1), .val (.int p2), .val (.int p3), .val (.long q4), .second, .val (.int (2 : Int32)), .val (.int v38), .val (.int v39), .val (.int v40), .val (.ref b41), .val (.ref b43), .val (.long v59), .second, .val (.long v61), .second, .val (.int (1 : Int32)), .val (.long v67), .second, .val (.int v64)] [(.int (1 : Int32)), (.int (2 : Int32))])) t
      refine XS.icmpNo X62.here hx rfl (hb hby at_191) rfl (by decide) ?_
      show Steps p.tables e below (T62.setTop (mkF m 194 #[.val (.int p0), .val (.int p1), .val (.int p2), .val (.int p3), .val (.long q4), .second, .val (.int (2 : Int32)), .val (.int v38), .val (.int v39), .val (.int v40), .val (.ref b41), .val (.ref b43), .val (.long v59), .second, .val (.long v61), .second, .val (.int (1 : Int32)), .val (.long v67), .second, .val (.int v64)] [])) t
      refine XS.aload X62.here hx rfl (hb hby at_194) rfl rfl ?_
      show Steps p.tables e below (T62.setTop (mkF m 196 #[.val (.int p0), .val (.int p1), .val (.int p2), .val (.int p3), .val (.long q4), .second, .val (.int (2 : Int32)), .val (.int v38), .val (.int v39), .val (.int v40), .val (.ref b41), .val (.ref b43), .val (.long v59), .second, .val (.long v61), .second, .val (.int (1 : Int32)), .val (.long v67), .second, .val (.int v64)] [(.ref b43)])) t
      refine XS.iconst X62.here hx rfl (hb hby at_196) ?_
      show Steps p.tables e below (T62.setTop (mkF m 197 #[.val (.int p0), .val (.int p1), .val (.int p2), .val (.int p3), .val (.long q4), .second, .val (.int (2 : Int32)), .val (.int v38), .val (.int v39), .val (.int v40), .val (.ref b41), .val (.ref b43), .val (.long v59), .second, .val (.long v61), .second, .val (.int (1 : Int32)), .val (.long v67), .second, .val (.int v64)] [(.int (1 : Int32)), (.ref b43)])) t
      refine Own.ldI X62 hx hZ rfl A62 hj68 (g := (mkF m 197 #[.val (.int p0), .val (.int p1), .val (.int p2), .val (.int p3), .val (.long q4), .second, .val (.int (2 : Int32)), .val (.int v38), .val (.int v39), .val (.int v40), .val (.ref b41), .val (.ref b43), .val (.long v59), .second, .val (.long v61), .second, .val (.int (1 : Int32)), .val (.long v67), .second, .val (.int v64)] [(.int (1 : Int32)), (.ref b43)])) rfl rfl (hb hby at_197) _ ?_
      show Steps p.tables e below (T62.setTop (mkF m 198 #[.val (.int p0), .val (.int p1), .val (.int p2), .val (.int p3), .val (.long q4), .second, .val (.int (2 : Int32)), .val (.int v38), .val (.int v39), .val (.int v40), .val (.ref b41), .val (.ref b43), .val (.long v59), .second, .val (.long v61), .second, .val (.int (1 : Int32)), .val (.long v67), .second, .val (.int v64)] [(.int ((own_v 2 v61 (fun i => if i = 1 then v39 else (fun i => if i = 0 then v38 else (fun _ => 0) i) i) (fun i => if i = 1 then (-1 : Int32) else (fun i => if i = 0 then (-1 : Int32) else (fun _ => 0) i) i)) 1))])) t
      refine Own.nmI hv69 ?_
      show Steps p.tables e below (T62.setTop (mkF m 198 #[.val (.int p0), .val (.int p1), .val (.int p2), .val (.int p3), .val (.long q4), .second, .val (.int (2 : Int32)), .val (.int v38), .val (.int v39), .val (.int v40), .val (.ref b41), .val (.ref b43), .val (.long v59), .second, .val (.long v61), .second, .val (.int (1 : Int32)), .val (.long v67), .second, .val (.int v64)] [(.int v69)])) t
      refine XS.istore X62.here hx rfl (hb hby at_198) rfl (l' := #[.val (.int p0), .val (.int p1), .val (.int p2), .val (.int p3), .val (.long q4), .second, .val (.int (2 : Int32)), .val (.int v38), .val (.int v39), .val (.int v40), .val (.ref b41), .val (.ref b43), .val (.long v59), .second, .val (.long v61), .second, .val (.int (1 : Int32)), .val (.long v67), .second, .val (.int v69)]) rfl ?_
      show Steps p.tables e below (T62.setTop (mkF m 200 #[.val (.int p0), .val (.int p1), .val (.int p2), .val (.int p3), .val (.long q4), .second, .val (.int (2 : Int32)), .val (.int v38), .val (.int v39), .val (.int v40), .val (.ref b41), .val (.ref b43), .val (.long v59), .second, .val (.long v61), .second, .val (.int (1 : Int32)), .val (.long v67), .second, .val (.int v69)] [])) t
      refine XS.iload X62.here hx rfl (hb hby at_200) rfl ?_
      show Steps p.tables e below (T62.setTop (mkF m 202 #[.val (.int p0), .val (.int p1), .val (.int p2), .val (.int p3), .val (.long q4), .second, .val (.int (2 : Int32)), .val (.int v38), .val (.int v39), .val (.int v40), .val (.ref b41), .val (.ref b43), .val (.long v59), .second, .val (.long v61), .second, .val (.int (1 : Int32)), .val (.long v67), .second, .val (.int v69)] [(.int (1 : Int32))])) t
      refine XS.ifNo X62.here hx rfl (hb hby at_202) rfl (by decide) ?_
      show Steps p.tables e below (T62.setTop (mkF m 205 #[.val (.int p0), .val (.int p1), .val (.int p2), .val (.int p3), .val (.long q4), .second, .val (.int (2 : Int32)), .val (.int v38), .val (.int v39), .val (.int v40), .val (.ref b41), .val (.ref b43), .val (.long v59), .second, .val (.long v61), .second, .val (.int (1 : Int32)), .val (.long v67), .second, .val (.int v69)] [])) t
      refine XS.iconst X62.here hx rfl (hb hby at_205) ?_
      show Steps p.tables e below (T62.setTop (mkF m 206 #[.val (.int p0), .val (.int p1), .val (.int p2), .val (.int p3), .val (.long q4), .second, .val (.int (2 : Int32)), .val (.int v38), .val (.int v39), .val (.int v40), .val (.ref b41), .val (.ref b43), .val (.long v59), .second, .val (.long v61), .second, .val (.int (1 : Int32)), .val (.long v67), .second, .val (.int v69)] [(.int (0 : Int32))])) t
      refine XS.iload X62.here hx rfl (hb hby at_206) rfl ?_
      show Steps p.tables e below (T62.setTop (mkF m 208 #[.val (.int p0), .val (.int p1), .val (.int p2), .val (.int p3), .val (.long q4), .second, .val (.int (2 : Int32)), .val (.int v38), .val (.int v39), .val (.int v40), .val (.ref b41), .val (.ref b43), .val (.long v59), .second, .val (.long v61), .second, .val (.int (1 : Int32)), .val (.long v67), .second, .val (.int v69)] [(.int v69), (.int (0 : Int32))])) t
      exact k
    have hc70 : ¬ (v69 < (0 : Int32)) := hr1.1
    refine hD _ (T62.setTop (mkF m 215 #[.val (.int p0), .val (.int p1), .val (.int p2), .val (.int p3), .val (.long q4), .second, .val (.int (2 : Int32)), .val (.int v38), .val (.int v39), .val (.int v40), .val (.ref b41), .val (.ref b43), .val (.long v59), .second, .val (.long v61), .second, .val (.int (1 : Int32)), .val (.long v67), .second, .val (.int v69)] [(.int v39), (.int v69)])) (fun t k => ?_) ?_
    · show Steps p.tables e below (T62.setTop (mkF m 208 #[.val (.int p0), .val (.int p1), .val (.int p2), .val (.int p3), .val (.long q4), .second, .val (.int (2 : Int32)), .val (.int v38), .val (.int v39), .val (.int v40), .val (.ref b41), .val (.ref b43), .val (.long v59), .second, .val (.long v61), .second, .val (.int (1 : Int32)), .val (.long v67), .second, .val (.int v69)] [(.int v69), (.int (0 : Int32))])) t
      refine XS.icmpNo X62.here hx rfl (hb hby at_208) rfl (flt hc70).2.2.1 ?_
      show Steps p.tables e below (T62.setTop (mkF m 211 #[.val (.int p0), .val (.int p1), .val (.int p2), .val (.int p3), .val (.long q4), .second, .val (.int (2 : Int32)), .val (.int v38), .val (.int v39), .val (.int v40), .val (.ref b41), .val (.ref b43), .val (.long v59), .second, .val (.long v61), .second, .val (.int (1 : Int32)), .val (.long v67), .second, .val (.int v69)] [])) t
      refine XS.iload X62.here hx rfl (hb hby at_211) rfl ?_
      show Steps p.tables e below (T62.setTop (mkF m 213 #[.val (.int p0), .val (.int p1), .val (.int p2), .val (.int p3), .val (.long q4), .second, .val (.int (2 : Int32)), .val (.int v38), .val (.int v39), .val (.int v40), .val (.ref b41), .val (.ref b43), .val (.long v59), .second, .val (.long v61), .second, .val (.int (1 : Int32)), .val (.long v67), .second, .val (.int v69)] [(.int v69)])) t
      refine XS.iload X62.here hx rfl (hb hby at_213) rfl ?_
      show Steps p.tables e below (T62.setTop (mkF m 215 #[.val (.int p0), .val (.int p1), .val (.int p2), .val (.int p3), .val (.long q4), .second, .val (.int (2 : Int32)), .val (.int v38), .val (.int v39), .val (.int v40), .val (.ref b41), .val (.ref b43), .val (.long v59), .second, .val (.long v61), .second, .val (.int (1 : Int32)), .val (.long v67), .second, .val (.int v69)] [(.int v39), (.int v69)])) t
      exact k
    have hc71 : v69 < v39 := hr1.2
    obtain ⟨v72, hv72⟩ : ∃ z : Int64, z = ((v67 * (v39.toInt64)) + (v69.toInt64)) := ⟨_, rfl⟩
    refine hD _ (T62.setTop (mkF m 296 #[.val (.int p0), .val (.int p1), .val (.int p2), .val (.int p3), .val (.long q4), .second, .val (.int (2 : Int32)), .val (.int v38), .val (.int v39), .val (.int v40), .val (.ref b41), .val (.ref b43), .val (.long v59), .second, .val (.long v61), .second, .val (.int (1 : Int32)), .val (.long v72), .second, .val (.int v69)] [(.int (lcmpW v72 v61))])) (fun t k => ?_) ?_
    · show Steps p.tables e below (T62.setTop (mkF m 215 #[.val (.int p0), .val (.int p1), .val (.int p2), .val (.int p3), .val (.long q4), .second, .val (.int (2 : Int32)), .val (.int v38), .val (.int v39), .val (.int v40), .val (.ref b41), .val (.ref b43), .val (.long v59), .second, .val (.long v61), .second, .val (.int (1 : Int32)), .val (.long v67), .second, .val (.int v69)] [(.int v39), (.int v69)])) t
      refine XS.icmpNo X62.here hx rfl (hb hby at_215) rfl (tlt hc71).2.1 ?_
      show Steps p.tables e below (T62.setTop (mkF m 218 #[.val (.int p0), .val (.int p1), .val (.int p2), .val (.int p3), .val (.long q4), .second, .val (.int (2 : Int32)), .val (.int v38), .val (.int v39), .val (.int v40), .val (.ref b41), .val (.ref b43), .val (.long v59), .second, .val (.long v61), .second, .val (.int (1 : Int32)), .val (.long v67), .second, .val (.int v69)] [])) t
      refine XS.iconst X62.here hx rfl (hb hby at_218) ?_
      show Steps p.tables e below (T62.setTop (mkF m 219 #[.val (.int p0), .val (.int p1), .val (.int p2), .val (.int p3), .val (.long q4), .second, .val (.int (2 : Int32)), .val (.int v38), .val (.int v39), .val (.int v40), .val (.ref b41), .val (.ref b43), .val (.long v59), .second, .val (.long v61), .second, .val (.int (1 : Int32)), .val (.long v67), .second, .val (.int v69)] [(.int (1 : Int32))])) t
      refine XS.goto X62.here hx rfl (pc0 := 219) (pc' := 223) rfl (hb hby at_219) (by decide) (by decide) ?_
      show Steps p.tables e below (T62.setTop (mkF m 223 #[.val (.int p0), .val (.int p1), .val (.int p2), .val (.int p3), .val (.long q4), .second, .val (.int (2 : Int32)), .val (.int v38), .val (.int v39), .val (.int v40), .val (.ref b41), .val (.ref b43), .val (.long v59), .second, .val (.long v61), .second, .val (.int (1 : Int32)), .val (.long v67), .second, .val (.int v69)] [(.int (1 : Int32))])) t
      refine XS.istore X62.here hx rfl (hb hby at_223) rfl (l' := #[.val (.int p0), .val (.int p1), .val (.int p2), .val (.int p3), .val (.long q4), .second, .val (.int (2 : Int32)), .val (.int v38), .val (.int v39), .val (.int v40), .val (.ref b41), .val (.ref b43), .val (.long v59), .second, .val (.long v61), .second, .val (.int (1 : Int32)), .val (.long v67), .second, .val (.int v69)]) rfl ?_
      show Steps p.tables e below (T62.setTop (mkF m 225 #[.val (.int p0), .val (.int p1), .val (.int p2), .val (.int p3), .val (.long q4), .second, .val (.int (2 : Int32)), .val (.int v38), .val (.int v39), .val (.int v40), .val (.ref b41), .val (.ref b43), .val (.long v59), .second, .val (.long v61), .second, .val (.int (1 : Int32)), .val (.long v67), .second, .val (.int v69)] [])) t
      refine XS.lload X62.here hx rfl (hb hby at_225) rfl ?_
      show Steps p.tables e below (T62.setTop (mkF m 227 #[.val (.int p0), .val (.int p1), .val (.int p2), .val (.int p3), .val (.long q4), .second, .val (.int (2 : Int32)), .val (.int v38), .val (.int v39), .val (.int v40), .val (.ref b41), .val (.ref b43), .val (.long v59), .second, .val (.long v61), .second, .val (.int (1 : Int32)), .val (.long v67), .second, .val (.int v69)] [(.long v67)])) t
      refine XS.iload X62.here hx rfl (hb hby at_227) rfl ?_
      show Steps p.tables e below (T62.setTop (mkF m 229 #[.val (.int p0), .val (.int p1), .val (.int p2), .val (.int p3), .val (.long q4), .second, .val (.int (2 : Int32)), .val (.int v38), .val (.int v39), .val (.int v40), .val (.ref b41), .val (.ref b43), .val (.long v59), .second, .val (.long v61), .second, .val (.int (1 : Int32)), .val (.long v67), .second, .val (.int v69)] [(.int v39), (.long v67)])) t
      refine XS.i2l X62.here hx rfl (hb hby at_229) rfl ?_
      show Steps p.tables e below (T62.setTop (mkF m 230 #[.val (.int p0), .val (.int p1), .val (.int p2), .val (.int p3), .val (.long q4), .second, .val (.int (2 : Int32)), .val (.int v38), .val (.int v39), .val (.int v40), .val (.ref b41), .val (.ref b43), .val (.long v59), .second, .val (.long v61), .second, .val (.int (1 : Int32)), .val (.long v67), .second, .val (.int v69)] [(.long (v39.toInt64)), (.long v67)])) t
      refine XS.lmul X62.here hx rfl (hb hby at_230) rfl ?_
      show Steps p.tables e below (T62.setTop (mkF m 231 #[.val (.int p0), .val (.int p1), .val (.int p2), .val (.int p3), .val (.long q4), .second, .val (.int (2 : Int32)), .val (.int v38), .val (.int v39), .val (.int v40), .val (.ref b41), .val (.ref b43), .val (.long v59), .second, .val (.long v61), .second, .val (.int (1 : Int32)), .val (.long v67), .second, .val (.int v69)] [(.long (v67 * (v39.toInt64)))])) t
      refine XS.iload X62.here hx rfl (hb hby at_231) rfl ?_
      show Steps p.tables e below (T62.setTop (mkF m 233 #[.val (.int p0), .val (.int p1), .val (.int p2), .val (.int p3), .val (.long q4), .second, .val (.int (2 : Int32)), .val (.int v38), .val (.int v39), .val (.int v40), .val (.ref b41), .val (.ref b43), .val (.long v59), .second, .val (.long v61), .second, .val (.int (1 : Int32)), .val (.long v67), .second, .val (.int v69)] [(.int v69), (.long (v67 * (v39.toInt64)))])) t
      refine XS.i2l X62.here hx rfl (hb hby at_233) rfl ?_
      show Steps p.tables e below (T62.setTop (mkF m 234 #[.val (.int p0), .val (.int p1), .val (.int p2), .val (.int p3), .val (.long q4), .second, .val (.int (2 : Int32)), .val (.int v38), .val (.int v39), .val (.int v40), .val (.ref b41), .val (.ref b43), .val (.long v59), .second, .val (.long v61), .second, .val (.int (1 : Int32)), .val (.long v67), .second, .val (.int v69)] [(.long (v69.toInt64)), (.long (v67 * (v39.toInt64)))])) t
      refine XS.ladd X62.here hx rfl (hb hby at_234) rfl ?_
      show Steps p.tables e below (T62.setTop (mkF m 235 #[.val (.int p0), .val (.int p1), .val (.int p2), .val (.int p3), .val (.long q4), .second, .val (.int (2 : Int32)), .val (.int v38), .val (.int v39), .val (.int v40), .val (.ref b41), .val (.ref b43), .val (.long v59), .second, .val (.long v61), .second, .val (.int (1 : Int32)), .val (.long v67), .second, .val (.int v69)] [(.long ((v67 * (v39.toInt64)) + (v69.toInt64)))])) t
      refine Own.nmJ hv72 ?_
      show Steps p.tables e below (T62.setTop (mkF m 235 #[.val (.int p0), .val (.int p1), .val (.int p2), .val (.int p3), .val (.long q4), .second, .val (.int (2 : Int32)), .val (.int v38), .val (.int v39), .val (.int v40), .val (.ref b41), .val (.ref b43), .val (.long v59), .second, .val (.long v61), .second, .val (.int (1 : Int32)), .val (.long v67), .second, .val (.int v69)] [(.long v72)])) t
      refine XS.lstore X62.here hx rfl (hb hby at_235) rfl (l' := #[.val (.int p0), .val (.int p1), .val (.int p2), .val (.int p3), .val (.long q4), .second, .val (.int (2 : Int32)), .val (.int v38), .val (.int v39), .val (.int v40), .val (.ref b41), .val (.ref b43), .val (.long v59), .second, .val (.long v61), .second, .val (.int (1 : Int32)), .val (.long v72), .second, .val (.int v69)]) rfl ?_
      show Steps p.tables e below (T62.setTop (mkF m 237 #[.val (.int p0), .val (.int p1), .val (.int p2), .val (.int p3), .val (.long q4), .second, .val (.int (2 : Int32)), .val (.int v38), .val (.int v39), .val (.int v40), .val (.ref b41), .val (.ref b43), .val (.long v59), .second, .val (.long v61), .second, .val (.int (1 : Int32)), .val (.long v72), .second, .val (.int v69)] [])) t
      refine XS.iload X62.here hx rfl (hb hby at_237) rfl ?_
      show Steps p.tables e below (T62.setTop (mkF m 239 #[.val (.int p0), .val (.int p1), .val (.int p2), .val (.int p3), .val (.long q4), .second, .val (.int (2 : Int32)), .val (.int v38), .val (.int v39), .val (.int v40), .val (.ref b41), .val (.ref b43), .val (.long v59), .second, .val (.long v61), .second, .val (.int (1 : Int32)), .val (.long v72), .second, .val (.int v69)] [(.int (2 : Int32))])) t
      refine XS.iconst X62.here hx rfl (hb hby at_239) ?_
      show Steps p.tables e below (T62.setTop (mkF m 240 #[.val (.int p0), .val (.int p1), .val (.int p2), .val (.int p3), .val (.long q4), .second, .val (.int (2 : Int32)), .val (.int v38), .val (.int v39), .val (.int v40), .val (.ref b41), .val (.ref b43), .val (.long v59), .second, .val (.long v61), .second, .val (.int (1 : Int32)), .val (.long v72), .second, .val (.int v69)] [(.int (2 : Int32)), (.int (2 : Int32))])) t
      refine XS.icmpYes X62.here hx rfl (pc0 := 240) (pc' := 286) rfl (hb hby at_240) rfl (by decide) (by decide) (by decide) ?_
      show Steps p.tables e below (T62.setTop (mkF m 286 #[.val (.int p0), .val (.int p1), .val (.int p2), .val (.int p3), .val (.long q4), .second, .val (.int (2 : Int32)), .val (.int v38), .val (.int v39), .val (.int v40), .val (.ref b41), .val (.ref b43), .val (.long v59), .second, .val (.long v61), .second, .val (.int (1 : Int32)), .val (.long v72), .second, .val (.int v69)] [])) t
      refine XS.iload X62.here hx rfl (hb hby at_286) rfl ?_
      show Steps p.tables e below (T62.setTop (mkF m 288 #[.val (.int p0), .val (.int p1), .val (.int p2), .val (.int p3), .val (.long q4), .second, .val (.int (2 : Int32)), .val (.int v38), .val (.int v39), .val (.int v40), .val (.ref b41), .val (.ref b43), .val (.long v59), .second, .val (.long v61), .second, .val (.int (1 : Int32)), .val (.long v72), .second, .val (.int v69)] [(.int (1 : Int32))])) t
      refine XS.ifNo X62.here hx rfl (hb hby at_288) rfl (by decide) ?_
      show Steps p.tables e below (T62.setTop (mkF m 291 #[.val (.int p0), .val (.int p1), .val (.int p2), .val (.int p3), .val (.long q4), .second, .val (.int (2 : Int32)), .val (.int v38), .val (.int v39), .val (.int v40), .val (.ref b41), .val (.ref b43), .val (.long v59), .second, .val (.long v61), .second, .val (.int (1 : Int32)), .val (.long v72), .second, .val (.int v69)] [])) t
      refine XS.lload X62.here hx rfl (hb hby at_291) rfl ?_
      show Steps p.tables e below (T62.setTop (mkF m 293 #[.val (.int p0), .val (.int p1), .val (.int p2), .val (.int p3), .val (.long q4), .second, .val (.int (2 : Int32)), .val (.int v38), .val (.int v39), .val (.int v40), .val (.ref b41), .val (.ref b43), .val (.long v59), .second, .val (.long v61), .second, .val (.int (1 : Int32)), .val (.long v72), .second, .val (.int v69)] [(.long v72)])) t
      refine XS.lload X62.here hx rfl (hb hby at_293) rfl ?_
      show Steps p.tables e below (T62.setTop (mkF m 295 #[.val (.int p0), .val (.int p1), .val (.int p2), .val (.int p3), .val (.long q4), .second, .val (.int (2 : Int32)), .val (.int v38), .val (.int v39), .val (.int v40), .val (.ref b41), .val (.ref b43), .val (.long v59), .second, .val (.long v61), .second, .val (.int (1 : Int32)), .val (.long v72), .second, .val (.int v69)] [(.long v61), (.long v72)])) t
      refine XS.lcmp X62.here hx rfl (hb hby at_295) rfl ?_
      show Steps p.tables e below (T62.setTop (mkF m 296 #[.val (.int p0), .val (.int p1), .val (.int p2), .val (.int p3), .val (.long q4), .second, .val (.int (2 : Int32)), .val (.int v38), .val (.int v39), .val (.int v40), .val (.ref b41), .val (.ref b43), .val (.long v59), .second, .val (.long v61), .second, .val (.int (1 : Int32)), .val (.long v72), .second, .val (.int v69)] [(.int (lcmpW v72 v61))])) t
      exact k
    have hc73 : v72 = v61 := by
      have e1 := own_div hk.1 (own_d hv39)
      have hlt : v61.toInt / v39.toInt < v38.toInt := own_dl (own_d hv39).1 (by rw [hp2.1, hp1] at hk; exact hk.2)
      have t0 := own_top ⟨hq1, by rw [e1]; exact hlt⟩ (own_d hv38) hw0 hv67
      exact own_back hk.1 (own_d hv39) hw1 (by rw [t0, e1]) hv72
    refine hD _ (T62.setTop (mkF m 304 #[.val (.int p0), .val (.int p1), .val (.int p2), .val (.int p3), .val (.long q4), .second, .val (.int (2 : Int32)), .val (.int v38), .val (.int v39), .val (.int v40), .val (.ref b41), .val (.ref b43), .val (.long v59), .second, .val (.long v61), .second, .val (.int (1 : Int32)), .val (.long v72), .second, .val (.int v69)] [(.int (1 : Int32))])) (fun t k => ?_) ?_
    · show Steps p.tables e below (T62.setTop (mkF m 296 #[.val (.int p0), .val (.int p1), .val (.int p2), .val (.int p3), .val (.long q4), .second, .val (.int (2 : Int32)), .val (.int v38), .val (.int v39), .val (.int v40), .val (.ref b41), .val (.ref b43), .val (.long v59), .second, .val (.long v61), .second, .val (.int (1 : Int32)), .val (.long v72), .second, .val (.int v69)] [(.int (lcmpW v72 v61))])) t
      refine XS.ifNo X62.here hx rfl (hb hby at_296) rfl ((if0 _ _).trans (teq ((lw_eq v72 v61).mpr hc73)).2) ?_
      show Steps p.tables e below (T62.setTop (mkF m 299 #[.val (.int p0), .val (.int p1), .val (.int p2), .val (.int p3), .val (.long q4), .second, .val (.int (2 : Int32)), .val (.int v38), .val (.int v39), .val (.int v40), .val (.ref b41), .val (.ref b43), .val (.long v59), .second, .val (.long v61), .second, .val (.int (1 : Int32)), .val (.long v72), .second, .val (.int v69)] [])) t
      refine XS.iconst X62.here hx rfl (hb hby at_299) ?_
      show Steps p.tables e below (T62.setTop (mkF m 300 #[.val (.int p0), .val (.int p1), .val (.int p2), .val (.int p3), .val (.long q4), .second, .val (.int (2 : Int32)), .val (.int v38), .val (.int v39), .val (.int v40), .val (.ref b41), .val (.ref b43), .val (.long v59), .second, .val (.long v61), .second, .val (.int (1 : Int32)), .val (.long v72), .second, .val (.int v69)] [(.int (1 : Int32))])) t
      refine XS.goto X62.here hx rfl (pc0 := 300) (pc' := 304) rfl (hb hby at_300) (by decide) (by decide) ?_
      show Steps p.tables e below (T62.setTop (mkF m 304 #[.val (.int p0), .val (.int p1), .val (.int p2), .val (.int p3), .val (.long q4), .second, .val (.int (2 : Int32)), .val (.int v38), .val (.int v39), .val (.int v40), .val (.ref b41), .val (.ref b43), .val (.long v59), .second, .val (.long v61), .second, .val (.int (1 : Int32)), .val (.long v72), .second, .val (.int v69)] [(.int (1 : Int32))])) t
      exact k
    exact Own.retN hR X62 hx (t := .boolean) hret (by simp) (hb hby at_304) (by decide) (by decide) (by decide) ⟨rfl, N62⟩
  · obtain ⟨v74, hv74⟩ : ∃ z : Int32, z = ((p1 &&& (1023 : Int32)) + (1 : Int32)) := ⟨_, rfl⟩
    obtain ⟨v75, hv75⟩ : ∃ z : Int32, z = ((p2 &&& (1023 : Int32)) + (1 : Int32)) := ⟨_, rfl⟩
    obtain ⟨v76, hv76⟩ : ∃ z : Int32, z = ((p3 &&& (1023 : Int32)) + (1 : Int32)) := ⟨_, rfl⟩
    obtain ⟨T77, h77, k77, X77, e77, E77, A77, st77⟩ := newP X0 hx hZ (hw _ (List.mem_of_getElem? (i := 0) rfl)) e0 (g := (mkF m 34 #[.val (.int p0), .val (.int p1), .val (.int p2), .val (.int p3), .val (.long q4), .second, .val (.int (3 : Int32)), .val (.int v74), .val (.int v75), .val (.int v76), .unset, .unset, .unset, .unset, .unset, .unset, .unset, .unset, .unset, .unset] [(.int (3 : Int32))])) rfl (hb hby at_34) rfl (by decide) (cap := 3) (by decide) (by decide) (by decide) (by decide)
    obtain ⟨b77, g_b77⟩ : ∃ z : Nat, z = h0.size := ⟨_, rfl⟩
    rw [← g_b77] at A77 st77
    have g0_b77 : n0 ≤ b77 := by rw [g_b77]; exact Z0
    have f78 : Own.AvI Z h77 b77 .int 3 (fun _ => 0) := Own.AvI.new A77 (by decide) rfl
    have Z77 : n0 ≤ h77.size := Nat.le_trans Z0 E77.1
    obtain ⟨T79, h79, k79, X79, e79, E79, A79, st79⟩ := newP X77 hx hZ (hw _ (List.mem_of_getElem? (i := 0) rfl)) e77 (g := (mkF m 40 #[.val (.int p0), .val (.int p1), .val (.int p2), .val (.int p3), .val (.long q4), .second, .val (.int (3 : Int32)), .val (.int v74), .val (.int v75), .val (.int v76), .val (.ref b77), .unset, .unset, .unset, .unset, .unset, .unset, .unset, .unset, .unset] [(.int (3 : Int32))])) rfl (hb hby at_40) rfl (by decide) (cap := 3) (by decide) (by decide) (by decide) (by decide)
    obtain ⟨b79, g_b79⟩ : ∃ z : Nat, z = h77.size := ⟨_, rfl⟩
    rw [← g_b79] at A79 st79
    have lt_b77_b79 : (b77 : Nat) < b79 := by rw [g_b79]; exact f78.lt
    have g0_b79 : n0 ≤ b79 := by rw [g_b79]; exact Z77
    have f80 : Own.AvI Z h79 b77 .int 3 (fun _ => 0) := f78.ext E79
    have f81 : Own.AvI Z h79 b79 .int 3 (fun _ => 0) := Own.AvI.new A79 (by decide) rfl
    have Z79 : n0 ≤ h79.size := Nat.le_trans Z77 E79.1
    have hj82 : 0 ≤ (0 : Int32).toInt ∧ (0 : Int32).toInt < (3 : Nat) := ⟨by decide, by decide⟩
    obtain ⟨T83, h83, X83, e83, A83, W83, st83⟩ := Own.stoI X79 hx hZ e79 f80 hj82 (g := (mkF m 57 #[.val (.int p0), .val (.int p1), .val (.int p2), .val (.int p3), .val (.long q4), .second, .val (.int (3 : Int32)), .val (.int v74), .val (.int v75), .val (.int v76), .val (.ref b77), .val (.ref b79), .val (.long (1 : Int64)), .second, .unset, .unset, .unset, .unset, .unset, .unset] [(.int v74), (.int (0 : Int32)), (.ref b77)])) rfl rfl (hb hby at_57)
    have f84 : Own.AvI Z h83 b79 .int 3 (fun _ => 0) := f81.other W83 (Own.ne_of (by omega))
    have N83 := Fr.snoc X83 N0 (show n0 ≤ b77 by omega)
    have Z83 : n0 ≤ h83.size := Nat.le_trans Z79 (Keep.of_wr W83).1
    have hj85 : 0 ≤ (0 : Int32).toInt ∧ (0 : Int32).toInt < (3 : Nat) := ⟨by decide, by decide⟩
    obtain ⟨T86, h86, X86, e86, A86, W86, st86⟩ := Own.stoI X83 hx hZ e83 f84 hj85 (g := (mkF m 62 #[.val (.int p0), .val (.int p1), .val (.int p2), .val (.int p3), .val (.long q4), .second, .val (.int (3 : Int32)), .val (.int v74), .val (.int v75), .val (.int v76), .val (.ref b77), .val (.ref b79), .val (.long (1 : Int64)), .second, .unset, .unset, .unset, .unset, .unset, .unset] [(.int (-1 : Int32)), (.int (0 : Int32)), (.ref b79)])) rfl rfl (hb hby at_62)
    have f87 : Own.AvI Z h86 b77 .int 3 (fun i => if i = 0 then v74 else (fun _ => 0) i) := A83.other W86 (Own.ne_of (by omega))
    have N86 := Fr.snoc X86 N83 (show n0 ≤ b79 by omega)
    have Z86 : n0 ≤ h86.size := Nat.le_trans Z83 (Keep.of_wr W86).1
    obtain ⟨v88, hv88⟩ : ∃ z : Int64, z = ((1 : Int64) * (v74.toInt64)) := ⟨_, rfl⟩
    have hj89 : 0 ≤ (1 : Int32).toInt ∧ (1 : Int32).toInt < (3 : Nat) := ⟨by decide, by decide⟩
    obtain ⟨T90, h90, X90, e90, A90, W90, st90⟩ := Own.stoI X86 hx hZ e86 f87 hj89 (g := (mkF m 82 #[.val (.int p0), .val (.int p1), .val (.int p2), .val (.int p3), .val (.long q4), .second, .val (.int (3 : Int32)), .val (.int v74), .val (.int v75), .val (.int v76), .val (.ref b77), .val (.ref b79), .val (.long v88), .second, .unset, .unset, .unset, .unset, .unset, .unset] [(.int v75), (.int (1 : Int32)), (.ref b77)])) rfl rfl (hb hby at_82)
    have f91 : Own.AvI Z h90 b79 .int 3 (fun i => if i = 0 then (-1 : Int32) else (fun _ => 0) i) := A86.other W90 (Own.ne_of (by omega))
    have N90 := Fr.snoc X90 N86 (show n0 ≤ b77 by omega)
    have Z90 : n0 ≤ h90.size := Nat.le_trans Z86 (Keep.of_wr W90).1
    have hj92 : 0 ≤ (1 : Int32).toInt ∧ (1 : Int32).toInt < (3 : Nat) := ⟨by decide, by decide⟩
    obtain ⟨T93, h93, X93, e93, A93, W93, st93⟩ := Own.stoI X90 hx hZ e90 f91 hj92 (g := (mkF m 87 #[.val (.int p0), .val (.int p1), .val (.int p2), .val (.int p3), .val (.long q4), .second, .val (.int (3 : Int32)), .val (.int v74), .val (.int v75), .val (.int v76), .val (.ref b77), .val (.ref b79), .val (.long v88), .second, .unset, .unset, .unset, .unset, .unset, .unset] [(.int (-1 : Int32)), (.int (1 : Int32)), (.ref b79)])) rfl rfl (hb hby at_87)
    have f94 : Own.AvI Z h93 b77 .int 3 (fun i => if i = 1 then v75 else (fun i => if i = 0 then v74 else (fun _ => 0) i) i) := A90.other W93 (Own.ne_of (by omega))
    have N93 := Fr.snoc X93 N90 (show n0 ≤ b79 by omega)
    have Z93 : n0 ≤ h93.size := Nat.le_trans Z90 (Keep.of_wr W93).1
    obtain ⟨v95, hv95⟩ : ∃ z : Int64, z = (v88 * (v75.toInt64)) := ⟨_, rfl⟩
    have hj96 : 0 ≤ (2 : Int32).toInt ∧ (2 : Int32).toInt < (3 : Nat) := ⟨by decide, by decide⟩
    obtain ⟨T97, h97, X97, e97, A97, W97, st97⟩ := Own.stoI X93 hx hZ e93 f94 hj96 (g := (mkF m 107 #[.val (.int p0), .val (.int p1), .val (.int p2), .val (.int p3), .val (.long q4), .second, .val (.int (3 : Int32)), .val (.int v74), .val (.int v75), .val (.int v76), .val (.ref b77), .val (.ref b79), .val (.long v95), .second, .unset, .unset, .unset, .unset, .unset, .unset] [(.int v76), (.int (2 : Int32)), (.ref b77)])) rfl rfl (hb hby at_107)
    have f98 : Own.AvI Z h97 b79 .int 3 (fun i => if i = 1 then (-1 : Int32) else (fun i => if i = 0 then (-1 : Int32) else (fun _ => 0) i) i) := A93.other W97 (Own.ne_of (by omega))
    have N97 := Fr.snoc X97 N93 (show n0 ≤ b77 by omega)
    have Z97 : n0 ≤ h97.size := Nat.le_trans Z93 (Keep.of_wr W97).1
    have hj99 : 0 ≤ (2 : Int32).toInt ∧ (2 : Int32).toInt < (3 : Nat) := ⟨by decide, by decide⟩
    obtain ⟨T100, h100, X100, e100, A100, W100, st100⟩ := Own.stoI X97 hx hZ e97 f98 hj99 (g := (mkF m 112 #[.val (.int p0), .val (.int p1), .val (.int p2), .val (.int p3), .val (.long q4), .second, .val (.int (3 : Int32)), .val (.int v74), .val (.int v75), .val (.int v76), .val (.ref b77), .val (.ref b79), .val (.long v95), .second, .unset, .unset, .unset, .unset, .unset, .unset] [(.int (-1 : Int32)), (.int (2 : Int32)), (.ref b79)])) rfl rfl (hb hby at_112)
    have f101 : Own.AvI Z h100 b77 .int 3 (fun i => if i = 2 then v76 else (fun i => if i = 1 then v75 else (fun i => if i = 0 then v74 else (fun _ => 0) i) i) i) := A97.other W100 (Own.ne_of (by omega))
    have N100 := Fr.snoc X100 N97 (show n0 ≤ b79 by omega)
    have Z100 : n0 ≤ h100.size := Nat.le_trans Z97 (Keep.of_wr W100).1
    obtain ⟨v102, hv102⟩ : ∃ z : Int64, z = (v95 * (v76.toInt64)) := ⟨_, rfl⟩
    have hp1 := own_p1 (own_d hv74) hv88
    have hd1 := own_d hv74
    have hp2 := own_pm (B := 1024) (own_d hv75) (show 1 ≤ v88.toInt ∧ v88.toInt ≤ 1024 by omega) (by decide) hv95
    have hp3 := own_pm (B := 1048576) (own_d hv76) hp2.2 (by decide) hv102
    have hp := hp3.2.1
    have hnz103 : v102 ≠ 0 := own_nzp hp
    obtain ⟨v104, hv104⟩ : ∃ z : Int64, z = ((q4 &&& (9223372036854775807 : Int64)) % v102) := ⟨_, rfl⟩
    have hk := own_key hp hv104
    have hq2 := own_dn hk.1 (own_d hv76)
    have hq1 := own_dn hq2 (own_d hv75)
    obtain ⟨T105, _, L105, X105, ⟨rfl, Nq105, A105⟩, st105⟩ := Own.callS (y := (⟨"com/example/ballast/ballast/model/CostTable", "values", "([IJ[I)V"⟩ : MethodName)) (W := 0) (argsL := [(.ref b77), (.long v104), (.ref b79)]) (rest := []) X100 hx hZ hown (hw _ (List.mem_of_getElem? (i := 2) rfl)) (hw _ (List.mem_of_getElem? (i := 3) rfl)) (hw _ (List.mem_of_getElem? (i := 4) rfl)) (hw _ (List.mem_of_getElem? (i := 5) rfl)) (by decide) e100 (rm13 l Z a0 hw [] b77 v104 b79 (fun i => if i = 2 then v76 else (fun i => if i = 1 then v75 else (fun i => if i = 0 then v74 else (fun _ => 0) i) i) i) (fun i => if i = 2 then (-1 : Int32) else (fun i => if i = 1 then (-1 : Int32) else (fun i => if i = 0 then (-1 : Int32) else (fun _ => 0) i) i) i) h100 n0 Z100 g0_b79 lt_b77_b79 (fun i hi => by match i, hi with | 0, _ => exact own_nzJ (own_d hv74) | 1, _ => exact own_nzJ (own_d hv75) | 2, _ => exact own_nzJ (own_d hv76)) f101 A100) (by decide) (by decide) (by decide) (by decide) (g := (mkF m 138 #[.val (.int p0), .val (.int p1), .val (.int p2), .val (.int p3), .val (.long q4), .second, .val (.int (3 : Int32)), .val (.int v74), .val (.int v75), .val (.int v76), .val (.ref b77), .val (.ref b79), .val (.long v102), .second, .val (.long v104), .second, .unset, .unset, .unset, .unset] [(.ref b79), (.long v104), (.ref b77)])) rfl (by rw [hml]; rfl) (lenOf pd_0 rfl) rfl (by show 2 * 0 + _ ≤ _; exact Nat.le_of_eq rfl) (hb hby at_138)
    have N105 := Fr.app N100 Nq105
    have hj106 : 0 ≤ (0 : Int32).toInt ∧ (0 : Int32).toInt < (3 : Nat) := ⟨by decide, by decide⟩
    obtain ⟨v107, hv107⟩ : ∃ z : Int32, z = ((own_v 3 v104 (fun i => if i = 2 then v76 else (fun i => if i = 1 then v75 else (fun i => if i = 0 then v74 else (fun _ => 0) i) i) i) (fun i => if i = 2 then (-1 : Int32) else (fun i => if i = 1 then (-1 : Int32) else (fun i => if i = 0 then (-1 : Int32) else (fun _ => 0) i) i) i)) 0) := ⟨_, rfl⟩
    have hw0 : v107 = (((v104 / v76.toInt64) / v75.toInt64) % v74.toInt64).toInt32 := hv107
    have hr0 := own_rng hq1 (own_d hv74) hw0
    refine hD _ (T105.setTop (mkF m 166 #[.val (.int p0), .val (.int p1), .val (.int p2), .val (.int p3), .val (.long q4), .second, .val (.int (3 : Int32)), .val (.int v74), .val (.int v75), .val (.int v76), .val (.ref b77), .val (.ref b79), .val (.long v102), .second, .val (.long v104), .second, .val (.int (1 : Int32)), .val (.long (0 : Int64)), .second, .val (.int v107)] [(.int v107), (.int (0 : Int32))])) (fun t k => ?_) ?_
    · show Steps p.tables e below (s₁.setTop (mkF m 5 #[.val (.int p0), .val (.int p1), .val (.int p2), .val (.int p3), .val (.long q4), .second, .val (.int (3 : Int32)), .unset, .unset, .unset, .unset, .unset, .unset, .unset, .unset, .unset, .unset, .unset, .unset, .unset] [])) t
      refine XS.iloadN X0.here hx rfl (hb hby at_5) rfl ?_
      show Steps p.tables e below (s₁.setTop (mkF m 6 #[.val (.int p0), .val (.int p1), .val (.int p2), .val (.int p3), .val (.long q4), .second, .val (.int (3 : Int32)), .unset, .unset, .unset, .unset, .unset, .unset, .unset, .unset, .unset, .unset, .unset, .unset, .unset] [(.int p1)])) t
      refine XS.sipush X0.here hx rfl (hb hby at_6) ?_
      show Steps p.tables e below (s₁.setTop (mkF m 9 #[.val (.int p0), .val (.int p1), .val (.int p2), .val (.int p3), .val (.long q4), .second, .val (.int (3 : Int32)), .unset, .unset, .unset, .unset, .unset, .unset, .unset, .unset, .unset, .unset, .unset, .unset, .unset] [(.int (1023 : Int32)), (.int p1)])) t
      refine XS.iand X0.here hx rfl (hb hby at_9) rfl ?_
      show Steps p.tables e below (s₁.setTop (mkF m 10 #[.val (.int p0), .val (.int p1), .val (.int p2), .val (.int p3), .val (.long q4), .second, .val (.int (3 : Int32)), .unset, .unset, .unset, .unset, .unset, .unset, .unset, .unset, .unset, .unset, .unset, .unset, .unset] [(.int (p1 &&& (1023 : Int32)))])) t
      refine XS.iconst X0.here hx rfl (hb hby at_10) ?_
      show Steps p.tables e below (s₁.setTop (mkF m 11 #[.val (.int p0), .val (.int p1), .val (.int p2), .val (.int p3), .val (.long q4), .second, .val (.int (3 : Int32)), .unset, .unset, .unset, .unset, .unset, .unset, .unset, .unset, .unset, .unset, .unset, .unset, .unset] [(.int (1 : Int32)), (.int (p1 &&& (1023 : Int32)))])) t
      refine XS.iadd X0.here hx rfl (hb hby at_11) rfl ?_
      show Steps p.tables e below (s₁.setTop (mkF m 12 #[.val (.int p0), .val (.int p1), .val (.int p2), .val (.int p3), .val (.long q4), .second, .val (.int (3 : Int32)), .unset, .unset, .unset, .unset, .unset, .unset, .unset, .unset, .unset, .unset, .unset, .unset, .unset] [(.int ((p1 &&& (1023 : Int32)) + (1 : Int32)))])) t
      refine Own.nmI hv74 ?_
      show Steps p.tables e below (s₁.setTop (mkF m 12 #[.val (.int p0), .val (.int p1), .val (.int p2), .val (.int p3), .val (.long q4), .second, .val (.int (3 : Int32)), .unset, .unset, .unset, .unset, .unset, .unset, .unset, .unset, .unset, .unset, .unset, .unset, .unset] [(.int v74)])) t
      refine XS.istore X0.here hx rfl (hb hby at_12) rfl (l' := #[.val (.int p0), .val (.int p1), .val (.int p2), .val (.int p3), .val (.long q4), .second, .val (.int (3 : Int32)), .val (.int v74), .unset, .unset, .unset, .unset, .unset, .unset, .unset, .unset, .unset, .unset, .unset, .unset]) rfl ?_
      show Steps p.tables e below (s₁.setTop (mkF m 14 #[.val (.int p0), .val (.int p1), .val (.int p2), .val (.int p3), .val (.long q4), .second, .val (.int (3 : Int32)), .val (.int v74), .unset, .unset, .unset, .unset, .unset, .unset, .unset, .unset, .unset, .unset, .unset, .unset] [])) t
      refine XS.iloadN X0.here hx rfl (hb hby at_14) rfl ?_
      show Steps p.tables e below (s₁.setTop (mkF m 15 #[.val (.int p0), .val (.int p1), .val (.int p2), .val (.int p3), .val (.long q4), .second, .val (.int (3 : Int32)), .val (.int v74), .unset, .unset, .unset, .unset, .unset, .unset, .unset, .unset, .unset, .unset, .unset, .unset] [(.int p2)])) t
      refine XS.sipush X0.here hx rfl (hb hby at_15) ?_
      show Steps p.tables e below (s₁.setTop (mkF m 18 #[.val (.int p0), .val (.int p1), .val (.int p2), .val (.int p3), .val (.long q4), .second, .val (.int (3 : Int32)), .val (.int v74), .unset, .unset, .unset, .unset, .unset, .unset, .unset, .unset, .unset, .unset, .unset, .unset] [(.int (1023 : Int32)), (.int p2)])) t
      refine XS.iand X0.here hx rfl (hb hby at_18) rfl ?_
      show Steps p.tables e below (s₁.setTop (mkF m 19 #[.val (.int p0), .val (.int p1), .val (.int p2), .val (.int p3), .val (.long q4), .second, .val (.int (3 : Int32)), .val (.int v74), .unset, .unset, .unset, .unset, .unset, .unset, .unset, .unset, .unset, .unset, .unset, .unset] [(.int (p2 &&& (1023 : Int32)))])) t
      refine XS.iconst X0.here hx rfl (hb hby at_19) ?_
      show Steps p.tables e below (s₁.setTop (mkF m 20 #[.val (.int p0), .val (.int p1), .val (.int p2), .val (.int p3), .val (.long q4), .second, .val (.int (3 : Int32)), .val (.int v74), .unset, .unset, .unset, .unset, .unset, .unset, .unset, .unset, .unset, .unset, .unset, .unset] [(.int (1 : Int32)), (.int (p2 &&& (1023 : Int32)))])) t
      refine XS.iadd X0.here hx rfl (hb hby at_20) rfl ?_
      show Steps p.tables e below (s₁.setTop (mkF m 21 #[.val (.int p0), .val (.int p1), .val (.int p2), .val (.int p3), .val (.long q4), .second, .val (.int (3 : Int32)), .val (.int v74), .unset, .unset, .unset, .unset, .unset, .unset, .unset, .unset, .unset, .unset, .unset, .unset] [(.int ((p2 &&& (1023 : Int32)) + (1 : Int32)))])) t
      refine Own.nmI hv75 ?_
      show Steps p.tables e below (s₁.setTop (mkF m 21 #[.val (.int p0), .val (.int p1), .val (.int p2), .val (.int p3), .val (.long q4), .second, .val (.int (3 : Int32)), .val (.int v74), .unset, .unset, .unset, .unset, .unset, .unset, .unset, .unset, .unset, .unset, .unset, .unset] [(.int v75)])) t
      refine XS.istore X0.here hx rfl (hb hby at_21) rfl (l' := #[.val (.int p0), .val (.int p1), .val (.int p2), .val (.int p3), .val (.long q4), .second, .val (.int (3 : Int32)), .val (.int v74), .val (.int v75), .unset, .unset, .unset, .unset, .unset, .unset, .unset, .unset, .unset, .unset, .unset]) rfl ?_
      show Steps p.tables e below (s₁.setTop (mkF m 23 #[.val (.int p0), .val (.int p1), .val (.int p2), .val (.int p3), .val (.long q4), .second, .val (.int (3 : Int32)), .val (.int v74), .val (.int v75), .unset, .unset, .unset, .unset, .unset, .unset, .unset, .unset, .unset, .unset, .unset] [])) t
      refine XS.iloadN X0.here hx rfl (hb hby at_23) rfl ?_
      show Steps p.tables e below (s₁.setTop (mkF m 24 #[.val (.int p0), .val (.int p1), .val (.int p2), .val (.int p3), .val (.long q4), .second, .val (.int (3 : Int32)), .val (.int v74), .val (.int v75), .unset, .unset, .unset, .unset, .unset, .unset, .unset, .unset, .unset, .unset, .unset] [(.int p3)])) t
      refine XS.sipush X0.here hx rfl (hb hby at_24) ?_
      show Steps p.tables e below (s₁.setTop (mkF m 27 #[.val (.int p0), .val (.int p1), .val (.int p2), .val (.int p3), .val (.long q4), .second, .val (.int (3 : Int32)), .val (.int v74), .val (.int v75), .unset, .unset, .unset, .unset, .unset, .unset, .unset, .unset, .unset, .unset, .unset] [(.int (1023 : Int32)), (.int p3)])) t
      refine XS.iand X0.here hx rfl (hb hby at_27) rfl ?_
      show Steps p.tables e below (s₁.setTop (mkF m 28 #[.val (.int p0), .val (.int p1), .val (.int p2), .val (.int p3), .val (.long q4), .second, .val (.int (3 : Int32)), .val (.int v74), .val (.int v75), .unset, .unset, .unset, .unset, .unset, .unset, .unset, .unset, .unset, .unset, .unset] [(.int (p3 &&& (1023 : Int32)))])) t
      refine XS.iconst X0.here hx rfl (hb hby at_28) ?_
      show Steps p.tables e below (s₁.setTop (mkF m 29 #[.val (.int p0), .val (.int p1), .val (.int p2), .val (.int p3), .val (.long q4), .second, .val (.int (3 : Int32)), .val (.int v74), .val (.int v75), .unset, .unset, .unset, .unset, .unset, .unset, .unset, .unset, .unset, .unset, .unset] [(.int (1 : Int32)), (.int (p3 &&& (1023 : Int32)))])) t
      refine XS.iadd X0.here hx rfl (hb hby at_29) rfl ?_
      show Steps p.tables e below (s₁.setTop (mkF m 30 #[.val (.int p0), .val (.int p1), .val (.int p2), .val (.int p3), .val (.long q4), .second, .val (.int (3 : Int32)), .val (.int v74), .val (.int v75), .unset, .unset, .unset, .unset, .unset, .unset, .unset, .unset, .unset, .unset, .unset] [(.int ((p3 &&& (1023 : Int32)) + (1 : Int32)))])) t
      refine Own.nmI hv76 ?_
      show Steps p.tables e below (s₁.setTop (mkF m 30 #[.val (.int p0), .val (.int p1), .val (.int p2), .val (.int p3), .val (.long q4), .second, .val (.int (3 : Int32)), .val (.int v74), .val (.int v75), .unset, .unset, .unset, .unset, .unset, .unset, .unset, .unset, .unset, .unset, .unset] [(.int v76)])) t
      refine XS.istore X0.here hx rfl (hb hby at_30) rfl (l' := #[.val (.int p0), .val (.int p1), .val (.int p2), .val (.int p3), .val (.long q4), .second, .val (.int (3 : Int32)), .val (.int v74), .val (.int v75), .val (.int v76), .unset, .unset, .unset, .unset, .unset, .unset, .unset, .unset, .unset, .unset]) rfl ?_
      show Steps p.tables e below (s₁.setTop (mkF m 32 #[.val (.int p0), .val (.int p1), .val (.int p2), .val (.int p3), .val (.long q4), .second, .val (.int (3 : Int32)), .val (.int v74), .val (.int v75), .val (.int v76), .unset, .unset, .unset, .unset, .unset, .unset, .unset, .unset, .unset, .unset] [])) t
      refine XS.iload X0.here hx rfl (hb hby at_32) rfl ?_
      show Steps p.tables e below (s₁.setTop (mkF m 34 #[.val (.int p0), .val (.int p1), .val (.int p2), .val (.int p3), .val (.long q4), .second, .val (.int (3 : Int32)), .val (.int v74), .val (.int v75), .val (.int v76), .unset, .unset, .unset, .unset, .unset, .unset, .unset, .unset, .unset, .unset] [(.int (3 : Int32))])) t
      refine st77 _ ?_
      show Steps p.tables e below (T77.setTop (mkF m 36 #[.val (.int p0), .val (.int p1), .val (.int p2), .val (.int p3), .val (.long q4), .second, .val (.int (3 : Int32)), .val (.int v74), .val (.int v75), .val (.int v76), .unset, .unset, .unset, .unset, .unset, .unset, .unset, .unset, .unset, .unset] [(.ref b77)])) t
      refine XS.astore X77.here hx rfl (hb hby at_36) rfl rfl (l' := #[.val (.int p0), .val (.int p1), .val (.int p2), .val (.int p3), .val (.long q4), .second, .val (.int (3 : Int32)), .val (.int v74), .val (.int v75), .val (.int v76), .val (.ref b77), .unset, .unset, .unset, .unset, .unset, .unset, .unset, .unset, .unset]) rfl ?_
      show Steps p.tables e below (T77.setTop (mkF m 38 #[.val (.int p0), .val (.int p1), .val (.int p2), .val (.int p3), .val (.long q4), .second, .val (.int (3 : Int32)), .val (.int v74), .val (.int v75), .val (.int v76), .val (.ref b77), .unset, .unset, .unset, .unset, .unset, .unset, .unset, .unset, .unset] [])) t
      refine XS.iload X77.here hx rfl (hb hby at_38) rfl ?_
      show Steps p.tables e below (T77.setTop (mkF m 40 #[.val (.int p0), .val (.int p1), .val (.int p2), .val (.int p3), .val (.long q4), .second, .val (.int (3 : Int32)), .val (.int v74), .val (.int v75), .val (.int v76), .val (.ref b77), .unset, .unset, .unset, .unset, .unset, .unset, .unset, .unset, .unset] [(.int (3 : Int32))])) t
      refine st79 _ ?_
      show Steps p.tables e below (T79.setTop (mkF m 42 #[.val (.int p0), .val (.int p1), .val (.int p2), .val (.int p3), .val (.long q4), .second, .val (.int (3 : Int32)), .val (.int v74), .val (.int v75), .val (.int v76), .val (.ref b77), .unset, .unset, .unset, .unset, .unset, .unset, .unset, .unset, .unset] [(.ref b79)])) t
      refine XS.astore X79.here hx rfl (hb hby at_42) rfl rfl (l' := #[.val (.int p0), .val (.int p1), .val (.int p2), .val (.int p3), .val (.long q4), .second, .val (.int (3 : Int32)), .val (.int v74), .val (.int v75), .val (.int v76), .val (.ref b77), .val (.ref b79), .unset, .unset, .unset, .unset, .unset, .unset, .unset, .unset]) rfl ?_
      show Steps p.tables e below (T79.setTop (mkF m 44 #[.val (.int p0), .val (.int p1), .val (.int p2), .val (.int p3), .val (.long q4), .second, .val (.int (3 : Int32)), .val (.int v74), .val (.int v75), .val (.int v76), .val (.ref b77), .val (.ref b79), .unset, .unset, .unset, .unset, .unset, .unset, .unset, .unset] [])) t
      refine XS.lconst X79.here hx rfl (hb hby at_44) ?_
      show Steps p.tables e below (T79.setTop (mkF m 45 #[.val (.int p0), .val (.int p1), .val (.int p2), .val (.int p3), .val (.long q4), .second, .val (.int (3 : Int32)), .val (.int v74), .val (.int v75), .val (.int v76), .val (.ref b77), .val (.ref b79), .unset, .unset, .unset, .unset, .unset, .unset, .unset, .unset] [(.long (1 : Int64))])) t
      refine XS.lstore X79.here hx rfl (hb hby at_45) rfl (l' := #[.val (.int p0), .val (.int p1), .val (.int p2), .val (.int p3), .val (.long q4), .second, .val (.int (3 : Int32)), .val (.int v74), .val (.int v75), .val (.int v76), .val (.ref b77), .val (.ref b79), .val (.long (1 : Int64)), .second, .unset, .unset, .unset, .unset, .unset, .unset]) rfl ?_
      show Steps p.tables e below (T79.setTop (mkF m 47 #[.val (.int p0), .val (.int p1), .val (.int p2), .val (.int p3), .val (.long q4), .second, .val (.int (3 : Int32)), .val (.int v74), .val (.int v75), .val (.int v76), .val (.ref b77), .val (.ref b79), .val (.long (1 : Int64)), .second, .unset, .unset, .unset, .unset, .unset, .unset] [])) t
      refine XS.iload X79.here hx rfl (hb hby at_47) rfl ?_
      show Steps p.tables e below (T79.setTop (mkF m 49 #[.val (.int p0), .val (.int p1), .val (.int p2), .val (.int p3), .val (.long q4), .second, .val (.int (3 : Int32)), .val (.int v74), .val (.int v75), .val (.int v76), .val (.ref b77), .val (.ref b79), .val (.long (1 : Int64)), .second, .unset, .unset, .unset, .unset, .unset, .unset] [(.int (3 : Int32))])) t
      refine XS.ifNo X79.here hx rfl (hb hby at_49) rfl (by decide) ?_
      show Steps p.tables e below (T79.setTop (mkF m 52 #[.val (.int p0), .val (.int p1), .val (.int p2), .val (.int p3), .val (.long q4), .second, .val (.int (3 : Int32)), .val (.int v74), .val (.int v75), .val (.int v76), .val (.ref b77), .val (.ref b79), .val (.long (1 : Int64)), .second, .unset, .unset, .unset, .unset, .unset, .unset] [])) t
      refine XS.aload X79.here hx rfl (hb hby at_52) rfl rfl ?_
      show Steps p.tables e below (T79.setTop (mkF m 54 #[.val (.int p0), .val (.int p1), .val (.int p2), .val (.int p3), .val (.long q4), .second, .val (.int (3 : Int32)), .val (.int v74), .val (.int v75), .val (.int v76), .val (.ref b77), .val (.ref b79), .val (.long (1 : Int64)), .second, .unset, .unset, .unset, .unset, .unset, .unset] [(.ref b77)])) t
      refine XS.iconst X79.here hx rfl (hb hby at_54) ?_
      show Steps p.tables e below (T79.setTop (mkF m 55 #[.val (.int p0), .val (.int p1), .val (.int p2), .val (.int p3), .val (.long q4), .second, .val (.int (3 : Int32)), .val (.int v74), .val (.int v75), .val (.int v76), .val (.ref b77), .val (.ref b79), .val (.long (1 : Int64)), .second, .unset, .unset, .unset, .unset, .unset, .unset] [(.int (0 : Int32)), (.ref b77)])) t
      refine XS.iload X79.here hx rfl (hb hby at_55) rfl ?_
      show Steps p.tables e below (T79.setTop (mkF m 57 #[.val (.int p0), .val (.int p1), .val (.int p2), .val (.int p3), .val (.long q4), .second, .val (.int (3 : Int32)), .val (.int v74), .val (.int v75), .val (.int v76), .val (.ref b77), .val (.ref b79), .val (.long (1 : Int64)), .second, .unset, .unset, .unset, .unset, .unset, .unset] [(.int v74), (.int (0 : Int32)), (.ref b77)])) t
      refine st83 _ ?_
      show Steps p.tables e below (T83.setTop (mkF m 58 #[.val (.int p0), .val (.int p1), .val (.int p2), .val (.int p3), .val (.long q4), .second, .val (.int (3 : Int32)), .val (.int v74), .val (.int v75), .val (.int v76), .val (.ref b77), .val (.ref b79), .val (.long (1 : Int64)), .second, .unset, .unset, .unset, .unset, .unset, .unset] [])) t
      refine XS.aload X83.here hx rfl (hb hby at_58) rfl rfl ?_
      show Steps p.tables e below (T83.setTop (mkF m 60 #[.val (.int p0), .val (.int p1), .val (.int p2), .val (.int p3), .val (.long q4), .second, .val (.int (3 : Int32)), .val (.int v74), .val (.int v75), .val (.int v76), .val (.ref b77), .val (.ref b79), .val (.long (1 : Int64)), .second, .unset, .unset, .unset, .unset, .unset, .unset] [(.ref b79)])) t
      refine XS.iconst X83.here hx rfl (hb hby at_60) ?_
      show Steps p.tables e below (T83.setTop (mkF m 61 #[.val (.int p0), .val (.int p1), .val (.int p2), .val (.int p3), .val (.long q4), .second, .val (.int (3 : Int32)), .val (.int v74), .val (.int v75), .val (.int v76), .val (.ref b77), .val (.ref b79), .val (.long (1 : Int64)), .second, .unset, .unset, .unset, .unset, .unset, .unset] [(.int (0 : Int32)), (.ref b79)])) t
      refine XS.iconst X83.here hx rfl (hb hby at_61) ?_
      show Steps p.tables e below (T83.setTop (mkF m 62 #[.val (.int p0), .val (.int p1), .val (.int p2), .val (.int p3), .val (.long q4), .second, .val (.int (3 : Int32)), .val (.int v74), .val (.int v75), .val (.int v76), .val (.ref b77), .val (.ref b79), .val (.long (1 : Int64)), .second, .unset, .unset, .unset, .unset, .unset, .unset] [(.int (-1 : Int32)), (.int (0 : Int32)), (.ref b79)])) t
      refine st86 _ ?_
      show Steps p.tables e below (T86.setTop (mkF m 63 #[.val (.int p0), .val (.int p1), .val (.int p2), .val (.int p3), .val (.long q4), .second, .val (.int (3 : Int32)), .val (.int v74), .val (.int v75), .val (.int v76), .val (.ref b77), .val (.ref b79), .val (.long (1 : Int64)), .second, .unset, .unset, .unset, .unset, .unset, .unset] [])) t
      refine XS.lload X86.here hx rfl (hb hby at_63) rfl ?_
      show Steps p.tables e below (T86.setTop (mkF m 65 #[.val (.int p0), .val (.int p1), .val (.int p2), .val (.int p3), .val (.long q4), .second, .val (.int (3 : Int32)), .val (.int v74), .val (.int v75), .val (.int v76), .val (.ref b77), .val (.ref b79), .val (.long (1 : Int64)), .second, .unset, .unset, .unset, .unset, .unset, .unset] [(.long (1 : Int64))])) t
      refine XS.iload X86.here hx rfl (hb hby at_65) rfl ?_
      show Steps p.tables e below (T86.setTop (mkF m 67 #[.val (.int p0), .val (.int p1), .val (.int p2), .val (.int p3), .val (.long q4), .second, .val (.int (3 : Int32)), .val (.int v74), .val (.int v75), .val (.int v76), .val (.ref b77), .val (.ref b79), .val (.long (1 : Int64)), .second, .unset, .unset, .unset, .unset, .unset, .unset] [(.int v74), (.long (1 : Int64))])) t
      refine XS.i2l X86.here hx rfl (hb hby at_67) rfl ?_
      show Steps p.tables e below (T86.setTop (mkF m 68 #[.val (.int p0), .val (.int p1), .val (.int p2), .val (.int p3), .val (.long q4), .second, .val (.int (3 : Int32)), .val (.int v74), .val (.int v75), .val (.int v76), .val (.ref b77), .val (.ref b79), .val (.long (1 : Int64)), .second, .unset, .unset, .unset, .unset, .unset, .unset] [(.long (v74.toInt64)), (.long (1 : Int64))])) t
      refine XS.lmul X86.here hx rfl (hb hby at_68) rfl ?_
      show Steps p.tables e below (T86.setTop (mkF m 69 #[.val (.int p0), .val (.int p1), .val (.int p2), .val (.int p3), .val (.long q4), .second, .val (.int (3 : Int32)), .val (.int v74), .val (.int v75), .val (.int v76), .val (.ref b77), .val (.ref b79), .val (.long (1 : Int64)), .second, .unset, .unset, .unset, .unset, .unset, .unset] [(.long ((1 : Int64) * (v74.toInt64)))])) t
      refine Own.nmJ hv88 ?_
      show Steps p.tables e below (T86.setTop (mkF m 69 #[.val (.int p0), .val (.int p1), .val (.int p2), .val (.int p3), .val (.long q4), .second, .val (.int (3 : Int32)), .val (.int v74), .val (.int v75), .val (.int v76), .val (.ref b77), .val (.ref b79), .val (.long (1 : Int64)), .second, .unset, .unset, .unset, .unset, .unset, .unset] [(.long v88)])) t
      refine XS.lstore X86.here hx rfl (hb hby at_69) rfl (l' := #[.val (.int p0), .val (.int p1), .val (.int p2), .val (.int p3), .val (.long q4), .second, .val (.int (3 : Int32)), .val (.int v74), .val (.int v75), .val (.int v76), .val (.ref b77), .val (.ref b79), .val (.long v88), .second, .unset, .unset, .unset, .unset, .unset, .unset]) rfl ?_
      show Steps p.tables e below (T86.setTop (mkF m 71 #[.val (.int p0), .val (.int p1), .val (.int p2), .val (.int p3), .val (.long q4), .second, .val (.int (3 : Int32)), .val (.int v74), .val (.int v75), .val (.int v76), .val (.ref b77), .val (.ref b79), .val (.long v88), .second, .unset, .unset, .unset, .unset, .unset, .unset] [])) t
      refine XS.iload X86.here hx rfl (hb hby at_71) rfl ?_
      show Steps p.tables e below (T86.setTop (mkF m 73 #[.val (.int p0), .val (.int p1), .val (.int p2), .val (.int p3), .val (.long q4), .second, .val (.int (3 : Int32)), .val (.int v74), .val (.int v75), .val (.int v76), .val (.ref b77), .val (.ref b79), .val (.long v88), .second, .unset, .unset, .unset, .unset, .unset, .unset] [(.int (3 : Int32))])) t
      refine XS.iconst X86.here hx rfl (hb hby at_73) ?_
      show Steps p.tables e below (T86.setTop (mkF m 74 #[.val (.int p0), .val (.int p1), .val (.int p2), .val (.int p3), .val (.long q4), .second, .val (.int (3 : Int32)), .val (.int v74), .val (.int v75), .val (.int v76), .val (.ref b77), .val (.ref b79), .val (.long v88), .second, .unset, .unset, .unset, .unset, .unset, .unset] [(.int (1 : Int32)), (.int (3 : Int32))])) t
      refine XS.icmpNo X86.here hx rfl (hb hby at_74) rfl (by decide) ?_
      show Steps p.tables e below (T86.setTop (mkF m 77 #[.val (.int p0), .val (.int p1), .val (.int p2), .val (.int p3), .val (.long q4), .second, .val (.int (3 : Int32)), .val (.int v74), .val (.int v75), .val (.int v76), .val (.ref b77), .val (.ref b79), .val (.long v88), .second, .unset, .unset, .unset, .unset, .unset, .unset] [])) t
      refine XS.aload X86.here hx rfl (hb hby at_77) rfl rfl ?_
      show Steps p.tables e below (T86.setTop (mkF m 79 #[.val (.int p0), .val (.int p1), .val (.int p2), .val (.int p3), .val (.long q4), .second, .val (.int (3 : Int32)), .val (.int v74), .val (.int v75), .val (.int v76), .val (.ref b77), .val (.ref b79), .val (.long v88), .second, .unset, .unset, .unset, .unset, .unset, .unset] [(.ref b77)])) t
      refine XS.iconst X86.here hx rfl (hb hby at_79) ?_
      show Steps p.tables e below (T86.setTop (mkF m 80 #[.val (.int p0), .val (.int p1), .val (.int p2), .val (.int p3), .val (.long q4), .second, .val (.int (3 : Int32)), .val (.int v74), .val (.int v75), .val (.int v76), .val (.ref b77), .val (.ref b79), .val (.long v88), .second, .unset, .unset, .unset, .unset, .unset, .unset] [(.int (1 : Int32)), (.ref b77)])) t
      refine XS.iload X86.here hx rfl (hb hby at_80) rfl ?_
      show Steps p.tables e below (T86.setTop (mkF m 82 #[.val (.int p0), .val (.int p1), .val (.int p2), .val (.int p3), .val (.long q4), .second, .val (.int (3 : Int32)), .val (.int v74), .val (.int v75), .val (.int v76), .val (.ref b77), .val (.ref b79), .val (.long v88), .second, .unset, .unset, .unset, .unset, .unset, .unset] [(.int v75), (.int (1 : Int32)), (.ref b77)])) t
      refine st90 _ ?_
      show Steps p.tables e below (T90.setTop (mkF m 83 #[.val (.int p0), .val (.int p1), .val (.int p2), .val (.int p3), .val (.long q4), .second, .val (.int (3 : Int32)), .val (.int v74), .val (.int v75), .val (.int v76), .val (.ref b77), .val (.ref b79), .val (.long v88), .second, .unset, .unset, .unset, .unset, .unset, .unset] [])) t
      refine XS.aload X90.here hx rfl (hb hby at_83) rfl rfl ?_
      show Steps p.tables e below (T90.setTop (mkF m 85 #[.val (.int p0), .val (.int p1), .val (.int p2), .val (.int p3), .val (.long q4), .second, .val (.int (3 : Int32)), .val (.int v74), .val (.int v75), .val (.int v76), .val (.ref b77), .val (.ref b79), .val (.long v88), .second, .unset, .unset, .unset, .unset, .unset, .unset] [(.ref b79)])) t
      refine XS.iconst X90.here hx rfl (hb hby at_85) ?_
      show Steps p.tables e below (T90.setTop (mkF m 86 #[.val (.int p0), .val (.int p1), .val (.int p2), .val (.int p3), .val (.long q4), .second, .val (.int (3 : Int32)), .val (.int v74), .val (.int v75), .val (.int v76), .val (.ref b77), .val (.ref b79), .val (.long v88), .second, .unset, .unset, .unset, .unset, .unset, .unset] [(.int (1 : Int32)), (.ref b79)])) t
      refine XS.iconst X90.here hx rfl (hb hby at_86) ?_
      show Steps p.tables e below (T90.setTop (mkF m 87 #[.val (.int p0), .val (.int p1), .val (.int p2), .val (.int p3), .val (.long q4), .second, .val (.int (3 : Int32)), .val (.int v74), .val (.int v75), .val (.int v76), .val (.ref b77), .val (.ref b79), .val (.long v88), .second, .unset, .unset, .unset, .unset, .unset, .unset] [(.int (-1 : Int32)), (.int (1 : Int32)), (.ref b79)])) t
      refine st93 _ ?_
      show Steps p.tables e below (T93.setTop (mkF m 88 #[.val (.int p0), .val (.int p1), .val (.int p2), .val (.int p3), .val (.long q4), .second, .val (.int (3 : Int32)), .val (.int v74), .val (.int v75), .val (.int v76), .val (.ref b77), .val (.ref b79), .val (.long v88), .second, .unset, .unset, .unset, .unset, .unset, .unset] [])) t
      refine XS.lload X93.here hx rfl (hb hby at_88) rfl ?_
      show Steps p.tables e below (T93.setTop (mkF m 90 #[.val (.int p0), .val (.int p1), .val (.int p2), .val (.int p3), .val (.long q4), .second, .val (.int (3 : Int32)), .val (.int v74), .val (.int v75), .val (.int v76), .val (.ref b77), .val (.ref b79), .val (.long v88), .second, .unset, .unset, .unset, .unset, .unset, .unset] [(.long v88)])) t
      refine XS.iload X93.here hx rfl (hb hby at_90) rfl ?_
      show Steps p.tables e below (T93.setTop (mkF m 92 #[.val (.int p0), .val (.int p1), .val (.int p2), .val (.int p3), .val (.long q4), .second, .val (.int (3 : Int32)), .val (.int v74), .val (.int v75), .val (.int v76), .val (.ref b77), .val (.ref b79), .val (.long v88), .second, .unset, .unset, .unset, .unset, .unset, .unset] [(.int v75), (.long v88)])) t
      refine XS.i2l X93.here hx rfl (hb hby at_92) rfl ?_
      show Steps p.tables e below (T93.setTop (mkF m 93 #[.val (.int p0), .val (.int p1), .val (.int p2), .val (.int p3), .val (.long q4), .second, .val (.int (3 : Int32)), .val (.int v74), .val (.int v75), .val (.int v76), .val (.ref b77), .val (.ref b79), .val (.long v88), .second, .unset, .unset, .unset, .unset, .unset, .unset] [(.long (v75.toInt64)), (.long v88)])) t
      refine XS.lmul X93.here hx rfl (hb hby at_93) rfl ?_
      show Steps p.tables e below (T93.setTop (mkF m 94 #[.val (.int p0), .val (.int p1), .val (.int p2), .val (.int p3), .val (.long q4), .second, .val (.int (3 : Int32)), .val (.int v74), .val (.int v75), .val (.int v76), .val (.ref b77), .val (.ref b79), .val (.long v88), .second, .unset, .unset, .unset, .unset, .unset, .unset] [(.long (v88 * (v75.toInt64)))])) t
      refine Own.nmJ hv95 ?_
      show Steps p.tables e below (T93.setTop (mkF m 94 #[.val (.int p0), .val (.int p1), .val (.int p2), .val (.int p3), .val (.long q4), .second, .val (.int (3 : Int32)), .val (.int v74), .val (.int v75), .val (.int v76), .val (.ref b77), .val (.ref b79), .val (.long v88), .second, .unset, .unset, .unset, .unset, .unset, .unset] [(.long v95)])) t
      refine XS.lstore X93.here hx rfl (hb hby at_94) rfl (l' := #[.val (.int p0), .val (.int p1), .val (.int p2), .val (.int p3), .val (.long q4), .second, .val (.int (3 : Int32)), .val (.int v74), .val (.int v75), .val (.int v76), .val (.ref b77), .val (.ref b79), .val (.long v95), .second, .unset, .unset, .unset, .unset, .unset, .unset]) rfl ?_
      show Steps p.tables e below (T93.setTop (mkF m 96 #[.val (.int p0), .val (.int p1), .val (.int p2), .val (.int p3), .val (.long q4), .second, .val (.int (3 : Int32)), .val (.int v74), .val (.int v75), .val (.int v76), .val (.ref b77), .val (.ref b79), .val (.long v95), .second, .unset, .unset, .unset, .unset, .unset, .unset] [])) t
      refine XS.iload X93.here hx rfl (hb hby at_96) rfl ?_
      show Steps p.tables e below (T93.setTop (mkF m 98 #[.val (.int p0), .val (.int p1), .val (.int p2), .val (.int p3), .val (.long q4), .second, .val (.int (3 : Int32)), .val (.int v74), .val (.int v75), .val (.int v76), .val (.ref b77), .val (.ref b79), .val (.long v95), .second, .unset, .unset, .unset, .unset, .unset, .unset] [(.int (3 : Int32))])) t
      refine XS.iconst X93.here hx rfl (hb hby at_98) ?_
      show Steps p.tables e below (T93.setTop (mkF m 99 #[.val (.int p0), .val (.int p1), .val (.int p2), .val (.int p3), .val (.long q4), .second, .val (.int (3 : Int32)), .val (.int v74), .val (.int v75), .val (.int v76), .val (.ref b77), .val (.ref b79), .val (.long v95), .second, .unset, .unset, .unset, .unset, .unset, .unset] [(.int (2 : Int32)), (.int (3 : Int32))])) t
      refine XS.icmpNo X93.here hx rfl (hb hby at_99) rfl (by decide) ?_
      show Steps p.tables e below (T93.setTop (mkF m 102 #[.val (.int p0), .val (.int p1), .val (.int p2), .val (.int p3), .val (.long q4), .second, .val (.int (3 : Int32)), .val (.int v74), .val (.int v75), .val (.int v76), .val (.ref b77), .val (.ref b79), .val (.long v95), .second, .unset, .unset, .unset, .unset, .unset, .unset] [])) t
      refine XS.aload X93.here hx rfl (hb hby at_102) rfl rfl ?_
      show Steps p.tables e below (T93.setTop (mkF m 104 #[.val (.int p0), .val (.int p1), .val (.int p2), .val (.int p3), .val (.long q4), .second, .val (.int (3 : Int32)), .val (.int v74), .val (.int v75), .val (.int v76), .val (.ref b77), .val (.ref b79), .val (.long v95), .second, .unset, .unset, .unset, .unset, .unset, .unset] [(.ref b77)])) t
      refine XS.iconst X93.here hx rfl (hb hby at_104) ?_
      show Steps p.tables e below (T93.setTop (mkF m 105 #[.val (.int p0), .val (.int p1), .val (.int p2), .val (.int p3), .val (.long q4), .second, .val (.int (3 : Int32)), .val (.int v74), .val (.int v75), .val (.int v76), .val (.ref b77), .val (.ref b79), .val (.long v95), .second, .unset, .unset, .unset, .unset, .unset, .unset] [(.int (2 : Int32)), (.ref b77)])) t
      refine XS.iload X93.here hx rfl (hb hby at_105) rfl ?_
      show Steps p.tables e below (T93.setTop (mkF m 107 #[.val (.int p0), .val (.int p1), .val (.int p2), .val (.int p3), .val (.long q4), .second, .val (.int (3 : Int32)), .val (.int v74), .val (.int v75), .val (.int v76), .val (.ref b77), .val (.ref b79), .val (.long v95), .second, .unset, .unset, .unset, .unset, .unset, .unset] [(.int v76), (.int (2 : Int32)), (.ref b77)])) t
      refine st97 _ ?_
      show Steps p.tables e below (T97.setTop (mkF m 108 #[.val (.int p0), .val (.int p1), .val (.int p2), .val (.int p3), .val (.long q4), .second, .val (.int (3 : Int32)), .val (.int v74), .val (.int v75), .val (.int v76), .val (.ref b77), .val (.ref b79), .val (.long v95), .second, .unset, .unset, .unset, .unset, .unset, .unset] [])) t
      refine XS.aload X97.here hx rfl (hb hby at_108) rfl rfl ?_
      show Steps p.tables e below (T97.setTop (mkF m 110 #[.val (.int p0), .val (.int p1), .val (.int p2), .val (.int p3), .val (.long q4), .second, .val (.int (3 : Int32)), .val (.int v74), .val (.int v75), .val (.int v76), .val (.ref b77), .val (.ref b79), .val (.long v95), .second, .unset, .unset, .unset, .unset, .unset, .unset] [(.ref b79)])) t
      refine XS.iconst X97.here hx rfl (hb hby at_110) ?_
      show Steps p.tables e below (T97.setTop (mkF m 111 #[.val (.int p0), .val (.int p1), .val (.int p2), .val (.int p3), .val (.long q4), .second, .val (.int (3 : Int32)), .val (.int v74), .val (.int v75), .val (.int v76), .val (.ref b77), .val (.ref b79), .val (.long v95), .second, .unset, .unset, .unset, .unset, .unset, .unset] [(.int (2 : Int32)), (.ref b79)])) t
      refine XS.iconst X97.here hx rfl (hb hby at_111) ?_
      show Steps p.tables e below (T97.setTop (mkF m 112 #[.val (.int p0), .val (.int p1), .val (.int p2), .val (.int p3), .val (.long q4), .second, .val (.int (3 : Int32)), .val (.int v74), .val (.int v75), .val (.int v76), .val (.ref b77), .val (.ref b79), .val (.long v95), .second, .unset, .unset, .unset, .unset, .unset, .unset] [(.int (-1 : Int32)), (.int (2 : Int32)), (.ref b79)])) t
      refine st100 _ ?_
      show Steps p.tables e below (T100.setTop (mkF m 113 #[.val (.int p0), .val (.int p1), .val (.int p2), .val (.int p3), .val (.long q4), .second, .val (.int (3 : Int32)), .val (.int v74), .val (.int v75), .val (.int v76), .val (.ref b77), .val (.ref b79), .val (.long v95), .second, .unset, .unset, .unset, .unset, .unset, .unset] [])) t
      refine XS.lload X100.here hx rfl (hb hby at_113) rfl ?_
      show Steps p.tables e below (T100.setTop (mkF m 115 #[.val (.int p0), .val (.int p1), .val (.int p2), .val (.int p3), .val (.long q4), .second, .val (.int (3 : Int32)), .val (.int v74), .val (.int v75), .val (.int v76), .val (.ref b77), .val (.ref b79), .val (.long v95), .second, .unset, .unset, .unset, .unset, .unset, .unset] [(.long v95)])) t
      refine XS.iload X100.here hx rfl (hb hby at_115) rfl ?_
      show Steps p.tables e below (T100.setTop (mkF m 117 #[.val (.int p0), .val (.int p1), .val (.int p2), .val (.int p3), .val (.long q4), .second, .val (.int (3 : Int32)), .val (.int v74), .val (.int v75), .val (.int v76), .val (.ref b77), .val (.ref b79), .val (.long v95), .second, .unset, .unset, .unset, .unset, .unset, .unset] [(.int v76), (.long v95)])) t
      refine XS.i2l X100.here hx rfl (hb hby at_117) rfl ?_
      show Steps p.tables e below (T100.setTop (mkF m 118 #[.val (.int p0), .val (.int p1), .val (.int p2), .val (.int p3), .val (.long q4), .second, .val (.int (3 : Int32)), .val (.int v74), .val (.int v75), .val (.int v76), .val (.ref b77), .val (.ref b79), .val (.long v95), .second, .unset, .unset, .unset, .unset, .unset, .unset] [(.long (v76.toInt64)), (.long v95)])) t
      refine XS.lmul X100.here hx rfl (hb hby at_118) rfl ?_
      show Steps p.tables e below (T100.setTop (mkF m 119 #[.val (.int p0), .val (.int p1), .val (.int p2), .val (.int p3), .val (.long q4), .second, .val (.int (3 : Int32)), .val (.int v74), .val (.int v75), .val (.int v76), .val (.ref b77), .val (.ref b79), .val (.long v95), .second, .unset, .unset, .unset, .unset, .unset, .unset] [(.long (v95 * (v76.toInt64)))])) t
      refine Own.nmJ hv102 ?_
      show Steps p.tables e below (T100.setTop (mkF m 119 #[.val (.int p0), .val (.int p1), .val (.int p2), .val (.int p3), .val (.long q4), .second, .val (.int (3 : Int32)), .val (.int v74), .val (.int v75), .val (.int v76), .val (.ref b77), .val (.ref b79), .val (.long v95), .second, .unset, .unset, .unset, .unset, .unset, .unset] [(.long v102)])) t
      refine XS.lstore X100.here hx rfl (hb hby at_119) rfl (l' := #[.val (.int p0), .val (.int p1), .val (.int p2), .val (.int p3), .val (.long q4), .second, .val (.int (3 : Int32)), .val (.int v74), .val (.int v75), .val (.int v76), .val (.ref b77), .val (.ref b79), .val (.long v102), .second, .unset, .unset, .unset, .unset, .unset, .unset]) rfl ?_
      show Steps p.tables e below (T100.setTop (mkF m 121 #[.val (.int p0), .val (.int p1), .val (.int p2), .val (.int p3), .val (.long q4), .second, .val (.int (3 : Int32)), .val (.int v74), .val (.int v75), .val (.int v76), .val (.ref b77), .val (.ref b79), .val (.long v102), .second, .unset, .unset, .unset, .unset, .unset, .unset] [])) t
      refine XS.lload X100.here hx rfl (hb hby at_121) rfl ?_
      show Steps p.tables e below (T100.setTop (mkF m 123 #[.val (.int p0), .val (.int p1), .val (.int p2), .val (.int p3), .val (.long q4), .second, .val (.int (3 : Int32)), .val (.int v74), .val (.int v75), .val (.int v76), .val (.ref b77), .val (.ref b79), .val (.long v102), .second, .unset, .unset, .unset, .unset, .unset, .unset] [(.long q4)])) t
      refine X100.ldc2Long hx hown (mvT hZ (hw _ (List.mem_of_getElem? (i := 1) rfl))) (g := (mkF m 123 #[.val (.int p0), .val (.int p1), .val (.int p2), .val (.int p3), .val (.long q4), .second, .val (.int (3 : Int32)), .val (.int v74), .val (.int v75), .val (.int v76), .val (.ref b77), .val (.ref b79), .val (.long v102), .second, .unset, .unset, .unset, .unset, .unset, .unset] [(.long q4)])) rfl (hb hby at_123) _ ?_
      show Steps p.tables e below (T100.setTop (mkF m 126 #[.val (.int p0), .val (.int p1), .val (.int p2), .val (.int p3), .val (.long q4), .second, .val (.int (3 : Int32)), .val (.int v74), .val (.int v75), .val (.int v76), .val (.ref b77), .val (.ref b79), .val (.long v102), .second, .unset, .unset, .unset, .unset, .unset, .unset] [(.long (9223372036854775807 : Int64)), (.long q4)])) t
      refine XS.land X100.here hx rfl (hb hby at_126) rfl ?_
      show Steps p.tables e below (T100.setTop (mkF m 127 #[.val (.int p0), .val (.int p1), .val (.int p2), .val (.int p3), .val (.long q4), .second, .val (.int (3 : Int32)), .val (.int v74), .val (.int v75), .val (.int v76), .val (.ref b77), .val (.ref b79), .val (.long v102), .second, .unset, .unset, .unset, .unset, .unset, .unset] [(.long (q4 &&& (9223372036854775807 : Int64)))])) t
      refine XS.lload X100.here hx rfl (hb hby at_127) rfl ?_
      show Steps p.tables e below (T100.setTop (mkF m 129 #[.val (.int p0), .val (.int p1), .val (.int p2), .val (.int p3), .val (.long q4), .second, .val (.int (3 : Int32)), .val (.int v74), .val (.int v75), .val (.int v76), .val (.ref b77), .val (.ref b79), .val (.long v102), .second, .unset, .unset, .unset, .unset, .unset, .unset] [(.long v102), (.long (q4 &&& (9223372036854775807 : Int64)))])) t
      refine Own.lremM (g := (mkF m 129 #[.val (.int p0), .val (.int p1), .val (.int p2), .val (.int p3), .val (.long q4), .second, .val (.int (3 : Int32)), .val (.int v74), .val (.int v75), .val (.int v76), .val (.ref b77), .val (.ref b79), .val (.long v102), .second, .unset, .unset, .unset, .unset, .unset, .unset] [(.long v102), (.long (q4 &&& (9223372036854775807 : Int64)))])) X100 hx rfl (hb hby at_129) rfl hnz103 ?_
      show Steps p.tables e below (T100.setTop (mkF m 130 #[.val (.int p0), .val (.int p1), .val (.int p2), .val (.int p3), .val (.long q4), .second, .val (.int (3 : Int32)), .val (.int v74), .val (.int v75), .val (.int v76), .val (.ref b77), .val (.ref b79), .val (.long v102), .second, .unset, .unset, .unset, .unset, .unset, .unset] [(.long ((q4 &&& (9223372036854775807 : Int64)) % v102))])) t
      refine Own.nmJ hv104 ?_
      show Steps p.tables e below (T100.setTop (mkF m 130 #[.val (.int p0), .val (.int p1), .val (.int p2), .val (.int p3), .val (.long q4), .second, .val (.int (3 : Int32)), .val (.int v74), .val (.int v75), .val (.int v76), .val (.ref b77), .val (.ref b79), .val (.long v102), .second, .unset, .unset, .unset, .unset, .unset, .unset] [(.long v104)])) t
      refine XS.lstore X100.here hx rfl (hb hby at_130) rfl (l' := #[.val (.int p0), .val (.int p1), .val (.int p2), .val (.int p3), .val (.long q4), .second, .val (.int (3 : Int32)), .val (.int v74), .val (.int v75), .val (.int v76), .val (.ref b77), .val (.ref b79), .val (.long v102), .second, .val (.long v104), .second, .unset, .unset, .unset, .unset]) rfl ?_
      show Steps p.tables e below (T100.setTop (mkF m 132 #[.val (.int p0), .val (.int p1), .val (.int p2), .val (.int p3), .val (.long q4), .second, .val (.int (3 : Int32)), .val (.int v74), .val (.int v75), .val (.int v76), .val (.ref b77), .val (.ref b79), .val (.long v102), .second, .val (.long v104), .second, .unset, .unset, .unset, .unset] [])) t
      refine XS.aload X100.here hx rfl (hb hby at_132) rfl rfl ?_
      show Steps p.tables e below (T100.setTop (mkF m 134 #[.val (.int p0), .val (.int p1), .val (.int p2), .val (.int p3), .val (.long q4), .second, .val (.int (3 : Int32)), .val (.int v74), .val (.int v75), .val (.int v76), .val (.ref b77), .val (.ref b79), .val (.long v102), .second, .val (.long v104), .second, .unset, .unset, .unset, .unset] [(.ref b77)])) t
      refine XS.lload X100.here hx rfl (hb hby at_134) rfl ?_
      show Steps p.tables e below (T100.setTop (mkF m 136 #[.val (.int p0), .val (.int p1), .val (.int p2), .val (.int p3), .val (.long q4), .second, .val (.int (3 : Int32)), .val (.int v74), .val (.int v75), .val (.int v76), .val (.ref b77), .val (.ref b79), .val (.long v102), .second, .val (.long v104), .second, .unset, .unset, .unset, .unset] [(.long v104), (.ref b77)])) t
      refine XS.aload X100.here hx rfl (hb hby at_136) rfl rfl ?_
      show Steps p.tables e below (T100.setTop (mkF m 138 #[.val (.int p0), .val (.int p1), .val (.int p2), .val (.int p3), .val (.long q4), .second, .val (.int (3 : Int32)), .val (.int v74), .val (.int v75), .val (.int v76), .val (.ref b77), .val (.ref b79), .val (.long v102), .second, .val (.long v104), .second, .unset, .unset, .unset, .unset] [(.ref b79), (.long v104), (.ref b77)])) t
      refine st105 _ ?_
      show Steps p.tables e below (T105.setTop (mkF m 141 #[.val (.int p0), .val (.int p1), .val (.int p2), .val (.int p3), .val (.long q4), .second, .val (.int (3 : Int32)), .val (.int v74), .val (.int v75), .val (.int v76), .val (.ref b77), .val (.ref b79), .val (.long v102), .second, .val (.long v104), .second, .unset, .unset, .unset, .unset] [])) t
      refine XS.iconst X105.here hx rfl (hb hby at_141) ?_
      show Steps p.tables e below (T105.setTop (mkF m 142 #[.val (.int p0), .val (.int p1), .val (.int p2), .val (.int p3), .val (.long q4), .second, .val (.int (3 : Int32)), .val (.int v74), .val (.int v75), .val (.int v76), .val (.ref b77), .val (.ref b79), .val (.long v102), .second, .val (.long v104), .second, .unset, .unset, .unset, .unset] [(.int (1 : Int32))])) t
      refine XS.istore X105.here hx rfl (hb hby at_142) rfl (l' := #[.val (.int p0), .val (.int p1), .val (.int p2), .val (.int p3), .val (.long q4), .second, .val (.int (3 : Int32)), .val (.int v74), .val (.int v75), .val (.int v76), .val (.ref b77), .val (.ref b79), .val (.long v102), .second, .val (.long v104), .second, .val (.int (1 : Int32)), .unset, .unset, .unset]) rfl ?_
      show Steps p.tables e below (T105.setTop (mkF m 144 #[.val (.int p0), .val (.int p1), .val (.int p2), .val (.int p3), .val (.long q4), .second, .val (.int (3 : Int32)), .val (.int v74), .val (.int v75), .val (.int v76), .val (.ref b77), .val (.ref b79), .val (.long v102), .second, .val (.long v104), .second, .val (.int (1 : Int32)), .unset, .unset, .unset] [])) t
      refine XS.lconst X105.here hx rfl (hb hby at_144) ?_
      show Steps p.tables e below (T105.setTop (mkF m 145 #[.val (.int p0), .val (.int p1), .val (.int p2), .val (.int p3), .val (.long q4), .second, .val (.int (3 : Int32)), .val (.int v74), .val (.int v75), .val (.int v76), .val (.ref b77), .val (.ref b79), .val (.long v102), .second, .val (.long v104), .second, .val (.int (1 : Int32)), .unset, .unset, .unset] [(.long (0 : Int64))])) t
      refine XS.lstore X105.here hx rfl (hb hby at_145) rfl (l' := #[.val (.int p0), .val (.int p1), .val (.int p2), .val (.int p3), .val (.long q4), .second, .val (.int (3 : Int32)), .val (.int v74), .val (.int v75), .val (.int v76), .val (.ref b77), .val (.ref b79), .val (.long v102), .second, .val (.long v104), .second, .val (.int (1 : Int32)), .val (.long (0 : Int64)), .second, .unset]) rfl ?_
      show Steps p.tables e below (T105.setTop (mkF m 147 #[.val (.int p0), .val (.int p1), .val (.int p2), .val (.int p3), .val (.long q4), .second, .val (.int (3 : Int32)), .val (.int v74), .val (.int v75), .val (.int v76), .val (.ref b77), .val (.ref b79), .val (.long v102), .second, .val (.long v104), .second, .val (.int (1 : Int32)), .val (.long (0 : Int64)), .second, .unset] [])) t
      refine XS.iload X105.here hx rfl (hb hby at_147) rfl ?_
      show Steps p.tables e below (T105.setTop (mkF m 149 #[.val (.int p0), .val (.int p1), .val (.int p2), .val (.int p3), .val (.long q4), .second, .val (.int (3 : Int32)), .val (.int v74), .val (.int v75), .val (.int v76), .val (.ref b77), .val (.ref b79), .val (.long v102), .second, .val (.long v104), .second, .val (.int (1 : Int32)), .val (.long (0 : Int64)), .second, .unset] [(.int (3 : Int32))])) t
      refine XS.ifNo X105.here hx rfl (hb hby at_149) rfl (by decide) ?_
      show Steps p.tables e below (T105.setTop (mkF m 152 #[.val (.int p0), .val (.int p1), .val (.int p2), .val (.int p3), .val (.long q4), .second, .val (.int (3 : Int32)), .val (.int v74), .val (.int v75), .val (.int v76), .val (.ref b77), .val (.ref b79), .val (.long v102), .second, .val (.long v104), .second, .val (.int (1 : Int32)), .val (.long (0 : Int64)), .second, .unset] [])) t
      refine XS.aload X105.here hx rfl (hb hby at_152) rfl rfl ?_
      show Steps p.tables e below (T105.setTop (mkF m 154 #[.val (.int p0), .val (.int p1), .val (.int p2), .val (.int p3), .val (.long q4), .second, .val (.int (3 : Int32)), .val (.int v74), .val (.int v75), .val (.int v76), .val (.ref b77), .val (.ref b79), .val (.long v102), .second, .val (.long v104), .second, .val (.int (1 : Int32)), .val (.long (0 : Int64)), .second, .unset] [(.ref b79)])) t
      refine XS.iconst X105.here hx rfl (hb hby at_154) ?_
      show Steps p.tables e below (T105.setTop (mkF m 155 #[.val (.int p0), .val (.int p1), .val (.int p2), .val (.int p3), .val (.long q4), .second, .val (.int (3 : Int32)), .val (.int v74), .val (.int v75), .val (.int v76), .val (.ref b77), .val (.ref b79), .val (.long v102), .second, .val (.long v104), .second, .val (.int (1 : Int32)), .val (.long (0 : Int64)), .second, .unset] [(.int (0 : Int32)), (.ref b79)])) t
      refine Own.ldI X105 hx hZ rfl A105 hj106 (g := (mkF m 155 #[.val (.int p0), .val (.int p1), .val (.int p2), .val (.int p3), .val (.long q4), .second, .val (.int (3 : Int32)), .val (.int v74), .val (.int v75), .val (.int v76), .val (.ref b77), .val (.ref b79), .val (.long v102), .second, .val (.long v104), .second, .val (.int (1 : Int32)), .val (.long (0 : Int64)), .second, .unset] [(.int (0 : Int32)), (.ref b79)])) rfl rfl (hb hby at_155) _ ?_
      show Steps p.tables e below (T105.setTop (mkF m 156 #[.val (.int p0), .val (.int p1), .val (.int p2), .val (.int p3), .val (.long q4), .second, .val (.int (3 : Int32)), .val (.int v74), .val (.int v75), .val (.int v76), .val (.ref b77), .val (.ref b79), .val (.long v102), .second, .val (.long v104), .second, .val (.int (1 : Int32)), .val (.long (0 : Int64)), .second, .unset] [(.int ((own_v 3 v104 (fun i => if i = 2 then v76 else (fun i => if i = 1 then v75 else (fun i => if i = 0 then v74 else (fun _ => 0) i) i) i) (fun i => if i = 2 then (-1 : Int32) else (fun i => if i = 1 then (-1 : Int32) else (fun i => if i = 0 then (-1 : Int32) else (fun _ => 0) i) i) i)) 0))])) t
      refine Own.nmI hv107 ?_
      show Steps p.tables e below (T105.setTop (mkF m 156 #[.val (.int p0), .val (.int p1), .val (.int p2), .val (.int p3), .val (.long q4), .second, .val (.int (3 : Int32)), .val (.int v74), .val (.int v75), .val (.int v76), .val (.ref b77), .val (.ref b79), .val (.long v102), .second, .val (.long v104), .second, .val (.int (1 : Int32)), .val (.long (0 : Int64)), .second, .unset] [(.int v107)])) t
      refine XS.istore X105.here hx rfl (hb hby at_156) rfl (l' := #[.val (.int p0), .val (.int p1), .val (.int p2), .val (.int p3), .val (.long q4), .second, .val (.int (3 : Int32)), .val (.int v74), .val (.int v75), .val (.int v76), .val (.ref b77), .val (.ref b79), .val (.long v102), .second, .val (.long v104), .second, .val (.int (1 : Int32)), .val (.long (0 : Int64)), .second, .val (.int v107)]) rfl ?_
      show Steps p.tables e below (T105.setTop (mkF m 158 #[.val (.int p0), .val (.int p1), .val (.int p2), .val (.int p3), .val (.long q4), .second, .val (.int (3 : Int32)), .val (.int v74), .val (.int v75), .val (.int v76), .val (.ref b77), .val (.ref b79), .val (.long v102), .second, .val (.long v104), .second, .val (.int (1 : Int32)), .val (.long (0 : Int64)), .second, .val (.int v107)] [])) t
      refine XS.iload X105.here hx rfl (hb hby at_158) rfl ?_
      show Steps p.tables e below (T105.setTop (mkF m 160 #[.val (.int p0), .val (.int p1), .val (.int p2), .val (.int p3), .val (.long q4), .second, .val (.int (3 : Int32)), .val (.int v74), .val (.int v75), .val (.int v76), .val (.ref b77), .val (.ref b79), .val (.long v102), .second, .val (.long v104), .second, .val (.int (1 : Int32)), .val (.long (0 : Int64)), .second, .val (.int v107)] [(.int (1 : Int32))])) t
      refine XS.ifNo X105.here hx rfl (hb hby at_160) rfl (by decide) ?_
      show Steps p.tables e below (T105.setTop (mkF m 163 #[.val (.int p0), .val (.int p1), .val (.int p2), .val (.int p3), .val (.long q4), .second, .val (.int (3 : Int32)), .val (.int v74), .val (.int v75), .val (.int v76), .val (.ref b77), .val (.ref b79), .val (.long v102), .second, .val (.long v104), .second, .val (.int (1 : Int32)), .val (.long (0 : Int64)), .second, .val (.int v107)] [])) t
      refine XS.iconst X105.here hx rfl (hb hby at_163) ?_
      show Steps p.tables e below (T105.setTop (mkF m 164 #[.val (.int p0), .val (.int p1), .val (.int p2), .val (.int p3), .val (.long q4), .second, .val (.int (3 : Int32)), .val (.int v74), .val (.int v75), .val (.int v76), .val (.ref b77), .val (.ref b79), .val (.long v102), .second, .val (.long v104), .second, .val (.int (1 : Int32)), .val (.long (0 : Int64)), .second, .val (.int v107)] [(.int (0 : Int32))])) t
      refine XS.iload X105.here hx rfl (hb hby at_164) rfl ?_
      show Steps p.tables e below (T105.setTop (mkF m 166 #[.val (.int p0), .val (.int p1), .val (.int p2), .val (.int p3), .val (.long q4), .second, .val (.int (3 : Int32)), .val (.int v74), .val (.int v75), .val (.int v76), .val (.ref b77), .val (.ref b79), .val (.long v102), .second, .val (.long v104), .second, .val (.int (1 : Int32)), .val (.long (0 : Int64)), .second, .val (.int v107)] [(.int v107), (.int (0 : Int32))])) t
      exact k
    have hc108 : ¬ (v107 < (0 : Int32)) := hr0.1
    refine hD _ (T105.setTop (mkF m 173 #[.val (.int p0), .val (.int p1), .val (.int p2), .val (.int p3), .val (.long q4), .second, .val (.int (3 : Int32)), .val (.int v74), .val (.int v75), .val (.int v76), .val (.ref b77), .val (.ref b79), .val (.long v102), .second, .val (.long v104), .second, .val (.int (1 : Int32)), .val (.long (0 : Int64)), .second, .val (.int v107)] [(.int v74), (.int v107)])) (fun t k => ?_) ?_
    · show Steps p.tables e below (T105.setTop (mkF m 166 #[.val (.int p0), .val (.int p1), .val (.int p2), .val (.int p3), .val (.long q4), .second, .val (.int (3 : Int32)), .val (.int v74), .val (.int v75), .val (.int v76), .val (.ref b77), .val (.ref b79), .val (.long v102), .second, .val (.long v104), .second, .val (.int (1 : Int32)), .val (.long (0 : Int64)), .second, .val (.int v107)] [(.int v107), (.int (0 : Int32))])) t
      refine XS.icmpNo X105.here hx rfl (hb hby at_166) rfl (flt hc108).2.2.1 ?_
      show Steps p.tables e below (T105.setTop (mkF m 169 #[.val (.int p0), .val (.int p1), .val (.int p2), .val (.int p3), .val (.long q4), .second, .val (.int (3 : Int32)), .val (.int v74), .val (.int v75), .val (.int v76), .val (.ref b77), .val (.ref b79), .val (.long v102), .second, .val (.long v104), .second, .val (.int (1 : Int32)), .val (.long (0 : Int64)), .second, .val (.int v107)] [])) t
      refine XS.iload X105.here hx rfl (hb hby at_169) rfl ?_
      show Steps p.tables e below (T105.setTop (mkF m 171 #[.val (.int p0), .val (.int p1), .val (.int p2), .val (.int p3), .val (.long q4), .second, .val (.int (3 : Int32)), .val (.int v74), .val (.int v75), .val (.int v76), .val (.ref b77), .val (.ref b79), .val (.long v102), .second, .val (.long v104), .second, .val (.int (1 : Int32)), .val (.long (0 : Int64)), .second, .val (.int v107)] [(.int v107)])) t
      refine XS.iload X105.here hx rfl (hb hby at_171) rfl ?_
      show Steps p.tables e below (T105.setTop (mkF m 173 #[.val (.int p0), .val (.int p1), .val (.int p2), .val (.int p3), .val (.long q4), .second, .val (.int (3 : Int32)), .val (.int v74), .val (.int v75), .val (.int v76), .val (.ref b77), .val (.ref b79), .val (.long v102), .second, .val (.long v104), .second, .val (.int (1 : Int32)), .val (.long (0 : Int64)), .second, .val (.int v107)] [(.int v74), (.int v107)])) t
      exact k
    have hc109 : v107 < v74 := hr0.2
    obtain ⟨v110, hv110⟩ : ∃ z : Int64, z = (v107.toInt64) := ⟨_, rfl⟩
    have hj111 : 0 ≤ (1 : Int32).toInt ∧ (1 : Int32).toInt < (3 : Nat) := ⟨by decide, by decide⟩
    obtain ⟨v112, hv112⟩ : ∃ z : Int32, z = ((own_v 3 v104 (fun i => if i = 2 then v76 else (fun i => if i = 1 then v75 else (fun i => if i = 0 then v74 else (fun _ => 0) i) i) i) (fun i => if i = 2 then (-1 : Int32) else (fun i => if i = 1 then (-1 : Int32) else (fun i => if i = 0 then (-1 : Int32) else (fun _ => 0) i) i) i)) 1) := ⟨_, rfl⟩
    have hw1 : v112 = ((v104 / v76.toInt64) % v75.toInt64).toInt32 := hv112
    have hr1 := own_rng hq2 (own_d hv75) hw1
    refine hD _ (T105.setTop (mkF m 208 #[.val (.int p0), .val (.int p1), .val (.int p2), .val (.int p3), .val (.long q4), .second, .val (.int (3 : Int32)), .val (.int v74), .val (.int v75), .val (.int v76), .val (.ref b77), .val (.ref b79), .val (.long v102), .second, .val (.long v104), .second, .val (.int (1 : Int32)), .val (.long v110), .second, .val (.int v112)] [(.int v112), (.int (0 : Int32))])) (fun t k => ?_) ?_
    · show Steps p.tables e below (T105.setTop (mkF m 173 #[.val (.int p0), .val (.int p1), .val (.int p2), .val (.int p3), .val (.long q4), .second, .val (.int (3 : Int32)), .val (.int v74), .val (.int v75), .val (.int v76), .val (.ref b77), .val (.ref b79), .val (.long v102), .second, .val (.long v104), .second, .val (.int (1 : Int32)), .val (.long (0 : Int64)), .second, .val (.int v107)] [(.int v74), (.int v107)])) t
      refine XS.icmpNo X105.here hx rfl (hb hby at_173) rfl (tlt hc109).2.1 ?_
      show Steps p.tables e below (T105.setTop (mkF m 176 #[.val (.int p0), .val (.int p1), .val (.int p2), .val (.int p3), .val (.long q4), .second, .val (.int (3 : Int32)), .val (.int v74), .val (.int v75), .val (.int v76), .val (.ref b77), .val (.ref b79), .val (.long v102), .second, .val (.long v104), .second, .val (.int (1 : Int32)), .val (.long (0 : Int64)), .second, .val (.int v107)] [])) t
      refine XS.iconst X105.here hx rfl (hb hby at_176) ?_
      show Steps p.tables e below (T105.setTop (mkF m 177 #[.val (.int p0), .val (.int p1), .val (.int p2), .val (.int p3), .val (.long q4), .second, .val (.int (3 : Int32)), .val (.int v74), .val (.int v75), .val (.int v76), .val (.ref b77), .val (.ref b79), .val (.long v102), .second, .val (.long v104), .second, .val (.int (1 : Int32)), .val (.long (0 : Int64)), .second, .val (.int v107)] [(.int (1 : Int32))])) t
      refine XS.goto X105.here hx rfl (pc0 := 177) (pc' := 181) rfl (hb hby at_177) (by decide) (by decide) ?_
      show Steps p.tables e below (T105.setTop (mkF m 181 #[.val (.int p0), .val (.int p1), .val (.int p2), .val (.int p3), .val (.long q4), .second, .val (.int (3 : Int32)), .val (.int v74), .val (.int v75), .val (.int v76), .val (.ref b77), .val (.ref b79), .val (.long v102), .second, .val (.long v104), .second, .val (.int (1 : Int32)), .val (.long (0 : Int64)), .second, .val (.int v107)] [(.int (1 : Int32))])) t
      refine XS.istore X105.here hx rfl (hb hby at_181) rfl (l' := #[.val (.int p0), .val (.int p1), .val (.int p2), .val (.int p3), .val (.long q4), .second, .val (.int (3 : Int32)), .val (.int v74), .val (.int v75), .val (.int v76), .val (.ref b77), .val (.ref b79), .val (.long v102), .second, .val (.long v104), .second, .val (.int (1 : Int32)), .val (.long (0 : Int64)), .second, .val (.int v107)]) rfl ?_
      show Steps p.tables e below (T105.setTop (mkF m 183 #[.val (.int p0), .val (.int p1), .val (.int p2), .val (.int p3), .val (.long q4), .second, .val (.int (3 : Int32)), .val (.int v74), .val (.int v75), .val (.int v76), .val (.ref b77), .val (.ref b79), .val (.long v102), .second, .val (.long v104), .second, .val (.int (1 : Int32)), .val (.long (0 : Int64)), .second, .val (.int v107)] [])) t
      refine XS.iload X105.here hx rfl (hb hby at_183) rfl ?_
      show Steps p.tables e below (T105.setTop (mkF m 185 #[.val (.int p0), .val (.int p1), .val (.int p2), .val (.int p3), .val (.long q4), .second, .val (.int (3 : Int32)), .val (.int v74), .val (.int v75), .val (.int v76), .val (.ref b77), .val (.ref b79), .val (.long v102), .second, .val (.long v104), .second, .val (.int (1 : Int32)), .val (.long (0 : Int64)), .second, .val (.int v107)] [(.int v107)])) t
      refine XS.i2l X105.here hx rfl (hb hby at_185) rfl ?_
      show Steps p.tables e below (T105.setTop (mkF m 186 #[.val (.int p0), .val (.int p1), .val (.int p2), .val (.int p3), .val (.long q4), .second, .val (.int (3 : Int32)), .val (.int v74), .val (.int v75), .val (.int v76), .val (.ref b77), .val (.ref b79), .val (.long v102), .second, .val (.long v104), .second, .val (.int (1 : Int32)), .val (.long (0 : Int64)), .second, .val (.int v107)] [(.long (v107.toInt64))])) t
      refine Own.nmJ hv110 ?_
      show Steps p.tables e below (T105.setTop (mkF m 186 #[.val (.int p0), .val (.int p1), .val (.int p2), .val (.int p3), .val (.long q4), .second, .val (.int (3 : Int32)), .val (.int v74), .val (.int v75), .val (.int v76), .val (.ref b77), .val (.ref b79), .val (.long v102), .second, .val (.long v104), .second, .val (.int (1 : Int32)), .val (.long (0 : Int64)), .second, .val (.int v107)] [(.long v110)])) t
      refine XS.lstore X105.here hx rfl (hb hby at_186) rfl (l' := #[.val (.int p0), .val (.int p1), .val (.int p2), .val (.int p3), .val (.long q4), .second, .val (.int (3 : Int32)), .val (.int v74), .val (.int v75), .val (.int v76), .val (.ref b77), .val (.ref b79), .val (.long v102), .second, .val (.long v104), .second, .val (.int (1 : Int32)), .val (.long v110), .second, .val (.int v107)]) rfl ?_
      show Steps p.tables e below (T105.setTop (mkF m 188 #[.val (.int p0), .val (.int p1), .val (.int p2), .val (.int p3), .val (.long q4), .second, .val (.int (3 : Int32)), .val (.int v74), .val (.int v75), .val (.int v76), .val (.ref b77), .val (.ref b79), .val (.long v102), .second, .val (.long v104), .second, .val (.int (1 : Int32)), .val (.long v110), .second, .val (.int v107)] [])) t
      refine XS.iload X105.here hx rfl (hb hby at_188) rfl ?_
      show Steps p.tables e below (T105.setTop (mkF m 190 #[.val (.int p0), .val (.int p1), .val (.int p2), .val (.int p3), .val (.long q4), .second, .val (.int (3 : Int32)), .val (.int v74), .val (.int v75), .val (.int v76), .val (.ref b77), .val (.ref b79), .val (.long v102), .second, .val (.long v104), .second, .val (.int (1 : Int32)), .val (.long v110), .second, .val (.int v107)] [(.int (3 : Int32))])) t
      refine XS.iconst X105.here hx rfl (hb hby at_190) ?_
      show Steps p.tables e below (T105.setTop (mkF m 191 #[.val (.int p0), .val (.int p1), .val (.int p2), .val (.int p3), .val (.long q4), .second, .val (.int (3 : Int32)), .val (.int v74), .val (.int v75), .val (.int v76), .val (.ref b77), .val (.ref b79), .val (.long v102), .second, .val (.long v104), .second, .val (.int (1 : Int32)), .val (.long v110), .second, .val (.int v107)] [(.int (1 : Int32)), (.int (3 : Int32))])) t
      refine XS.icmpNo X105.here hx rfl (hb hby at_191) rfl (by decide) ?_
      show Steps p.tables e below (T105.setTop (mkF m 194 #[.val (.int p0), .val (.int p1), .val (.int p2), .val (.int p3), .val (.long q4), .second, .val (.int (3 : Int32)), .val (.int v74), .val (.int v75), .val (.int v76), .val (.ref b77), .val (.ref b79), .val (.long v102), .second, .val (.long v104), .second, .val (.int (1 : Int32)), .val (.long v110), .second, .val (.int v107)] [])) t
      refine XS.aload X105.here hx rfl (hb hby at_194) rfl rfl ?_
      show Steps p.tables e below (T105.setTop (mkF m 196 #[.val (.int p0), .val (.int p1), .val (.int p2), .val (.int p3), .val (.long q4), .second, .val (.int (3 : Int32)), .val (.int v74), .val (.int v75), .val (.int v76), .val (.ref b77), .val (.ref b79), .val (.long v102), .second, .val (.long v104), .second, .val (.int (1 : Int32)), .val (.long v110), .second, .val (.int v107)] [(.ref b79)])) t
      refine XS.iconst X105.here hx rfl (hb hby at_196) ?_
      show Steps p.tables e below (T105.setTop (mkF m 197 #[.val (.int p0), .val (.int p1), .val (.int p2), .val (.int p3), .val (.long q4), .second, .val (.int (3 : Int32)), .val (.int v74), .val (.int v75), .val (.int v76), .val (.ref b77), .val (.ref b79), .val (.long v102), .second, .val (.long v104), .second, .val (.int (1 : Int32)), .val (.long v110), .second, .val (.int v107)] [(.int (1 : Int32)), (.ref b79)])) t
      refine Own.ldI X105 hx hZ rfl A105 hj111 (g := (mkF m 197 #[.val (.int p0), .val (.int p1), .val (.int p2), .val (.int p3), .val (.long q4), .second, .val (.int (3 : Int32)), .val (.int v74), .val (.int v75), .val (.int v76), .val (.ref b77), .val (.ref b79), .val (.long v102), .second, .val (.long v104), .second, .val (.int (1 : Int32)), .val (.long v110), .second, .val (.int v107)] [(.int (1 : Int32)), (.ref b79)])) rfl rfl (hb hby at_197) _ ?_
      show Steps p.tables e below (T105.setTop (mkF m 198 #[.val (.int p0), .val (.int p1), .val (.int p2), .val (.int p3), .val (.long q4), .second, .val (.int (3 : Int32)), .val (.int v74), .val (.int v75), .val (.int v76), .val (.ref b77), .val (.ref b79), .val (.long v102), .second, .val (.long v104), .second, .val (.int (1 : Int32)), .val (.long v110), .second, .val (.int v107)] [(.int ((own_v 3 v104 (fun i => if i = 2 then v76 else (fun i => if i = 1 then v75 else (fun i => if i = 0 then v74 else (fun _ => 0) i) i) i) (fun i => if i = 2 then (-1 : Int32) else (fun i => if i = 1 then (-1 : Int32) else (fun i => if i = 0 then (-1 : Int32) else (fun _ => 0) i) i) i)) 1))])) t
      refine Own.nmI hv112 ?_
      show Steps p.tables e below (T105.setTop (mkF m 198 #[.val (.int p0), .val (.int p1), .val (.int p2), .val (.int p3), .val (.long q4), .second, .val (.int (3 : Int32)), .val (.int v74), .val (.int v75), .val (.int v76), .val (.ref b77), .val (.ref b79), .val (.long v102), .second, .val (.long v104), .second, .val (.int (1 : Int32)), .val (.long v110), .second, .val (.int v107)] [(.int v112)])) t
      refine XS.istore X105.here hx rfl (hb hby at_198) rfl (l' := #[.val (.int p0), .val (.int p1), .val (.int p2), .val (.int p3), .val (.long q4), .second, .val (.int (3 : Int32)), .val (.int v74), .val (.int v75), .val (.int v76), .val (.ref b77), .val (.ref b79), .val (.long v102), .second, .val (.long v104), .second, .val (.int (1 : Int32)), .val (.long v110), .second, .val (.int v112)]) rfl ?_
      show Steps p.tables e below (T105.setTop (mkF m 200 #[.val (.int p0), .val (.int p1), .val (.int p2), .val (.int p3), .val (.long q4), .second, .val (.int (3 : Int32)), .val (.int v74), .val (.int v75), .val (.int v76), .val (.ref b77), .val (.ref b79), .val (.long v102), .second, .val (.long v104), .second, .val (.int (1 : Int32)), .val (.long v110), .second, .val (.int v112)] [])) t
      refine XS.iload X105.here hx rfl (hb hby at_200) rfl ?_
      show Steps p.tables e below (T105.setTop (mkF m 202 #[.val (.int p0), .val (.int p1), .val (.int p2), .val (.int p3), .val (.long q4), .second, .val (.int (3 : Int32)), .val (.int v74), .val (.int v75), .val (.int v76), .val (.ref b77), .val (.ref b79), .val (.long v102), .second, .val (.long v104), .second, .val (.int (1 : Int32)), .val (.long v110), .second, .val (.int v112)] [(.int (1 : Int32))])) t
      refine XS.ifNo X105.here hx rfl (hb hby at_202) rfl (by decide) ?_
      show Steps p.tables e below (T105.setTop (mkF m 205 #[.val (.int p0), .val (.int p1), .val (.int p2), .val (.int p3), .val (.long q4), .second, .val (.int (3 : Int32)), .val (.int v74), .val (.int v75), .val (.int v76), .val (.ref b77), .val (.ref b79), .val (.long v102), .second, .val (.long v104), .second, .val (.int (1 : Int32)), .val (.long v110), .second, .val (.int v112)] [])) t
      refine XS.iconst X105.here hx rfl (hb hby at_205) ?_
      show Steps p.tables e below (T105.setTop (mkF m 206 #[.val (.int p0), .val (.int p1), .val (.int p2), .val (.int p3), .val (.long q4), .second, .val (.int (3 : Int32)), .val (.int v74), .val (.int v75), .val (.int v76), .val (.ref b77), .val (.ref b79), .val (.long v102), .second, .val (.long v104), .second, .val (.int (1 : Int32)), .val (.long v110), .second, .val (.int v112)] [(.int (0 : Int32))])) t
      refine XS.iload X105.here hx rfl (hb hby at_206) rfl ?_
      show Steps p.tables e below (T105.setTop (mkF m 208 #[.val (.int p0), .val (.int p1), .val (.int p2), .val (.int p3), .val (.long q4), .second, .val (.int (3 : Int32)), .val (.int v74), .val (.int v75), .val (.int v76), .val (.ref b77), .val (.ref b79), .val (.long v102), .second, .val (.long v104), .second, .val (.int (1 : Int32)), .val (.long v110), .second, .val (.int v112)] [(.int v112), (.int (0 : Int32))])) t
      exact k
    have hc113 : ¬ (v112 < (0 : Int32)) := hr1.1
    refine hD _ (T105.setTop (mkF m 215 #[.val (.int p0), .val (.int p1), .val (.int p2), .val (.int p3), .val (.long q4), .second, .val (.int (3 : Int32)), .val (.int v74), .val (.int v75), .val (.int v76), .val (.ref b77), .val (.ref b79), .val (.long v102), .second, .val (.long v104), .second, .val (.int (1 : Int32)), .val (.long v110), .second, .val (.int v112)] [(.int v75), (.int v112)])) (fun t k => ?_) ?_
    · show Steps p.tables e below (T105.setTop (mkF m 208 #[.val (.int p0), .val (.int p1), .val (.int p2), .val (.int p3), .val (.long q4), .second, .val (.int (3 : Int32)), .val (.int v74), .val (.int v75), .val (.int v76), .val (.ref b77), .val (.ref b79), .val (.long v102), .second, .val (.long v104), .second, .val (.int (1 : Int32)), .val (.long v110), .second, .val (.int v112)] [(.int v112), (.int (0 : Int32))])) t
      refine XS.icmpNo X105.here hx rfl (hb hby at_208) rfl (flt hc113).2.2.1 ?_
      show Steps p.tables e below (T105.setTop (mkF m 211 #[.val (.int p0), .val (.int p1), .val (.int p2), .val (.int p3), .val (.long q4), .second, .val (.int (3 : Int32)), .val (.int v74), .val (.int v75), .val (.int v76), .val (.ref b77), .val (.ref b79), .val (.long v102), .second, .val (.long v104), .second, .val (.int (1 : Int32)), .val (.long v110), .second, .val (.int v112)] [])) t
      refine XS.iload X105.here hx rfl (hb hby at_211) rfl ?_
      show Steps p.tables e below (T105.setTop (mkF m 213 #[.val (.int p0), .val (.int p1), .val (.int p2), .val (.int p3), .val (.long q4), .second, .val (.int (3 : Int32)), .val (.int v74), .val (.int v75), .val (.int v76), .val (.ref b77), .val (.ref b79), .val (.long v102), .second, .val (.long v104), .second, .val (.int (1 : Int32)), .val (.long v110), .second, .val (.int v112)] [(.int v112)])) t
      refine XS.iload X105.here hx rfl (hb hby at_213) rfl ?_
      show Steps p.tables e below (T105.setTop (mkF m 215 #[.val (.int p0), .val (.int p1), .val (.int p2), .val (.int p3), .val (.long q4), .second, .val (.int (3 : Int32)), .val (.int v74), .val (.int v75), .val (.int v76), .val (.ref b77), .val (.ref b79), .val (.long v102), .second, .val (.long v104), .second, .val (.int (1 : Int32)), .val (.long v110), .second, .val (.int v112)] [(.int v75), (.int v112)])) t
      exact k
    have hc114 : v112 < v75 := hr1.2
    obtain ⟨v115, hv115⟩ : ∃ z : Int64, z = ((v110 * (v75.toInt64)) + (v112.toInt64)) := ⟨_, rfl⟩
    have hj116 : 0 ≤ (2 : Int32).toInt ∧ (2 : Int32).toInt < (3 : Nat) := ⟨by decide, by decide⟩
    obtain ⟨v117, hv117⟩ : ∃ z : Int32, z = ((own_v 3 v104 (fun i => if i = 2 then v76 else (fun i => if i = 1 then v75 else (fun i => if i = 0 then v74 else (fun _ => 0) i) i) i) (fun i => if i = 2 then (-1 : Int32) else (fun i => if i = 1 then (-1 : Int32) else (fun i => if i = 0 then (-1 : Int32) else (fun _ => 0) i) i) i)) 2) := ⟨_, rfl⟩
    have hw2 : v117 = (v104 % v76.toInt64).toInt32 := hv117
    have hr2 := own_rng hk.1 (own_d hv76) hw2
    refine hD _ (T105.setTop (mkF m 257 #[.val (.int p0), .val (.int p1), .val (.int p2), .val (.int p3), .val (.long q4), .second, .val (.int (3 : Int32)), .val (.int v74), .val (.int v75), .val (.int v76), .val (.ref b77), .val (.ref b79), .val (.long v102), .second, .val (.long v104), .second, .val (.int (1 : Int32)), .val (.long v115), .second, .val (.int v117)] [(.int v117), (.int (0 : Int32))])) (fun t k => ?_) ?_
    · show Steps p.tables e below (T105.setTop (mkF m 215 #[.val (.int p0), .val (.int p1), .val (.int p2), .val (.int p3), .val (.long q4), .second, .val (.int (3 : Int32)), .val (.int v74), .val (.int v75), .val (.int v76), .val (.ref b77), .val (.ref b79), .val (.long v102), .second, .val (.long v104), .second, .val (.int (1 : Int32)), .val (.long v110), .second, .val (.int v112)] [(.int v75), (.int v112)])) t
      refine XS.icmpNo X105.here hx rfl (hb hby at_215) rfl (tlt hc114).2.1 ?_
      show Steps p.tables e below (T105.setTop (mkF m 218 #[.val (.int p0), .val (.int p1), .val (.int p2), .val (.int p3), .val (.long q4), .second, .val (.int (3 : Int32)), .val (.int v74), .val (.int v75), .val (.int v76), .val (.ref b77), .val (.ref b79), .val (.long v102), .second, .val (.long v104), .second, .val (.int (1 : Int32)), .val (.long v110), .second, .val (.int v112)] [])) t
      refine XS.iconst X105.here hx rfl (hb hby at_218) ?_
      show Steps p.tables e below (T105.setTop (mkF m 219 #[.val (.int p0), .val (.int p1), .val (.int p2), .val (.int p3), .val (.long q4), .second, .val (.int (3 : Int32)), .val (.int v74), .val (.int v75), .val (.int v76), .val (.ref b77), .val (.ref b79), .val (.long v102), .second, .val (.long v104), .second, .val (.int (1 : Int32)), .val (.long v110), .second, .val (.int v112)] [(.int (1 : Int32))])) t
      refine XS.goto X105.here hx rfl (pc0 := 219) (pc' := 223) rfl (hb hby at_219) (by decide) (by decide) ?_
      show Steps p.tables e below (T105.setTop (mkF m 223 #[.val (.int p0), .val (.int p1), .val (.int p2), .val (.int p3), .val (.long q4), .second, .val (.int (3 : Int32)), .val (.int v74), .val (.int v75), .val (.int v76), .val (.ref b77), .val (.ref b79), .val (.long v102), .second, .val (.long v104), .second, .val (.int (1 : Int32)), .val (.long v110), .second, .val (.int v112)] [(.int (1 : Int32))])) t
      refine XS.istore X105.here hx rfl (hb hby at_223) rfl (l' := #[.val (.int p0), .val (.int p1), .val (.int p2), .val (.int p3), .val (.long q4), .second, .val (.int (3 : Int32)), .val (.int v74), .val (.int v75), .val (.int v76), .val (.ref b77), .val (.ref b79), .val (.long v102), .second, .val (.long v104), .second, .val (.int (1 : Int32)), .val (.long v110), .second, .val (.int v112)]) rfl ?_
      show Steps p.tables e below (T105.setTop (mkF m 225 #[.val (.int p0), .val (.int p1), .val (.int p2), .val (.int p3), .val (.long q4), .second, .val (.int (3 : Int32)), .val (.int v74), .val (.int v75), .val (.int v76), .val (.ref b77), .val (.ref b79), .val (.long v102), .second, .val (.long v104), .second, .val (.int (1 : Int32)), .val (.long v110), .second, .val (.int v112)] [])) t
      refine XS.lload X105.here hx rfl (hb hby at_225) rfl ?_
      show Steps p.tables e below (T105.setTop (mkF m 227 #[.val (.int p0), .val (.int p1), .val (.int p2), .val (.int p3), .val (.long q4), .second, .val (.int (3 : Int32)), .val (.int v74), .val (.int v75), .val (.int v76), .val (.ref b77), .val (.ref b79), .val (.long v102), .second, .val (.long v104), .second, .val (.int (1 : Int32)), .val (.long v110), .second, .val (.int v112)] [(.long v110)])) t
      refine XS.iload X105.here hx rfl (hb hby at_227) rfl ?_
      show Steps p.tables e below (T105.setTop (mkF m 229 #[.val (.int p0), .val (.int p1), .val (.int p2), .val (.int p3), .val (.long q4), .second, .val (.int (3 : Int32)), .val (.int v74), .val (.int v75), .val (.int v76), .val (.ref b77), .val (.ref b79), .val (.long v102), .second, .val (.long v104), .second, .val (.int (1 : Int32)), .val (.long v110), .second, .val (.int v112)] [(.int v75), (.long v110)])) t
      refine XS.i2l X105.here hx rfl (hb hby at_229) rfl ?_
      show Steps p.tables e below (T105.setTop (mkF m 230 #[.val (.int p0), .val (.int p1), .val (.int p2), .val (.int p3), .val (.long q4), .second, .val (.int (3 : Int32)), .val (.int v74), .val (.int v75), .val (.int v76), .val (.ref b77), .val (.ref b79), .val (.long v102), .second, .val (.long v104), .second, .val (.int (1 : Int32)), .val (.long v110), .second, .val (.int v112)] [(.long (v75.toInt64)), (.long v110)])) t
      refine XS.lmul X105.here hx rfl (hb hby at_230) rfl ?_
      show Steps p.tables e below (T105.setTop (mkF m 231 #[.val (.int p0), .val (.int p1), .val (.int p2), .val (.int p3), .val (.long q4), .second, .val (.int (3 : Int32)), .val (.int v74), .val (.int v75), .val (.int v76), .val (.ref b77), .val (.ref b79), .val (.long v102), .second, .val (.long v104), .second, .val (.int (1 : Int32)), .val (.long v110), .second, .val (.int v112)] [(.long (v110 * (v75.toInt64)))])) t
      refine XS.iload X105.here hx rfl (hb hby at_231) rfl ?_
      show Steps p.tables e below (T105.setTop (mkF m 233 #[.val (.int p0), .val (.int p1), .val (.int p2), .val (.int p3), .val (.long q4), .second, .val (.int (3 : Int32)), .val (.int v74), .val (.int v75), .val (.int v76), .val (.ref b77), .val (.ref b79), .val (.long v102), .second, .val (.long v104), .second, .val (.int (1 : Int32)), .val (.long v110), .second, .val (.int v112)] [(.int v112), (.long (v110 * (v75.toInt64)))])) t
      refine XS.i2l X105.here hx rfl (hb hby at_233) rfl ?_
      show Steps p.tables e below (T105.setTop (mkF m 234 #[.val (.int p0), .val (.int p1), .val (.int p2), .val (.int p3), .val (.long q4), .second, .val (.int (3 : Int32)), .val (.int v74), .val (.int v75), .val (.int v76), .val (.ref b77), .val (.ref b79), .val (.long v102), .second, .val (.long v104), .second, .val (.int (1 : Int32)), .val (.long v110), .second, .val (.int v112)] [(.long (v112.toInt64)), (.long (v110 * (v75.toInt64)))])) t
      refine XS.ladd X105.here hx rfl (hb hby at_234) rfl ?_
      show Steps p.tables e below (T105.setTop (mkF m 235 #[.val (.int p0), .val (.int p1), .val (.int p2), .val (.int p3), .val (.long q4), .second, .val (.int (3 : Int32)), .val (.int v74), .val (.int v75), .val (.int v76), .val (.ref b77), .val (.ref b79), .val (.long v102), .second, .val (.long v104), .second, .val (.int (1 : Int32)), .val (.long v110), .second, .val (.int v112)] [(.long ((v110 * (v75.toInt64)) + (v112.toInt64)))])) t
      refine Own.nmJ hv115 ?_
      show Steps p.tables e below (T105.setTop (mkF m 235 #[.val (.int p0), .val (.int p1), .val (.int p2), .val (.int p3), .val (.long q4), .second, .val (.int (3 : Int32)), .val (.int v74), .val (.int v75), .val (.int v76), .val (.ref b77), .val (.ref b79), .val (.long v102), .second, .val (.long v104), .second, .val (.int (1 : Int32)), .val (.long v110), .second, .val (.int v112)] [(.long v115)])) t
      refine XS.lstore X105.here hx rfl (hb hby at_235) rfl (l' := #[.val (.int p0), .val (.int p1), .val (.int p2), .val (.int p3), .val (.long q4), .second, .val (.int (3 : Int32)), .val (.int v74), .val (.int v75), .val (.int v76), .val (.ref b77), .val (.ref b79), .val (.long v102), .second, .val (.long v104), .second, .val (.int (1 : Int32)), .val (.long v115), .second, .val (.int v112)]) rfl ?_
      show Steps p.tables e below (T105.setTop (mkF m 237 #[.val (.int p0), .val (.int p1), .val (.int p2), .val (.int p3), .val (.long q4), .second, .val (.int (3 : Int32)), .val (.int v74), .val (.int v75), .val (.int v76), .val (.ref b77), .val (.ref b79), .val (.long v102), .second, .val (.long v104), .second, .val (.int (1 : Int32)), .val (.long v115), .second, .val (.int v112)] [])) t
      refine XS.iload X105.here hx rfl (hb hby at_237) rfl ?_
      show Steps p.tables e below (T105.setTop (mkF m 239 #[.val (.int p0), .val (.int p1), .val (.int p2), .val (.int p3), .val (.long q4), .second, .val (.int (3 : Int32)), .val (.int v74), .val (.int v75), .val (.int v76), .val (.ref b77), .val (.ref b79), .val (.long v102), .second, .val (.long v104), .second, .val (.int (1 : Int32)), .val (.long v115), .second, .val (.int v112)] [(.int (3 : Int32))])) t
      refine XS.iconst X105.here hx rfl (hb hby at_239) ?_
      show Steps p.tables e below (T105.setTop (mkF m 240 #[.val (.int p0), .val (.int p1), .val (.int p2), .val (.int p3), .val (.long q4), .second, .val (.int (3 : Int32)), .val (.int v74), .val (.int v75), .val (.int v76), .val (.ref b77), .val (.ref b79), .val (.long v102), .second, .val (.long v104), .second, .val (.int (1 : Int32)), .val (.long v115), .second, .val (.int v112)] [(.int (2 : Int32)), (.int (3 : Int32))])) t
      refine XS.icmpNo X105.here hx rfl (hb hby at_240) rfl (by decide) ?_
      show Steps p.tables e below (T105.setTop (mkF m 243 #[.val (.int p0), .val (.int p1), .val (.int p2), .val (.int p3), .val (.long q4), .second, .val (.int (3 : Int32)), .val (.int v74), .val (.int v75), .val (.int v76), .val (.ref b77), .val (.ref b79), .val (.long v102), .second, .val (.long v104), .second, .val (.int (1 : Int32)), .val (.long v115), .second, .val (.int v112)] [])) t
      refine XS.aload X105.here hx rfl (hb hby at_243) rfl rfl ?_
      show Steps p.tables e below (T105.setTop (mkF m 245 #[.val (.int p0), .val (.int p1), .val (.int p2), .val (.int p3), .val (.long q4), .second, .val (.int (3 : Int32)), .val (.int v74), .val (.int v75), .val (.int v76), .val (.ref b77), .val (.ref b79), .val (.long v102), .second, .val (.long v104), .second, .val (.int (1 : Int32)), .val (.long v115), .second, .val (.int v112)] [(.ref b79)])) t
      refine XS.iconst X105.here hx rfl (hb hby at_245) ?_
      show Steps p.tables e below (T105.setTop (mkF m 246 #[.val (.int p0), .val (.int p1), .val (.int p2), .val (.int p3), .val (.long q4), .second, .val (.int (3 : Int32)), .val (.int v74), .val (.int v75), .val (.int v76), .val (.ref b77), .val (.ref b79), .val (.long v102), .second, .val (.long v104), .second, .val (.int (1 : Int32)), .val (.long v115), .second, .val (.int v112)] [(.int (2 : Int32)), (.ref b79)])) t
      refine Own.ldI X105 hx hZ rfl A105 hj116 (g := (mkF m 246 #[.val (.int p0), .val (.int p1), .val (.int p2), .val (.int p3), .val (.long q4), .second, .val (.int (3 : Int32)), .val (.int v74), .val (.int v75), .val (.int v76), .val (.ref b77), .val (.ref b79), .val (.long v102), .second, .val (.long v104), .second, .val (.int (1 : Int32)), .val (.long v115), .second, .val (.int v112)] [(.int (2 : Int32)), (.ref b79)])) rfl rfl (hb hby at_246) _ ?_
      show Steps p.tables e below (T105.setTop (mkF m 247 #[.val (.int p0), .val (.int p1), .val (.int p2), .val (.int p3), .val (.long q4), .second, .val (.int (3 : Int32)), .val (.int v74), .val (.int v75), .val (.int v76), .val (.ref b77), .val (.ref b79), .val (.long v102), .second, .val (.long v104), .second, .val (.int (1 : Int32)), .val (.long v115), .second, .val (.int v112)] [(.int ((own_v 3 v104 (fun i => if i = 2 then v76 else (fun i => if i = 1 then v75 else (fun i => if i = 0 then v74 else (fun _ => 0) i) i) i) (fun i => if i = 2 then (-1 : Int32) else (fun i => if i = 1 then (-1 : Int32) else (fun i => if i = 0 then (-1 : Int32) else (fun _ => 0) i) i) i)) 2))])) t
      refine Own.nmI hv117 ?_
      show Steps p.tables e below (T105.setTop (mkF m 247 #[.val (.int p0), .val (.int p1), .val (.int p2), .val (.int p3), .val (.long q4), .second, .val (.int (3 : Int32)), .val (.int v74), .val (.int v75), .val (.int v76), .val (.ref b77), .val (.ref b79), .val (.long v102), .second, .val (.long v104), .second, .val (.int (1 : Int32)), .val (.long v115), .second, .val (.int v112)] [(.int v117)])) t
      refine XS.istore X105.here hx rfl (hb hby at_247) rfl (l' := #[.val (.int p0), .val (.int p1), .val (.int p2), .val (.int p3), .val (.long q4), .second, .val (.int (3 : Int32)), .val (.int v74), .val (.int v75), .val (.int v76), .val (.ref b77), .val (.ref b79), .val (.long v102), .second, .val (.long v104), .second, .val (.int (1 : Int32)), .val (.long v115), .second, .val (.int v117)]) rfl ?_
      show Steps p.tables e below (T105.setTop (mkF m 249 #[.val (.int p0), .val (.int p1), .val (.int p2), .val (.int p3), .val (.long q4), .second, .val (.int (3 : Int32)), .val (.int v74), .val (.int v75), .val (.int v76), .val (.ref b77), .val (.ref b79), .val (.long v102), .second, .val (.long v104), .second, .val (.int (1 : Int32)), .val (.long v115), .second, .val (.int v117)] [])) t
      refine XS.iload X105.here hx rfl (hb hby at_249) rfl ?_
      show Steps p.tables e below (T105.setTop (mkF m 251 #[.val (.int p0), .val (.int p1), .val (.int p2), .val (.int p3), .val (.long q4), .second, .val (.int (3 : Int32)), .val (.int v74), .val (.int v75), .val (.int v76), .val (.ref b77), .val (.ref b79), .val (.long v102), .second, .val (.long v104), .second, .val (.int (1 : Int32)), .val (.long v115), .second, .val (.int v117)] [(.int (1 : Int32))])) t
      refine XS.ifNo X105.here hx rfl (hb hby at_251) rfl (by decide) ?_
      show Steps p.tables e below (T105.setTop (mkF m 254 #[.val (.int p0), .val (.int p1), .val (.int p2), .val (.int p3), .val (.long q4), .second, .val (.int (3 : Int32)), .val (.int v74), .val (.int v75), .val (.int v76), .val (.ref b77), .val (.ref b79), .val (.long v102), .second, .val (.long v104), .second, .val (.int (1 : Int32)), .val (.long v115), .second, .val (.int v117)] [])) t
      refine XS.iconst X105.here hx rfl (hb hby at_254) ?_
      show Steps p.tables e below (T105.setTop (mkF m 255 #[.val (.int p0), .val (.int p1), .val (.int p2), .val (.int p3), .val (.long q4), .second, .val (.int (3 : Int32)), .val (.int v74), .val (.int v75), .val (.int v76), .val (.ref b77), .val (.ref b79), .val (.long v102), .second, .val (.long v104), .second, .val (.int (1 : Int32)), .val (.long v115), .second, .val (.int v117)] [(.int (0 : Int32))])) t
      refine XS.iload X105.here hx rfl (hb hby at_255) rfl ?_
      show Steps p.tables e below (T105.setTop (mkF m 257 #[.val (.int p0), .val (.int p1), .val (.int p2), .val (.int p3), .val (.long q4), .second, .val (.int (3 : Int32)), .val (.int v74), .val (.int v75), .val (.int v76), .val (.ref b77), .val (.ref b79), .val (.long v102), .second, .val (.long v104), .second, .val (.int (1 : Int32)), .val (.long v115), .second, .val (.int v117)] [(.int v117), (.int (0 : Int32))])) t
      exact k
    have hc118 : ¬ (v117 < (0 : Int32)) := hr2.1
    refine hD _ (T105.setTop (mkF m 264 #[.val (.int p0), .val (.int p1), .val (.int p2), .val (.int p3), .val (.long q4), .second, .val (.int (3 : Int32)), .val (.int v74), .val (.int v75), .val (.int v76), .val (.ref b77), .val (.ref b79), .val (.long v102), .second, .val (.long v104), .second, .val (.int (1 : Int32)), .val (.long v115), .second, .val (.int v117)] [(.int v76), (.int v117)])) (fun t k => ?_) ?_
    · show Steps p.tables e below (T105.setTop (mkF m 257 #[.val (.int p0), .val (.int p1), .val (.int p2), .val (.int p3), .val (.long q4), .second, .val (.int (3 : Int32)), .val (.int v74), .val (.int v75), .val (.int v76), .val (.ref b77), .val (.ref b79), .val (.long v102), .second, .val (.long v104), .second, .val (.int (1 : Int32)), .val (.long v115), .second, .val (.int v117)] [(.int v117), (.int (0 : Int32))])) t
      refine XS.icmpNo X105.here hx rfl (hb hby at_257) rfl (flt hc118).2.2.1 ?_
      show Steps p.tables e below (T105.setTop (mkF m 260 #[.val (.int p0), .val (.int p1), .val (.int p2), .val (.int p3), .val (.long q4), .second, .val (.int (3 : Int32)), .val (.int v74), .val (.int v75), .val (.int v76), .val (.ref b77), .val (.ref b79), .val (.long v102), .second, .val (.long v104), .second, .val (.int (1 : Int32)), .val (.long v115), .second, .val (.int v117)] [])) t
      refine XS.iload X105.here hx rfl (hb hby at_260) rfl ?_
      show Steps p.tables e below (T105.setTop (mkF m 262 #[.val (.int p0), .val (.int p1), .val (.int p2), .val (.int p3), .val (.long q4), .second, .val (.int (3 : Int32)), .val (.int v74), .val (.int v75), .val (.int v76), .val (.ref b77), .val (.ref b79), .val (.long v102), .second, .val (.long v104), .second, .val (.int (1 : Int32)), .val (.long v115), .second, .val (.int v117)] [(.int v117)])) t
      refine XS.iload X105.here hx rfl (hb hby at_262) rfl ?_
      show Steps p.tables e below (T105.setTop (mkF m 264 #[.val (.int p0), .val (.int p1), .val (.int p2), .val (.int p3), .val (.long q4), .second, .val (.int (3 : Int32)), .val (.int v74), .val (.int v75), .val (.int v76), .val (.ref b77), .val (.ref b79), .val (.long v102), .second, .val (.long v104), .second, .val (.int (1 : Int32)), .val (.long v115), .second, .val (.int v117)] [(.int v76), (.int v117)])) t
      exact k
    have hc119 : v117 < v76 := hr2.2
    obtain ⟨v120, hv120⟩ : ∃ z : Int64, z = ((v115 * (v76.toInt64)) + (v117.toInt64)) := ⟨_, rfl⟩
    refine hD _ (T105.setTop (mkF m 296 #[.val (.int p0), .val (.int p1), .val (.int p2), .val (.int p3), .val (.long q4), .second, .val (.int (3 : Int32)), .val (.int v74), .val (.int v75), .val (.int v76), .val (.ref b77), .val (.ref b79), .val (.long v102), .second, .val (.long v104), .second, .val (.int (1 : Int32)), .val (.long v120), .second, .val (.int v117)] [(.int (lcmpW v120 v104))])) (fun t k => ?_) ?_
    · show Steps p.tables e below (T105.setTop (mkF m 264 #[.val (.int p0), .val (.int p1), .val (.int p2), .val (.int p3), .val (.long q4), .second, .val (.int (3 : Int32)), .val (.int v74), .val (.int v75), .val (.int v76), .val (.ref b77), .val (.ref b79), .val (.long v102), .second, .val (.long v104), .second, .val (.int (1 : Int32)), .val (.long v115), .second, .val (.int v117)] [(.int v76), (.int v117)])) t
      refine XS.icmpNo X105.here hx rfl (hb hby at_264) rfl (tlt hc119).2.1 ?_
      show Steps p.tables e below (T105.setTop (mkF m 267 #[.val (.int p0), .val (.int p1), .val (.int p2), .val (.int p3), .val (.long q4), .second, .val (.int (3 : Int32)), .val (.int v74), .val (.int v75), .val (.int v76), .val (.ref b77), .val (.ref b79), .val (.long v102), .second, .val (.long v104), .second, .val (.int (1 : Int32)), .val (.long v115), .second, .val (.int v117)] [])) t
      refine XS.iconst X105.here hx rfl (hb hby at_267) ?_
      show Steps p.tables e below (T105.setTop (mkF m 268 #[.val (.int p0), .val (.int p1), .val (.int p2), .val (.int p3), .val (.long q4), .second, .val (.int (3 : Int32)), .val (.int v74), .val (.int v75), .val (.int v76), .val (.ref b77), .val (.ref b79), .val (.long v102), .second, .val (.long v104), .second, .val (.int (1 : Int32)), .val (.long v115), .second, .val (.int v117)] [(.int (1 : Int32))])) t
      refine XS.goto X105.here hx rfl (pc0 := 268) (pc' := 272) rfl (hb hby at_268) (by decide) (by decide) ?_
      show Steps p.tables e below (T105.setTop (mkF m 272 #[.val (.int p0), .val (.int p1), .val (.int p2), .val (.int p3), .val (.long q4), .second, .val (.int (3 : Int32)), .val (.int v74), .val (.int v75), .val (.int v76), .val (.ref b77), .val (.ref b79), .val (.long v102), .second, .val (.long v104), .second, .val (.int (1 : Int32)), .val (.long v115), .second, .val (.int v117)] [(.int (1 : Int32))])) t
      refine XS.istore X105.here hx rfl (hb hby at_272) rfl (l' := #[.val (.int p0), .val (.int p1), .val (.int p2), .val (.int p3), .val (.long q4), .second, .val (.int (3 : Int32)), .val (.int v74), .val (.int v75), .val (.int v76), .val (.ref b77), .val (.ref b79), .val (.long v102), .second, .val (.long v104), .second, .val (.int (1 : Int32)), .val (.long v115), .second, .val (.int v117)]) rfl ?_
      show Steps p.tables e below (T105.setTop (mkF m 274 #[.val (.int p0), .val (.int p1), .val (.int p2), .val (.int p3), .val (.long q4), .second, .val (.int (3 : Int32)), .val (.int v74), .val (.int v75), .val (.int v76), .val (.ref b77), .val (.ref b79), .val (.long v102), .second, .val (.long v104), .second, .val (.int (1 : Int32)), .val (.long v115), .second, .val (.int v117)] [])) t
      refine XS.lload X105.here hx rfl (hb hby at_274) rfl ?_
      show Steps p.tables e below (T105.setTop (mkF m 276 #[.val (.int p0), .val (.int p1), .val (.int p2), .val (.int p3), .val (.long q4), .second, .val (.int (3 : Int32)), .val (.int v74), .val (.int v75), .val (.int v76), .val (.ref b77), .val (.ref b79), .val (.long v102), .second, .val (.long v104), .second, .val (.int (1 : Int32)), .val (.long v115), .second, .val (.int v117)] [(.long v115)])) t
      refine XS.iload X105.here hx rfl (hb hby at_276) rfl ?_
      show Steps p.tables e below (T105.setTop (mkF m 278 #[.val (.int p0), .val (.int p1), .val (.int p2), .val (.int p3), .val (.long q4), .second, .val (.int (3 : Int32)), .val (.int v74), .val (.int v75), .val (.int v76), .val (.ref b77), .val (.ref b79), .val (.long v102), .second, .val (.long v104), .second, .val (.int (1 : Int32)), .val (.long v115), .second, .val (.int v117)] [(.int v76), (.long v115)])) t
      refine XS.i2l X105.here hx rfl (hb hby at_278) rfl ?_
      show Steps p.tables e below (T105.setTop (mkF m 279 #[.val (.int p0), .val (.int p1), .val (.int p2), .val (.int p3), .val (.long q4), .second, .val (.int (3 : Int32)), .val (.int v74), .val (.int v75), .val (.int v76), .val (.ref b77), .val (.ref b79), .val (.long v102), .second, .val (.long v104), .second, .val (.int (1 : Int32)), .val (.long v115), .second, .val (.int v117)] [(.long (v76.toInt64)), (.long v115)])) t
      refine XS.lmul X105.here hx rfl (hb hby at_279) rfl ?_
      show Steps p.tables e below (T105.setTop (mkF m 280 #[.val (.int p0), .val (.int p1), .val (.int p2), .val (.int p3), .val (.long q4), .second, .val (.int (3 : Int32)), .val (.int v74), .val (.int v75), .val (.int v76), .val (.ref b77), .val (.ref b79), .val (.long v102), .second, .val (.long v104), .second, .val (.int (1 : Int32)), .val (.long v115), .second, .val (.int v117)] [(.long (v115 * (v76.toInt64)))])) t
      refine XS.iload X105.here hx rfl (hb hby at_280) rfl ?_
      show Steps p.tables e below (T105.setTop (mkF m 282 #[.val (.int p0), .val (.int p1), .val (.int p2), .val (.int p3), .val (.long q4), .second, .val (.int (3 : Int32)), .val (.int v74), .val (.int v75), .val (.int v76), .val (.ref b77), .val (.ref b79), .val (.long v102), .second, .val (.long v104), .second, .val (.int (1 : Int32)), .val (.long v115), .second, .val (.int v117)] [(.int v117), (.long (v115 * (v76.toInt64)))])) t
      refine XS.i2l X105.here hx rfl (hb hby at_282) rfl ?_
      show Steps p.tables e below (T105.setTop (mkF m 283 #[.val (.int p0), .val (.int p1), .val (.int p2), .val (.int p3), .val (.long q4), .second, .val (.int (3 : Int32)), .val (.int v74), .val (.int v75), .val (.int v76), .val (.ref b77), .val (.ref b79), .val (.long v102), .second, .val (.long v104), .second, .val (.int (1 : Int32)), .val (.long v115), .second, .val (.int v117)] [(.long (v117.toInt64)), (.long (v115 * (v76.toInt64)))])) t
      refine XS.ladd X105.here hx rfl (hb hby at_283) rfl ?_
      show Steps p.tables e below (T105.setTop (mkF m 284 #[.val (.int p0), .val (.int p1), .val (.int p2), .val (.int p3), .val (.long q4), .second, .val (.int (3 : Int32)), .val (.int v74), .val (.int v75), .val (.int v76), .val (.ref b77), .val (.ref b79), .val (.long v102), .second, .val (.long v104), .second, .val (.int (1 : Int32)), .val (.long v115), .second, .val (.int v117)] [(.long ((v115 * (v76.toInt64)) + (v117.toInt64)))])) t
      refine Own.nmJ hv120 ?_
      show Steps p.tables e below (T105.setTop (mkF m 284 #[.val (.int p0), .val (.int p1), .val (.int p2), .val (.int p3), .val (.long q4), .second, .val (.int (3 : Int32)), .val (.int v74), .val (.int v75), .val (.int v76), .val (.ref b77), .val (.ref b79), .val (.long v102), .second, .val (.long v104), .second, .val (.int (1 : Int32)), .val (.long v115), .second, .val (.int v117)] [(.long v120)])) t
      refine XS.lstore X105.here hx rfl (hb hby at_284) rfl (l' := #[.val (.int p0), .val (.int p1), .val (.int p2), .val (.int p3), .val (.long q4), .second, .val (.int (3 : Int32)), .val (.int v74), .val (.int v75), .val (.int v76), .val (.ref b77), .val (.ref b79), .val (.long v102), .second, .val (.long v104), .second, .val (.int (1 : Int32)), .val (.long v120), .second, .val (.int v117)]) rfl ?_
      show Steps p.tables e below (T105.setTop (mkF m 286 #[.val (.int p0), .val (.int p1), .val (.int p2), .val (.int p3), .val (.long q4), .second, .val (.int (3 : Int32)), .val (.int v74), .val (.int v75), .val (.int v76), .val (.ref b77), .val (.ref b79), .val (.long v102), .second, .val (.long v104), .second, .val (.int (1 : Int32)), .val (.long v120), .second, .val (.int v117)] [])) t
      refine XS.iload X105.here hx rfl (hb hby at_286) rfl ?_
      show Steps p.tables e below (T105.setTop (mkF m 288 #[.val (.int p0), .val (.int p1), .val (.int p2), .val (.int p3), .val (.long q4), .second, .val (.int (3 : Int32)), .val (.int v74), .val (.int v75), .val (.int v76), .val (.ref b77), .val (.ref b79), .val (.long v102), .second, .val (.long v104), .second, .val (.int (1 : Int32)), .val (.long v120), .second, .val (.int v117)] [(.int (1 : Int32))])) t
      refine XS.ifNo X105.here hx rfl (hb hby at_288) rfl (by decide) ?_
      show Steps p.tables e below (T105.setTop (mkF m 291 #[.val (.int p0), .val (.int p1), .val (.int p2), .val (.int p3), .val (.long q4), .second, .val (.int (3 : Int32)), .val (.int v74), .val (.int v75), .val (.int v76), .val (.ref b77), .val (.ref b79), .val (.long v102), .second, .val (.long v104), .second, .val (.int (1 : Int32)), .val (.long v120), .second, .val (.int v117)] [])) t
      refine XS.lload X105.here hx rfl (hb hby at_291) rfl ?_
      show Steps p.tables e below (T105.setTop (mkF m 293 #[.val (.int p0), .val (.int p1), .val (.int p2), .val (.int p3), .val (.long q4), .second, .val (.int (3 : Int32)), .val (.int v74), .val (.int v75), .val (.int v76), .val (.ref b77), .val (.ref b79), .val (.long v102), .second, .val (.long v104), .second, .val (.int (1 : Int32)), .val (.long v120), .second, .val (.int v117)] [(.long v120)])) t
      refine XS.lload X105.here hx rfl (hb hby at_293) rfl ?_
      show Steps p.tables e below (T105.setTop (mkF m 295 #[.val (.int p0), .val (.int p1), .val (.int p2), .val (.int p3), .val (.long q4), .second, .val (.int (3 : Int32)), .val (.int v74), .val (.int v75), .val (.int v76), .val (.ref b77), .val (.ref b79), .val (.long v102), .second, .val (.long v104), .second, .val (.int (1 : Int32)), .val (.long v120), .second, .val (.int v117)] [(.long v104), (.long v120)])) t
      refine XS.lcmp X105.here hx rfl (hb hby at_295) rfl ?_
      show Steps p.tables e below (T105.setTop (mkF m 296 #[.val (.int p0), .val (.int p1), .val (.int p2), .val (.int p3), .val (.long q4), .second, .val (.int (3 : Int32)), .val (.int v74), .val (.int v75), .val (.int v76), .val (.ref b77), .val (.ref b79), .val (.long v102), .second, .val (.long v104), .second, .val (.int (1 : Int32)), .val (.long v120), .second, .val (.int v117)] [(.int (lcmpW v120 v104))])) t
      exact k
    have hc121 : v120 = v104 := by
      have e2 := own_div hk.1 (own_d hv76)
      have e1 := own_div hq2 (own_d hv75)
      have hl2 : v104.toInt / v76.toInt < v74.toInt * v75.toInt := own_dl (own_d hv76).1 (by rw [hp3.1, hp2.1, hp1] at hk; exact hk.2)
      have hl1 : v104.toInt / v76.toInt / v75.toInt < v74.toInt := own_dl (own_d hv75).1 hl2
      have t0 := own_top ⟨hq1, by rw [e1, e2]; exact hl1⟩ (own_d hv74) hw0 hv110
      have t1 := own_back hq2 (own_d hv75) hw1 (by rw [t0, e1]) hv115
      exact own_back hk.1 (own_d hv76) hw2 (by rw [t1, e2]) hv120
    refine hD _ (T105.setTop (mkF m 304 #[.val (.int p0), .val (.int p1), .val (.int p2), .val (.int p3), .val (.long q4), .second, .val (.int (3 : Int32)), .val (.int v74), .val (.int v75), .val (.int v76), .val (.ref b77), .val (.ref b79), .val (.long v102), .second, .val (.long v104), .second, .val (.int (1 : Int32)), .val (.long v120), .second, .val (.int v117)] [(.int (1 : Int32))])) (fun t k => ?_) ?_
    · show Steps p.tables e below (T105.setTop (mkF m 296 #[.val (.int p0), .val (.int p1), .val (.int p2), .val (.int p3), .val (.long q4), .second, .val (.int (3 : Int32)), .val (.int v74), .val (.int v75), .val (.int v76), .val (.ref b77), .val (.ref b79), .val (.long v102), .second, .val (.long v104), .second, .val (.int (1 : Int32)), .val (.long v120), .second, .val (.int v117)] [(.int (lcmpW v120 v104))])) t
      refine XS.ifNo X105.here hx rfl (hb hby at_296) rfl ((if0 _ _).trans (teq ((lw_eq v120 v104).mpr hc121)).2) ?_
      show Steps p.tables e below (T105.setTop (mkF m 299 #[.val (.int p0), .val (.int p1), .val (.int p2), .val (.int p3), .val (.long q4), .second, .val (.int (3 : Int32)), .val (.int v74), .val (.int v75), .val (.int v76), .val (.ref b77), .val (.ref b79), .val (.long v102), .second, .val (.long v104), .second, .val (.int (1 : Int32)), .val (.long v120), .second, .val (.int v117)] [])) t
      refine XS.iconst X105.here hx rfl (hb hby at_299) ?_
      show Steps p.tables e below (T105.setTop (mkF m 300 #[.val (.int p0), .val (.int p1), .val (.int p2), .val (.int p3), .val (.long q4), .second, .val (.int (3 : Int32)), .val (.int v74), .val (.int v75), .val (.int v76), .val (.ref b77), .val (.ref b79), .val (.long v102), .second, .val (.long v104), .second, .val (.int (1 : Int32)), .val (.long v120), .second, .val (.int v117)] [(.int (1 : Int32))])) t
      refine XS.goto X105.here hx rfl (pc0 := 300) (pc' := 304) rfl (hb hby at_300) (by decide) (by decide) ?_
      show Steps p.tables e below (T105.setTop (mkF m 304 #[.val (.int p0), .val (.int p1), .val (.int p2), .val (.int p3), .val (.long q4), .second, .val (.int (3 : Int32)), .val (.int v74), .val (.int v75), .val (.int v76), .val (.ref b77), .val (.ref b79), .val (.long v102), .second, .val (.long v104), .second, .val (.int (1 : Int32)), .val (.long v120), .second, .val (.int v117)] [(.int (1 : Int32))])) t
      exact k
    exact Own.retN hR X105 hx (t := .boolean) hret (by simp) (hb hby at_304) (by decide) (by decide) (by decide) ⟨rfl, N105⟩
set_option maxRecDepth 65536 in
set_option maxHeartbeats 40000000 in
theorem comes_1 {Post : Tables → Env → Array Value → State → Outcome → State → Prop} (hpost : ∀ tb e args s v u, (limb_1_1.after args s (.returned v) u = true ∧ limb_1_2.after args s (.returned v) u = true ∧ True) → FrameEnd s (.returned v) u (Jvm.fieldLocs frame_1_writes args s ++ Jvm.arrayLocs frame_1_arrays args s ++ Jvm.staticLocs frame_1_statics s) 16 128 → Post tb e args s (.returned v) u) :
    ArmFor flags0 classFile x code maxLocals ret World_1 tables_1 room_1 Calls_1 rest_1 Pre_1 Post := by
  intro l hfl _ _ p e ha hc hk s m args below hf hA hF happ hP
  obtain ⟨hcalls, hrest, hpre⟩ := hP
  obtain ⟨-, -, -, hnamed, -, -, -, hat⟩ := (Spec.applies_iff hf).mp happ
  obtain ⟨hg, hn⟩ := and_e (Cond.before_iff.mp (show (Jvm.Cond.and given_1 narrow_1).before args s = true from hpre))
  obtain ⟨hcnt, hg0⟩ := and_e hg
  obtain ⟨ga0, hg1⟩ := and_e hg0
  obtain ⟨ga1, hg2⟩ := and_e hg1
  obtain ⟨ga2, hg3⟩ := and_e hg2
  obtain ⟨ga3, hg4⟩ := and_e hg3
  obtain ⟨w0, w1, w2, w3, w4, rfl⟩ : ∃ w0 w1 w2 w3 w4 : Value, args = #[w0, w1, w2, w3, w4] := by
    have hs : args.size = 5 := by simpa [Cond.value, given_1] using hcnt
    obtain ⟨L⟩ := args
    match L, hs with
    | [w0, w1, w2, w3, w4], _ => exact ⟨w0, w1, w2, w3, w4, rfl⟩
  have hw := fun d (hd : d ∈ tables_1) => atoms_spec (ws := Jvm.Cond.code x code maxLocals ret :: tables_1) hat d (List.mem_cons_of_mem _ hd)
  obtain ⟨i0, ei0⟩ := is_v ga0
  obtain rfl : w0 = (.int i0) := Option.some.inj ei0
  obtain ⟨i1, ei1⟩ := is_v ga1
  obtain rfl : w1 = (.int i1) := Option.some.inj ei1
  obtain ⟨i2, ei2⟩ := is_v ga2
  obtain rfl : w2 = (.int i2) := Option.some.inj ei2
  obtain ⟨i3, ei3⟩ := is_v ga3
  obtain rfl : w3 = (.int i3) := Option.some.inj ei3
  obtain ⟨i4, ei4⟩ := isL_v hg4
  obtain rfl : w4 = (.long i4) := Option.some.inj ei4
  obtain ⟨n, o, h1, h2, h3, _, L, rfl, ⟨rfl, N⟩, hq⟩ := rm0 l s _ hw tables_1 i0 i1 i2 i3 i4 s.heap s.heap.size (Nat.le_refl _) p e ha hc hk s m _ below hf ((Spec.applies_iff_loose hf).mp happ).1 ⟨rfl, State.Warmed39.refl s, rfl⟩ trivial
  refine ⟨n, _, h1, h2, h3, hpost _ _ _ _ _ _ ⟨Cond.after_iff.mpr rfl, Cond.after_iff.mpr (eq_i res_at (Term.int_eval (1)) rfl), trivial⟩ ⟨hq.1, hq.2.1, (hq.2.2.sift fun y hy => Or.inr (N y hy)).mono (by decide) (by decide)⟩⟩
theorem main_1_1 : Claimed_1_1 := comes_1 fun _ _ _ _ _ _ h hF => ⟨h.1, hF⟩
theorem main_1_2 : Claimed_1_2 := comes_1 fun _ _ _ _ _ _ h hF => ⟨h.2.1, hF⟩
end Jvm.Pilot.@@N@@
namespace Jvm.Pilot.@@N@@
open Jvm Jvm.ClassFile Sem Op Lib Jvm.Free Jvm.Stand Jvm.Pilot.@@N@@.Jvm.D
/-! MADE BY PROGRAM (witnessworld.py) out of the Statement's table words and the real class files: 9 classes; the members and pool entries that the words name. The judged class is class 1, her method 1. -/
namespace start1
open Jvm.ClassFile
def u (s : String) : CpInfo := .utf8 (stringToUtf16 s)
/-- a pool by its gaps: so many unusable entries, then the entry; so many at the end -/
def gap : Nat → List CpInfo → List CpInfo
  | 0, r => r
  | n + 1, r => .unusable :: gap n r
def poolList (es : List (Nat × CpInfo)) (last : Nat) : List CpInfo := es.foldr (fun e r => gap e.1 (e.2 :: r)) (gap last [])
def pool (es : List (Nat × CpInfo)) (last : Nat) : Array CpInfo := ⟨poolList es last⟩
def fileOf (pool : Array CpInfo) (this : Nat) (attrs : Array Attribute := #[]) (ms : Array MethodInfo := #[]) (fl : Nat := 33) (sup : Nat := 0) (ifs : Array Nat := #[]) (fds : Array FieldInfo := #[]) : ClassFile where
  minorVersion := 0
  majorVersion := 65
  constantPool := pool
  accessFlags := fl
  thisClass := this
  superClass := sup
  interfaces := ifs
  fields := fds
  methods := ms
  attributes := attrs
def plain (name : String) (sup : Option ClassId) : Class where
  name := name
  kind := .ordinary
  loader := none
  accessFlags := 33
  super := sup
  interfaces := #[]
  cf := none
  fields := #[]
  methods := #[]
  instanceTypes := #[]
  staticTypes := #[]
  resolved := #[]
  callSites := []
  init := .initialized
  statics := none
  mirror := none

def pool0 : Array CpInfo := pool [(5, u "<init>"), (0, u "()V"), (1, .class_ 10), (1, u "java/lang/Object")] 113

def k0m0 : Method := { name := "<init>", desc := "()V", sig := { parameters := [], returnType := none }, accessFlags := 1, code := none }
/-- java/lang/Object -/
def k0 : Class := { plain "java/lang/Object" none with
  accessFlags := 33
  interfaces := #[]
  cf := some (fileOf pool0 8 #[] #[{ accessFlags := 1, nameIndex := 5, descriptorIndex := 6, attributes := #[] }] 33 0 #[] #[])
  fields := #[]
  methods := #[k0m0]
  instanceTypes := #[]
  staticTypes := #[]
  resolved := Array.replicate 124 none
  statics := none }

def pool1 : Array CpInfo := pool [(2, .class_ 4), (1, u "java/lang/Object"), (0, u "<init>"), (0, u "()V"), (2, .long 9223372036854775807), (1, .methodref 12 13), (0, .class_ 14), (0, .nameAndType 15 16), (0, u "com/example/ballast/ballast/model/CostTable"), (0, u "values"), (0, u "([IJ[I)V"), (0, .class_ 18), (0, u "com/example/ballast/ballast/model/CostTableValuesPinLaw"), (2, u "law"), (0, u "(IIIIJ)Z")] 5

def k1m0 : Method := { name := "<init>", desc := "()V", sig := { parameters := [], returnType := none }, accessFlags := 1, code := none }
def k1c1 : Code := { maxStack := 4, maxLocals := 20, code := code, exceptionTable := #[], attributes := #[] }
def k1m1 : Method := { name := "law", desc := "(IIIIJ)Z", sig := { parameters := [.int, .int, .int, .int, .long], returnType := some .boolean }, accessFlags := 9, code := some k1c1 }
/-- com/example/ballast/ballast/model/CostTableValuesPinLaw -/
def k1 : Class := { plain "com/example/ballast/ballast/model/CostTableValuesPinLaw" (some 0) with
  accessFlags := 49
  interfaces := #[]
  cf := some (fileOf pool1 17 #[] #[{ accessFlags := 1, nameIndex := 5, descriptorIndex := 6, attributes := #[] }, { accessFlags := 9, nameIndex := 21, descriptorIndex := 22, attributes := #[] }] 49 2 #[] #[])
  fields := #[]
  methods := #[k1m0, k1m1]
  instanceTypes := #[]
  staticTypes := #[]
  resolved := Array.replicate 28 none
  statics := none }

def pool2 : Array CpInfo := pool [(2, .class_ 4), (1, u "java/lang/Object"), (3, .class_ 10), (1, u "com/example/ballast/ballast/model/CostTable"), (0, u "scope"), (0, u "[I"), (2, u "domainSizes"), (2, u "defaultCost"), (0, u "J"), (2, u "keys"), (0, u "[J"), (2, u "costs"), (62, u "values"), (0, u "([IJ[I)V")] 37

def k2c0 : Code := { maxStack := 6, maxLocals := 7, code := prog_64_method_6_code, exceptionTable := #[], attributes := #[] }
def k2m0 : Method := { name := "values", desc := "([IJ[I)V", sig := { parameters := [(.array .int), .long, (.array .int)], returnType := none }, accessFlags := 8, code := some k2c0 }
/-- com/example/ballast/ballast/model/CostTable -/
def k2 : Class := { plain "com/example/ballast/ballast/model/CostTable" (some 0) with
  accessFlags := 49
  interfaces := #[]
  cf := some (fileOf pool2 8 #[] #[{ accessFlags := 8, nameIndex := 89, descriptorIndex := 90, attributes := #[] }] 49 2 #[] #[{ accessFlags := 18, nameIndex := 11, descriptorIndex := 12, attributes := #[] }, { accessFlags := 18, nameIndex := 15, descriptorIndex := 12, attributes := #[] }, { accessFlags := 18, nameIndex := 18, descriptorIndex := 19, attributes := #[] }, { accessFlags := 18, nameIndex := 22, descriptorIndex := 23, attributes := #[] }, { accessFlags := 18, nameIndex := 26, descriptorIndex := 23, attributes := #[] }])
  fields := #[{ name := "scope", type := (.array .int), accessFlags := 18, slot := 0, constantValue := 0 }, { name := "domainSizes", type := (.array .int), accessFlags := 18, slot := 1, constantValue := 0 }, { name := "defaultCost", type := .long, accessFlags := 18, slot := 2, constantValue := 0 }, { name := "keys", type := (.array .long), accessFlags := 18, slot := 3, constantValue := 0 }, { name := "costs", type := (.array .long), accessFlags := 18, slot := 4, constantValue := 0 }]
  methods := #[k2m0]
  instanceTypes := #[(.array .int), (.array .int), .long, (.array .long), (.array .long)]
  staticTypes := #[]
  resolved := Array.replicate 128 none
  statics := none }

def pool3 : Array CpInfo := pool [(1, u "java/lang/Cloneable"), (0, .class_ 1), (0, u "java/lang/Object"), (0, .class_ 3)] 3

/-- java/lang/Cloneable -/
def k3 : Class := { plain "java/lang/Cloneable" (some 0) with
  accessFlags := 1537
  interfaces := #[]
  cf := some (fileOf pool3 2 #[] #[] 1537 4 #[] #[])
  fields := #[]
  methods := #[]
  instanceTypes := #[]
  staticTypes := #[]
  resolved := Array.replicate 8 none
  statics := none }

def pool4 : Array CpInfo := pool [(1, u "java/io/Serializable"), (0, .class_ 1), (0, u "java/lang/Object"), (0, .class_ 3)] 3

/-- java/io/Serializable -/
def k4 : Class := { plain "java/io/Serializable" (some 0) with
  accessFlags := 1537
  interfaces := #[]
  cf := some (fileOf pool4 2 #[] #[] 1537 4 #[] #[])
  fields := #[]
  methods := #[]
  instanceTypes := #[]
  staticTypes := #[]
  resolved := Array.replicate 8 none
  statics := none }

/-- the primitive byte -/
def k5 : Class := { plain "byte" none with kind := .primitive 'B', accessFlags := 0x411 }
/-- [B -/
def k6 : Class := { plain "[B" (some 0) with kind := .array 5 .byte, interfaces := #[3, 4], accessFlags := 1041 }

/-- the primitive int -/
def k7 : Class := { plain "int" none with kind := .primitive 'I', accessFlags := 0x411 }
/-- [I -/
def k8 : Class := { plain "[I" (some 0) with kind := .array 7 .int, interfaces := #[3, 4], accessFlags := 1041 }

def heap : Heap := #[]
def classes : Array Class := #[k0, k1, k2, k3, k4, k5, k6, k7, k8]
def interned : List (Array UInt16 × Addr) := []
def slotsUsed : Nat := 0
def theMethod : MethodId := ⟨1, 1⟩
def args0 : Array Value := #[.int 7, .int 7, .int 7, .int 7, .long 5]
def aboutOver (below : List Frame) : State where
  vm := { classes := classes, interned := interned.toArray }
  heap := heap
  slotsUsed := slotsUsed
  threads := #[{ frames := .invoking theMethod args0 :: below }]
def below0 : List Frame := [.native { method := ⟨0, 0⟩, args := #[] }]
def about1 : State := aboutOver below0
def p0 : Program := .bare "" "" ""
def e0 : Env := launch0.env 0 0 0
theorem w_frames : about1.frames = Frame.invoking theMethod args0 :: below0 := rfl
set_option maxRecDepth 65536 in
theorem w_args : argsFit about1.vm theMethod args0 = true := by decide +kernel
set_option maxRecDepth 65536 in
theorem w_heap : heapFits about1 = true := by decide +kernel
set_option maxRecDepth 65536 in
theorem w_runnable : about1.curStatus? = some .runnable := by decide +kernel
set_option maxRecDepth 65536 in
theorem w_alone : about1.alone = true := by decide +kernel
set_option maxRecDepth 65536 in
theorem w_named : about1.methodNamed? x = some theMethod := by decide +kernel
set_option maxRecDepth 65536 in
theorem w_hears : about1.hears theMethod below0 = true := by decide +kernel
set_option maxRecDepth 65536 in
theorem w_ripe : about1.ripe theMethod args0 below0 = true := by decide +kernel
theorem w_running : about1.status = .running := rfl
set_option maxRecDepth 65536 in
theorem w_room : about1.hasRoom e0.platform room_1 = true :=
  launch0.hasRoom_least _ room_1 (by decide +kernel) (by decide +kernel) (by decide +kernel) (by decide +kernel) (by decide +kernel) (by decide +kernel)
theorem allAtoms_all (ts : List Jvm.Cond) (a : Array Jvm.Value) (st : Jvm.State) : (allAtoms ts).before a st = ts.all (fun c => c.before a st) := by
  induction ts with
  | nil => rfl
  | cons c t ih =>
    show (Jvm.Cond.and c (allAtoms t)).before a st = _
    rw [Jvm.Cond.before_and, ih, List.all_cons]
def words1 : List Jvm.Cond := Jvm.Cond.code x code maxLocals ret :: tables_1
/-- a 'code' word, met by the world's own term for the bytes: nothing is compared byte by byte -/
theorem code_word {y : MethodName} {bytes : ByteArray} {mx : Nat} {rt : Option FieldType} {a : Array Value} {s : State} {m : MethodId} {meth : Method} {c : Code} (h1 : s.methodNamed? y = some m) (h2 : s.vm.method? m = some meth) (h3 : meth.code = some c) (h4 : c.code = bytes)
    (h5 : (c.maxLocals == mx && c.exceptionTable.isEmpty && decide (c.maxStack ≤ mostOperands) && decide (meth.sig.returnType = rt) && !meth.locks && decide (parseMethodDescriptor y.desc = some meth.sig)) = true) : (Jvm.Cond.code y bytes mx rt).before a s = true := by
  simp only [Bool.and_eq_true, beq_iff_eq, Bool.not_eq_true', decide_eq_true_eq] at h5
  obtain ⟨⟨⟨⟨⟨g1, g2⟩, g3⟩, g4⟩, g5⟩, g6⟩ := h5
  simp [Cond.before, Cond.holds, Cond.value, h1, h2, h3, h4, g1, g2, g3, g4, g5, g6]
def isCode : Jvm.Cond → Bool
  | .code _ _ _ _ => true
  | _ => false
theorem all_split {L : List Jvm.Cond} {P : Jvm.Cond → Bool} (h1 : L.all (fun c => isCode c || P c) = true) (h2 : ∀ c ∈ L.filter isCode, P c = true) : L.all P = true := by
  refine List.all_eq_true.mpr fun c hc => ?_
  have h := List.all_eq_true.mp h1 c hc
  rcases Bool.eq_false_or_eq_true (isCode c) with hi | hi
  · exact h2 c (List.mem_filter.mpr ⟨hc, hi⟩)
  · simpa [hi] using h
set_option maxRecDepth 65536 in
theorem w_c0 : (Jvm.Cond.code x code maxLocals ret).before args0 about1 = true := code_word (m := ⟨1, 1⟩) (meth := k1m1) (c := k1c1) (by decide +kernel) rfl rfl rfl (by decide +kernel)
set_option maxRecDepth 65536 in
theorem w_c1 : (Jvm.Cond.code ({ cls := "com/example/ballast/ballast/model/CostTable", name := "values", desc := "([IJ[I)V" } : Jvm.MethodName) prog_64_method_6_code (7 : Nat) (Option.none : Option Jvm.ClassFile.FieldType)).before args0 about1 = true := code_word (m := ⟨2, 0⟩) (meth := k2m0) (c := k2c0) (by decide +kernel) rfl rfl rfl (by decide +kernel)
def codes1 : List Jvm.Cond := [Jvm.Cond.code x code maxLocals ret, Jvm.Cond.code ({ cls := "com/example/ballast/ballast/model/CostTable", name := "values", desc := "([IJ[I)V" } : Jvm.MethodName) prog_64_method_6_code (7 : Nat) (Option.none : Option Jvm.ClassFile.FieldType)]
set_option maxRecDepth 65536 in
theorem codes_eq : words1.filter isCode = codes1 := rfl
theorem w_codes : ∀ c ∈ words1.filter isCode, c.before args0 about1 = true := by
  rw [codes_eq]
  intro c hc
  simp only [codes1, List.mem_cons, List.not_mem_nil, or_false] at hc
  rcases hc with rfl | rfl
  · exact w_c0
  · exact w_c1
set_option maxRecDepth 65536 in
theorem w_t1 : words1.all (fun c => isCode c || c.before args0 about1) = true := by decide +kernel
theorem w_tables : (allAtoms (Jvm.Cond.code x code maxLocals ret :: tables_1)).before args0 about1 = true := by
  rw [allAtoms_all]
  show words1.all (fun c => c.before args0 about1) = true
  refine all_split ?_ w_codes
  rw [w_t1]
set_option maxRecDepth 65536 in
theorem w_case : (Jvm.Cond.and given_1 narrow_1).before args0 about1 = true := by decide +kernel
theorem w_applies : (headSpec (Jvm.Cond.code x code maxLocals ret :: tables_1) room_1).applies x e0.platform about1 = true :=
  (Spec.applies_iff w_frames).mpr ⟨w_running, w_runnable, w_alone, w_named, w_hears, w_ripe, w_room, w_tables⟩
theorem atStart : AtStart classFile x code maxLocals ret World_1 tables_1 room_1 Calls_1 rest_1 Pre_1 launch0 p0 e0 about1 theMethod args0 below0 :=
  ⟨lists_1, trivial, launch0.admits_env _ _ _, launch0.least_env, fairChoices_fair.cas, fairChoices_fair.clock, w_frames, w_args, w_heap, w_applies, trivial, trivial, w_case⟩
end start1
theorem witness_1 : WitnessClaimed_1 := ⟨start1.p0, start1.e0, start1.about1, start1.theMethod, start1.args0, start1.below0, start1.atStart⟩
end Jvm.Pilot.@@N@@
