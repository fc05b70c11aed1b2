import JvmDerived
import JvmDerived.Pilot.@@N@@Statement
import JvmDerived.Pilot.@@N@@Code
set_option linter.unusedVariables false
set_option linter.unusedSimpArgs false
@@BLOCK:NumsL.lean.txt@@
namespace Jvm.Own
open Sem ClassFile Op Lib Jvm.Stand Jvm.Free Jvm.LawKit Jvm.RoadKit
section Kit
variable {p : Program} {l : Launch} {e : Env} {R : Room} {s : State} {m : MethodId} {args : Array Value} {below : List Frame} {meth : Method} {c : Code} {T : State} {locs : List Loc} {cells slots : Nat} {Z : State} {a0 : Array Value} {h : Heap}
/-- D is closed under going back over steps -/
def Clo (p : Program) (e : Env) (below : List Frame) (D : State → Prop) : Prop := ∀ (U U' : State), (∀ t, Steps p.tables e below U' t → Steps p.tables e below U t) → D U' → D U
/-- D holds wherever the body returns with what Q says -/
def Ret (p : Program) (l : Launch) (e : Env) (R : Room) (s : State) (m : MethodId) (args : Array Value) (below : List Frame) (meth : Method) (c : Code) (Q : Option Value → Heap → List Loc → Prop) (C N : Nat) (D : State → Prop) : Prop :=
  ∀ (T : State) (locs : List Loc) (cells slots : Nat) (v : Option Value) (U : State), Stand p l e R s m args below meth c T locs cells slots → (meth.sig.returnType = none → v = none) → cells ≤ C → slots ≤ N → Q v T.heap locs →
    (∀ fs, (∀ (f : JFrame) (acts : List Action), f.method = m → f.locked = none → f.entered = [] → (doReturn e (T.setTop f) acts v).1 = T.setFrames fs) → Steps p.tables e below U (T.setFrames fs)) → D U
theorem enter {y : MethodName} {code : ByteArray} {maxL : Nat} {ret : Option FieldType} {ws : List Cond} {rm : Room} {as' : Array Value} {h0 : Heap} {Q : Option Value → Heap → List Loc → Prop} {C N : Nat} (hpl : plainFor y = true)
    (body : ∀ (p : Program) (e : Env) (s : State) (m : MethodId) (below : List Frame) (meth : Method) (c : Code) (s₁ : State) (D : State → Prop),
      p.tables.exec = Jvm.exec → c.code = code → c.maxLocals = maxL → s.vm.findClass y.cls = some m.cls → meth.name = y.name → meth.sig.returnType = ret → Z.Warmed39 s.vm → Stand p l e rm s m as' below meth c s₁ [] 0 0 → s₁.heap = h0 →
      Clo p e below D → Ret p l e rm s m as' below meth c Q C N D → D (s₁.setTop (entryFrame m as' maxL))) :
    MetFree l y (head1 (Jvm.Cond.code y code maxL ret :: ws) rm) (fun a U => a = as' ∧ Z.Warmed39 U.vm ∧ U.heap = h0) (fun _ _ _ _ _ => True) (fun _ U o U' => ∃ v L, o = .returned v ∧ Q v U'.heap L ∧ FrameEnd U o U' L C N) := by
  refine MetFree.of_bodySF hpl hisR ?_
  intro p e s m args below meth c s₁ Bd hml hP hK
  obtain ⟨rfl, hZ, hh⟩ := hP
  have X0 : Stand p l e rm s m args below meth c s₁ [] 0 0 := Stand.of_body Bd
  refine body p e s m below meth c s₁ (fun U => ∃ s₂ o, Steps p.tables e below U s₂ ∧ s₂.status = .running ∧ Ended s₂ below o ∧ ∃ v L, o = .returned v ∧ Q v s₂.heap L ∧ FrameEnd s o s₂ L C N) Bd.exec Bd.bytes hml (findClass_of_methodNamed Bd.named) (name_of_methodNamed Bd.named Bd.method).1 Bd.returns hZ X0 (by rw [← hh, Bd.state]; rfl) ?_ ?_
  · rintro U U' k ⟨s₂, o, st, r⟩
    exact ⟨s₂, o, k _ st, r⟩
  · intro T locs cells slots v U X hv hc hn hQ k
    obtain ⟨fs, hr, hrun, hended, hW, hsame⟩ := X.leave (v := v) hv
    exact ⟨_, _, k fs hr, hrun, hended, v, locs, rfl, hQ, ⟨_, rfl⟩, hW, hsame.mono hc hn⟩
theorem mono {c' n' : Nat} (X : Stand p l e R s m args below meth c T locs cells slots) (hc : cells ≤ c') (hn : slots ≤ n') : Stand p l e R s m args below meth c T locs c' n' :=
  { X with same := X.same.weaken (fun _ hy _ => hy) hc hn }
theorem forget {k : Nat} (X : Stand p l e R s m args below meth c T locs cells slots) (N : Fr k locs) (hk : s.heap.size ≤ k) : Stand p l e R s m args below meth c T [] cells slots :=
  { X with same := X.same.weaken (fun y hy hlt => absurd hlt (Nat.not_lt.mpr (Nat.le_trans hk (N y hy)))) (Nat.le_refl _) (Nat.le_refl _) }
variable {Q : Option Value → Heap → List Loc → Prop} {C N : Nat} {D : State → Prop}
theorem retI (hR : Ret p l e R s m args below meth c Q C N D) (X : Stand p l e R s m args below meth c T locs cells slots) (hx : p.tables.exec = Jvm.exec) {pc : Nat} {Ls : Array Slot} {z : Int32} {rest : List Value} (hret : meth.sig.returnType = some .int) (hd : decode c.code pc = .ok (.ireturn, 1)) (hc : cells ≤ C) (hn : slots ≤ N) (hQ : Q (some (.int z)) T.heap locs) : D (T.setTop (mkF m pc Ls (.int z :: rest))) := by
  refine hR T locs cells slots (some (.int z)) _ X (fun h => by rw [hret] at h; cases h) hc hn hQ fun fs hl => ?_
  have hm' : T.vm.method? m = some meth := X.method'
  have hn : narrow .int (.int z) = .int z := rfl
  show Steps p.tables e below (T.setTop { method := m, pc := pc, locals := Ls, stack := _ :: rest, locked := none }) _
  jvm_step X.here [X.here.top, hx, hd, hm', hret, hn]
  first | (intro acts; rw [hl _ acts rfl rfl rfl]) | rw [hl _ _ rfl rfl rfl]
  exact Steps.refl _
theorem retN (hR : Ret p l e R s m args below meth c Q C N D) (X : Stand p l e R s m args below meth c T locs cells slots) (hx : p.tables.exec = Jvm.exec) {pc : Nat} {Ls : Array Slot} {z : Int32} {t : FieldType} {rest : List Value} (hret : meth.sig.returnType = some t) (ht : t = .boolean ∨ t = .byte ∨ t = .char ∨ t = .short) (hd : decode c.code pc = .ok (.ireturn, 1)) (hc : cells ≤ C) (hn : slots ≤ N) (hz : nar t z = z) (hQ : Q (some (.int z)) T.heap locs) : D (T.setTop (mkF m pc Ls (.int z :: rest))) := by
  refine hR T locs cells slots (some (.int z)) _ X (fun h => by rw [hret] at h; cases h) hc hn hQ fun fs hl => ?_
  exact Jvm.RoadKit.retN X hx hret ht hd (by rw [hz]; exact hl)
theorem retJ (hR : Ret p l e R s m args below meth c Q C N D) (X : Stand p l e R s m args below meth c T locs cells slots) (hx : p.tables.exec = Jvm.exec) {pc : Nat} {Ls : Array Slot} {z : Int64} (hret : meth.sig.returnType = some .long) (hd : decode c.code pc = .ok (.lreturn, 1)) (hc : cells ≤ C) (hn : slots ≤ N) (hQ : Q (some (.long z)) T.heap locs) : D (T.setTop (mkF m pc Ls [.long z])) :=
  hR T locs cells slots (some (.long z)) _ X (fun h => by rw [hret] at h; cases h) hc hn hQ fun fs hl => X.lreturnOut hx hret hd hl
theorem retA (hR : Ret p l e R s m args below meth c Q C N D) (X : Stand p l e R s m args below meth c T locs cells slots) (hx : p.tables.exec = Jvm.exec) {pc : Nat} {Ls : Array Slot} {w : Value} {t : FieldType} (hw : w.isRef = true) (hret : meth.sig.returnType = some t) (ht : t.isReference = true) (hd : decode c.code pc = .ok (.areturn, 1)) (hc : cells ≤ C) (hn : slots ≤ N) (hQ : Q (some w) T.heap locs) : D (T.setTop (mkF m pc Ls [w])) :=
  hR T locs cells slots (some w) _ X (fun h => by rw [hret] at h; cases h) hc hn hQ fun fs hl => X.areturnOut hx hw hret ht hd hl
theorem retV (hR : Ret p l e R s m args below meth c Q C N D) (X : Stand p l e R s m args below meth c T locs cells slots) (hx : p.tables.exec = Jvm.exec) {pc : Nat} {Ls : Array Slot} (hret : meth.sig.returnType = none) (hd : decode c.code pc = .ok (.return_, 1)) (hc : cells ≤ C) (hn : slots ≤ N) (hQ : Q none T.heap locs) : D (T.setTop (mkF m pc Ls [])) :=
  hR T locs cells slots none _ X (fun _ => rfl) hc hn hQ fun fs hl => X.returnOut hx hret hd hl
/-! calls -/
variable {y z : MethodName} {bytes : ByteArray} {maxL : Nat} {ret : Option FieldType} {rm : Room} {W : Nat} {Qc : Option Value → Heap → List Loc → Prop} {own Cn : String} {index : Nat} {g : JFrame} {argsL rest : List Value} {a : Addr}
theorem callS (X : Stand p l e R s m args below meth c T locs cells slots) (hx : p.tables.exec = Jvm.exec) (hZ : Z.Warmed39 s.vm) (hown : s.vm.findClass own = some m.cls)
    (w1 : (Cond.methodLink own index y).before a0 Z = true) (w2 : (Cond.static y).before a0 Z = true) (w3 : (Cond.initialized y.cls).before a0 Z = true) (w4 : (Cond.code y bytes maxL ret).before a0 Z = true)
    (hy : y.cls ≠ "java/lang/invoke/MethodHandle" ∧ y.cls ≠ "java/lang/invoke/VarHandle") (e0 : T.heap = h)
    (hM : MetFree l y (head1 [Cond.code y bytes maxL ret] rm) (fun a U => a = argsL.toArray ∧ Z.Warmed39 U.vm ∧ U.heap = h) (fun _ _ _ _ _ => True) (fun _ U o U' => ∃ v L, o = .returned v ∧ Qc v U'.heap L ∧ FrameEnd U o U' L rm.cells rm.slots))
    (hf : rm.frames + 1 ≤ R.frames) (hl : W + (maxL + 11) + rm.locals ≤ R.locals) (hcells : cells + rm.cells ≤ R.cells) (hslots : slots + rm.slots ≤ R.slots)
    (hg : g.method = m) (hsize : g.locals.size = c.maxLocals) (hlen : ∀ sig, parseMethodDescriptor y.desc = some sig → argsL.length = sig.parameters.length)
    (hstack : g.stack = argsL.reverse ++ rest) (hW : 2 * g.monitorRoom + (rest.map fun v => v.category).sum ≤ W) (hdg : decode c.code g.pc = .ok (.invokestatic index, 3)) :
    ∃ (T' : State) (v : Option Value) (L : List Loc), Stand p l e R s m args below meth c T' (locs ++ L) (cells + rm.cells) (slots + rm.slots) ∧ Qc v T'.heap L ∧
      ∀ t, Steps p.tables e below (T'.setTop { g with pc := g.pc + 3, stack := v.toList ++ rest }) t → Steps p.tables e below (T.setTop g) t := by
  obtain ⟨v, _, ⟨T', L', k', n'⟩, -, X', ⟨Lc, hQ, l1, y1, z1⟩, st⟩ := Jvm.LawKit.callS X hx (y := y) hown (mvT hZ w1) (mvT hZ w2) (mvT hZ w3) (mvT hZ w4) hy (backOf (W := W) hM hZ w4 w3 hf hl) hg hsize hlen hstack hW hdg (fun _ _ => ⟨rfl, e0, hcells, hslots⟩)
  dsimp only [Pt.U, Pt.locs, Pt.cells, Pt.slots] at X' l1 y1 z1 st hQ
  subst l1 y1 z1
  exact ⟨T', v, Lc, X', hQ, st⟩
theorem callI (X : Stand p l e R s m args below meth c T locs cells slots) (hx : p.tables.exec = Jvm.exec) (hZ : Z.Warmed39 s.vm) (hown : s.vm.findClass own = some m.cls) (hy1 : y.name = "<init>")
    (w1 : (Cond.methodLink own index y).before a0 Z = true) (w2 : (Cond.instanceMethod y).before a0 Z = true) (w3 : (Cond.initialized y.cls).before a0 Z = true) (w4 : (Cond.code y bytes maxL none).before a0 Z = true)
    (hy : y.cls ≠ "java/lang/invoke/MethodHandle" ∧ y.cls ≠ "java/lang/invoke/VarHandle") (e0 : T.heap = h)
    (hM : MetFree l y (head1 [Cond.code y bytes maxL none] rm) (fun q U => q = (.ref a :: argsL).toArray ∧ Z.Warmed39 U.vm ∧ U.heap = h) (fun _ _ _ _ _ => True) (fun _ U o U' => ∃ v L, o = .returned v ∧ Qc v U'.heap L ∧ FrameEnd U o U' L rm.cells rm.slots))
    (hf : rm.frames + 1 ≤ R.frames) (hl : W + (maxL + 11) + rm.locals ≤ R.locals) (hcells : cells + rm.cells ≤ R.cells) (hslots : slots + rm.slots ≤ R.slots)
    (hg : g.method = m) (hsize : g.locals.size = c.maxLocals) (hlen : ∀ sig, parseMethodDescriptor y.desc = some sig → argsL.length = sig.parameters.length)
    (hstack : g.stack = argsL.reverse ++ .ref a :: rest) (hW : 2 * g.monitorRoom + (rest.map fun v => v.category).sum ≤ W) (hdg : decode c.code g.pc = .ok (.invokespecial index, 3)) :
    ∃ (T' : State) (v : Option Value) (L : List Loc), Stand p l e R s m args below meth c T' (locs ++ L) (cells + rm.cells) (slots + rm.slots) ∧ Qc v T'.heap L ∧
      ∀ t, Steps p.tables e below (T'.setTop { g with pc := g.pc + 3, stack := v.toList ++ rest }) t → Steps p.tables e below (T.setTop g) t := by
  obtain ⟨v, _, ⟨T', L', k', n'⟩, -, X', ⟨Lc, hQ, l1, y1, z1⟩, st⟩ := X.specialBack hx (y := y) hy1 hown (mvT hZ w1) (mvT hZ w2) (mvT hZ w4) hy (backOf (W := W) hM hZ w4 w3 hf hl) hg hsize (Steps.refl _) hlen hstack hW hdg (fun _ _ => ⟨rfl, e0, hcells, hslots⟩)
  dsimp only [Pt.U, Pt.locs, Pt.cells, Pt.slots] at X' l1 y1 z1 st hQ
  subst l1 y1 z1
  exact ⟨T', v, Lc, X', hQ, fun t k => st.trans k⟩
theorem callV (X : Stand p l e R s m args below meth c T locs cells slots) (hx : p.tables.exec = Jvm.exec) (hZ : Z.Warmed39 s.vm) (hown : s.vm.findClass own = some m.cls)
    (w1 : (Cond.methodLink own index y).before a0 Z = true) (w5 : (Cond.declares y).before a0 Z = true) (w6 : (Cond.selects Cn y y).before a0 Z = true) (w2 : (Cond.instanceMethod y).before a0 Z = true) (w3 : (Cond.initialized y.cls).before a0 Z = true) (w4 : (Cond.code y bytes maxL ret).before a0 Z = true)
    (hy : y.cls ≠ "java/lang/invoke/MethodHandle" ∧ y.cls ≠ "java/lang/invoke/VarHandle") (e0 : T.heap = h) (E : Exa Z h a Cn)
    (hM : MetFree l y (head1 [Cond.code y bytes maxL ret] rm) (fun q U => q = (.ref a :: argsL).toArray ∧ Z.Warmed39 U.vm ∧ U.heap = h) (fun _ _ _ _ _ => True) (fun _ U o U' => ∃ v L, o = .returned v ∧ Qc v U'.heap L ∧ FrameEnd U o U' L rm.cells rm.slots))
    (hf : rm.frames + 1 ≤ R.frames) (hl : W + (maxL + 11) + rm.locals ≤ R.locals) (hcells : cells + rm.cells ≤ R.cells) (hslots : slots + rm.slots ≤ R.slots)
    (hg : g.method = m) (hsize : g.locals.size = c.maxLocals) (hlen : ∀ sig, parseMethodDescriptor y.desc = some sig → argsL.length = sig.parameters.length)
    (hstack : g.stack = argsL.reverse ++ .ref a :: rest) (hW : 2 * g.monitorRoom + (rest.map fun v => v.category).sum ≤ W) (hdg : decode c.code g.pc = .ok (.invokevirtual index, 3)) :
    ∃ (T' : State) (v : Option Value) (L : List Loc), Stand p l e R s m args below meth c T' (locs ++ L) (cells + rm.cells) (slots + rm.slots) ∧ Qc v T'.heap L ∧
      ∀ t, Steps p.tables e below (T'.setTop { g with pc := g.pc + 3, stack := v.toList ++ rest }) t → Steps p.tables e below (T.setTop g) t := by
  obtain ⟨cq, kq, q1, q2, q3⟩ := isOf hZ e0 E
  obtain ⟨v, _, ⟨T', L', k', n'⟩, -, X', ⟨Lc, hQ, l1, y1, z1⟩, st⟩ := X.virtualBack hx (y := y) (z := y) hown (mvT hZ w1) (mvT hZ w5) (notFace_of_selects (args := #[]) (mvT hZ w6)) (mvT hZ w6) (mvT hZ w2) hy (backOf (W := W) hM hZ w4 w3 hf hl) q1 q3 hg hsize (Steps.refl _) hlen hstack hW hdg (fun _ _ => ⟨rfl, e0, hcells, hslots⟩)
  dsimp only [Pt.U, Pt.locs, Pt.cells, Pt.slots] at X' l1 y1 z1 st hQ
  subst l1 y1 z1
  exact ⟨T', v, Lc, X', hQ, fun t k => st.trans k⟩
/-! arrays, as functions of the place -/
def AvI (Z : State) (h : Heap) (a : Addr) (ty : FieldType) (n : Nat) (f : Nat → Int32) : Prop := ∃ c : Cell, Arr Z h a c ty ∧ c.slots.size = n ∧ n < 2 ^ 31 ∧ ∀ i, i < n → c.slots[i]? = some (.int (f i))
def AvJ (Z : State) (h : Heap) (a : Addr) (n : Nat) (f : Nat → Int64) : Prop := ∃ c : Cell, Arr Z h a c .long ∧ c.slots.size = n ∧ n < 2 ^ 31 ∧ ∀ i, i < n → c.slots[i]? = some (.long (f i))
variable {h' : Heap} {ty : FieldType} {n : Nat} {f f' : Nat → Int32} {fj fj' : Nat → Int64} {j x : Int32} {xl : Int64} {b : Addr} {sl : Nat} {v : Value} {ws : List Addr}
theorem clamp (hj : 0 ≤ j.toInt ∧ j.toInt < n) : j.toNatClampNeg = j.toInt.toNat ∧ ¬ j < 0 := by
  refine ⟨rfl, ?_⟩
  rw [Int32.lt_iff_toInt_lt, Int32.toInt_zero]; omega
theorem inb {c : Cell} (S : c.slots.size = n) (hj : 0 ≤ j.toInt ∧ j.toInt < n) : ¬ (j < 0 ∨ c.slots.size ≤ j.toNatClampNeg) := by
  have q := clamp hj
  rw [q.1, S]
  intro w
  rcases w with w | w
  · exact q.2 w
  · omega
theorem AvI.lt (A : AvI Z h a ty n f) : a < h.size := by obtain ⟨c, A, -⟩ := A; exact A.lt
theorem AvJ.lt (A : AvJ Z h a n fj) : a < h.size := by obtain ⟨c, A, -⟩ := A; exact A.lt
theorem AvI.ext (A : AvI Z h a ty n f) (E : Ext h h') : AvI Z h' a ty n f := by obtain ⟨c, A, r⟩ := A; exact ⟨c, A.ext E, r⟩
theorem AvJ.ext (A : AvJ Z h a n fj) (E : Ext h h') : AvJ Z h' a n fj := by obtain ⟨c, A, r⟩ := A; exact ⟨c, A.ext E, r⟩
theorem AvI.other (A : AvI Z h b ty n f) (W : Wr h h' a sl v) (q : b ≠ a) : AvI Z h' b ty n f := by obtain ⟨c, A, r⟩ := A; exact ⟨c, A.other W q, r⟩
theorem AvJ.other (A : AvJ Z h b n fj) (W : Wr h h' a sl v) (q : b ≠ a) : AvJ Z h' b n fj := by obtain ⟨c, A, r⟩ := A; exact ⟨c, A.other W q, r⟩
theorem AvI.keep (A : AvI Z h a ty n f) (K : Keep h h' ws) (q : a ∉ ws) : AvI Z h' a ty n f := by obtain ⟨c, A, r⟩ := A; exact ⟨c, ⟨K.2.1 a c A.1 q, A.2⟩, r⟩
theorem AvJ.keep (A : AvJ Z h a n fj) (K : Keep h h' ws) (q : a ∉ ws) : AvJ Z h' a n fj := by obtain ⟨c, A, r⟩ := A; exact ⟨c, ⟨K.2.1 a c A.1 q, A.2⟩, r⟩
theorem AvI.congr (A : AvI Z h a ty n f) (q : ∀ i, i < n → f' i = f i) : AvI Z h a ty n f' := by obtain ⟨c, A, S, M, H⟩ := A; exact ⟨c, A, S, M, fun i hi => by rw [q i hi]; exact H i hi⟩
theorem AvJ.congr (A : AvJ Z h a n fj) (q : ∀ i, i < n → fj' i = fj i) : AvJ Z h a n fj' := by obtain ⟨c, A, S, M, H⟩ := A; exact ⟨c, A, S, M, fun i hi => by rw [q i hi]; exact H i hi⟩
theorem AvI.new {cA : ClassId} {z : Int32} (A : Arr Z h a (newA cA ty z) ty) (hz : z.toInt = n) (hd : defaultValue ty = .int 0) : AvI Z h a ty n (fun _ => 0) := by
  have q : z.toNatClampNeg = n := by show z.toInt.toNat = n; omega
  refine ⟨_, A, by rw [sz_new]; exact q, by have := z.toInt_lt; omega, fun i hi => ?_⟩
  simp [newA, q, hi, hd]
theorem AvJ.new {cA : ClassId} {z : Int32} (A : Arr Z h a (newA cA .long z) .long) (hz : z.toInt = n) : AvJ Z h a n (fun _ => 0) := by
  have q : z.toNatClampNeg = n := by show z.toInt.toNat = n; omega
  refine ⟨_, A, by rw [sz_new]; exact q, by have := z.toInt_lt; omega, fun i hi => ?_⟩
  simp [newA, q, hi, defaultValue]
theorem len_nat {c : Cell} (S : c.slots.size = n) (M : n < 2 ^ 31) : c.slots.size.toInt32 = Int32.ofNat n := by rw [S]
theorem lenI (X : Stand p l e R s m args below meth c T locs cells slots) (hx : p.tables.exec = Jvm.exec) (hZ : Z.Warmed39 s.vm) (e0 : T.heap = h) (A : AvI Z h a ty n f) (hg : g.method = m) (hs : g.stack = .ref a :: rest) (hd : decode c.code g.pc = .ok (.arraylength, 1)) :
    ∀ t, Steps p.tables e below (T.setTop { g with pc := g.pc + 1, stack := .int (Int32.ofNat n) :: rest }) t → Steps p.tables e below (T.setTop g) t := by
  obtain ⟨c, A, S, M, H⟩ := A
  intro t k
  refine X.arraylength hx (by rw [e0]; exact A.1) (State.isArrayOf_alike hZ.alike A.2.1) hg hs hd _ ?_
  rw [len_nat S M]; exact k
theorem lenJ (X : Stand p l e R s m args below meth c T locs cells slots) (hx : p.tables.exec = Jvm.exec) (hZ : Z.Warmed39 s.vm) (e0 : T.heap = h) (A : AvJ Z h a n fj) (hg : g.method = m) (hs : g.stack = .ref a :: rest) (hd : decode c.code g.pc = .ok (.arraylength, 1)) :
    ∀ t, Steps p.tables e below (T.setTop { g with pc := g.pc + 1, stack := .int (Int32.ofNat n) :: rest }) t → Steps p.tables e below (T.setTop g) t := by
  obtain ⟨c, A, S, M, H⟩ := A
  intro t k
  refine X.arraylength hx (by rw [e0]; exact A.1) (State.isArrayOf_alike hZ.alike A.2.1) hg hs hd _ ?_
  rw [len_nat S M]; exact k
theorem ldI (X : Stand p l e R s m args below meth c T locs cells slots) (hx : p.tables.exec = Jvm.exec) (hZ : Z.Warmed39 s.vm) (e0 : T.heap = h) (A : AvI Z h a .int n f) (hj : 0 ≤ j.toInt ∧ j.toInt < n) (hg : g.method = m) (hs : g.stack = .int j :: .ref a :: rest) (hd : decode c.code g.pc = .ok (.iaload, 1)) :
    ∀ t, Steps p.tables e below (T.setTop { g with pc := g.pc + 1, stack := .int (f j.toInt.toNat) :: rest }) t → Steps p.tables e below (T.setTop g) t := by
  obtain ⟨c, A, S, M, H⟩ := A
  exact fun t k => X.iaload hx (by rw [e0]; exact A.1) (State.isArrayOf_alike hZ.alike A.2.1) A.2.2 (inb S hj) (by rw [(clamp hj).1]; exact H _ (by omega)) hg hs hd _ k
theorem ldJ (X : Stand p l e R s m args below meth c T locs cells slots) (hx : p.tables.exec = Jvm.exec) (hZ : Z.Warmed39 s.vm) (e0 : T.heap = h) (A : AvJ Z h a n fj) (hj : 0 ≤ j.toInt ∧ j.toInt < n) (hg : g.method = m) (hs : g.stack = .int j :: .ref a :: rest) (hd : decode c.code g.pc = .ok (.laload, 1)) :
    ∀ t, Steps p.tables e below (T.setTop { g with pc := g.pc + 1, stack := .long (fj j.toInt.toNat) :: rest }) t → Steps p.tables e below (T.setTop g) t := by
  obtain ⟨c, A, S, M, H⟩ := A
  exact fun t k => X.laload hx (by rw [e0]; exact A.1) (State.isArrayOf_alike hZ.alike A.2.1) A.2.2 (inb S hj) (by rw [(clamp hj).1]; exact H _ (by omega)) hg hs hd _ k
theorem ldB (X : Stand p l e R s m args below meth c T locs cells slots) (hx : p.tables.exec = Jvm.exec) (hZ : Z.Warmed39 s.vm) (e0 : T.heap = h) (A : AvI Z h a .byte n f) (hj : 0 ≤ j.toInt ∧ j.toInt < n) (hg : g.method = m) (hs : g.stack = .int j :: .ref a :: rest) (hd : decode c.code g.pc = .ok (.baload, 1)) :
    ∀ t, Steps p.tables e below (T.setTop { g with pc := g.pc + 1, stack := .int (f j.toInt.toNat) :: rest }) t → Steps p.tables e below (T.setTop g) t := by
  obtain ⟨c, A, S, M, H⟩ := A
  exact fun t k => X.baloadBytes hx (by rw [e0]; exact A.1) (State.isArrayOf_alike hZ.alike A.2.1) A.2.2 (inb S hj) (by rw [(clamp hj).1]; exact H _ (by omega)) hg hs hd _ k
theorem AvI.set (A : AvI Z h a ty n f) (hj : 0 ≤ j.toInt ∧ j.toInt < n) (W : Wr h h' a j.toNatClampNeg (.int x)) : AvI Z h' a ty n (fun i => if i = j.toInt.toNat then x else f i) := by
  obtain ⟨c, A, S, M, H⟩ := A
  refine ⟨_, A.same W, by rw [sz_set]; exact S, M, fun i hi => ?_⟩
  rw [(clamp hj).1]
  by_cases q : i = j.toInt.toNat
  · subst q
    simp only [Cell.setSlot, if_true]
    show (c.slots.setIfInBounds j.toInt.toNat _)[j.toInt.toNat]? = _
    rw [Array.getElem?_setIfInBounds, if_pos rfl, if_pos (by rw [S]; exact hi)]
  · simp only [Cell.setSlot, q, if_false]
    rw [Array.getElem?_setIfInBounds_ne (Ne.symm q)]; exact H i hi
theorem AvJ.set (A : AvJ Z h a n fj) (hj : 0 ≤ j.toInt ∧ j.toInt < n) (W : Wr h h' a j.toNatClampNeg (.long xl)) : AvJ Z h' a n (fun i => if i = j.toInt.toNat then xl else fj i) := by
  obtain ⟨c, A, S, M, H⟩ := A
  refine ⟨_, A.same W, by rw [sz_set]; exact S, M, fun i hi => ?_⟩
  rw [(clamp hj).1]
  by_cases q : i = j.toInt.toNat
  · subst q
    simp only [Cell.setSlot, if_true]
    show (c.slots.setIfInBounds j.toInt.toNat _)[j.toInt.toNat]? = _
    rw [Array.getElem?_setIfInBounds, if_pos rfl, if_pos (by rw [S]; exact hi)]
  · simp only [Cell.setSlot, q, if_false]
    rw [Array.getElem?_setIfInBounds_ne (Ne.symm q)]; exact H i hi
theorem stoI (X : Stand p l e R s m args below meth c T locs cells slots) (hx : p.tables.exec = Jvm.exec) (hZ : Z.Warmed39 s.vm) (e0 : T.heap = h) (A : AvI Z h a .int n f) (hj : 0 ≤ j.toInt ∧ j.toInt < n) (hg : g.method = m) (hs : g.stack = .int x :: .int j :: .ref a :: rest) (hd : decode c.code g.pc = .ok (.iastore, 1)) :
    ∃ T' h', Stand p l e R s m args below meth c T' (locs ++ [⟨a, j.toNatClampNeg⟩]) cells slots ∧ T'.heap = h' ∧ AvI Z h' a .int n (fun i => if i = j.toInt.toNat then x else f i) ∧ Wr h h' a j.toNatClampNeg (.int x) ∧ ∀ t, Steps p.tables e below (T'.setTop { g with pc := g.pc + 1, stack := rest }) t → Steps p.tables e below (T.setTop g) t := by
  obtain ⟨c, A', S, M, H⟩ := id A
  obtain ⟨T', h', X', e', W, st⟩ := stI X hx hZ e0 A' (inb S hj) hg hs hd
  exact ⟨T', h', X', e', A.set hj W, W, st⟩
theorem stoJ (X : Stand p l e R s m args below meth c T locs cells slots) (hx : p.tables.exec = Jvm.exec) (hZ : Z.Warmed39 s.vm) (e0 : T.heap = h) (A : AvJ Z h a n fj) (hj : 0 ≤ j.toInt ∧ j.toInt < n) (hg : g.method = m) (hs : g.stack = .long xl :: .int j :: .ref a :: rest) (hd : decode c.code g.pc = .ok (.lastore, 1)) :
    ∃ T' h', Stand p l e R s m args below meth c T' (locs ++ [⟨a, j.toNatClampNeg⟩]) cells slots ∧ T'.heap = h' ∧ AvJ Z h' a n (fun i => if i = j.toInt.toNat then xl else fj i) ∧ Wr h h' a j.toNatClampNeg (.long xl) ∧ ∀ t, Steps p.tables e below (T'.setTop { g with pc := g.pc + 1, stack := rest }) t → Steps p.tables e below (T.setTop g) t := by
  obtain ⟨c, A', S, M, H⟩ := id A
  obtain ⟨T', h', X', e', W, st⟩ := stJ X hx hZ e0 A' (inb S hj) hg hs hd
  exact ⟨T', h', X', e', A.set hj W, W, st⟩
theorem stoB (X : Stand p l e R s m args below meth c T locs cells slots) (hx : p.tables.exec = Jvm.exec) (hZ : Z.Warmed39 s.vm) (e0 : T.heap = h) (A : AvI Z h a .byte n f) (hj : 0 ≤ j.toInt ∧ j.toInt < n) (hg : g.method = m) (hs : g.stack = .int x :: .int j :: .ref a :: rest) (hd : decode c.code g.pc = .ok (.bastore, 1)) :
    ∃ T' h', Stand p l e R s m args below meth c T' (locs ++ [⟨a, j.toNatClampNeg⟩]) cells slots ∧ T'.heap = h' ∧ AvI Z h' a .byte n (fun i => if i = j.toInt.toNat then nar .byte x else f i) ∧ Wr h h' a j.toNatClampNeg (.int (nar .byte x)) ∧ ∀ t, Steps p.tables e below (T'.setTop { g with pc := g.pc + 1, stack := rest }) t → Steps p.tables e below (T.setTop g) t := by
  obtain ⟨c, A', S, M, H⟩ := id A
  obtain ⟨T', h', X', e', W, st⟩ := stB X hx hZ e0 A' (inb S hj) hg hs hd
  exact ⟨T', h', X', e', A.set hj W, W, st⟩
theorem stoZ (X : Stand p l e R s m args below meth c T locs cells slots) (hx : p.tables.exec = Jvm.exec) (hZ : Z.Warmed39 s.vm) (e0 : T.heap = h) (A : AvI Z h a .boolean n f) (hj : 0 ≤ j.toInt ∧ j.toInt < n) (hg : g.method = m) (hs : g.stack = .int x :: .int j :: .ref a :: rest) (hd : decode c.code g.pc = .ok (.bastore, 1)) :
    ∃ T' h', Stand p l e R s m args below meth c T' (locs ++ [⟨a, j.toNatClampNeg⟩]) cells slots ∧ T'.heap = h' ∧ AvI Z h' a .boolean n (fun i => if i = j.toInt.toNat then nar .boolean x else f i) ∧ Wr h h' a j.toNatClampNeg (.int (nar .boolean x)) ∧ ∀ t, Steps p.tables e below (T'.setTop { g with pc := g.pc + 1, stack := rest }) t → Steps p.tables e below (T.setTop g) t := by
  obtain ⟨c, A', S, M, H⟩ := id A
  obtain ⟨T', h', X', e', W, st⟩ := stZ X hx hZ e0 A' (inb S hj) hg hs hd
  exact ⟨T', h', X', e', A.set hj W, W, st⟩
theorem snoc {k : Nat} (N : Fr k locs) (q : k ≤ a) : Fr k (locs ++ [⟨a, sl⟩]) := N.app fun y hy => by cases List.mem_singleton.mp hy; exact q
theorem nmI {v x : Int32} {pc : Nat} {ls : Array Slot} {st : List Value} {t : State} (q : v = x) (k : Steps p.tables e below (T.setTop (mkF m pc ls (.int v :: st))) t) : Steps p.tables e below (T.setTop (mkF m pc ls (.int x :: st))) t := by subst q; exact k
theorem nmJ {v x : Int64} {pc : Nat} {ls : Array Slot} {st : List Value} {t : State} (q : v = x) (k : Steps p.tables e below (T.setTop (mkF m pc ls (.long v :: st))) t) : Steps p.tables e below (T.setTop (mkF m pc ls (.long x :: st))) t := by subst q; exact k
theorem ne_of {x y : Nat} (q : @Ne Nat x y) : @Ne Addr x y := q
theorem ldZ (X : Stand p l e R s m args below meth c T locs cells slots) (hx : p.tables.exec = Jvm.exec) (hZ : Z.Warmed39 s.vm) (e0 : T.heap = h) (A : AvI Z h a .boolean n f) (hj : 0 ≤ j.toInt ∧ j.toInt < n) (hg : g.method = m) (hs : g.stack = .int j :: .ref a :: rest) (hd : decode c.code g.pc = .ok (.baload, 1)) :
    ∀ t, Steps p.tables e below (T.setTop { g with pc := g.pc + 1, stack := .int (f j.toInt.toNat) :: rest }) t → Steps p.tables e below (T.setTop g) t := by
  obtain ⟨c, A, S, M, H⟩ := A
  exact fun t k => X.baloadBooleans hx (by rw [e0]; exact A.1) (State.isArrayOf_alike hZ.alike A.2.1) A.2.2 (inb S hj) (by rw [(clamp hj).1]; exact H _ (by omega)) hg hs hd _ k
theorem lrem_eq (x y : Int64) : x - x / y * y = x % y := by
  apply Int64.toInt_inj.mp
  have hy := Int64.toInt_mod x y
  have q := Int64.toInt_div x y
  rw [hy, Int64.toInt_sub, Int64.toInt_mul, q]
  have h1 := Int.tmod_add_mul_tdiv x.toInt y.toInt
  have h2 : x.toInt.tmod y.toInt = x.toInt - x.toInt.tdiv y.toInt * y.toInt := by rw [Int.mul_comm]; omega
  have h3 := rng64 x
  have h4 := rng64 y
  have h5 : (x.toInt.tmod y.toInt) % (2 ^ 64) = (x.toInt - x.toInt.tdiv y.toInt * y.toInt) % (2 ^ 64) := by rw [h2]
  have h6 : -2 ^ 63 ≤ x.toInt.tmod y.toInt ∧ x.toInt.tmod y.toInt < 2 ^ 63 := by rw [← hy]; exact ⟨(x % y).le_toInt, (x % y).toInt_lt⟩
  rw [← Int.bmod_eq_of_le (n := x.toInt.tmod y.toInt) (m := 2 ^ 64) (by omega) (by omega), h2]
  simp only [Int.bmod_sub_bmod, Int.sub_bmod_bmod, Int.bmod_mul_bmod, Int.mul_bmod_bmod]
theorem lremM {t : State} (X : Stand p l e R s m args below meth c T locs cells slots) (hx : p.tables.exec = Jvm.exec) (hg : g.method = m) {x y : Int64} (hd : decode c.code g.pc = .ok (.lrem, 1)) (hs : g.stack = .long y :: .long x :: rest) (hy : y ≠ 0)
    (hr : Steps p.tables e below (T.setTop { g with pc := g.pc + 1, stack := .long (x % y) :: rest }) t) : Steps p.tables e below (T.setTop g) t :=
  XS.lrem X.here hx hg hd hs hy (by rw [lrem_eq]; exact hr)
/-- a boolean as an int -/
def b2i (b : Bool) : Int32 := if b then 1 else 0
theorem b2i_t : b2i true = 1 := rfl
theorem b2i_f : b2i false = 0 := rfl
theorem b2i_nar (b : Bool) : nar .boolean (b2i b) = b2i b := by cases b <;> decide
theorem b2i_eq0 {b : Bool} : b2i b = 0 ↔ ¬ b = true := by cases b <;> decide
theorem b2i_inj {b b' : Bool} : b2i b = b2i b' ↔ b = b' := by cases b <;> cases b' <;> decide
end Kit
end Jvm.Own
namespace Jvm.Pilot.@@N@@
open Jvm Jvm.ClassFile Sem Op Lib Jvm.Free Jvm.Stand Jvm.LawKit Jvm.RoadKit Bundle Jvm.Pilot.@@N@@.Jvm.D
def own_max (a b : Int32) : Int32 := if a < b then b else a
def own_key : Nat → (Nat → Int32) → (Nat → Int32) → Int64
  | 0, _, _ => 0
  | k + 1, f, g => own_key k f g * (f k).toInt64 + (g k).toInt64
theorem own_lt {a b : Int32} : a < b ↔ a.toInt < b.toInt := Int32.lt_iff_toInt_lt
theorem own_nz1 {v x : Int32} (h : v = own_max 1 x) : v ≠ 0 := by
  subst h
  intro q
  have k1 : (1 : Int32).toInt = 1 := by decide
  have k0 : (0 : Int32).toInt = 0 := by decide
  have := congrArg Int32.toInt q
  unfold own_max at this
  split at this
  · rename_i hc
    rw [own_lt, k1] at hc; omega
  · omega
theorem own_nz0 {v x : Int32} (h : v = (x &&& 65535) + 1) : v ≠ 0 := by
  intro q
  have e : (x &&& 65535).toInt = x.toInt % 2 ^ 16 := Jvm.Kit.i32_mask x 65535 (k := 16) (by decide) (by decide)
  have k1 : (1 : Int32).toInt = 1 := by decide
  have k0 : (0 : Int32).toInt = 0 := by decide
  have := congrArg Int32.toInt q
  rw [h, Jvm.Kit.i32_add (by omega) (by omega)] at this
  omega
theorem d1_0 : decode jdk_29_method_65_code 0 = .ok (.iload_n 0, 1) := by decide +kernel
theorem d1_1 : decode jdk_29_method_65_code 1 = .ok (.iload_n 1, 1) := by decide +kernel
theorem d1_2 : decode jdk_29_method_65_code 2 = .ok (.if_icmp .lt 7, 3) := by decide +kernel
theorem d1_5 : decode jdk_29_method_65_code 5 = .ok (.iload_n 0, 1) := by decide +kernel
theorem d1_6 : decode jdk_29_method_65_code 6 = .ok (.goto 4, 3) := by decide +kernel
theorem d1_9 : decode jdk_29_method_65_code 9 = .ok (.iload_n 1, 1) := by decide +kernel
theorem d1_10 : decode jdk_29_method_65_code 10 = .ok (.ireturn, 1) := by decide +kernel
theorem ef_1 (m : MethodId) (p0 : Int32) (p1 : Int32) : entryFrame m #[(.int p0), (.int p1)] 2 = mkF m 0 #[.val (.int p0), .val (.int p1)] [] := by first | (simp [entryFrame, mkF, argsToLocals, Value.category]; done) | rfl
def Q1 (Z : State) (p0 : Int32) (p1 : Int32) (h0 : Heap) (n0 : Nat) (v : Option Value) (h : Heap) (L : List Loc) : Prop := v = some (.int (own_max p0 p1)) ∧ Fr n0 L ∧ h = h0
set_option maxRecDepth 65536 in
set_option maxHeartbeats 40000000 in
theorem rm1 (l : Launch) (Z : State) (a0 : Array Value) (hw : ∀ d ∈ tables_1, d.before a0 Z = true) (ws : List Jvm.Cond) (p0 : Int32) (p1 : Int32) (h0 : Heap) (n0 : Nat) :
    MetFree l (⟨"java/lang/Math", "max", "(II)I"⟩ : MethodName) (head1 (Jvm.Cond.code (⟨"java/lang/Math", "max", "(II)I"⟩ : MethodName) jdk_29_method_65_code 2 (some .int) :: ws) ({ frames := 0, cells := 0, slots := 0, locals := 0 } : Room)) (fun a U => a = #[(.int p0), (.int p1)] ∧ Z.Warmed39 U.vm ∧ U.heap = h0) (fun _ _ _ _ _ => True) (fun _ U o U' => ∃ v L, o = .returned v ∧ Q1 Z p0 p1 h0 n0 v U'.heap L ∧ FrameEnd U o U' L ({ frames := 0, cells := 0, slots := 0, locals := 0 } : Room).cells ({ frames := 0, cells := 0, slots := 0, locals := 0 } : Room).slots) := by
  refine Own.enter (Q := Q1 Z p0 p1 h0 n0) (Jvm.Free.JP.mathPlain rfl (by decide +kernel)) ?_
  intro p e s m below meth c s₁ D hx hby hml hown hnm hret hZ X0 e0 hD hR
  have N0 := Fr.nil n0
  rw [show entryFrame m #[(.int p0), (.int p1)] 2 = mkF m 0 #[.val (.int p0), .val (.int p1)] [] from ef_1 m p0 p1]
  refine hD _ (s₁.setTop (mkF m 2 #[.val (.int p0), .val (.int p1)] [(.int p1), (.int p0)])) (fun t k => ?_) ?_
  · show Steps p.tables e below (s₁.setTop (mkF m 0 #[.val (.int p0), .val (.int p1)] [])) t
    refine XS.iloadN X0.here hx rfl (hb hby d1_0) rfl ?_
    show Steps p.tables e below (s₁.setTop (mkF m 1 #[.val (.int p0), .val (.int p1)] [(.int p0)])) t
    refine XS.iloadN X0.here hx rfl (hb hby d1_1) rfl ?_
    show Steps p.tables e below (s₁.setTop (mkF m 2 #[.val (.int p0), .val (.int p1)] [(.int p1), (.int p0)])) t
    exact k
  by_cases hc1 : p0 < p1
  · refine hD _ (s₁.setTop (mkF m 10 #[.val (.int p0), .val (.int p1)] [(.int p1)])) (fun t k => ?_) ?_
    · show Steps p.tables e below (s₁.setTop (mkF m 2 #[.val (.int p0), .val (.int p1)] [(.int p1), (.int p0)])) t
      refine XS.icmpYes X0.here hx rfl (pc0 := 2) (pc' := 9) rfl (hb hby d1_2) rfl (tlt hc1).1 (by decide) (by decide) ?_
      show Steps p.tables e below (s₁.setTop (mkF m 9 #[.val (.int p0), .val (.int p1)] [])) t
      refine XS.iloadN X0.here hx rfl (hb hby d1_9) rfl ?_
      show Steps p.tables e below (s₁.setTop (mkF m 10 #[.val (.int p0), .val (.int p1)] [(.int p1)])) t
      exact k
    exact Own.retI hR X0 hx hret (hb hby d1_10) (by decide) (by decide) ⟨by simp [own_max, hc1], N0, e0⟩
  · refine hD _ (s₁.setTop (mkF m 10 #[.val (.int p0), .val (.int p1)] [(.int p0)])) (fun t k => ?_) ?_
    · show Steps p.tables e below (s₁.setTop (mkF m 2 #[.val (.int p0), .val (.int p1)] [(.int p1), (.int p0)])) t
      refine XS.icmpNo X0.here hx rfl (hb hby d1_2) rfl (flt hc1).1 ?_
      show Steps p.tables e below (s₁.setTop (mkF m 5 #[.val (.int p0), .val (.int p1)] [])) t
      refine XS.iloadN X0.here hx rfl (hb hby d1_5) rfl ?_
      show Steps p.tables e below (s₁.setTop (mkF m 6 #[.val (.int p0), .val (.int p1)] [(.int p0)])) t
      refine XS.goto X0.here hx rfl (pc0 := 6) (pc' := 10) rfl (hb hby d1_6) (by decide) (by decide) ?_
      show Steps p.tables e below (s₁.setTop (mkF m 10 #[.val (.int p0), .val (.int p1)] [(.int p0)])) t
      exact k
    exact Own.retI hR X0 hx hret (hb hby d1_10) (by decide) (by decide) ⟨by simp [own_max, hc1], N0, e0⟩
theorem d2_0 : decode method_2_code 0 = .ok (.iconst 1, 1) := by decide +kernel
theorem d2_1 : decode method_2_code 1 = .ok (.iload_n 0, 1) := by decide +kernel
theorem d2_2 : decode method_2_code 2 = .ok (.ldc 7, 2) := by decide +kernel
theorem d2_4 : decode method_2_code 4 = .ok (.iand, 1) := by decide +kernel
theorem d2_5 : decode method_2_code 5 = .ok (.invokestatic 8, 3) := by decide +kernel
theorem d2_8 : decode method_2_code 8 = .ok (.ireturn, 1) := by decide +kernel
theorem pd_0 : parseMethodDescriptor "(II)I" = some ⟨[.int, .int], some .int⟩ := by decide +kernel
theorem pn_0 : plainName "com/example/ballast/ballast/model/CostTableKeyPinLaw" = true := by first | (simp [plainName, overriddenIn]; done) | decide +kernel
theorem ef_2 (m : MethodId) (p0 : Int32) : entryFrame m #[(.int p0)] 1 = mkF m 0 #[.val (.int p0)] [] := by first | (simp [entryFrame, mkF, argsToLocals, Value.category]; done) | rfl
def Q2 (Z : State) (p0 : Int32) (h0 : Heap) (n0 : Nat) (v : Option Value) (h : Heap) (L : List Loc) : Prop := v = some (.int (own_max 1 (p0 &&& 2147483647))) ∧ Fr n0 L ∧ h = h0
set_option maxRecDepth 65536 in
set_option maxHeartbeats 40000000 in
theorem rm2 (l : Launch) (Z : State) (a0 : Array Value) (hw : ∀ d ∈ tables_1, d.before a0 Z = true) (ws : List Jvm.Cond) (p0 : Int32) (h0 : Heap) (n0 : Nat) :
    MetFree l (⟨"com/example/ballast/ballast/model/CostTableKeyPinLaw", "size", "(I)I"⟩ : MethodName) (head1 (Jvm.Cond.code (⟨"com/example/ballast/ballast/model/CostTableKeyPinLaw", "size", "(I)I"⟩ : MethodName) method_2_code 1 (some .int) :: ws) ({ frames := 1, cells := 0, slots := 0, locals := 13 } : Room)) (fun a U => a = #[(.int p0)] ∧ Z.Warmed39 U.vm ∧ U.heap = h0) (fun _ _ _ _ _ => True) (fun _ U o U' => ∃ v L, o = .returned v ∧ Q2 Z p0 h0 n0 v U'.heap L ∧ FrameEnd U o U' L ({ frames := 1, cells := 0, slots := 0, locals := 13 } : Room).cells ({ frames := 1, cells := 0, slots := 0, locals := 13 } : Room).slots) := by
  refine Own.enter (Q := Q2 Z p0 h0 n0) (plainFor_of_name pn_0) ?_
  intro p e s m below meth c s₁ D hx hby hml hown hnm hret hZ X0 e0 hD hR
  have N0 := Fr.nil n0
  rw [show entryFrame m #[(.int p0)] 1 = mkF m 0 #[.val (.int p0)] [] from ef_2 m p0]
  obtain ⟨T1, _, L1, X1, ⟨rfl, Nq1, e1⟩, st1⟩ := Own.callS (y := (⟨"java/lang/Math", "max", "(II)I"⟩ : MethodName)) (W := 0) (argsL := [(.int (1 : Int32)), (.int (p0 &&& (2147483647 : Int32)))]) (rest := []) X0 hx hZ hown (hw _ (List.mem_of_getElem? (i := 6) rfl)) (hw _ (List.mem_of_getElem? (i := 7) rfl)) (hw _ (List.mem_of_getElem? (i := 8) rfl)) (hw _ (List.mem_of_getElem? (i := 9) rfl)) (by decide) e0 (rm1 l Z a0 hw [] (1 : Int32) (p0 &&& (2147483647 : Int32))  h0 n0 ) (by decide) (by decide) (by decide) (by decide) (g := (mkF m 5 #[.val (.int p0)] [(.int (p0 &&& (2147483647 : Int32))), (.int (1 : Int32))])) rfl (by rw [hml]; rfl) (lenOf pd_0 rfl) rfl (by show 2 * 0 + _ ≤ _; exact Nat.le_of_eq rfl) (hb hby d2_5)
  have N1 := Fr.app N0 Nq1
  refine hD _ (T1.setTop (mkF m 8 #[.val (.int p0)] [(.int (own_max (1 : Int32) (p0 &&& (2147483647 : Int32))))])) (fun t k => ?_) ?_
  · show Steps p.tables e below (s₁.setTop (mkF m 0 #[.val (.int p0)] [])) t
    refine XS.iconst X0.here hx rfl (hb hby d2_0) ?_
    show Steps p.tables e below (s₁.setTop (mkF m 1 #[.val (.int p0)] [(.int (1 : Int32))])) t
    refine XS.iloadN X0.here hx rfl (hb hby d2_1) rfl ?_
    show Steps p.tables e below (s₁.setTop (mkF m 2 #[.val (.int p0)] [(.int p0), (.int (1 : Int32))])) t
    refine X0.ldcInt hx hown (mvT hZ (hw _ (List.mem_of_getElem? (i := 5) rfl))) (g := (mkF m 2 #[.val (.int p0)] [(.int p0), (.int (1 : Int32))])) rfl (hb hby d2_2) _ ?_
    show Steps p.tables e below (s₁.setTop (mkF m 4 #[.val (.int p0)] [(.int (2147483647 : Int32)), (.int p0), (.int (1 : Int32))])) t
    refine XS.iand X0.here hx rfl (hb hby d2_4) rfl ?_
    show Steps p.tables e below (s₁.setTop (mkF m 5 #[.val (.int p0)] [(.int (p0 &&& (2147483647 : Int32))), (.int (1 : Int32))])) t
    refine st1 _ ?_
    show Steps p.tables e below (T1.setTop (mkF m 8 #[.val (.int p0)] [(.int (own_max (1 : Int32) (p0 &&& (2147483647 : Int32))))])) t
    exact k
  exact Own.retI hR X1 hx hret (hb hby d2_8) (by decide) (by decide) ⟨rfl, N1, e1⟩
theorem d3_0 : decode method_3_code 0 = .ok (.iload_n 0, 1) := by decide +kernel
theorem d3_1 : decode method_3_code 1 = .ok (.ldc 7, 2) := by decide +kernel
theorem d3_3 : decode method_3_code 3 = .ok (.iand, 1) := by decide +kernel
theorem d3_4 : decode method_3_code 4 = .ok (.iload_n 1, 1) := by decide +kernel
theorem d3_5 : decode method_3_code 5 = .ok (.irem, 1) := by decide +kernel
theorem d3_6 : decode method_3_code 6 = .ok (.ireturn, 1) := by decide +kernel
theorem ef_3 (m : MethodId) (p0 : Int32) (p1 : Int32) : entryFrame m #[(.int p0), (.int p1)] 2 = mkF m 0 #[.val (.int p0), .val (.int p1)] [] := by first | (simp [entryFrame, mkF, argsToLocals, Value.category]; done) | rfl
def Q3 (Z : State) (p0 : Int32) (p1 : Int32) (h0 : Heap) (n0 : Nat) (v : Option Value) (h : Heap) (L : List Loc) : Prop := v = some (.int ((p0 &&& 2147483647) % p1)) ∧ Fr n0 L ∧ h = h0
set_option maxRecDepth 65536 in
set_option maxHeartbeats 40000000 in
theorem rm3 (l : Launch) (Z : State) (a0 : Array Value) (hw : ∀ d ∈ tables_1, d.before a0 Z = true) (ws : List Jvm.Cond) (p0 : Int32) (p1 : Int32) (h0 : Heap) (n0 : Nat) (hn : p1 ≠ 0) :
    MetFree l (⟨"com/example/ballast/ballast/model/CostTableKeyPinLaw", "val", "(II)I"⟩ : MethodName) (head1 (Jvm.Cond.code (⟨"com/example/ballast/ballast/model/CostTableKeyPinLaw", "val", "(II)I"⟩ : MethodName) method_3_code 2 (some .int) :: ws) ({ frames := 0, cells := 0, slots := 0, locals := 0 } : Room)) (fun a U => a = #[(.int p0), (.int p1)] ∧ Z.Warmed39 U.vm ∧ U.heap = h0) (fun _ _ _ _ _ => True) (fun _ U o U' => ∃ v L, o = .returned v ∧ Q3 Z p0 p1 h0 n0 v U'.heap L ∧ FrameEnd U o U' L ({ frames := 0, cells := 0, slots := 0, locals := 0 } : Room).cells ({ frames := 0, cells := 0, slots := 0, locals := 0 } : Room).slots) := by
  refine Own.enter (Q := Q3 Z p0 p1 h0 n0) (plainFor_of_name pn_0) ?_
  intro p e s m below meth c s₁ D hx hby hml hown hnm hret hZ X0 e0 hD hR
  have N0 := Fr.nil n0
  rw [show entryFrame m #[(.int p0), (.int p1)] 2 = mkF m 0 #[.val (.int p0), .val (.int p1)] [] from ef_3 m p0 p1]
  have hnz1 : p1 ≠ 0 := hn
  refine hD _ (s₁.setTop (mkF m 6 #[.val (.int p0), .val (.int p1)] [(.int ((p0 &&& (2147483647 : Int32)) % p1))])) (fun t k => ?_) ?_
  · show Steps p.tables e below (s₁.setTop (mkF m 0 #[.val (.int p0), .val (.int p1)] [])) t
    refine XS.iloadN X0.here hx rfl (hb hby d3_0) rfl ?_
    show Steps p.tables e below (s₁.setTop (mkF m 1 #[.val (.int p0), .val (.int p1)] [(.int p0)])) t
    refine X0.ldcInt hx hown (mvT hZ (hw _ (List.mem_of_getElem? (i := 5) rfl))) (g := (mkF m 1 #[.val (.int p0), .val (.int p1)] [(.int p0)])) rfl (hb hby d3_1) _ ?_
    show Steps p.tables e below (s₁.setTop (mkF m 3 #[.val (.int p0), .val (.int p1)] [(.int (2147483647 : Int32)), (.int p0)])) t
    refine XS.iand X0.here hx rfl (hb hby d3_3) rfl ?_
    show Steps p.tables e below (s₁.setTop (mkF m 4 #[.val (.int p0), .val (.int p1)] [(.int (p0 &&& (2147483647 : Int32)))])) t
    refine XS.iloadN X0.here hx rfl (hb hby d3_4) rfl ?_
    show Steps p.tables e below (s₁.setTop (mkF m 5 #[.val (.int p0), .val (.int p1)] [(.int p1), (.int (p0 &&& (2147483647 : Int32)))])) t
    refine Jvm.RoadKit.iremM (g := (mkF m 5 #[.val (.int p0), .val (.int p1)] [(.int p1), (.int (p0 &&& (2147483647 : Int32)))])) X0 hx rfl (hb hby d3_5) rfl hnz1 ?_
    show Steps p.tables e below (s₁.setTop (mkF m 6 #[.val (.int p0), .val (.int p1)] [(.int ((p0 &&& (2147483647 : Int32)) % p1))])) t
    exact k
  exact Own.retI hR X0 hx hret (hb hby d3_6) (by decide) (by decide) ⟨rfl, N0, e0⟩
theorem d10_0 : decode prog_64_method_5_code 0 = .ok (.lconst 0, 1) := by decide +kernel
theorem d10_1 : decode prog_64_method_5_code 1 = .ok (.lstore_n 2, 1) := by decide +kernel
theorem d10_2 : decode prog_64_method_5_code 2 = .ok (.iconst 0, 1) := by decide +kernel
theorem d10_3 : decode prog_64_method_5_code 3 = .ok (.istore 4, 2) := by decide +kernel
theorem d10_5 : decode prog_64_method_5_code 5 = .ok (.iload 4, 2) := by decide +kernel
theorem d10_7 : decode prog_64_method_5_code 7 = .ok (.aload_n 1, 1) := by decide +kernel
theorem d10_8 : decode prog_64_method_5_code 8 = .ok (.arraylength, 1) := by decide +kernel
theorem d10_9 : decode prog_64_method_5_code 9 = .ok (.if_icmp .ge 23, 3) := by decide +kernel
theorem d10_32 : decode prog_64_method_5_code 32 = .ok (.lload_n 2, 1) := by decide +kernel
theorem d10_33 : decode prog_64_method_5_code 33 = .ok (.lreturn, 1) := by decide +kernel
theorem pn_1 : plainName "com/example/ballast/ballast/model/CostTable" = true := by first | (simp [plainName, overriddenIn]; done) | decide +kernel
theorem ef_10 (m : MethodId) (o0 : Addr) (o1 : Addr) : entryFrame m #[(.ref o0), (.ref o1)] 5 = mkF m 0 #[.val (.ref o0), .val (.ref o1), .unset, .unset, .unset] [] := by first | (simp [entryFrame, mkF, argsToLocals, Value.category]; done) | rfl
def Q10 (Z : State) (o0 : Nat) (o1 : Nat) (f g : Nat → Int32) (h0 : Heap) (n0 : Nat) (v : Option Value) (h : Heap) (L : List Loc) : Prop := v = some (.long (own_key 0 f g)) ∧ Fr n0 L ∧ h = h0
set_option maxRecDepth 65536 in
set_option maxHeartbeats 40000000 in
theorem rm10 (l : Launch) (Z : State) (a0 : Array Value) (hw : ∀ d ∈ tables_1, d.before a0 Z = true) (ws : List Jvm.Cond) (o0 : Nat) (o1 : Nat) (f g : Nat → Int32) (h0 : Heap) (n0 : Nat) (A0 : Own.AvI Z h0 o0 .int 0 f) (A1 : Own.AvI Z h0 o1 .int 0 g) :
    MetFree l (⟨"com/example/ballast/ballast/model/CostTable", "key", "([I[I)J"⟩ : MethodName) (head1 (Jvm.Cond.code (⟨"com/example/ballast/ballast/model/CostTable", "key", "([I[I)J"⟩ : MethodName) prog_64_method_5_code 5 (some .long) :: ws) ({ frames := 0, cells := 0, slots := 0, locals := 0 } : Room)) (fun a U => a = #[(.ref o0), (.ref o1)] ∧ Z.Warmed39 U.vm ∧ U.heap = h0) (fun _ _ _ _ _ => True) (fun _ U o U' => ∃ v L, o = .returned v ∧ Q10 Z o0 o1 f g h0 n0 v U'.heap L ∧ FrameEnd U o U' L ({ frames := 0, cells := 0, slots := 0, locals := 0 } : Room).cells ({ frames := 0, cells := 0, slots := 0, locals := 0 } : Room).slots) := by
  refine Own.enter (Q := Q10 Z o0 o1 f g h0 n0) (plainFor_of_name pn_1) ?_
  intro p e s m below meth c s₁ D hx hby hml hown hnm hret hZ X0 e0 hD hR
  have N0 := Fr.nil n0
  rw [show entryFrame m #[(.ref o0), (.ref o1)] 5 = mkF m 0 #[.val (.ref o0), .val (.ref o1), .unset, .unset, .unset] [] from ef_10 m o0 o1]
  refine hD _ (s₁.setTop (mkF m 33 #[.val (.ref o0), .val (.ref o1), .val (.long (0 : Int64)), .second, .val (.int (0 : Int32))] [(.long (0 : Int64))])) (fun t k => ?_) ?_
  · show Steps p.tables e below (s₁.setTop (mkF m 0 #[.val (.ref o0), .val (.ref o1), .unset, .unset, .unset] [])) t
    refine XS.lconst X0.here hx rfl (hb hby d10_0) ?_
    show Steps p.tables e below (s₁.setTop (mkF m 1 #[.val (.ref o0), .val (.ref o1), .unset, .unset, .unset] [(.long (0 : Int64))])) t
    refine XS.lstoreN X0.here hx rfl (hb hby d10_1) rfl (l' := #[.val (.ref o0), .val (.ref o1), .val (.long (0 : Int64)), .second, .unset]) rfl ?_
    show Steps p.tables e below (s₁.setTop (mkF m 2 #[.val (.ref o0), .val (.ref o1), .val (.long (0 : Int64)), .second, .unset] [])) t
    refine XS.iconst X0.here hx rfl (hb hby d10_2) ?_
    show Steps p.tables e below (s₁.setTop (mkF m 3 #[.val (.ref o0), .val (.ref o1), .val (.long (0 : Int64)), .second, .unset] [(.int (0 : Int32))])) t
    refine XS.istore X0.here hx rfl (hb hby d10_3) rfl (l' := #[.val (.ref o0), .val (.ref o1), .val (.long (0 : Int64)), .second, .val (.int (0 : Int32))]) rfl ?_
    show Steps p.tables e below (s₁.setTop (mkF m 5 #[.val (.ref o0), .val (.ref o1), .val (.long (0 : Int64)), .second, .val (.int (0 : Int32))] [])) t
    refine XS.iload X0.here hx rfl (hb hby d10_5) rfl ?_
    show Steps p.tables e below (s₁.setTop (mkF m 7 #[.val (.ref o0), .val (.ref o1), .val (.long (0 : Int64)), .second, .val (.int (0 : Int32))] [(.int (0 : Int32))])) t
    refine XS.aloadN X0.here hx rfl (hb hby d10_7) rfl rfl ?_
    show Steps p.tables e below (s₁.setTop (mkF m 8 #[.val (.ref o0), .val (.ref o1), .val (.long (0 : Int64)), .second, .val (.int (0 : Int32))] [(.ref o1), (.int (0 : Int32))])) t
    refine Own.lenI X0 hx hZ e0 A1 (g := (mkF m 8 #[.val (.ref o0), .val (.ref o1), .val (.long (0 : Int64)), .second, .val (.int (0 : Int32))] [(.ref o1), (.int (0 : Int32))])) rfl rfl (hb hby d10_8) _ ?_
    show Steps p.tables e below (s₁.setTop (mkF m 9 #[.val (.ref o0), .val (.ref o1), .val (.long (0 : Int64)), .second, .val (.int (0 : Int32))] [(.int (Int32.ofNat 0)), (.int (0 : Int32))])) t
    refine Own.nmI (by decide : (0 : Int32) = (Int32.ofNat 0)) ?_
    show Steps p.tables e below (s₁.setTop (mkF m 9 #[.val (.ref o0), .val (.ref o1), .val (.long (0 : Int64)), .second, .val (.int (0 : Int32))] [(.int (0 : Int32)), (.int (0 : Int32))])) t
    refine XS.icmpYes X0.here hx rfl (pc0 := 9) (pc' := 32) rfl (hb hby d10_9) rfl (by decide) (by decide) (by decide) ?_
    show Steps p.tables e below (s₁.setTop (mkF m 32 #[.val (.ref o0), .val (.ref o1), .val (.long (0 : Int64)), .second, .val (.int (0 : Int32))] [])) t
    refine XS.lloadN X0.here hx rfl (hb hby d10_32) rfl ?_
    show Steps p.tables e below (s₁.setTop (mkF m 33 #[.val (.ref o0), .val (.ref o1), .val (.long (0 : Int64)), .second, .val (.int (0 : Int32))] [(.long (0 : Int64))])) t
    exact k
  exact Own.retJ hR X0 hx hret (hb hby d10_33) (by decide) (by decide) ⟨by  rfl, N0, e0⟩
theorem d11_0 : decode prog_64_method_5_code 0 = .ok (.lconst 0, 1) := by decide +kernel
theorem d11_1 : decode prog_64_method_5_code 1 = .ok (.lstore_n 2, 1) := by decide +kernel
theorem d11_2 : decode prog_64_method_5_code 2 = .ok (.iconst 0, 1) := by decide +kernel
theorem d11_3 : decode prog_64_method_5_code 3 = .ok (.istore 4, 2) := by decide +kernel
theorem d11_5 : decode prog_64_method_5_code 5 = .ok (.iload 4, 2) := by decide +kernel
theorem d11_7 : decode prog_64_method_5_code 7 = .ok (.aload_n 1, 1) := by decide +kernel
theorem d11_8 : decode prog_64_method_5_code 8 = .ok (.arraylength, 1) := by decide +kernel
theorem d11_9 : decode prog_64_method_5_code 9 = .ok (.if_icmp .ge 23, 3) := by decide +kernel
theorem d11_12 : decode prog_64_method_5_code 12 = .ok (.lload_n 2, 1) := by decide +kernel
theorem d11_13 : decode prog_64_method_5_code 13 = .ok (.aload_n 0, 1) := by decide +kernel
theorem d11_14 : decode prog_64_method_5_code 14 = .ok (.iload 4, 2) := by decide +kernel
theorem d11_16 : decode prog_64_method_5_code 16 = .ok (.iaload, 1) := by decide +kernel
theorem d11_17 : decode prog_64_method_5_code 17 = .ok (.i2l, 1) := by decide +kernel
theorem d11_18 : decode prog_64_method_5_code 18 = .ok (.lmul, 1) := by decide +kernel
theorem d11_19 : decode prog_64_method_5_code 19 = .ok (.aload_n 1, 1) := by decide +kernel
theorem d11_20 : decode prog_64_method_5_code 20 = .ok (.iload 4, 2) := by decide +kernel
theorem d11_22 : decode prog_64_method_5_code 22 = .ok (.iaload, 1) := by decide +kernel
theorem d11_23 : decode prog_64_method_5_code 23 = .ok (.i2l, 1) := by decide +kernel
theorem d11_24 : decode prog_64_method_5_code 24 = .ok (.ladd, 1) := by decide +kernel
theorem d11_25 : decode prog_64_method_5_code 25 = .ok (.lstore_n 2, 1) := by decide +kernel
theorem d11_26 : decode prog_64_method_5_code 26 = .ok (.iinc 4 1, 3) := by decide +kernel
theorem d11_29 : decode prog_64_method_5_code 29 = .ok (.goto (-24), 3) := by decide +kernel
theorem d11_32 : decode prog_64_method_5_code 32 = .ok (.lload_n 2, 1) := by decide +kernel
theorem d11_33 : decode prog_64_method_5_code 33 = .ok (.lreturn, 1) := by decide +kernel
theorem ef_11 (m : MethodId) (o0 : Addr) (o1 : Addr) : entryFrame m #[(.ref o0), (.ref o1)] 5 = mkF m 0 #[.val (.ref o0), .val (.ref o1), .unset, .unset, .unset] [] := by first | (simp [entryFrame, mkF, argsToLocals, Value.category]; done) | rfl
def Q11 (Z : State) (o0 : Nat) (o1 : Nat) (f g : Nat → Int32) (h0 : Heap) (n0 : Nat) (v : Option Value) (h : Heap) (L : List Loc) : Prop := v = some (.long (own_key 1 f g)) ∧ Fr n0 L ∧ h = h0
set_option maxRecDepth 65536 in
set_option maxHeartbeats 40000000 in
theorem rm11 (l : Launch) (Z : State) (a0 : Array Value) (hw : ∀ d ∈ tables_1, d.before a0 Z = true) (ws : List Jvm.Cond) (o0 : Nat) (o1 : Nat) (f g : Nat → Int32) (h0 : Heap) (n0 : Nat) (A0 : Own.AvI Z h0 o0 .int 1 f) (A1 : Own.AvI Z h0 o1 .int 1 g) :
    MetFree l (⟨"com/example/ballast/ballast/model/CostTable", "key", "([I[I)J"⟩ : MethodName) (head1 (Jvm.Cond.code (⟨"com/example/ballast/ballast/model/CostTable", "key", "([I[I)J"⟩ : MethodName) prog_64_method_5_code 5 (some .long) :: ws) ({ frames := 0, cells := 0, slots := 0, locals := 0 } : Room)) (fun a U => a = #[(.ref o0), (.ref o1)] ∧ Z.Warmed39 U.vm ∧ U.heap = h0) (fun _ _ _ _ _ => True) (fun _ U o U' => ∃ v L, o = .returned v ∧ Q11 Z o0 o1 f g h0 n0 v U'.heap L ∧ FrameEnd U o U' L ({ frames := 0, cells := 0, slots := 0, locals := 0 } : Room).cells ({ frames := 0, cells := 0, slots := 0, locals := 0 } : Room).slots) := by
  refine Own.enter (Q := Q11 Z o0 o1 f g h0 n0) (plainFor_of_name pn_1) ?_
  intro p e s m below meth c s₁ D hx hby hml hown hnm hret hZ X0 e0 hD hR
  have N0 := Fr.nil n0
  rw [show entryFrame m #[(.ref o0), (.ref o1)] 5 = mkF m 0 #[.val (.ref o0), .val (.ref o1), .unset, .unset, .unset] [] from ef_11 m o0 o1]
  have hj1 : 0 ≤ (0 : Int32).toInt ∧ (0 : Int32).toInt < (1 : Nat) := ⟨by decide, by decide⟩
  have hj2 : 0 ≤ (0 : Int32).toInt ∧ (0 : Int32).toInt < (1 : Nat) := ⟨by decide, by decide⟩
  obtain ⟨v3, hv3⟩ : ∃ z : Int64, z = (((0 : Int64) * ((f 0).toInt64)) + ((g 0).toInt64)) := ⟨_, rfl⟩
  refine hD _ (s₁.setTop (mkF m 33 #[.val (.ref o0), .val (.ref o1), .val (.long v3), .second, .val (.int (1 : Int32))] [(.long v3)])) (fun t k => ?_) ?_
  · show Steps p.tables e below (s₁.setTop (mkF m 0 #[.val (.ref o0), .val (.ref o1), .unset, .unset, .unset] [])) t
    refine XS.lconst X0.here hx rfl (hb hby d11_0) ?_
    show Steps p.tables e below (s₁.setTop (mkF m 1 #[.val (.ref o0), .val (.ref o1), .unset, .unset, .unset] [(.long (0 : Int64))])) t
    refine XS.lstoreN X0.here hx rfl (hb hby d11_1) rfl (l' := #[.val (.ref o0), .val (.ref o1), .val (.long (0 : Int64)), .second, .unset]) rfl ?_
    show Steps p.tables e below (s₁.setTop (mkF m 2 #[.val (.ref o0), .val (.ref o1), .val (.long (0 : Int64)), .second, .unset] [])) t
    refine XS.iconst X0.here hx rfl (hb hby d11_2) ?_
    show Steps p.tables e below (s₁.setTop (mkF m 3 #[.val (.ref o0), .val (.ref o1), .val (.long (0 : Int64)), .second, .unset] [(.int (0 : Int32))])) t
    refine XS.istore X0.here hx rfl (hb hby d11_3) rfl (l' := #[.val (.ref o0), .val (.ref o1), .val (.long (0 : Int64)), .second, .val (.int (0 : Int32))]) rfl ?_
    show Steps p.tables e below (s₁.setTop (mkF m 5 #[.val (.ref o0), .val (.ref o1), .val (.long (0 : Int64)), .second, .val (.int (0 : Int32))] [])) t
    refine XS.iload X0.here hx rfl (hb hby d11_5) rfl ?_
    show Steps p.tables e below (s₁.setTop (mkF m 7 #[.val (.ref o0), .val (.ref o1), .val (.long (0 : Int64)), .second, .val (.int (0 : Int32))] [(.int (0 : Int32))])) t
    refine XS.aloadN X0.here hx rfl (hb hby d11_7) rfl rfl ?_
    show Steps p.tables e below (s₁.setTop (mkF m 8 #[.val (.ref o0), .val (.ref o1), .val (.long (0 : Int64)), .second, .val (.int (0 : Int32))] [(.ref o1), (.int (0 : Int32))])) t
    refine Own.lenI X0 hx hZ e0 A1 (g := (mkF m 8 #[.val (.ref o0), .val (.ref o1), .val (.long (0 : Int64)), .second, .val (.int (0 : Int32))] [(.ref o1), (.int (0 : Int32))])) rfl rfl (hb hby d11_8) _ ?_
    show Steps p.tables e below (s₁.setTop (mkF m 9 #[.val (.ref o0), .val (.ref o1), .val (.long (0 : Int64)), .second, .val (.int (0 : Int32))] [(.int (Int32.ofNat 1)), (.int (0 : Int32))])) t
    refine Own.nmI (by decide : (1 : Int32) = (Int32.ofNat 1)) ?_
    show Steps p.tables e below (s₁.setTop (mkF m 9 #[.val (.ref o0), .val (.ref o1), .val (.long (0 : Int64)), .second, .val (.int (0 : Int32))] [(.int (1 : Int32)), (.int (0 : Int32))])) t
    refine XS.icmpNo X0.here hx rfl (hb hby d11_9) rfl (by decide) ?_
    show Steps p.tables e below (s₁.setTop (mkF m 12 #[.val (.ref o0), .val (.ref o1), .val (.long (0 : Int64)), .second, .val (.int (0 : Int32))] [])) t
    refine XS.lloadN X0.here hx rfl (hb hby d11_12) rfl ?_
    show Steps p.tables e below (s₁.setTop (mkF m 13 #[.val (.ref o0), .val (.ref o1), .val (.long (0 : Int64)), .second, .val (.int (0 : Int32))] [(.long (0 : Int64))])) t
    refine XS.aloadN X0.here hx rfl (hb hby d11_13) rfl rfl ?_
    show Steps p.tables e below (s₁.setTop (mkF m 14 #[.val (.ref o0), .val (.ref o1), .val (.long (0 : Int64)), .second, .val (.int (0 : Int32))] [(.ref o0), (.long (0 : Int64))])) t
    refine XS.iload X0.here hx rfl (hb hby d11_14) rfl ?_
    show Steps p.tables e below (s₁.setTop (mkF m 16 #[.val (.ref o0), .val (.ref o1), .val (.long (0 : Int64)), .second, .val (.int (0 : Int32))] [(.int (0 : Int32)), (.ref o0), (.long (0 : Int64))])) t
    refine Own.ldI X0 hx hZ e0 A0 hj1 (g := (mkF m 16 #[.val (.ref o0), .val (.ref o1), .val (.long (0 : Int64)), .second, .val (.int (0 : Int32))] [(.int (0 : Int32)), (.ref o0), (.long (0 : Int64))])) rfl rfl (hb hby d11_16) _ ?_
    show Steps p.tables e below (s₁.setTop (mkF m 17 #[.val (.ref o0), .val (.ref o1), .val (.long (0 : Int64)), .second, .val (.int (0 : Int32))] [(.int (f 0)), (.long (0 : Int64))])) t
    refine XS.i2l X0.here hx rfl (hb hby d11_17) rfl ?_
    show Steps p.tables e below (s₁.setTop (mkF m 18 #[.val (.ref o0), .val (.ref o1), .val (.long (0 : Int64)), .second, .val (.int (0 : Int32))] [(.long ((f 0).toInt64)), (.long (0 : Int64))])) t
    refine XS.lmul X0.here hx rfl (hb hby d11_18) rfl ?_
    show Steps p.tables e below (s₁.setTop (mkF m 19 #[.val (.ref o0), .val (.ref o1), .val (.long (0 : Int64)), .second, .val (.int (0 : Int32))] [(.long ((0 : Int64) * ((f 0).toInt64)))])) t
    refine XS.aloadN X0.here hx rfl (hb hby d11_19) rfl rfl ?_
    show Steps p.tables e below (s₁.setTop (mkF m 20 #[.val (.ref o0), .val (.ref o1), .val (.long (0 : Int64)), .second, .val (.int (0 : Int32))] [(.ref o1), (.long ((0 : Int64) * ((f 0).toInt64)))])) t
    refine XS.iload X0.here hx rfl (hb hby d11_20) rfl ?_
    show Steps p.tables e below (s₁.setTop (mkF m 22 #[.val (.ref o0), .val (.ref o1), .val (.long (0 : Int64)), .second, .val (.int (0 : Int32))] [(.int (0 : Int32)), (.ref o1), (.long ((0 : Int64) * ((f 0).toInt64)))])) t
    refine Own.ldI X0 hx hZ e0 A1 hj2 (g := (mkF m 22 #[.val (.ref o0), .val (.ref o1), .val (.long (0 : Int64)), .second, .val (.int (0 : Int32))] [(.int (0 : Int32)), (.ref o1), (.long ((0 : Int64) * ((f 0).toInt64)))])) rfl rfl (hb hby d11_22) _ ?_
    show Steps p.tables e below (s₁.setTop (mkF m 23 #[.val (.ref o0), .val (.ref o1), .val (.long (0 : Int64)), .second, .val (.int (0 : Int32))] [(.int (g 0)), (.long ((0 : Int64) * ((f 0).toInt64)))])) t
    refine XS.i2l X0.here hx rfl (hb hby d11_23) rfl ?_
    show Steps p.tables e below (s₁.setTop (mkF m 24 #[.val (.ref o0), .val (.ref o1), .val (.long (0 : Int64)), .second, .val (.int (0 : Int32))] [(.long ((g 0).toInt64)), (.long ((0 : Int64) * ((f 0).toInt64)))])) t
    refine XS.ladd X0.here hx rfl (hb hby d11_24) rfl ?_
    show Steps p.tables e below (s₁.setTop (mkF m 25 #[.val (.ref o0), .val (.ref o1), .val (.long (0 : Int64)), .second, .val (.int (0 : Int32))] [(.long (((0 : Int64) * ((f 0).toInt64)) + ((g 0).toInt64)))])) t
    refine Own.nmJ hv3 ?_
    show Steps p.tables e below (s₁.setTop (mkF m 25 #[.val (.ref o0), .val (.ref o1), .val (.long (0 : Int64)), .second, .val (.int (0 : Int32))] [(.long v3)])) t
    refine XS.lstoreN X0.here hx rfl (hb hby d11_25) rfl (l' := #[.val (.ref o0), .val (.ref o1), .val (.long v3), .second, .val (.int (0 : Int32))]) rfl ?_
    show Steps p.tables e below (s₁.setTop (mkF m 26 #[.val (.ref o0), .val (.ref o1), .val (.long v3), .second, .val (.int (0 : Int32))] [])) t
    refine XS.iinc X0.here hx rfl (hb hby d11_26) rfl (l' := #[.val (.ref o0), .val (.ref o1), .val (.long v3), .second, .val (.int ((0 : Int32) + (1 : Int32)))]) rfl ?_
    show Steps p.tables e below (s₁.setTop (mkF m 29 #[.val (.ref o0), .val (.ref o1), .val (.long v3), .second, .val (.int ((0 : Int32) + (1 : Int32)))] [])) t
    rw [show ((0 : Int32) + (1 : Int32)) = (1 : Int32) from by decide]
    show Steps p.tables e below (s₁.setTop (mkF m 29 #[.val (.ref o0), .val (.ref o1), .val (.long v3), .second, .val (.int (1 : Int32))] [])) t
    refine XS.goto X0.here hx rfl (pc0 := 29) (pc' := 5) rfl (hb hby d11_29) (by decide) (by decide) ?_
    show Steps p.tables e below (s₁.setTop (mkF m 5 #[.val (.ref o0), .val (.ref o1), .val (.long v3), .second, .val (.int (1 : Int32))] [])) t
    refine XS.iload X0.here hx rfl (hb hby d11_5) rfl ?_
    show Steps p.tables e below (s₁.setTop (mkF m 7 #[.val (.ref o0), .val (.ref o1), .val (.long v3), .second, .val (.int (1 : Int32))] [(.int (1 : Int32))])) t
    refine XS.aloadN X0.here hx rfl (hb hby d11_7) rfl rfl ?_
    show Steps p.tables e below (s₁.setTop (mkF m 8 #[.val (.ref o0), .val (.ref o1), .val (.long v3), .second, .val (.int (1 : Int32))] [(.ref o1), (.int (1 : Int32))])) t
    refine Own.lenI X0 hx hZ e0 A1 (g := (mkF m 8 #[.val (.ref o0), .val (.ref o1), .val (.long v3), .second, .val (.int (1 : Int32))] [(.ref o1), (.int (1 : Int32))])) rfl rfl (hb hby d11_8) _ ?_
    show Steps p.tables e below (s₁.setTop (mkF m 9 #[.val (.ref o0), .val (.ref o1), .val (.long v3), .second, .val (.int (1 : Int32))] [(.int (Int32.ofNat 1)), (.int (1 : Int32))])) t
    refine Own.nmI (by decide : (1 : Int32) = (Int32.ofNat 1)) ?_
    show Steps p.tables e below (s₁.setTop (mkF m 9 #[.val (.ref o0), .val (.ref o1), .val (.long v3), .second, .val (.int (1 : Int32))] [(.int (1 : Int32)), (.int (1 : Int32))])) t
    refine XS.icmpYes X0.here hx rfl (pc0 := 9) (pc' := 32) rfl (hb hby d11_9) rfl (by decide) (by decide) (by decide) ?_
    show Steps p.tables e below (s₁.setTop (mkF m 32 #[.val (.ref o0), .val (.ref o1), .val (.long v3), .second, .val (.int (1 : Int32))] [])) t
    refine XS.lloadN X0.here hx rfl (hb hby d11_32) rfl ?_
    show Steps p.tables e below (s₁.setTop (mkF m 33 #[.val (.ref o0), .val (.ref o1), .val (.long v3), .second, .val (.int (1 : Int32))] [(.long v3)])) t
    exact k
  exact Own.retJ hR X0 hx hret (hb hby d11_33) (by decide) (by decide) ⟨by subst hv3; rfl, N0, e0⟩
theorem d12_0 : decode prog_64_method_5_code 0 = .ok (.lconst 0, 1) := by decide +kernel
theorem d12_1 : decode prog_64_method_5_code 1 = .ok (.lstore_n 2, 1) := by decide +kernel
theorem d12_2 : decode prog_64_method_5_code 2 = .ok (.iconst 0, 1) := by decide +kernel
theorem d12_3 : decode prog_64_method_5_code 3 = .ok (.istore 4, 2) := by decide +kernel
theorem d12_5 : decode prog_64_method_5_code 5 = .ok (.iload 4, 2) := by decide +kernel
theorem d12_7 : decode prog_64_method_5_code 7 = .ok (.aload_n 1, 1) := by decide +kernel
theorem d12_8 : decode prog_64_method_5_code 8 = .ok (.arraylength, 1) := by decide +kernel
theorem d12_9 : decode prog_64_method_5_code 9 = .ok (.if_icmp .ge 23, 3) := by decide +kernel
theorem d12_12 : decode prog_64_method_5_code 12 = .ok (.lload_n 2, 1) := by decide +kernel
theorem d12_13 : decode prog_64_method_5_code 13 = .ok (.aload_n 0, 1) := by decide +kernel
theorem d12_14 : decode prog_64_method_5_code 14 = .ok (.iload 4, 2) := by decide +kernel
theorem d12_16 : decode prog_64_method_5_code 16 = .ok (.iaload, 1) := by decide +kernel
theorem d12_17 : decode prog_64_method_5_code 17 = .ok (.i2l, 1) := by decide +kernel
theorem d12_18 : decode prog_64_method_5_code 18 = .ok (.lmul, 1) := by decide +kernel
theorem d12_19 : decode prog_64_method_5_code 19 = .ok (.aload_n 1, 1) := by decide +kernel
theorem d12_20 : decode prog_64_method_5_code 20 = .ok (.iload 4, 2) := by decide +kernel
theorem d12_22 : decode prog_64_method_5_code 22 = .ok (.iaload, 1) := by decide +kernel
theorem d12_23 : decode prog_64_method_5_code 23 = .ok (.i2l, 1) := by decide +kernel
theorem d12_24 : decode prog_64_method_5_code 24 = .ok (.ladd, 1) := by decide +kernel
theorem d12_25 : decode prog_64_method_5_code 25 = .ok (.lstore_n 2, 1) := by decide +kernel
theorem d12_26 : decode prog_64_method_5_code 26 = .ok (.iinc 4 1, 3) := by decide +kernel
theorem d12_29 : decode prog_64_method_5_code 29 = .ok (.goto (-24), 3) := by decide +kernel
theorem d12_32 : decode prog_64_method_5_code 32 = .ok (.lload_n 2, 1) := by decide +kernel
theorem d12_33 : decode prog_64_method_5_code 33 = .ok (.lreturn, 1) := by decide +kernel
theorem ef_12 (m : MethodId) (o0 : Addr) (o1 : Addr) : entryFrame m #[(.ref o0), (.ref o1)] 5 = mkF m 0 #[.val (.ref o0), .val (.ref o1), .unset, .unset, .unset] [] := by first | (simp [entryFrame, mkF, argsToLocals, Value.category]; done) | rfl
def Q12 (Z : State) (o0 : Nat) (o1 : Nat) (f g : Nat → Int32) (h0 : Heap) (n0 : Nat) (v : Option Value) (h : Heap) (L : List Loc) : Prop := v = some (.long (own_key 2 f g)) ∧ Fr n0 L ∧ h = h0
set_option maxRecDepth 65536 in
set_option maxHeartbeats 40000000 in
theorem rm12 (l : Launch) (Z : State) (a0 : Array Value) (hw : ∀ d ∈ tables_1, d.before a0 Z = true) (ws : List Jvm.Cond) (o0 : Nat) (o1 : Nat) (f g : Nat → Int32) (h0 : Heap) (n0 : Nat) (A0 : Own.AvI Z h0 o0 .int 2 f) (A1 : Own.AvI Z h0 o1 .int 2 g) :
    MetFree l (⟨"com/example/ballast/ballast/model/CostTable", "key", "([I[I)J"⟩ : MethodName) (head1 (Jvm.Cond.code (⟨"com/example/ballast/ballast/model/CostTable", "key", "([I[I)J"⟩ : MethodName) prog_64_method_5_code 5 (some .long) :: ws) ({ frames := 0, cells := 0, slots := 0, locals := 0 } : Room)) (fun a U => a = #[(.ref o0), (.ref o1)] ∧ Z.Warmed39 U.vm ∧ U.heap = h0) (fun _ _ _ _ _ => True) (fun _ U o U' => ∃ v L, o = .returned v ∧ Q12 Z o0 o1 f g h0 n0 v U'.heap L ∧ FrameEnd U o U' L ({ frames := 0, cells := 0, slots := 0, locals := 0 } : Room).cells ({ frames := 0, cells := 0, slots := 0, locals := 0 } : Room).slots) := by
  refine Own.enter (Q := Q12 Z o0 o1 f g h0 n0) (plainFor_of_name pn_1) ?_
  intro p e s m below meth c s₁ D hx hby hml hown hnm hret hZ X0 e0 hD hR
  have N0 := Fr.nil n0
  rw [show entryFrame m #[(.ref o0), (.ref o1)] 5 = mkF m 0 #[.val (.ref o0), .val (.ref o1), .unset, .unset, .unset] [] from ef_12 m o0 o1]
  have hj1 : 0 ≤ (0 : Int32).toInt ∧ (0 : Int32).toInt < (2 : Nat) := ⟨by decide, by decide⟩
  have hj2 : 0 ≤ (0 : Int32).toInt ∧ (0 : Int32).toInt < (2 : Nat) := ⟨by decide, by decide⟩
  obtain ⟨v3, hv3⟩ : ∃ z : Int64, z = (((0 : Int64) * ((f 0).toInt64)) + ((g 0).toInt64)) := ⟨_, rfl⟩
  have hj4 : 0 ≤ (1 : Int32).toInt ∧ (1 : Int32).toInt < (2 : Nat) := ⟨by decide, by decide⟩
  have hj5 : 0 ≤ (1 : Int32).toInt ∧ (1 : Int32).toInt < (2 : Nat) := ⟨by decide, by decide⟩
  obtain ⟨v6, hv6⟩ : ∃ z : Int64, z = ((v3 * ((f 1).toInt64)) + ((g 1).toInt64)) := ⟨_, rfl⟩
  refine hD _ (s₁.setTop (mkF m 33 #[.val (.ref o0), .val (.ref o1), .val (.long v6), .second, .val (.int (2 : Int32))] [(.long v6)])) (fun t k => ?_) ?_
  · show Steps p.tables e below (s₁.setTop (mkF m 0 #[.val (.ref o0), .val (.ref o1), .unset, .unset, .unset] [])) t
    refine XS.lconst X0.here hx rfl (hb hby d12_0) ?_
    show Steps p.tables e below (s₁.setTop (mkF m 1 #[.val (.ref o0), .val (.ref o1), .unset, .unset, .unset] [(.long (0 : Int64))])) t
    refine XS.lstoreN X0.here hx rfl (hb hby d12_1) rfl (l' := #[.val (.ref o0), .val (.ref o1), .val (.long (0 : Int64)), .second, .unset]) rfl ?_
    show Steps p.tables e below (s₁.setTop (mkF m 2 #[.val (.ref o0), .val (.ref o1), .val (.long (0 : Int64)), .second, .unset] [])) t
    refine XS.iconst X0.here hx rfl (hb hby d12_2) ?_
    show Steps p.tables e below (s₁.setTop (mkF m 3 #[.val (.ref o0), .val (.ref o1), .val (.long (0 : Int64)), .second, .unset] [(.int (0 : Int32))])) t
    refine XS.istore X0.here hx rfl (hb hby d12_3) rfl (l' := #[.val (.ref o0), .val (.ref o1), .val (.long (0 : Int64)), .second, .val (.int (0 : Int32))]) rfl ?_
    show Steps p.tables e below (s₁.setTop (mkF m 5 #[.val (.ref o0), .val (.ref o1), .val (.long (0 : Int64)), .second, .val (.int (0 : Int32))] [])) t
    refine XS.iload X0.here hx rfl (hb hby d12_5) rfl ?_
    show Steps p.tables e below (s₁.setTop (mkF m 7 #[.val (.ref o0), .val (.ref o1), .val (.long (0 : Int64)), .second, .val (.int (0 : Int32))] [(.int (0 : Int32))])) t
    refine XS.aloadN X0.here hx rfl (hb hby d12_7) rfl rfl ?_
    show Steps p.tables e below (s₁.setTop (mkF m 8 #[.val (.ref o0), .val (.ref o1), .val (.long (0 : Int64)), .second, .val (.int (0 : Int32))] [(.ref o1), (.int (0 : Int32))])) t
    refine Own.lenI X0 hx hZ e0 A1 (g := (mkF m 8 #[.val (.ref o0), .val (.ref o1), .val (.long (0 : Int64)), .second, .val (.int (0 : Int32))] [(.ref o1), (.int (0 : Int32))])) rfl rfl (hb hby d12_8) _ ?_
    show Steps p.tables e below (s₁.setTop (mkF m 9 #[.val (.ref o0), .val (.ref o1), .val (.long (0 : Int64)), .second, .val (.int (0 : Int32))] [(.int (Int32.ofNat 2)), (.int (0 : Int32))])) t
    refine Own.nmI (by decide : (2 : Int32) = (Int32.ofNat 2)) ?_
    show Steps p.tables e below (s₁.setTop (mkF m 9 #[.val (.ref o0), .val (.ref o1), .val (.long (0 : Int64)), .second, .val (.int (0 : Int32))] [(.int (2 : Int32)), (.int (0 : Int32))])) t
    refine XS.icmpNo X0.here hx rfl (hb hby d12_9) rfl (by decide) ?_
    show Steps p.tables e below (s₁.setTop (mkF m 12 #[.val (.ref o0), .val (.ref o1), .val (.long (0 : Int64)), .second, .val (.int (0 : Int32))] [])) t
    refine XS.lloadN X0.here hx rfl (hb hby d12_12) rfl ?_
    show Steps p.tables e below (s₁.setTop (mkF m 13 #[.val (.ref o0), .val (.ref o1), .val (.long (0 : Int64)), .second, .val (.int (0 : Int32))] [(.long (0 : Int64))])) t
    refine XS.aloadN X0.here hx rfl (hb hby d12_13) rfl rfl ?_
    show Steps p.tables e below (s₁.setTop (mkF m 14 #[.val (.ref o0), .val (.ref o1), .val (.long (0 : Int64)), .second, .val (.int (0 : Int32))] [(.ref o0), (.long (0 : Int64))])) t
    refine XS.iload X0.here hx rfl (hb hby d12_14) rfl ?_
    show Steps p.tables e below (s₁.setTop (mkF m 16 #[.val (.ref o0), .val (.ref o1), .val (.long (0 : Int64)), .second, .val (.int (0 : Int32))] [(.int (0 : Int32)), (.ref o0), (.long (0 : Int64))])) t
    refine Own.ldI X0 hx hZ e0 A0 hj1 (g := (mkF m 16 #[.val (.ref o0), .val (.ref o1), .val (.long (0 : Int64)), .second, .val (.int (0 : Int32))] [(.int (0 : Int32)), (.ref o0), (.long (0 : Int64))])) rfl rfl (hb hby d12_16) _ ?_
    show Steps p.tables e below (s₁.setTop (mkF m 17 #[.val (.ref o0), .val (.ref o1), .val (.long (0 : Int64)), .second, .val (.int (0 : Int32))] [(.int (f 0)), (.long (0 : Int64))])) t
    refine XS.i2l X0.here hx rfl (hb hby d12_17) rfl ?_
    show Steps p.tables e below (s₁.setTop (mkF m 18 #[.val (.ref o0), .val (.ref o1), .val (.long (0 : Int64)), .second, .val (.int (0 : Int32))] [(.long ((f 0).toInt64)), (.long (0 : Int64))])) t
    refine XS.lmul X0.here hx rfl (hb hby d12_18) rfl ?_
    show Steps p.tables e below (s₁.setTop (mkF m 19 #[.val (.ref o0), .val (.ref o1), .val (.long (0 : Int64)), .second, .val (.int (0 : Int32))] [(.long ((0 : Int64) * ((f 0).toInt64)))])) t
    refine XS.aloadN X0.here hx rfl (hb hby d12_19) rfl rfl ?_
    show Steps p.tables e below (s₁.setTop (mkF m 20 #[.val (.ref o0), .val (.ref o1), .val (.long (0 : Int64)), .second, .val (.int (0 : Int32))] [(.ref o1), (.long ((0 : Int64) * ((f 0).toInt64)))])) t
    refine XS.iload X0.here hx rfl (hb hby d12_20) rfl ?_
    show Steps p.tables e below (s₁.setTop (mkF m 22 #[.val (.ref o0), .val (.ref o1), .val (.long (0 : Int64)), .second, .val (.int (0 : Int32))] [(.int (0 : Int32)), (.ref o1), (.long ((0 : Int64) * ((f 0).toInt64)))])) t
    refine Own.ldI X0 hx hZ e0 A1 hj2 (g := (mkF m 22 #[.val (.ref o0), .val (.ref o1), .val (.long (0 : Int64)), .second, .val (.int (0 : Int32))] [(.int (0 : Int32)), (.ref o1), (.long ((0 : Int64) * ((f 0).toInt64)))])) rfl rfl (hb hby d12_22) _ ?_
    show Steps p.tables e below (s₁.setTop (mkF m 23 #[.val (.ref o0), .val (.ref o1), .val (.long (0 : Int64)), .second, .val (.int (0 : Int32))] [(.int (g 0)), (.long ((0 : Int64) * ((f 0).toInt64)))])) t
    refine XS.i2l X0.here hx rfl (hb hby d12_23) rfl ?_
    show Steps p.tables e below (s₁.setTop (mkF m 24 #[.val (.ref o0), .val (.ref o1), .val (.long (0 : Int64)), .second, .val (.int (0 : Int32))] [(.long ((g 0).toInt64)), (.long ((0 : Int64) * ((f 0).toInt64)))])) t
    refine XS.ladd X0.here hx rfl (hb hby d12_24) rfl ?_
    show Steps p.tables e below (s₁.setTop (mkF m 25 #[.val (.ref o0), .val (.ref o1), .val (.long (0 : Int64)), .second, .val (.int (0 : Int32))] [(.long (((0 : Int64) * ((f 0).toInt64)) + ((g 0).toInt64)))])) t
    refine Own.nmJ hv3 ?_
    show Steps p.tables e below (s₁.setTop (mkF m 25 #[.val (.ref o0), .val (.ref o1), .val (.long (0 : Int64)), .second, .val (.int (0 : Int32))] [(.long v3)])) t
    refine XS.lstoreN X0.here hx rfl (hb hby d12_25) rfl (l' := #[.val (.ref o0), .val (.ref o1), .val (.long v3), .second, .val (.int (0 : Int32))]) rfl ?_
    show Steps p.tables e below (s₁.setTop (mkF m 26 #[.val (.ref o0), .val (.ref o1), .val (.long v3), .second, .val (.int (0 : Int32))] [])) t
    refine XS.iinc X0.here hx rfl (hb hby d12_26) rfl (l' := #[.val (.ref o0), .val (.ref o1), .val (.long v3), .second, .val (.int ((0 : Int32) + (1 : Int32)))]) rfl ?_
    show Steps p.tables e below (s₁.setTop (mkF m 29 #[.val (.ref o0), .val (.ref o1), .val (.long v3), .second, .val (.int ((0 : Int32) + (1 : Int32)))] [])) t
    rw [show ((0 : Int32) + (1 : Int32)) = (1 : Int32) from by decide]
    show Steps p.tables e below (s₁.setTop (mkF m 29 #[.val (.ref o0), .val (.ref o1), .val (.long v3), .second, .val (.int (1 : Int32))] [])) t
    refine XS.goto X0.here hx rfl (pc0 := 29) (pc' := 5) rfl (hb hby d12_29) (by decide) (by decide) ?_
    show Steps p.tables e below (s₁.setTop (mkF m 5 #[.val (.ref o0), .val (.ref o1), .val (.long v3), .second, .val (.int (1 : Int32))] [])) t
    refine XS.iload X0.here hx rfl (hb hby d12_5) rfl ?_
    show Steps p.tables e below (s₁.setTop (mkF m 7 #[.val (.ref o0), .val (.ref o1), .val (.long v3), .second, .val (.int (1 : Int32))] [(.int (1 : Int32))])) t
    refine XS.aloadN X0.here hx rfl (hb hby d12_7) rfl rfl ?_
    show Steps p.tables e below (s₁.setTop (mkF m 8 #[.val (.ref o0), .val (.ref o1), .val (.long v3), .second, .val (.int (1 : Int32))] [(.ref o1), (.int (1 : Int32))])) t
    refine Own.lenI X0 hx hZ e0 A1 (g := (mkF m 8 #[.val (.ref o0), .val (.ref o1), .val (.long v3), .second, .val (.int (1 : Int32))] [(.ref o1), (.int (1 : Int32))])) rfl rfl (hb hby d12_8) _ ?_
    show Steps p.tables e below (s₁.setTop (mkF m 9 #[.val (.ref o0), .val (.ref o1), .val (.long v3), .second, .val (.int (1 : Int32))] [(.int (Int32.ofNat 2)), (.int (1 : Int32))])) t
    refine Own.nmI (by decide : (2 : Int32) = (Int32.ofNat 2)) ?_
    show Steps p.tables e below (s₁.setTop (mkF m 9 #[.val (.ref o0), .val (.ref o1), .val (.long v3), .second, .val (.int (1 : Int32))] [(.int (2 : Int32)), (.int (1 : Int32))])) t
    refine XS.icmpNo X0.here hx rfl (hb hby d12_9) rfl (by decide) ?_
    show Steps p.tables e below (s₁.setTop (mkF m 12 #[.val (.ref o0), .val (.ref o1), .val (.long v3), .second, .val (.int (1 : Int32))] [])) t
    refine XS.lloadN X0.here hx rfl (hb hby d12_12) rfl ?_
    show Steps p.tables e below (s₁.setTop (mkF m 13 #[.val (.ref o0), .val (.ref o1), .val (.long v3), .second, .val (.int (1 : Int32))] [(.long v3)])) t
    refine XS.aloadN X0.here hx rfl (hb hby d12_13) rfl rfl ?_
    show Steps p.tables e below (s₁.setTop (mkF m 14 #[.val (.ref o0), .val (.ref o1), .val (.long v3), .second, .val (.int (1 : Int32))] [(.ref o0), (.long v3)])) t
    refine XS.iload X0.here hx rfl (hb hby d12_14) rfl ?_
    show Steps p.tables e below (s₁.setTop (mkF m 16 #[.val (.ref o0), .val (.ref o1), .val (.long v3), .second, .val (.int (1 : Int32))] [(.int (1 : Int32)), (.ref o0), (.long v3)])) t
    refine Own.ldI X0 hx hZ e0 A0 hj4 (g := (mkF m 16 #[.val (.ref o0), .val (.ref o1), .val (.long v3), .second, .val (.int (1 : Int32))] [(.int (1 : Int32)), (.ref o0), (.long v3)])) rfl rfl (hb hby d12_16) _ ?_
    show Steps p.tables e below (s₁.setTop (mkF m 17 #[.val (.ref o0), .val (.ref o1), .val (.long v3), .second, .val (.int (1 : Int32))] [(.int (f 1)), (.long v3)])) t
    refine XS.i2l X0.here hx rfl (hb hby d12_17) rfl ?_
    show Steps p.tables e below (s₁.setTop (mkF m 18 #[.val (.ref o0), .val (.ref o1), .val (.long v3), .second, .val (.int (1 : Int32))] [(.long ((f 1).toInt64)), (.long v3)])) t
    refine XS.lmul X0.here hx rfl (hb hby d12_18) rfl ?_
    show Steps p.tables e below (s₁.setTop (mkF m 19 #[.val (.ref o0), .val (.ref o1), .val (.long v3), .second, .val (.int (1 : Int32))] [(.long (v3 * ((f 1).toInt64)))])) t
    refine XS.aloadN X0.here hx rfl (hb hby d12_19) rfl rfl ?_
    show Steps p.tables e below (s₁.setTop (mkF m 20 #[.val (.ref o0), .val (.ref o1), .val (.long v3), .second, .val (.int (1 : Int32))] [(.ref o1), (.long (v3 * ((f 1).toInt64)))])) t
    refine XS.iload X0.here hx rfl (hb hby d12_20) rfl ?_
    show Steps p.tables e below (s₁.setTop (mkF m 22 #[.val (.ref o0), .val (.ref o1), .val (.long v3), .second, .val (.int (1 : Int32))] [(.int (1 : Int32)), (.ref o1), (.long (v3 * ((f 1).toInt64)))])) t
    refine Own.ldI X0 hx hZ e0 A1 hj5 (g := (mkF m 22 #[.val (.ref o0), .val (.ref o1), .val (.long v3), .second, .val (.int (1 : Int32))] [(.int (1 : Int32)), (.ref o1), (.long (v3 * ((f 1).toInt64)))])) rfl rfl (hb hby d12_22) _ ?_
    show Steps p.tables e below (s₁.setTop (mkF m 23 #[.val (.ref o0), .val (.ref o1), .val (.long v3), .second, .val (.int (1 : Int32))] [(.int (g 1)), (.long (v3 * ((f 1).toInt64)))])) t
    refine XS.i2l X0.here hx rfl (hb hby d12_23) rfl ?_
    show Steps p.tables e below (s₁.setTop (mkF m 24 #[.val (.ref o0), .val (.ref o1), .val (.long v3), .second, .val (.int (1 : Int32))] [(.long ((g 1).toInt64)), (.long (v3 * ((f 1).toInt64)))])) t
    refine XS.ladd X0.here hx rfl (hb hby d12_24) rfl ?_
    show Steps p.tables e below (s₁.setTop (mkF m 25 #[.val (.ref o0), .val (.ref o1), .val (.long v3), .second, .val (.int (1 : Int32))] [(.long ((v3 * ((f 1).toInt64)) + ((g 1).toInt64)))])) t
    refine Own.nmJ hv6 ?_
    show Steps p.tables e below (s₁.setTop (mkF m 25 #[.val (.ref o0), .val (.ref o1), .val (.long v3), .second, .val (.int (1 : Int32))] [(.long v6)])) t
    refine XS.lstoreN X0.here hx rfl (hb hby d12_25) rfl (l' := #[.val (.ref o0), .val (.ref o1), .val (.long v6), .second, .val (.int (1 : Int32))]) rfl ?_
    show Steps p.tables e below (s₁.setTop (mkF m 26 #[.val (.ref o0), .val (.ref o1), .val (.long v6), .second, .val (.int (1 : Int32))] [])) t
    refine XS.iinc X0.here hx rfl (hb hby d12_26) rfl (l' := #[.val (.ref o0), .val (.ref o1), .val (.long v6), .second, .val (.int ((1 : Int32) + (1 : Int32)))]) rfl ?_
    show Steps p.tables e below (s₁.setTop (mkF m 29 #[.val (.ref o0), .val (.ref o1), .val (.long v6), .second, .val (.int ((1 : Int32) + (1 : Int32)))] [])) t
    rw [show ((1 : Int32) + (1 : Int32)) = (2 : Int32) from by decide]
    show Steps p.tables e below (s₁.setTop (mkF m 29 #[.val (.ref o0), .val (.ref o1), .val (.long v6), .second, .val (.int (2 : Int32))] [])) t
    refine XS.goto X0.here hx rfl (pc0 := 29) (pc' := 5) rfl (hb hby d12_29) (by decide) (by decide) ?_
    show Steps p.tables e below (s₁.setTop (mkF m 5 #[.val (.ref o0), .val (.ref o1), .val (.long v6), .second, .val (.int (2 : Int32))] [])) t
    refine XS.iload X0.here hx rfl (hb hby d12_5) rfl ?_
    show Steps p.tables e below (s₁.setTop (mkF m 7 #[.val (.ref o0), .val (.ref o1), .val (.long v6), .second, .val (.int (2 : Int32))] [(.int (2 : Int32))])) t
    refine XS.aloadN X0.here hx rfl (hb hby d12_7) rfl rfl ?_
    show Steps p.tables e below (s₁.setTop (mkF m 8 #[.val (.ref o0), .val (.ref o1), .val (.long v6), .second, .val (.int (2 : Int32))] [(.ref o1), (.int (2 : Int32))])) t
    refine Own.lenI X0 hx hZ e0 A1 (g := (mkF m 8 #[.val (.ref o0), .val (.ref o1), .val (.long v6), .second, .val (.int (2 : Int32))] [(.ref o1), (.int (2 : Int32))])) rfl rfl (hb hby d12_8) _ ?_
    show Steps p.tables e below (s₁.setTop (mkF m 9 #[.val (.ref o0), .val (.ref o1), .val (.long v6), .second, .val (.int (2 : Int32))] [(.int (Int32.ofNat 2)), (.int (2 : Int32))])) t
    refine Own.nmI (by decide : (2 : Int32) = (Int32.ofNat 2)) ?_
    show Steps p.tables e below (s₁.setTop (mkF m 9 #[.val (.ref o0), .val (.ref o1), .val (.long v6), .second, .val (.int (2 : Int32))] [(.int (2 : Int32)), (.int (2 : Int32))])) t
    refine XS.icmpYes X0.here hx rfl (pc0 := 9) (pc' := 32) rfl (hb hby d12_9) rfl (by decide) (by decide) (by decide) ?_
    show Steps p.tables e below (s₁.setTop (mkF m 32 #[.val (.ref o0), .val (.ref o1), .val (.long v6), .second, .val (.int (2 : Int32))] [])) t
    refine XS.lloadN X0.here hx rfl (hb hby d12_32) rfl ?_
    show Steps p.tables e below (s₁.setTop (mkF m 33 #[.val (.ref o0), .val (.ref o1), .val (.long v6), .second, .val (.int (2 : Int32))] [(.long v6)])) t
    exact k
  exact Own.retJ hR X0 hx hret (hb hby d12_33) (by decide) (by decide) ⟨by subst hv6; subst hv3; rfl, N0, e0⟩
theorem d13_0 : decode prog_64_method_5_code 0 = .ok (.lconst 0, 1) := by decide +kernel
theorem d13_1 : decode prog_64_method_5_code 1 = .ok (.lstore_n 2, 1) := by decide +kernel
theorem d13_2 : decode prog_64_method_5_code 2 = .ok (.iconst 0, 1) := by decide +kernel
theorem d13_3 : decode prog_64_method_5_code 3 = .ok (.istore 4, 2) := by decide +kernel
theorem d13_5 : decode prog_64_method_5_code 5 = .ok (.iload 4, 2) := by decide +kernel
theorem d13_7 : decode prog_64_method_5_code 7 = .ok (.aload_n 1, 1) := by decide +kernel
theorem d13_8 : decode prog_64_method_5_code 8 = .ok (.arraylength, 1) := by decide +kernel
theorem d13_9 : decode prog_64_method_5_code 9 = .ok (.if_icmp .ge 23, 3) := by decide +kernel
theorem d13_12 : decode prog_64_method_5_code 12 = .ok (.lload_n 2, 1) := by decide +kernel
theorem d13_13 : decode prog_64_method_5_code 13 = .ok (.aload_n 0, 1) := by decide +kernel
theorem d13_14 : decode prog_64_method_5_code 14 = .ok (.iload 4, 2) := by decide +kernel
theorem d13_16 : decode prog_64_method_5_code 16 = .ok (.iaload, 1) := by decide +kernel
theorem d13_17 : decode prog_64_method_5_code 17 = .ok (.i2l, 1) := by decide +kernel
theorem d13_18 : decode prog_64_method_5_code 18 = .ok (.lmul, 1) := by decide +kernel
theorem d13_19 : decode prog_64_method_5_code 19 = .ok (.aload_n 1, 1) := by decide +kernel
theorem d13_20 : decode prog_64_method_5_code 20 = .ok (.iload 4, 2) := by decide +kernel
theorem d13_22 : decode prog_64_method_5_code 22 = .ok (.iaload, 1) := by decide +kernel
theorem d13_23 : decode prog_64_method_5_code 23 = .ok (.i2l, 1) := by decide +kernel
theorem d13_24 : decode prog_64_method_5_code 24 = .ok (.ladd, 1) := by decide +kernel
theorem d13_25 : decode prog_64_method_5_code 25 = .ok (.lstore_n 2, 1) := by decide +kernel
theorem d13_26 : decode prog_64_method_5_code 26 = .ok (.iinc 4 1, 3) := by decide +kernel
theorem d13_29 : decode prog_64_method_5_code 29 = .ok (.goto (-24), 3) := by decide +kernel
theorem d13_32 : decode prog_64_method_5_code 32 = .ok (.lload_n 2, 1) := by decide +kernel
theorem d13_33 : decode prog_64_method_5_code 33 = .ok (.lreturn, 1) := by decide +kernel
theorem ef_13 (m : MethodId) (o0 : Addr) (o1 : Addr) : entryFrame m #[(.ref o0), (.ref o1)] 5 = mkF m 0 #[.val (.ref o0), .val (.ref o1), .unset, .unset, .unset] [] := by first | (simp [entryFrame, mkF, argsToLocals, Value.category]; done) | rfl
def Q13 (Z : State) (o0 : Nat) (o1 : Nat) (f g : Nat → Int32) (h0 : Heap) (n0 : Nat) (v : Option Value) (h : Heap) (L : List Loc) : Prop := v = some (.long (own_key 3 f g)) ∧ Fr n0 L ∧ h = h0
set_option maxRecDepth 65536 in
set_option maxHeartbeats 40000000 in
theorem rm13 (l : Launch) (Z : State) (a0 : Array Value) (hw : ∀ d ∈ tables_1, d.before a0 Z = true) (ws : List Jvm.Cond) (o0 : Nat) (o1 : Nat) (f g : Nat → Int32) (h0 : Heap) (n0 : Nat) (A0 : Own.AvI Z h0 o0 .int 3 f) (A1 : Own.AvI Z h0 o1 .int 3 g) :
    MetFree l (⟨"com/example/ballast/ballast/model/CostTable", "key", "([I[I)J"⟩ : MethodName) (head1 (Jvm.Cond.code (⟨"com/example/ballast/ballast/model/CostTable", "key", "([I[I)J"⟩ : MethodName) prog_64_method_5_code 5 (some .long) :: ws) ({ frames := 0, cells := 0, slots := 0, locals := 0 } : Room)) (fun a U => a = #[(.ref o0), (.ref o1)] ∧ Z.Warmed39 U.vm ∧ U.heap = h0) (fun _ _ _ _ _ => True) (fun _ U o U' => ∃ v L, o = .returned v ∧ Q13 Z o0 o1 f g h0 n0 v U'.heap L ∧ FrameEnd U o U' L ({ frames := 0, cells := 0, slots := 0, locals := 0 } : Room).cells ({ frames := 0, cells := 0, slots := 0, locals := 0 } : Room).slots) := by
  refine Own.enter (Q := Q13 Z o0 o1 f g h0 n0) (plainFor_of_name pn_1) ?_
  intro p e s m below meth c s₁ D hx hby hml hown hnm hret hZ X0 e0 hD hR
  have N0 := Fr.nil n0
  rw [show entryFrame m #[(.ref o0), (.ref o1)] 5 = mkF m 0 #[.val (.ref o0), .val (.ref o1), .unset, .unset, .unset] [] from ef_13 m o0 o1]
  have hj1 : 0 ≤ (0 : Int32).toInt ∧ (0 : Int32).toInt < (3 : Nat) := ⟨by decide, by decide⟩
  have hj2 : 0 ≤ (0 : Int32).toInt ∧ (0 : Int32).toInt < (3 : Nat) := ⟨by decide, by decide⟩
  obtain ⟨v3, hv3⟩ : ∃ z : Int64, z = (((0 : Int64) * ((f 0).toInt64)) + ((g 0).toInt64)) := ⟨_, rfl⟩
  have hj4 : 0 ≤ (1 : Int32).toInt ∧ (1 : Int32).toInt < (3 : Nat) := ⟨by decide, by decide⟩
  have hj5 : 0 ≤ (1 : Int32).toInt ∧ (1 : Int32).toInt < (3 : Nat) := ⟨by decide, by decide⟩
  obtain ⟨v6, hv6⟩ : ∃ z : Int64, z = ((v3 * ((f 1).toInt64)) + ((g 1).toInt64)) := ⟨_, rfl⟩
  have hj7 : 0 ≤ (2 : Int32).toInt ∧ (2 : Int32).toInt < (3 : Nat) := ⟨by decide, by decide⟩
  have hj8 : 0 ≤ (2 : Int32).toInt ∧ (2 : Int32).toInt < (3 : Nat) := ⟨by decide, by decide⟩
  obtain ⟨v9, hv9⟩ : ∃ z : Int64, z = ((v6 * ((f 2).toInt64)) + ((g 2).toInt64)) := ⟨_, rfl⟩
  refine hD _ (s₁.setTop (mkF m 33 #[.val (.ref o0), .val (.ref o1), .val (.long v9), .second, .val (.int (3 : Int32))] [(.long v9)])) (fun t k => ?_) ?_
  · show Steps p.tables e below (s₁.setTop (mkF m 0 #[.val (.ref o0), .val (.ref o1), .unset, .unset, .unset] [])) t
    refine XS.lconst X0.here hx rfl (hb hby d13_0) ?_
    show Steps p.tables e below (s₁.setTop (mkF m 1 #[.val (.ref o0), .val (.ref o1), .unset, .unset, .unset] [(.long (0 : Int64))])) t
    refine XS.lstoreN X0.here hx rfl (hb hby d13_1) rfl (l' := #[.val (.ref o0), .val (.ref o1), .val (.long (0 : Int64)), .second, .unset]) rfl ?_
    show Steps p.tables e below (s₁.setTop (mkF m 2 #[.val (.ref o0), .val (.ref o1), .val (.long (0 : Int64)), .second, .unset] [])) t
    refine XS.iconst X0.here hx rfl (hb hby d13_2) ?_
    show Steps p.tables e below (s₁.setTop (mkF m 3 #[.val (.ref o0), .val (.ref o1), .val (.long (0 : Int64)), .second, .unset] [(.int (0 : Int32))])) t
    refine XS.istore X0.here hx rfl (hb hby d13_3) rfl (l' := #[.val (.ref o0), .val (.ref o1), .val (.long (0 : Int64)), .second, .val (.int (0 : Int32))]) rfl ?_
    show Steps p.tables e below (s₁.setTop (mkF m 5 #[.val (.ref o0), .val (.ref o1), .val (.long (0 : Int64)), .second, .val (.int (0 : Int32))] [])) t
    refine XS.iload X0.here hx rfl (hb hby d13_5) rfl ?_
    show Steps p.tables e below (s₁.setTop (mkF m 7 #[.val (.ref o0), .val (.ref o1), .val (.long (0 : Int64)), .second, .val (.int (0 : Int32))] [(.int (0 : Int32))])) t
    refine XS.aloadN X0.here hx rfl (hb hby d13_7) rfl rfl ?_
    show Steps p.tables e below (s₁.setTop (mkF m 8 #[.val (.ref o0), .val (.ref o1), .val (.long (0 : Int64)), .second, .val (.int (0 : Int32))] [(.ref o1), (.int (0 : Int32))])) t
    refine Own.lenI X0 hx hZ e0 A1 (g := (mkF m 8 #[.val (.ref o0), .val (.ref o1), .val (.long (0 : Int64)), .second, .val (.int (0 : Int32))] [(.ref o1), (.int (0 : Int32))])) rfl rfl (hb hby d13_8) _ ?_
    show Steps p.tables e below (s₁.setTop (mkF m 9 #[.val (.ref o0), .val (.ref o1), .val (.long (0 : Int64)), .second, .val (.int (0 : Int32))] [(.int (Int32.ofNat 3)), (.int (0 : Int32))])) t
    refine Own.nmI (by decide : (3 : Int32) = (Int32.ofNat 3)) ?_
    show Steps p.tables e below (s₁.setTop (mkF m 9 #[.val (.ref o0), .val (.ref o1), .val (.long (0 : Int64)), .second, .val (.int (0 : Int32))] [(.int (3 : Int32)), (.int (0 : Int32))])) t
    refine XS.icmpNo X0.here hx rfl (hb hby d13_9) rfl (by decide) ?_
    show Steps p.tables e below (s₁.setTop (mkF m 12 #[.val (.ref o0), .val (.ref o1), .val (.long (0 : Int64)), .second, .val (.int (0 : Int32))] [])) t
    refine XS.lloadN X0.here hx rfl (hb hby d13_12) rfl ?_
    show Steps p.tables e below (s₁.setTop (mkF m 13 #[.val (.ref o0), .val (.ref o1), .val (.long (0 : Int64)), .second, .val (.int (0 : Int32))] [(.long (0 : Int64))])) t
    refine XS.aloadN X0.here hx rfl (hb hby d13_13) rfl rfl ?_
    show Steps p.tables e below (s₁.setTop (mkF m 14 #[.val (.ref o0), .val (.ref o1), .val (.long (0 : Int64)), .second, .val (.int (0 : Int32))] [(.ref o0), (.long (0 : Int64))])) t
    refine XS.iload X0.here hx rfl (hb hby d13_14) rfl ?_
    show Steps p.tables e below (s₁.setTop (mkF m 16 #[.val (.ref o0), .val (.ref o1), .val (.long (0 : Int64)), .second, .val (.int (0 : Int32))] [(.int (0 : Int32)), (.ref o0), (.long (0 : Int64))])) t
    refine Own.ldI X0 hx hZ e0 A0 hj1 (g := (mkF m 16 #[.val (.ref o0), .val (.ref o1), .val (.long (0 : Int64)), .second, .val (.int (0 : Int32))] [(.int (0 : Int32)), (.ref o0), (.long (0 : Int64))])) rfl rfl (hb hby d13_16) _ ?_
    show Steps p.tables e below (s₁.setTop (mkF m 17 #[.val (.ref o0), .val (.ref o1), .val (.long (0 : Int64)), .second, .val (.int (0 : Int32))] [(.int (f 0)), (.long (0 : Int64))])) t
    refine XS.i2l X0.here hx rfl (hb hby d13_17) rfl ?_
    show Steps p.tables e below (s₁.setTop (mkF m 18 #[.val (.ref o0), .val (.ref o1), .val (.long (0 : Int64)), .second, .val (.int (0 : Int32))] [(.long ((f 0).toInt64)), (.long (0 : Int64))])) t
    refine XS.lmul X0.here hx rfl (hb hby d13_18) rfl ?_
    show Steps p.tables e below (s₁.setTop (mkF m 19 #[.val (.ref o0), .val (.ref o1), .val (.long (0 : Int64)), .second, .val (.int (0 : Int32))] [(.long ((0 : Int64) * ((f 0).toInt64)))])) t
    refine XS.aloadN X0.here hx rfl (hb hby d13_19) rfl rfl ?_
    show Steps p.tables e below (s₁.setTop (mkF m 20 #[.val (.ref o0), .val (.ref o1), .val (.long (0 : Int64)), .second, .val (.int (0 : Int32))] [(.ref o1), (.long ((0 : Int64) * ((f 0).toInt64)))])) t
    refine XS.iload X0.here hx rfl (hb hby d13_20) rfl ?_
    show Steps p.tables e below (s₁.setTop (mkF m 22 #[.val (.ref o0), .val (.ref o1), .val (.long (0 : Int64)), .second, .val (.int (0 : Int32))] [(.int (0 : Int32)), (.ref o1), (.long ((0 : Int64) * ((f 0).toInt64)))])) t
    refine Own.ldI X0 hx hZ e0 A1 hj2 (g := (mkF m 22 #[.val (.ref o0), .val (.ref o1), .val (.long (0 : Int64)), .second, .val (.int (0 : Int32))] [(.int (0 : Int32)), (.ref o1), (.long ((0 : Int64) * ((f 0).toInt64)))])) rfl rfl (hb hby d13_22) _ ?_
    show Steps p.tables e below (s₁.setTop (mkF m 23 #[.val (.ref o0), .val (.ref o1), .val (.long (0 : Int64)), .second, .val (.int (0 : Int32))] [(.int (g 0)), (.long ((0 : Int64) * ((f 0).toInt64)))])) t
    refine XS.i2l X0.here hx rfl (hb hby d13_23) rfl ?_
    show Steps p.tables e below (s₁.setTop (mkF m 24 #[.val (.ref o0), .val (.ref o1), .val (.long (0 : Int64)), .second, .val (.int (0 : Int32))] [(.long ((g 0).toInt64)), (.long ((0 : Int64) * ((f 0).toInt64)))])) t
    refine XS.ladd X0.here hx rfl (hb hby d13_24) rfl ?_
    show Steps p.tables e below (s₁.setTop (mkF m 25 #[.val (.ref o0), .val (.ref o1), .val (.long (0 : Int64)), .second, .val (.int (0 : Int32))] [(.long (((0 : Int64) * ((f 0).toInt64)) + ((g 0).toInt64)))])) t
    refine Own.nmJ hv3 ?_
    show Steps p.tables e below (s₁.setTop (mkF m 25 #[.val (.ref o0), .val (.ref o1), .val (.long (0 : Int64)), .second, .val (.int (0 : Int32))] [(.long v3)])) t
    refine XS.lstoreN X0.here hx rfl (hb hby d13_25) rfl (l' := #[.val (.ref o0), .val (.ref o1), .val (.long v3), .second, .val (.int (0 : Int32))]) rfl ?_
    show Steps p.tables e below (s₁.setTop (mkF m 26 #[.val (.ref o0), .val (.ref o1), .val (.long v3), .second, .val (.int (0 : Int32))] [])) t
    refine XS.iinc X0.here hx rfl (hb hby d13_26) rfl (l' := #[.val (.ref o0), .val (.ref o1), .val (.long v3), .second, .val (.int ((0 : Int32) + (1 : Int32)))]) rfl ?_
    show Steps p.tables e below (s₁.setTop (mkF m 29 #[.val (.ref o0), .val (.ref o1), .val (.long v3), .second, .val (.int ((0 : Int32) + (1 : Int32)))] [])) t
    rw [show ((0 : Int32) + (1 : Int32)) = (1 : Int32) from by decide]
    show Steps p.tables e below (s₁.setTop (mkF m 29 #[.val (.ref o0), .val (.ref o1), .val (.long v3), .second, .val (.int (1 : Int32))] [])) t
    refine XS.goto X0.here hx rfl (pc0 := 29) (pc' := 5) rfl (hb hby d13_29) (by decide) (by decide) ?_
    show Steps p.tables e below (s₁.setTop (mkF m 5 #[.val (.ref o0), .val (.ref o1), .val (.long v3), .second, .val (.int (1 : Int32))] [])) t
    refine XS.iload X0.here hx rfl (hb hby d13_5) rfl ?_
    show Steps p.tables e below (s₁.setTop (mkF m 7 #[.val (.ref o0), .val (.ref o1), .val (.long v3), .second, .val (.int (1 : Int32))] [(.int (1 : Int32))])) t
    refine XS.aloadN X0.here hx rfl (hb hby d13_7) rfl rfl ?_
    show Steps p.tables e below (s₁.setTop (mkF m 8 #[.val (.ref o0), .val (.ref o1), .val (.long v3), .second, .val (.int (1 : Int32))] [(.ref o1), (.int (1 : Int32))])) t
    refine Own.lenI X0 hx hZ e0 A1 (g := (mkF m 8 #[.val (.ref o0), .val (.ref o1), .val (.long v3), .second, .val (.int (1 : Int32))] [(.ref o1), (.int (1 : Int32))])) rfl rfl (hb hby d13_8) _ ?_
    show Steps p.tables e below (s₁.setTop (mkF m 9 #[.val (.ref o0), .val (.ref o1), .val (.long v3), .second, .val (.int (1 : Int32))] [(.int (Int32.ofNat 3)), (.int (1 : Int32))])) t
    refine Own.nmI (by decide : (3 : Int32) = (Int32.ofNat 3)) ?_
    show Steps p.tables e below (s₁.setTop (mkF m 9 #[.val (.ref o0), .val (.ref o1), .val (.long v3), .second, .val (.int (1 : Int32))] [(.int (3 : Int32)), (.int (1 : Int32))])) t
    refine XS.icmpNo X0.here hx rfl (hb hby d13_9) rfl (by decide) ?_
    show Steps p.tables e below (s₁.setTop (mkF m 12 #[.val (.ref o0), .val (.ref o1), .val (.long v3), .second, .val (.int (1 : Int32))] [])) t
    refine XS.lloadN X0.here hx rfl (hb hby d13_12) rfl ?_
    show Steps p.tables e below (s₁.setTop (mkF m 13 #[.val (.ref o0), .val (.ref o1), .val (.long v3), .second, .val (.int (1 : Int32))] [(.long v3)])) t
    refine XS.aloadN X0.here hx rfl (hb hby d13_13) rfl rfl ?_
    show Steps p.tables e below (s₁.setTop (mkF m 14 #[.val (.ref o0), .val (.ref o1), .val (.long v3), .second, .val (.int (1 : Int32))] [(.ref o0), (.long v3)])) t
    refine XS.iload X0.here hx rfl (hb hby d13_14) rfl ?_
    show Steps p.tables e below (s₁.setTop (mkF m 16 #[.val (.ref o0), .val (.ref o1), .val (.long v3), .second, .val (.int (1 : Int32))] [(.int (1 : Int32)), (.ref o0), (.long v3)])) t
    refine Own.ldI X0 hx hZ e0 A0 hj4 (g := (mkF m 16 #[.val (.ref o0), .val (.ref o1), .val (.long v3), .second, .val (.int (1 : Int32))] [(.int (1 : Int32)), (.ref o0), (.long v3)])) rfl rfl (hb hby d13_16) _ ?_
    show Steps p.tables e below (s₁.setTop (mkF m 17 #[.val (.ref o0), .val (.ref o1), .val (.long v3), .second, .val (.int (1 : Int32))] [(.int (f 1)), (.long v3)])) t
    refine XS.i2l X0.here hx rfl (hb hby d13_17) rfl ?_
    show Steps p.tables e below (s₁.setTop (mkF m 18 #[.val (.ref o0), .val (.ref o1), .val (.long v3), .second, .val (.int (1 : Int32))] [(.long ((f 1).toInt64)), (.long v3)])) t
    refine XS.lmul X0.here hx rfl (hb hby d13_18) rfl ?_
    show Steps p.tables e below (s₁.setTop (mkF m 19 #[.val (.ref o0), .val (.ref o1), .val (.long v3), .second, .val (.int (1 : Int32))] [(.long (v3 * ((f 1).toInt64)))])) t
    refine XS.aloadN X0.here hx rfl (hb hby d13_19) rfl rfl ?_
    show Steps p.tables e below (s₁.setTop (mkF m 20 #[.val (.ref o0), .val (.ref o1), .val (.long v3), .second, .val (.int (1 : Int32))] [(.ref o1), (.long (v3 * ((f 1).toInt64)))])) t
    refine XS.iload X0.here hx rfl (hb hby d13_20) rfl ?_
    show Steps p.tables e below (s₁.setTop (mkF m 22 #[.val (.ref o0), .val (.ref o1), .val (.long v3), .second, .val (.int (1 : Int32))] [(.int (1 : Int32)), (.ref o1), (.long (v3 * ((f 1).toInt64)))])) t
    refine Own.ldI X0 hx hZ e0 A1 hj5 (g := (mkF m 22 #[.val (.ref o0), .val (.ref o1), .val (.long v3), .second, .val (.int (1 : Int32))] [(.int (1 : Int32)), (.ref o1), (.long (v3 * ((f 1).toInt64)))])) rfl rfl (hb hby d13_22) _ ?_
    show Steps p.tables e below (s₁.setTop (mkF m 23 #[.val (.ref o0), .val (.ref o1), .val (.long v3), .second, .val (.int (1 : Int32))] [(.int (g 1)), (.long (v3 * ((f 1).toInt64)))])) t
    refine XS.i2l X0.here hx rfl (hb hby d13_23) rfl ?_
    show Steps p.tables e below (s₁.setTop (mkF m 24 #[.val (.ref o0), .val (.ref o1), .val (.long v3), .second, .val (.int (1 : Int32))] [(.long ((g 1).toInt64)), (.long (v3 * ((f 1).toInt64)))])) t
    refine XS.ladd X0.here hx rfl (hb hby d13_24) rfl ?_
    show Steps p.tables e below (s₁.setTop (mkF m 25 #[.val (.ref o0), .val (.ref o1), .val (.long v3), .second, .val (.int (1 : Int32))] [(.long ((v3 * ((f 1).toInt64)) + ((g 1).toInt64)))])) t
    refine Own.nmJ hv6 ?_
    show Steps p.tables e below (s₁.setTop (mkF m 25 #[.val (.ref o0), .val (.ref o1), .val (.long v3), .second, .val (.int (1 : Int32))] [(.long v6)])) t
    refine XS.lstoreN X0.here hx rfl (hb hby d13_25) rfl (l' := #[.val (.ref o0), .val (.ref o1), .val (.long v6), .second, .val (.int (1 : Int32))]) rfl ?_
    show Steps p.tables e below (s₁.setTop (mkF m 26 #[.val (.ref o0), .val (.ref o1), .val (.long v6), .second, .val (.int (1 : Int32))] [])) t
    refine XS.iinc X0.here hx rfl (hb hby d13_26) rfl (l' := #[.val (.ref o0), .val (.ref o1), .val (.long v6), .second, .val (.int ((1 : Int32) + (1 : Int32)))]) rfl ?_
    show Steps p.tables e below (s₁.setTop (mkF m 29 #[.val (.ref o0), .val (.ref o1), .val (.long v6), .second, .val (.int ((1 : Int32) + (1 : Int32)))] [])) t
    rw [show ((1 : Int32) + (1 : Int32)) = (2 : Int32) from by decide]
    show Steps p.tables e below (s₁.setTop (mkF m 29 #[.val (.ref o0), .val (.ref o1), .val (.long v6), .second, .val (.int (2 : Int32))] [])) t
    refine XS.goto X0.here hx rfl (pc0 := 29) (pc' := 5) rfl (hb hby d13_29) (by decide) (by decide) ?_
    show Steps p.tables e below (s₁.setTop (mkF m 5 #[.val (.ref o0), .val (.ref o1), .val (.long v6), .second, .val (.int (2 : Int32))] [])) t
    refine XS.iload X0.here hx rfl (hb hby d13_5) rfl ?_
    show Steps p.tables e below (s₁.setTop (mkF m 7 #[.val (.ref o0), .val (.ref o1), .val (.long v6), .second, .val (.int (2 : Int32))] [(.int (2 : Int32))])) t
    refine XS.aloadN X0.here hx rfl (hb hby d13_7) rfl rfl ?_
    show Steps p.tables e below (s₁.setTop (mkF m 8 #[.val (.ref o0), .val (.ref o1), .val (.long v6), .second, .val (.int (2 : Int32))] [(.ref o1), (.int (2 : Int32))])) t
    refine Own.lenI X0 hx hZ e0 A1 (g := (mkF m 8 #[.val (.ref o0), .val (.ref o1), .val (.long v6), .second, .val (.int (2 : Int32))] [(.ref o1), (.int (2 : Int32))])) rfl rfl (hb hby d13_8) _ ?_
    show Steps p.tables e below (s₁.setTop (mkF m 9 #[.val (.ref o0), .val (.ref o1), .val (.long v6), .second, .val (.int (2 : Int32))] [(.int (Int32.ofNat 3)), (.int (2 : Int32))])) t
    refine Own.nmI (by decide : (3 : Int32) = (Int32.ofNat 3)) ?_
    show Steps p.tables e below (s₁.setTop (mkF m 9 #[.val (.ref o0), .val (.ref o1), .val (.long v6), .second, .val (.int (2 : Int32))] [(.int (3 : Int32)), (.int (2 : Int32))])) t
    refine XS.icmpNo X0.here hx rfl (hb hby d13_9) rfl (by decide) ?_
    show Steps p.tables e below (s₁.setTop (mkF m 12 #[.val (.ref o0), .val (.ref o1), .val (.long v6), .second, .val (.int (2 : Int32))] [])) t
    refine XS.lloadN X0.here hx rfl (hb hby d13_12) rfl ?_
    show Steps p.tables e below (s₁.setTop (mkF m 13 #[.val (.ref o0), .val (.ref o1), .val (.long v6), .second, .val (.int (2 : Int32))] [(.long v6)])) t
    refine XS.aloadN X0.here hx rfl (hb hby d13_13) rfl rfl ?_
    show Steps p.tables e below (s₁.setTop (mkF m 14 #[.val (.ref o0), .val (.ref o1), .val (.long v6), .second, .val (.int (2 : Int32))] [(.ref o0), (.long v6)])) t
    refine XS.iload X0.here hx rfl (hb hby d13_14) rfl ?_
    show Steps p.tables e below (s₁.setTop (mkF m 16 #[.val (.ref o0), .val (.ref o1), .val (.long v6), .second, .val (.int (2 : Int32))] [(.int (2 : Int32)), (.ref o0), (.long v6)])) t
    refine Own.ldI X0 hx hZ e0 A0 hj7 (g := (mkF m 16 #[.val (.ref o0), .val (.ref o1), .val (.long v6), .second, .val (.int (2 : Int32))] [(.int (2 : Int32)), (.ref o0), (.long v6)])) rfl rfl (hb hby d13_16) _ ?_
    show Steps p.tables e below (s₁.setTop (mkF m 17 #[.val (.ref o0), .val (.ref o1), .val (.long v6), .second, .val (.int (2 : Int32))] [(.int (f 2)), (.long v6)])) t
    refine XS.i2l X0.here hx rfl (hb hby d13_17) rfl ?_
    show Steps p.tables e below (s₁.setTop (mkF m 18 #[.val (.ref o0), .val (.ref o1), .val (.long v6), .second, .val (.int (2 : Int32))] [(.long ((f 2).toInt64)), (.long v6)])) t
    refine XS.lmul X0.here hx rfl (hb hby d13_18) rfl ?_
    show Steps p.tables e below (s₁.setTop (mkF m 19 #[.val (.ref o0), .val (.ref o1), .val (.long v6), .second, .val (.int (2 : Int32))] [(.long (v6 * ((f 2).toInt64)))])) t
    refine XS.aloadN X0.here hx rfl (hb hby d13_19) rfl rfl ?_
    show Steps p.tables e below (s₁.setTop (mkF m 20 #[.val (.ref o0), .val (.ref o1), .val (.long v6), .second, .val (.int (2 : Int32))] [(.ref o1), (.long (v6 * ((f 2).toInt64)))])) t
    refine XS.iload X0.here hx rfl (hb hby d13_20) rfl ?_
    show Steps p.tables e below (s₁.setTop (mkF m 22 #[.val (.ref o0), .val (.ref o1), .val (.long v6), .second, .val (.int (2 : Int32))] [(.int (2 : Int32)), (.ref o1), (.long (v6 * ((f 2).toInt64)))])) t
    refine Own.ldI X0 hx hZ e0 A1 hj8 (g := (mkF m 22 #[.val (.ref o0), .val (.ref o1), .val (.long v6), .second, .val (.int (2 : Int32))] [(.int (2 : Int32)), (.ref o1), (.long (v6 * ((f 2).toInt64)))])) rfl rfl (hb hby d13_22) _ ?_
    show Steps p.tables e below (s₁.setTop (mkF m 23 #[.val (.ref o0), .val (.ref o1), .val (.long v6), .second, .val (.int (2 : Int32))] [(.int (g 2)), (.long (v6 * ((f 2).toInt64)))])) t
    refine XS.i2l X0.here hx rfl (hb hby d13_23) rfl ?_
    show Steps p.tables e below (s₁.setTop (mkF m 24 #[.val (.ref o0), .val (.ref o1), .val (.long v6), .second, .val (.int (2 : Int32))] [(.long ((g 2).toInt64)), (.long (v6 * ((f 2).toInt64)))])) t
    refine XS.ladd X0.here hx rfl (hb hby d13_24) rfl ?_
    show Steps p.tables e below (s₁.setTop (mkF m 25 #[.val (.ref o0), .val (.ref o1), .val (.long v6), .second, .val (.int (2 : Int32))] [(.long ((v6 * ((f 2).toInt64)) + ((g 2).toInt64)))])) t
    refine Own.nmJ hv9 ?_
    show Steps p.tables e below (s₁.setTop (mkF m 25 #[.val (.ref o0), .val (.ref o1), .val (.long v6), .second, .val (.int (2 : Int32))] [(.long v9)])) t
    refine XS.lstoreN X0.here hx rfl (hb hby d13_25) rfl (l' := #[.val (.ref o0), .val (.ref o1), .val (.long v9), .second, .val (.int (2 : Int32))]) rfl ?_
    show Steps p.tables e below (s₁.setTop (mkF m 26 #[.val (.ref o0), .val (.ref o1), .val (.long v9), .second, .val (.int (2 : Int32))] [])) t
    refine XS.iinc X0.here hx rfl (hb hby d13_26) rfl (l' := #[.val (.ref o0), .val (.ref o1), .val (.long v9), .second, .val (.int ((2 : Int32) + (1 : Int32)))]) rfl ?_
    show Steps p.tables e below (s₁.setTop (mkF m 29 #[.val (.ref o0), .val (.ref o1), .val (.long v9), .second, .val (.int ((2 : Int32) + (1 : Int32)))] [])) t
    rw [show ((2 : Int32) + (1 : Int32)) = (3 : Int32) from by decide]
    show Steps p.tables e below (s₁.setTop (mkF m 29 #[.val (.ref o0), .val (.ref o1), .val (.long v9), .second, .val (.int (3 : Int32))] [])) t
    refine XS.goto X0.here hx rfl (pc0 := 29) (pc' := 5) rfl (hb hby d13_29) (by decide) (by decide) ?_
    show Steps p.tables e below (s₁.setTop (mkF m 5 #[.val (.ref o0), .val (.ref o1), .val (.long v9), .second, .val (.int (3 : Int32))] [])) t
    refine XS.iload X0.here hx rfl (hb hby d13_5) rfl ?_
    show Steps p.tables e below (s₁.setTop (mkF m 7 #[.val (.ref o0), .val (.ref o1), .val (.long v9), .second, .val (.int (3 : Int32))] [(.int (3 : Int32))])) t
    refine XS.aloadN X0.here hx rfl (hb hby d13_7) rfl rfl ?_
    show Steps p.tables e below (s₁.setTop (mkF m 8 #[.val (.ref o0), .val (.ref o1), .val (.long v9), .second, .val (.int (3 : Int32))] [(.ref o1), (.int (3 : Int32))])) t
    refine Own.lenI X0 hx hZ e0 A1 (g := (mkF m 8 #[.val (.ref o0), .val (.ref o1), .val (.long v9), .second, .val (.int (3 : Int32))] [(.ref o1), (.int (3 : Int32))])) rfl rfl (hb hby d13_8) _ ?_
    show Steps p.tables e below (s₁.setTop (mkF m 9 #[.val (.ref o0), .val (.ref o1), .val (.long v9), .second, .val (.int (3 : Int32))] [(.int (Int32.ofNat 3)), (.int (3 : Int32))])) t
    refine Own.nmI (by decide : (3 : Int32) = (Int32.ofNat 3)) ?_
    show Steps p.tables e below (s₁.setTop (mkF m 9 #[.val (.ref o0), .val (.ref o1), .val (.long v9), .second, .val (.int (3 : Int32))] [(.int (3 : Int32)), (.int (3 : Int32))])) t
    refine XS.icmpYes X0.here hx rfl (pc0 := 9) (pc' := 32) rfl (hb hby d13_9) rfl (by decide) (by decide) (by decide) ?_
    show Steps p.tables e below (s₁.setTop (mkF m 32 #[.val (.ref o0), .val (.ref o1), .val (.long v9), .second, .val (.int (3 : Int32))] [])) t
    refine XS.lloadN X0.here hx rfl (hb hby d13_32) rfl ?_
    show Steps p.tables e below (s₁.setTop (mkF m 33 #[.val (.ref o0), .val (.ref o1), .val (.long v9), .second, .val (.int (3 : Int32))] [(.long v9)])) t
    exact k
  exact Own.retJ hR X0 hx hret (hb hby d13_33) (by decide) (by decide) ⟨by subst hv9; subst hv6; subst hv3; rfl, N0, e0⟩
theorem pd_1 : parseMethodDescriptor "(I)I" = some ⟨[.int], some .int⟩ := by decide +kernel
theorem pd_2 : parseMethodDescriptor "([I[I)J" = some ⟨[(.array .int), (.array .int)], some .long⟩ := by decide +kernel
theorem ef_0 (m : MethodId) (p0 : Int32) (p1 : Int32) (p2 : Int32) (p3 : Int32) (p4 : Int32) (p5 : Int32) : entryFrame m #[(.int p0), (.int p1), (.int p2), (.int p3), (.int p4), (.int p5)] maxLocals = mkF m 0 #[.val (.int p0), .val (.int p1), .val (.int p2), .val (.int p3), .val (.int p4), .val (.int p5), .unset, .unset, .unset, .unset, .unset, .unset, .unset, .unset, .unset, .unset, .unset, .unset, .unset, .unset, .unset] [] := by first | (simp [entryFrame, mkF, argsToLocals, Value.category, maxLocals]; done) | rfl
def Q0 (Z : State) (p0 : Int32) (p1 : Int32) (p2 : Int32) (p3 : Int32) (p4 : Int32) (p5 : Int32) (h0 : Heap) (n0 : Nat) (v : Option Value) (h : Heap) (L : List Loc) : Prop := v = some (.int 1) ∧ Fr n0 L
set_option maxRecDepth 65536 in
set_option maxHeartbeats 40000000 in
theorem rm0 (l : Launch) (Z : State) (a0 : Array Value) (hw : ∀ d ∈ tables_1, d.before a0 Z = true) (ws : List Jvm.Cond) (p0 : Int32) (p1 : Int32) (p2 : Int32) (p3 : Int32) (p4 : Int32) (p5 : Int32) (h0 : Heap) (n0 : Nat) (Z0 : n0 ≤ h0.size) :
    MetFree l x (head1 (Jvm.Cond.code x code maxLocals ret :: ws) room_1) (fun a U => a = #[(.int p0), (.int p1), (.int p2), (.int p3), (.int p4), (.int p5)] ∧ Z.Warmed39 U.vm ∧ U.heap = h0) (fun _ _ _ _ _ => True) (fun _ U o U' => ∃ v L, o = .returned v ∧ Q0 Z p0 p1 p2 p3 p4 p5 h0 n0 v U'.heap L ∧ FrameEnd U o U' L room_1.cells room_1.slots) := by
  refine Own.enter (Q := Q0 Z p0 p1 p2 p3 p4 p5 h0 n0) (plainFor_of_name pn_0) ?_
  intro p e s m below meth c s₁ D hx hby hml hown hnm hret hZ X0 e0 hD hR
  have N0 := Fr.nil n0
  rw [show entryFrame m #[(.int p0), (.int p1), (.int p2), (.int p3), (.int p4), (.int p5)] maxLocals = mkF m 0 #[.val (.int p0), .val (.int p1), .val (.int p2), .val (.int p3), .val (.int p4), .val (.int p5), .unset, .unset, .unset, .unset, .unset, .unset, .unset, .unset, .unset, .unset, .unset, .unset, .unset, .unset, .unset] [] from ef_0 m p0 p1 p2 p3 p4 p5]
  obtain ⟨v1, hv1⟩ : ∃ z : Int32, z = (p0 &&& (3 : Int32)) := ⟨_, rfl⟩
  obtain ⟨v2, hv2⟩ : ∃ z : Int32, z = ((((p0.toUInt32 >>> ((2 : Int32) &&& 31).toUInt32).toInt32) &&& (65535 : Int32)) + (1 : Int32)) := ⟨_, rfl⟩
  obtain ⟨T3, _, L3, X3, ⟨rfl, Nq3, e3⟩, st3⟩ := Own.callS (y := (⟨"com/example/ballast/ballast/model/CostTableKeyPinLaw", "size", "(I)I"⟩ : MethodName)) (W := 0) (argsL := [(.int p1)]) (rest := []) X0 hx hZ hown (hw _ (List.mem_of_getElem? (i := 1) rfl)) (hw _ (List.mem_of_getElem? (i := 2) rfl)) (hw _ (List.mem_of_getElem? (i := 3) rfl)) (hw _ (List.mem_of_getElem? (i := 4) rfl)) (by decide) e0 (rm2 l Z a0 hw [] p1  h0 n0 ) (by decide) (by decide) (by decide) (by decide) (g := (mkF m 16 #[.val (.int p0), .val (.int p1), .val (.int p2), .val (.int p3), .val (.int p4), .val (.int p5), .val (.int v1), .val (.int v2), .unset, .unset, .unset, .unset, .unset, .unset, .unset, .unset, .unset, .unset, .unset, .unset, .unset] [(.int p1)])) rfl (by rw [hml]; rfl) (lenOf pd_1 rfl) rfl (by show 2 * 0 + _ ≤ _; exact Nat.le_of_eq rfl) (hb hby at_16)
  have N3 := Fr.app N0 Nq3
  obtain ⟨v4, hv4⟩ : ∃ z : Int32, z = (own_max 1 (p1 &&& 2147483647)) := ⟨_, rfl⟩
  obtain ⟨T5, _, L5, X5, ⟨rfl, Nq5, e5⟩, st5⟩ := Own.callS (y := (⟨"com/example/ballast/ballast/model/CostTableKeyPinLaw", "size", "(I)I"⟩ : MethodName)) (W := 0) (argsL := [(.int p2)]) (rest := []) X3 hx hZ hown (hw _ (List.mem_of_getElem? (i := 1) rfl)) (hw _ (List.mem_of_getElem? (i := 2) rfl)) (hw _ (List.mem_of_getElem? (i := 3) rfl)) (hw _ (List.mem_of_getElem? (i := 4) rfl)) (by decide) e3 (rm2 l Z a0 hw [] p2  h0 n0 ) (by decide) (by decide) (by decide) (by decide) (g := (mkF m 22 #[.val (.int p0), .val (.int p1), .val (.int p2), .val (.int p3), .val (.int p4), .val (.int p5), .val (.int v1), .val (.int v2), .val (.int v4), .unset, .unset, .unset, .unset, .unset, .unset, .unset, .unset, .unset, .unset, .unset, .unset] [(.int p2)])) rfl (by rw [hml]; rfl) (lenOf pd_1 rfl) rfl (by show 2 * 0 + _ ≤ _; exact Nat.le_of_eq rfl) (hb hby at_22)
  have N5 := Fr.app N3 Nq5
  obtain ⟨v6, hv6⟩ : ∃ z : Int32, z = (own_max 1 (p2 &&& 2147483647)) := ⟨_, rfl⟩
  obtain ⟨T7, _, L7, X7, ⟨rfl, Nq7, e7⟩, st7⟩ := Own.callS (y := (⟨"com/example/ballast/ballast/model/CostTableKeyPinLaw", "val", "(II)I"⟩ : MethodName)) (W := 0) (argsL := [(.int p3), (.int v2)]) (rest := []) X5 hx hZ hown (hw _ (List.mem_of_getElem? (i := 10) rfl)) (hw _ (List.mem_of_getElem? (i := 11) rfl)) (hw _ (List.mem_of_getElem? (i := 3) rfl)) (hw _ (List.mem_of_getElem? (i := 12) rfl)) (by decide) e5 (rm3 l Z a0 hw [] p3 v2  h0 n0 (own_nz0 hv2)) (by decide) (by decide) (by decide) (by decide) (g := (mkF m 30 #[.val (.int p0), .val (.int p1), .val (.int p2), .val (.int p3), .val (.int p4), .val (.int p5), .val (.int v1), .val (.int v2), .val (.int v4), .val (.int v6), .unset, .unset, .unset, .unset, .unset, .unset, .unset, .unset, .unset, .unset, .unset] [(.int v2), (.int p3)])) rfl (by rw [hml]; rfl) (lenOf pd_0 rfl) rfl (by show 2 * 0 + _ ≤ _; exact Nat.le_of_eq rfl) (hb hby at_30)
  have N7 := Fr.app N5 Nq7
  obtain ⟨v8, hv8⟩ : ∃ z : Int32, z = ((p3 &&& 2147483647) % v2) := ⟨_, rfl⟩
  obtain ⟨T9, _, L9, X9, ⟨rfl, Nq9, e9⟩, st9⟩ := Own.callS (y := (⟨"com/example/ballast/ballast/model/CostTableKeyPinLaw", "val", "(II)I"⟩ : MethodName)) (W := 0) (argsL := [(.int p4), (.int v4)]) (rest := []) X7 hx hZ hown (hw _ (List.mem_of_getElem? (i := 10) rfl)) (hw _ (List.mem_of_getElem? (i := 11) rfl)) (hw _ (List.mem_of_getElem? (i := 3) rfl)) (hw _ (List.mem_of_getElem? (i := 12) rfl)) (by decide) e7 (rm3 l Z a0 hw [] p4 v4  h0 n0 (own_nz1 hv4)) (by decide) (by decide) (by decide) (by decide) (g := (mkF m 39 #[.val (.int p0), .val (.int p1), .val (.int p2), .val (.int p3), .val (.int p4), .val (.int p5), .val (.int v1), .val (.int v2), .val (.int v4), .val (.int v6), .val (.int v8), .unset, .unset, .unset, .unset, .unset, .unset, .unset, .unset, .unset, .unset] [(.int v4), (.int p4)])) rfl (by rw [hml]; rfl) (lenOf pd_0 rfl) rfl (by show 2 * 0 + _ ≤ _; exact Nat.le_of_eq rfl) (hb hby at_39)
  have N9 := Fr.app N7 Nq9
  obtain ⟨v10, hv10⟩ : ∃ z : Int32, z = ((p4 &&& 2147483647) % v4) := ⟨_, rfl⟩
  obtain ⟨T11, _, L11, X11, ⟨rfl, Nq11, e11⟩, st11⟩ := Own.callS (y := (⟨"com/example/ballast/ballast/model/CostTableKeyPinLaw", "val", "(II)I"⟩ : MethodName)) (W := 0) (argsL := [(.int p5), (.int v6)]) (rest := []) X9 hx hZ hown (hw _ (List.mem_of_getElem? (i := 10) rfl)) (hw _ (List.mem_of_getElem? (i := 11) rfl)) (hw _ (List.mem_of_getElem? (i := 3) rfl)) (hw _ (List.mem_of_getElem? (i := 12) rfl)) (by decide) e9 (rm3 l Z a0 hw [] p5 v6  h0 n0 (own_nz1 hv6)) (by decide) (by decide) (by decide) (by decide) (g := (mkF m 48 #[.val (.int p0), .val (.int p1), .val (.int p2), .val (.int p3), .val (.int p4), .val (.int p5), .val (.int v1), .val (.int v2), .val (.int v4), .val (.int v6), .val (.int v8), .val (.int v10), .unset, .unset, .unset, .unset, .unset, .unset, .unset, .unset, .unset] [(.int v6), (.int p5)])) rfl (by rw [hml]; rfl) (lenOf pd_0 rfl) rfl (by show 2 * 0 + _ ≤ _; exact Nat.le_of_eq rfl) (hb hby at_48)
  have N11 := Fr.app N9 Nq11
  obtain ⟨v12, hv12⟩ : ∃ z : Int32, z = ((p5 &&& 2147483647) % v6) := ⟨_, rfl⟩
  refine hD _ (T11.setTop (mkF m 55 #[.val (.int p0), .val (.int p1), .val (.int p2), .val (.int p3), .val (.int p4), .val (.int p5), .val (.int v1), .val (.int v2), .val (.int v4), .val (.int v6), .val (.int v8), .val (.int v10), .val (.int v12), .unset, .unset, .unset, .unset, .unset, .unset, .unset, .unset] [(.int v1)])) (fun t k => ?_) ?_
  · show Steps p.tables e below (s₁.setTop (mkF m 0 #[.val (.int p0), .val (.int p1), .val (.int p2), .val (.int p3), .val (.int p4), .val (.int p5), .unset, .unset, .unset, .unset, .unset, .unset, .unset, .unset, .unset, .unset, .unset, .unset, .unset, .unset, .unset] [])) t
    refine XS.iloadN X0.here hx rfl (hb hby at_0) rfl ?_
    show Steps p.tables e below (s₁.setTop (mkF m 1 #[.val (.int p0), .val (.int p1), .val (.int p2), .val (.int p3), .val (.int p4), .val (.int p5), .unset, .unset, .unset, .unset, .unset, .unset, .unset, .unset, .unset, .unset, .unset, .unset, .unset, .unset, .unset] [(.int p0)])) t
    refine XS.iconst X0.here hx rfl (hb hby at_1) ?_
    show Steps p.tables e below (s₁.setTop (mkF m 2 #[.val (.int p0), .val (.int p1), .val (.int p2), .val (.int p3), .val (.int p4), .val (.int p5), .unset, .unset, .unset, .unset, .unset, .unset, .unset, .unset, .unset, .unset, .unset, .unset, .unset, .unset, .unset] [(.int (3 : Int32)), (.int p0)])) t
    refine XS.iand X0.here hx rfl (hb hby at_2) rfl ?_
    show Steps p.tables e below (s₁.setTop (mkF m 3 #[.val (.int p0), .val (.int p1), .val (.int p2), .val (.int p3), .val (.int p4), .val (.int p5), .unset, .unset, .unset, .unset, .unset, .unset, .unset, .unset, .unset, .unset, .unset, .unset, .unset, .unset, .unset] [(.int (p0 &&& (3 : Int32)))])) t
    refine Own.nmI hv1 ?_
    show Steps p.tables e below (s₁.setTop (mkF m 3 #[.val (.int p0), .val (.int p1), .val (.int p2), .val (.int p3), .val (.int p4), .val (.int p5), .unset, .unset, .unset, .unset, .unset, .unset, .unset, .unset, .unset, .unset, .unset, .unset, .unset, .unset, .unset] [(.int v1)])) t
    refine XS.istore X0.here hx rfl (hb hby at_3) rfl (l' := #[.val (.int p0), .val (.int p1), .val (.int p2), .val (.int p3), .val (.int p4), .val (.int p5), .val (.int v1), .unset, .unset, .unset, .unset, .unset, .unset, .unset, .unset, .unset, .unset, .unset, .unset, .unset, .unset]) rfl ?_
    show Steps p.tables e below (s₁.setTop (mkF m 5 #[.val (.int p0), .val (.int p1), .val (.int p2), .val (.int p3), .val (.int p4), .val (.int p5), .val (.int v1), .unset, .unset, .unset, .unset, .unset, .unset, .unset, .unset, .unset, .unset, .unset, .unset, .unset, .unset] [])) t
    refine XS.iloadN X0.here hx rfl (hb hby at_5) rfl ?_
    show Steps p.tables e below (s₁.setTop (mkF m 6 #[.val (.int p0), .val (.int p1), .val (.int p2), .val (.int p3), .val (.int p4), .val (.int p5), .val (.int v1), .unset, .unset, .unset, .unset, .unset, .unset, .unset, .unset, .unset, .unset, .unset, .unset, .unset, .unset] [(.int p0)])) t
    refine XS.iconst X0.here hx rfl (hb hby at_6) ?_
    show Steps p.tables e below (s₁.setTop (mkF m 7 #[.val (.int p0), .val (.int p1), .val (.int p2), .val (.int p3), .val (.int p4), .val (.int p5), .val (.int v1), .unset, .unset, .unset, .unset, .unset, .unset, .unset, .unset, .unset, .unset, .unset, .unset, .unset, .unset] [(.int (2 : Int32)), (.int p0)])) t
    refine XS.iushr X0.here hx rfl (hb hby at_7) rfl ?_
    show Steps p.tables e below (s₁.setTop (mkF m 8 #[.val (.int p0), .val (.int p1), .val (.int p2), .val (.int p3), .val (.int p4), .val (.int p5), .val (.int v1), .unset, .unset, .unset, .unset, .unset, .unset, .unset, .unset, .unset, .unset, .unset, .unset, .unset, .unset] [(.int ((p0.toUInt32 >>> ((2 : Int32) &&& 31).toUInt32).toInt32))])) t
    refine X0.ldcInt hx hown (mvT hZ (hw _ (List.mem_of_getElem? (i := 0) rfl))) (g := (mkF m 8 #[.val (.int p0), .val (.int p1), .val (.int p2), .val (.int p3), .val (.int p4), .val (.int p5), .val (.int v1), .unset, .unset, .unset, .unset, .unset, .unset, .unset, .unset, .unset, .unset, .unset, .unset, .unset, .unset] [(.int ((p0.toUInt32 >>> ((2 : Int32) &&& 31).toUInt32).toInt32))])) rfl (hb hby at_8) _ ?_
    show Steps p.tables e below (s₁.setTop (mkF m 10 #[.val (.int p0), .val (.int p1), .val (.int p2), .val (.int p3), .val (.int p4), .val (.int p5), .val (.int v1), .unset, .unset, .unset, .unset, .unset, .unset, .unset, .unset, .unset, .unset, .unset, .unset, .unset, .unset] [(.int (65535 : Int32)), (.int ((p0.toUInt32 >>> ((2 : Int32) &&& 31).toUInt32).toInt32))])) t
    refine XS.iand X0.here hx rfl (hb hby at_10) rfl ?_
    show Steps p.tables e below (s₁.setTop (mkF m 11 #[.val (.int p0), .val (.int p1), .val (.int p2), .val (.int p3), .val (.int p4), .val (.int p5), .val (.int v1), .unset, .unset, .unset, .unset, .unset, .unset, .unset, .unset, .unset, .unset, .unset, .unset, .unset, .unset] [(.int (((p0.toUInt32 >>> ((2 : Int32) &&& 31).toUInt32).toInt32) &&& (65535 : Int32)))])) t
    refine XS.iconst X0.here hx rfl (hb hby at_11) ?_
    show Steps p.tables e below (s₁.setTop (mkF m 12 #[.val (.int p0), .val (.int p1), .val (.int p2), .val (.int p3), .val (.int p4), .val (.int p5), .val (.int v1), .unset, .unset, .unset, .unset, .unset, .unset, .unset, .unset, .unset, .unset, .unset, .unset, .unset, .unset] [(.int (1 : Int32)), (.int (((p0.toUInt32 >>> ((2 : Int32) &&& 31).toUInt32).toInt32) &&& (65535 : Int32)))])) t
    refine XS.iadd X0.here hx rfl (hb hby at_12) rfl ?_
    show Steps p.tables e below (s₁.setTop (mkF m 13 #[.val (.int p0), .val (.int p1), .val (.int p2), .val (.int p3), .val (.int p4), .val (.int p5), .val (.int v1), .unset, .unset, .unset, .unset, .unset, .unset, .unset, .unset, .unset, .unset, .unset, .unset, .unset, .unset] [(.int ((((p0.toUInt32 >>> ((2 : Int32) &&& 31).toUInt32).toInt32) &&& (65535 : Int32)) + (1 : Int32)))])) t
    refine Own.nmI hv2 ?_
    show Steps p.tables e below (s₁.setTop (mkF m 13 #[.val (.int p0), .val (.int p1), .val (.int p2), .val (.int p3), .val (.int p4), .val (.int p5), .val (.int v1), .unset, .unset, .unset, .unset, .unset, .unset, .unset, .unset, .unset, .unset, .unset, .unset, .unset, .unset] [(.int v2)])) t
    refine XS.istore X0.here hx rfl (hb hby at_13) rfl (l' := #[.val (.int p0), .val (.int p1), .val (.int p2), .val (.int p3), .val (.int p4), .val (.int p5), .val (.int v1), .val (.int v2), .unset, .unset, .unset, .unset, .unset, .unset, .unset, .unset, .unset, .unset, .unset, .unset, .unset]) rfl ?_
    show Steps p.tables e below (s₁.setTop (mkF m 15 #[.val (.int p0), .val (.int p1), .val (.int p2), .val (.int p3), .val (.int p4), .val (.int p5), .val (.int v1), .val (.int v2), .unset, .unset, .unset, .unset, .unset, .unset, .unset, .unset, .unset, .unset, .unset, .unset, .unset] [])) t
    refine XS.iloadN X0.here hx rfl (hb hby at_15) rfl ?_
    show Steps p.tables e below (s₁.setTop (mkF m 16 #[.val (.int p0), .val (.int p1), .val (.int p2), .val (.int p3), .val (.int p4), .val (.int p5), .val (.int v1), .val (.int v2), .unset, .unset, .unset, .unset, .unset, .unset, .unset, .unset, .unset, .unset, .unset, .unset, .unset] [(.int p1)])) t
    refine st3 _ ?_
    show Steps p.tables e below (T3.setTop (mkF m 19 #[.val (.int p0), .val (.int p1), .val (.int p2), .val (.int p3), .val (.int p4), .val (.int p5), .val (.int v1), .val (.int v2), .unset, .unset, .unset, .unset, .unset, .unset, .unset, .unset, .unset, .unset, .unset, .unset, .unset] [(.int (own_max 1 (p1 &&& 2147483647)))])) t
    refine Own.nmI hv4 ?_
    show Steps p.tables e below (T3.setTop (mkF m 19 #[.val (.int p0), .val (.int p1), .val (.int p2), .val (.int p3), .val (.int p4), .val (.int p5), .val (.int v1), .val (.int v2), .unset, .unset, .unset, .unset, .unset, .unset, .unset, .unset, .unset, .unset, .unset, .unset, .unset] [(.int v4)])) t
    refine XS.istore X3.here hx rfl (hb hby at_19) rfl (l' := #[.val (.int p0), .val (.int p1), .val (.int p2), .val (.int p3), .val (.int p4), .val (.int p5), .val (.int v1), .val (.int v2), .val (.int v4), .unset, .unset, .unset, .unset, .unset, .unset, .unset, .unset, .unset, .unset, .unset, .unset]) rfl ?_
    show Steps p.tables e below (T3.setTop (mkF m 21 #[.val (.int p0), .val (.int p1), .val (.int p2), .val (.int p3), .val (.int p4), .val (.int p5), .val (.int v1), .val (.int v2), .val (.int v4), .unset, .unset, .unset, .unset, .unset, .unset, .unset, .unset, .unset, .unset, .unset, .unset] [])) t
    refine XS.iloadN X3.here hx rfl (hb hby at_21) rfl ?_
    show Steps p.tables e below (T3.setTop (mkF m 22 #[.val (.int p0), .val (.int p1), .val (.int p2), .val (.int p3), .val (.int p4), .val (.int p5), .val (.int v1), .val (.int v2), .val (.int v4), .unset, .unset, .unset, .unset, .unset, .unset, .unset, .unset, .unset, .unset, .unset, .unset] [(.int p2)])) t
    refine st5 _ ?_
    show Steps p.tables e below (T5.setTop (mkF m 25 #[.val (.int p0), .val (.int p1), .val (.int p2), .val (.int p3), .val (.int p4), .val (.int p5), .val (.int v1), .val (.int v2), .val (.int v4), .unset, .unset, .unset, .unset, .unset, .unset, .unset, .unset, .unset, .unset, .unset, .unset] [(.int (own_max 1 (p2 &&& 2147483647)))])) t
    refine Own.nmI hv6 ?_
    show Steps p.tables e below (T5.setTop (mkF m 25 #[.val (.int p0), .val (.int p1), .val (.int p2), .val (.int p3), .val (.int p4), .val (.int p5), .val (.int v1), .val (.int v2), .val (.int v4), .unset, .unset, .unset, .unset, .unset, .unset, .unset, .unset, .unset, .unset, .unset, .unset] [(.int v6)])) t
    refine XS.istore X5.here hx rfl (hb hby at_25) rfl (l' := #[.val (.int p0), .val (.int p1), .val (.int p2), .val (.int p3), .val (.int p4), .val (.int p5), .val (.int v1), .val (.int v2), .val (.int v4), .val (.int v6), .unset, .unset, .unset, .unset, .unset, .unset, .unset, .unset, .unset, .unset, .unset]) rfl ?_
    show Steps p.tables e below (T5.setTop (mkF m 27 #[.val (.int p0), .val (.int p1), .val (.int p2), .val (.int p3), .val (.int p4), .val (.int p5), .val (.int v1), .val (.int v2), .val (.int v4), .val (.int v6), .unset, .unset, .unset, .unset, .unset, .unset, .unset, .unset, .unset, .unset, .unset] [])) t
    refine XS.iloadN X5.here hx rfl (hb hby at_27) rfl ?_
    show Steps p.tables e below (T5.setTop (mkF m 28 #[.val (.int p0), .val (.int p1), .val (.int p2), .val (.int p3), .val (.int p4), .val (.int p5), .val (.int v1), .val (.int v2), .val (.int v4), .val (.int v6), .unset, .unset, .unset, .unset, .unset, .unset, .unset, .unset, .unset, .unset, .unset] [(.int p3)])) t
    refine XS.iload X5.here hx rfl (hb hby at_28) rfl ?_
    show Steps p.tables e below (T5.setTop (mkF m 30 #[.val (.int p0), .val (.int p1), .val (.int p2), .val (.int p3), .val (.int p4), .val (.int p5), .val (.int v1), .val (.int v2), .val (.int v4), .val (.int v6), .unset, .unset, .unset, .unset, .unset, .unset, .unset, .unset, .unset, .unset, .unset] [(.int v2), (.int p3)])) t
    refine st7 _ ?_
    show Steps p.tables e below (T7.setTop (mkF m 33 #[.val (.int p0), .val (.int p1), .val (.int p2), .val (.int p3), .val (.int p4), .val (.int p5), .val (.int v1), .val (.int v2), .val (.int v4), .val (.int v6), .unset, .unset, .unset, .unset, .unset, .unset, .unset, .unset, .unset, .unset, .unset] [(.int ((p3 &&& 2147483647) % v2))])) t
    refine Own.nmI hv8 ?_
    show Steps p.tables e below (T7.setTop (mkF m 33 #[.val (.int p0), .val (.int p1), .val (.int p2), .val (.int p3), .val (.int p4), .val (.int p5), .val (.int v1), .val (.int v2), .val (.int v4), .val (.int v6), .unset, .unset, .unset, .unset, .unset, .unset, .unset, .unset, .unset, .unset, .unset] [(.int v8)])) t
    refine XS.istore X7.here hx rfl (hb hby at_33) rfl (l' := #[.val (.int p0), .val (.int p1), .val (.int p2), .val (.int p3), .val (.int p4), .val (.int p5), .val (.int v1), .val (.int v2), .val (.int v4), .val (.int v6), .val (.int v8), .unset, .unset, .unset, .unset, .unset, .unset, .unset, .unset, .unset, .unset]) rfl ?_
    show Steps p.tables e below (T7.setTop (mkF m 35 #[.val (.int p0), .val (.int p1), .val (.int p2), .val (.int p3), .val (.int p4), .val (.int p5), .val (.int v1), .val (.int v2), .val (.int v4), .val (.int v6), .val (.int v8), .unset, .unset, .unset, .unset, .unset, .unset, .unset, .unset, .unset, .unset] [])) t
    refine XS.iload X7.here hx rfl (hb hby at_35) rfl ?_
    show Steps p.tables e below (T7.setTop (mkF m 37 #[.val (.int p0), .val (.int p1), .val (.int p2), .val (.int p3), .val (.int p4), .val (.int p5), .val (.int v1), .val (.int v2), .val (.int v4), .val (.int v6), .val (.int v8), .unset, .unset, .unset, .unset, .unset, .unset, .unset, .unset, .unset, .unset] [(.int p4)])) t
    refine XS.iload X7.here hx rfl (hb hby at_37) rfl ?_
    show Steps p.tables e below (T7.setTop (mkF m 39 #[.val (.int p0), .val (.int p1), .val (.int p2), .val (.int p3), .val (.int p4), .val (.int p5), .val (.int v1), .val (.int v2), .val (.int v4), .val (.int v6), .val (.int v8), .unset, .unset, .unset, .unset, .unset, .unset, .unset, .unset, .unset, .unset] [(.int v4), (.int p4)])) t
    refine st9 _ ?_
    show Steps p.tables e below (T9.setTop (mkF m 42 #[.val (.int p0), .val (.int p1), .val (.int p2), .val (.int p3), .val (.int p4), .val (.int p5), .val (.int v1), .val (.int v2), .val (.int v4), .val (.int v6), .val (.int v8), .unset, .unset, .unset, .unset, .unset, .unset, .unset, .unset, .unset, .unset] [(.int ((p4 &&& 2147483647) % v4))])) t
    refine Own.nmI hv10 ?_
    show Steps p.tables e below (T9.setTop (mkF m 42 #[.val (.int p0), .val (.int p1), .val (.int p2), .val (.int p3), .val (.int p4), .val (.int p5), .val (.int v1), .val (.int v2), .val (.int v4), .val (.int v6), .val (.int v8), .unset, .unset, .unset, .unset, .unset, .unset, .unset, .unset, .unset, .unset] [(.int v10)])) t
    refine XS.istore X9.here hx rfl (hb hby at_42) rfl (l' := #[.val (.int p0), .val (.int p1), .val (.int p2), .val (.int p3), .val (.int p4), .val (.int p5), .val (.int v1), .val (.int v2), .val (.int v4), .val (.int v6), .val (.int v8), .val (.int v10), .unset, .unset, .unset, .unset, .unset, .unset, .unset, .unset, .unset]) rfl ?_
    show Steps p.tables e below (T9.setTop (mkF m 44 #[.val (.int p0), .val (.int p1), .val (.int p2), .val (.int p3), .val (.int p4), .val (.int p5), .val (.int v1), .val (.int v2), .val (.int v4), .val (.int v6), .val (.int v8), .val (.int v10), .unset, .unset, .unset, .unset, .unset, .unset, .unset, .unset, .unset] [])) t
    refine XS.iload X9.here hx rfl (hb hby at_44) rfl ?_
    show Steps p.tables e below (T9.setTop (mkF m 46 #[.val (.int p0), .val (.int p1), .val (.int p2), .val (.int p3), .val (.int p4), .val (.int p5), .val (.int v1), .val (.int v2), .val (.int v4), .val (.int v6), .val (.int v8), .val (.int v10), .unset, .unset, .unset, .unset, .unset, .unset, .unset, .unset, .unset] [(.int p5)])) t
    refine XS.iload X9.here hx rfl (hb hby at_46) rfl ?_
    show Steps p.tables e below (T9.setTop (mkF m 48 #[.val (.int p0), .val (.int p1), .val (.int p2), .val (.int p3), .val (.int p4), .val (.int p5), .val (.int v1), .val (.int v2), .val (.int v4), .val (.int v6), .val (.int v8), .val (.int v10), .unset, .unset, .unset, .unset, .unset, .unset, .unset, .unset, .unset] [(.int v6), (.int p5)])) t
    refine st11 _ ?_
    show Steps p.tables e below (T11.setTop (mkF m 51 #[.val (.int p0), .val (.int p1), .val (.int p2), .val (.int p3), .val (.int p4), .val (.int p5), .val (.int v1), .val (.int v2), .val (.int v4), .val (.int v6), .val (.int v8), .val (.int v10), .unset, .unset, .unset, .unset, .unset, .unset, .unset, .unset, .unset] [(.int ((p5 &&& 2147483647) % v6))])) t
    refine Own.nmI hv12 ?_
    show Steps p.tables e below (T11.setTop (mkF m 51 #[.val (.int p0), .val (.int p1), .val (.int p2), .val (.int p3), .val (.int p4), .val (.int p5), .val (.int v1), .val (.int v2), .val (.int v4), .val (.int v6), .val (.int v8), .val (.int v10), .unset, .unset, .unset, .unset, .unset, .unset, .unset, .unset, .unset] [(.int v12)])) t
    refine XS.istore X11.here hx rfl (hb hby at_51) rfl (l' := #[.val (.int p0), .val (.int p1), .val (.int p2), .val (.int p3), .val (.int p4), .val (.int p5), .val (.int v1), .val (.int v2), .val (.int v4), .val (.int v6), .val (.int v8), .val (.int v10), .val (.int v12), .unset, .unset, .unset, .unset, .unset, .unset, .unset, .unset]) rfl ?_
    show Steps p.tables e below (T11.setTop (mkF m 53 #[.val (.int p0), .val (.int p1), .val (.int p2), .val (.int p3), .val (.int p4), .val (.int p5), .val (.int v1), .val (.int v2), .val (.int v4), .val (.int v6), .val (.int v8), .val (.int v10), .val (.int v12), .unset, .unset, .unset, .unset, .unset, .unset, .unset, .unset] [])) t
    refine XS.iload X11.here hx rfl (hb hby at_53) rfl ?_
    show Steps p.tables e below (T11.setTop (mkF m 55 #[.val (.int p0), .val (.int p1), .val (.int p2), .val (.int p3), .val (.int p4), .val (.int p5), .val (.int v1), .val (.int v2), .val (.int v4), .val (.int v6), .val (.int v8), .val (.int v10), .val (.int v12), .unset, .unset, .unset, .unset, .unset, .unset, .unset, .unset] [(.int v1)])) t
    exact k
  by_cases hc13 : v1 = (0 : Int32)
  · obtain ⟨T14, h14, k14, X14, e14, E14, A14, st14⟩ := newP X11 hx hZ (hw _ (List.mem_of_getElem? (i := 13) rfl)) e11 (g := (mkF m 59 #[.val (.int p0), .val (.int p1), .val (.int p2), .val (.int p3), .val (.int p4), .val (.int p5), .val (.int v1), .val (.int v2), .val (.int v4), .val (.int v6), .val (.int v8), .val (.int v10), .val (.int v12), .unset, .unset, .unset, .unset, .unset, .unset, .unset, .unset] [(.int (0 : Int32))])) rfl (hb hby at_59) rfl (by decide) (cap := 0) (by decide) (by decide) (by decide) (by decide)
    obtain ⟨b14, g_b14⟩ : ∃ z : Nat, z = h0.size := ⟨_, rfl⟩
    rw [← g_b14] at A14 st14
    have g0_b14 : n0 ≤ b14 := by rw [g_b14]; exact Z0
    have f15 : Own.AvI Z h14 b14 .int 0 (fun _ => 0) := Own.AvI.new A14 (by decide) rfl
    have Z14 : n0 ≤ h14.size := Nat.le_trans Z0 E14.1
    obtain ⟨T16, h16, k16, X16, e16, E16, A16, st16⟩ := newP X14 hx hZ (hw _ (List.mem_of_getElem? (i := 13) rfl)) e14 (g := (mkF m 64 #[.val (.int p0), .val (.int p1), .val (.int p2), .val (.int p3), .val (.int p4), .val (.int p5), .val (.int v1), .val (.int v2), .val (.int v4), .val (.int v6), .val (.int v8), .val (.int v10), .val (.int v12), .val (.ref b14), .unset, .unset, .unset, .unset, .unset, .unset, .unset] [(.int (0 : Int32))])) rfl (hb hby at_64) rfl (by decide) (cap := 0) (by decide) (by decide) (by decide) (by decide)
    obtain ⟨b16, g_b16⟩ : ∃ z : Nat, z = h14.size := ⟨_, rfl⟩
    rw [← g_b16] at A16 st16
    have lt_b14_b16 : (b14 : Nat) < b16 := by rw [g_b16]; exact f15.lt
    have g0_b16 : n0 ≤ b16 := by rw [g_b16]; exact Z14
    have f17 : Own.AvI Z h16 b14 .int 0 (fun _ => 0) := f15.ext E16
    have f18 : Own.AvI Z h16 b16 .int 0 (fun _ => 0) := Own.AvI.new A16 (by decide) rfl
    have Z16 : n0 ≤ h16.size := Nat.le_trans Z14 E16.1
    obtain ⟨T19, _, L19, X19, ⟨rfl, Nq19, e19⟩, st19⟩ := Own.callS (y := (⟨"com/example/ballast/ballast/model/CostTable", "key", "([I[I)J"⟩ : MethodName)) (W := 0) (argsL := [(.ref b14), (.ref b16)]) (rest := []) X16 hx hZ hown (hw _ (List.mem_of_getElem? (i := 14) rfl)) (hw _ (List.mem_of_getElem? (i := 15) rfl)) (hw _ (List.mem_of_getElem? (i := 16) rfl)) (hw _ (List.mem_of_getElem? (i := 17) rfl)) (by decide) e16 (rm10 l Z a0 hw [] b14 b16 (fun _ => 0) (fun _ => 0) h16 n0 f17 f18) (by decide) (by decide) (by decide) (by decide) (g := (mkF m 236 #[.val (.int p0), .val (.int p1), .val (.int p2), .val (.int p3), .val (.int p4), .val (.int p5), .val (.int v1), .val (.int v2), .val (.int v4), .val (.int v6), .val (.int v8), .val (.int v10), .val (.int v12), .val (.ref b14), .val (.ref b16), .val (.long (0 : Int64)), .second, .unset, .unset, .unset, .unset] [(.ref b16), (.ref b14)])) rfl (by rw [hml]; rfl) (lenOf pd_2 rfl) rfl (by show 2 * 0 + _ ≤ _; exact Nat.le_of_eq rfl) (hb hby at_236)
    have N19 := Fr.app N11 Nq19
    obtain ⟨v20, hv20⟩ : ∃ z : Int64, z = (own_key 0 (fun _ => 0) (fun _ => 0)) := ⟨_, rfl⟩
    refine hD _ (T19.setTop (mkF m 246 #[.val (.int p0), .val (.int p1), .val (.int p2), .val (.int p3), .val (.int p4), .val (.int p5), .val (.int v1), .val (.int v2), .val (.int v4), .val (.int v6), .val (.int v8), .val (.int v10), .val (.int v12), .val (.ref b14), .val (.ref b16), .val (.long (0 : Int64)), .second, .val (.long v20), .second, .unset, .unset] [(.int (lcmpW v20 (0 : Int64)))])) (fun t k => ?_) ?_
    · show Steps p.tables e below (T11.setTop (mkF m 55 #[.val (.int p0), .val (.int p1), .val (.int p2), .val (.int p3), .val (.int p4), .val (.int p5), .val (.int v1), .val (.int v2), .val (.int v4), .val (.int v6), .val (.int v8), .val (.int v10), .val (.int v12), .unset, .unset, .unset, .unset, .unset, .unset, .unset, .unset] [(.int v1)])) t
      refine XS.ifNo X11.here hx rfl (hb hby at_55) rfl ((if0 _ _).trans (teq hc13).2) ?_
      show Steps p.tables e below (T11.setTop (mkF m 58 #[.val (.int p0), .val (.int p1), .val (.int p2), .val (.int p3), .val (.int p4), .val (.int p5), .val (.int v1), .val (.int v2), .val (.int v4), .val (.int v6), .val (.int v8), .val (.int v10), .val (.int v12), .unset, .unset, .unset, .unset, .unset, .unset, .unset, .unset] [])) t
      refine XS.iconst X11.here hx rfl (hb hby at_58) ?_
      show Steps p.tables e below (T11.setTop (mkF m 59 #[.val (.int p0), .val (.int p1), .val (.int p2), .val (.int p3), .val (.int p4), .val (.int p5), .val (.int v1), .val (.int v2), .val (.int v4), .val (.int v6), .val (.int v8), .val (.int v10), .val (.int v12), .unset, .unset, .unset, .unset, .unset, .unset, .unset, .unset] [(.int (0 : Int32))])) t
      refine st14 _ ?_
      show Steps p.tables e below (T14.setTop (mkF m 61 #[.val (.int p0), .val (.int p1), .val (.int p2), .val (.int p3), .val (.int p4), .val (.int p5), .val (.int v1), .val (.int v2), .val (.int v4), .val (.int v6), .val (.int v8), .val (.int v10), .val (.int v12), .unset, .unset, .unset, .unset, .unset, .unset, .unset, .unset] [(.ref b14)])) t
      refine XS.astore X14.here hx rfl (hb hby at_61) rfl rfl (l' := #[.val (.int p0), .val (.int p1), .val (.int p2), .val (.int p3), .val (.int p4), .val (.int p5), .val (.int v1), .val (.int v2), .val (.int v4), .val (.int v6), .val (.int v8), .val (.int v10), .val (.int v12), .val (.ref b14), .unset, .unset, .unset, .unset, .unset, .unset, .unset]) rfl ?_
      show Steps p.tables e below (T14.setTop (mkF m 63 #[.val (.int p0), .val (.int p1), .val (.int p2), .val (.int p3), .val (.int p4), .val (.int p5), .val (.int v1), .val (.int v2), .val (.int v4), .val (.int v6), .val (.int v8), .val (.int v10), .val (.int v12), .val (.ref b14), .unset, .unset, .unset, .unset, .unset, .unset, .unset] [])) t
      refine XS.iconst X14.here hx rfl (hb hby at_63) ?_
      show Steps p.tables e below (T14.setTop (mkF m 64 #[.val (.int p0), .val (.int p1), .val (.int p2), .val (.int p3), .val (.int p4), .val (.int p5), .val (.int v1), .val (.int v2), .val (.int v4), .val (.int v6), .val (.int v8), .val (.int v10), .val (.int v12), .val (.ref b14), .unset, .unset, .unset, .unset, .unset, .unset, .unset] [(.int (0 : Int32))])) t
      refine st16 _ ?_
      show Steps p.tables e below (T16.setTop (mkF m 66 #[.val (.int p0), .val (.int p1), .val (.int p2), .val (.int p3), .val (.int p4), .val (.int p5), .val (.int v1), .val (.int v2), .val (.int v4), .val (.int v6), .val (.int v8), .val (.int v10), .val (.int v12), .val (.ref b14), .unset, .unset, .unset, .unset, .unset, .unset, .unset] [(.ref b16)])) t
      refine XS.astore X16.here hx rfl (hb hby at_66) rfl rfl (l' := #[.val (.int p0), .val (.int p1), .val (.int p2), .val (.int p3), .val (.int p4), .val (.int p5), .val (.int v1), .val (.int v2), .val (.int v4), .val (.int v6), .val (.int v8), .val (.int v10), .val (.int v12), .val (.ref b14), .val (.ref b16), .unset, .unset, .unset, .unset, .unset, .unset]) rfl ?_
      show Steps p.tables e below (T16.setTop (mkF m 68 #[.val (.int p0), .val (.int p1), .val (.int p2), .val (.int p3), .val (.int p4), .val (.int p5), .val (.int v1), .val (.int v2), .val (.int v4), .val (.int v6), .val (.int v8), .val (.int v10), .val (.int v12), .val (.ref b14), .val (.ref b16), .unset, .unset, .unset, .unset, .unset, .unset] [])) t
      refine XS.lconst X16.here hx rfl (hb hby at_68) ?_
      show Steps p.tables e below (T16.setTop (mkF m 69 #[.val (.int p0), .val (.int p1), .val (.int p2), .val (.int p3), .val (.int p4), .val (.int p5), .val (.int v1), .val (.int v2), .val (.int v4), .val (.int v6), .val (.int v8), .val (.int v10), .val (.int v12), .val (.ref b14), .val (.ref b16), .unset, .unset, .unset, .unset, .unset, .unset] [(.long (0 : Int64))])) t
      refine XS.lstore X16.here hx rfl (hb hby at_69) rfl (l' := #[.val (.int p0), .val (.int p1), .val (.int p2), .val (.int p3), .val (.int p4), .val (.int p5), .val (.int v1), .val (.int v2), .val (.int v4), .val (.int v6), .val (.int v8), .val (.int v10), .val (.int v12), .val (.ref b14), .val (.ref b16), .val (.long (0 : Int64)), .second, .unset, .unset, .unset, .unset]) rfl ?_
      show Steps p.tables e below (T16.setTop (mkF m 71 #[.val (.int p0), .val (.int p1), .val (.int p2), .val (.int p3), .val (.int p4), .val (.int p5), .val (.int v1), .val (.int v2), .val (.int v4), .val (.int v6), .val (.int v8), .val (.int v10), .val (.int v12), .val (.ref b14), .val (.ref b16), .val (.long (0 : Int64)), .second, .unset, .unset, .unset, .unset] [])) t
      refine XS.goto X16.here hx rfl (pc0 := 71) (pc' := 232) rfl (hb hby at_71) (by decide) (by decide) ?_
      show Steps p.tables e below (T16.setTop (mkF m 232 #[.val (.int p0), .val (.int p1), .val (.int p2), .val (.int p3), .val (.int p4), .val (.int p5), .val (.int v1), .val (.int v2), .val (.int v4), .val (.int v6), .val (.int v8), .val (.int v10), .val (.int v12), .val (.ref b14), .val (.ref b16), .val (.long (0 : Int64)), .second, .unset, .unset, .unset, .unset] [])) t
      refine XS.aload X16.here hx rfl (hb hby at_232) rfl rfl ?_
      show Steps p.tables e below (T16.setTop (mkF m 234 #[.val (.int p0), .val (.int p1), .val (.int p2), .val (.int p3), .val (.int p4), .val (.int p5), .val (.int v1), .val (.int v2), .val (.int v4), .val (.int v6), .val (.int v8), .val (.int v10), .val (.int v12), .val (.ref b14), .val (.ref b16), .val (.long (0 : Int64)), .second, .unset, .unset, .unset, .unset] [(.ref b14)])) t
      refine XS.aload X16.here hx rfl (hb hby at_234) rfl rfl ?_
      show Steps p.tables e below (T16.setTop (mkF m 236 #[.val (.int p0), .val (.int p1), .val (.int p2), .val (.int p3), .val (.int p4), .val (.int p5), .val (.int v1), .val (.int v2), .val (.int v4), .val (.int v6), .val (.int v8), .val (.int v10), .val (.int v12), .val (.ref b14), .val (.ref b16), .val (.long (0 : Int64)), .second, .unset, .unset, .unset, .unset] [(.ref b16), (.ref b14)])) t
      refine st19 _ ?_
      show Steps p.tables e below (T19.setTop (mkF m 239 #[.val (.int p0), .val (.int p1), .val (.int p2), .val (.int p3), .val (.int p4), .val (.int p5), .val (.int v1), .val (.int v2), .val (.int v4), .val (.int v6), .val (.int v8), .val (.int v10), .val (.int v12), .val (.ref b14), .val (.ref b16), .val (.long (0 : Int64)), .second, .unset, .unset, .unset, .unset] [(.long (own_key 0 (fun _ => 0) (fun _ => 0)))])) t
      refine Own.nmJ hv20 ?_
      show Steps p.tables e below (T19.setTop (mkF m 239 #[.val (.int p0), .val (.int p1), .val (.int p2), .val (.int p3), .val (.int p4), .val (.int p5), .val (.int v1), .val (.int v2), .val (.int v4), .val (.int v6), .val (.int v8), .val (.int v10), .val (.int v12), .val (.ref b14), .val (.ref b16), .val (.long (0 : Int64)), .second, .unset, .unset, .unset, .unset] [(.long v20)])) t
      refine XS.lstore X19.here hx rfl (hb hby at_239) rfl (l' := #[.val (.int p0), .val (.int p1), .val (.int p2), .val (.int p3), .val (.int p4), .val (.int p5), .val (.int v1), .val (.int v2), .val (.int v4), .val (.int v6), .val (.int v8), .val (.int v10), .val (.int v12), .val (.ref b14), .val (.ref b16), .val (.long (0 : Int64)), .second, .val (.long v20), .second, .unset, .unset]) rfl ?_
      show Steps p.tables e below (T19.setTop (mkF m 241 #[.val (.int p0), .val (.int p1), .val (.int p2), .val (.int p3), .val (.int p4), .val (.int p5), .val (.int v1), .val (.int v2), .val (.int v4), .val (.int v6), .val (.int v8), .val (.int v10), .val (.int v12), .val (.ref b14), .val (.ref b16), .val (.long (0 : Int64)), .second, .val (.long v20), .second, .unset, .unset] [])) t
      refine XS.lload X19.here hx rfl (hb hby at_241) rfl ?_
      show Steps p.tables e below (T19.setTop (mkF m 243 #[.val (.int p0), .val (.int p1), .val (.int p2), .val (.int p3), .val (.int p4), .val (.int p5), .val (.int v1), .val (.int v2), .val (.int v4), .val (.int v6), .val (.int v8), .val (.int v10), .val (.int v12), .val (.ref b14), .val (.ref b16), .val (.long (0 : Int64)), .second, .val (.long v20), .second, .unset, .unset] [(.long v20)])) t
      refine XS.lload X19.here hx rfl (hb hby at_243) rfl ?_
      show Steps p.tables e below (T19.setTop (mkF m 245 #[.val (.int p0), .val (.int p1), .val (.int p2), .val (.int p3), .val (.int p4), .val (.int p5), .val (.int v1), .val (.int v2), .val (.int v4), .val (.int v6), .val (.int v8), .val (.int v10), .val (.int v12), .val (.ref b14), .val (.ref b16), .val (.long (0 : Int64)), .second, .val (.long v20), .second, .unset, .unset] [(.long (0 : Int64)), (.long v20)])) t
      refine XS.lcmp X19.here hx rfl (hb hby at_245) rfl ?_
      show Steps p.tables e below (T19.setTop (mkF m 246 #[.val (.int p0), .val (.int p1), .val (.int p2), .val (.int p3), .val (.int p4), .val (.int p5), .val (.int v1), .val (.int v2), .val (.int v4), .val (.int v6), .val (.int v8), .val (.int v10), .val (.int v12), .val (.ref b14), .val (.ref b16), .val (.long (0 : Int64)), .second, .val (.long v20), .second, .unset, .unset] [(.int (lcmpW v20 (0 : Int64)))])) t
      exact k
    have hc21 : v20 = (0 : Int64) := by
      rw [hv20]
      simp [own_key, Int64.add_mul]
    refine hD _ (T19.setTop (mkF m 254 #[.val (.int p0), .val (.int p1), .val (.int p2), .val (.int p3), .val (.int p4), .val (.int p5), .val (.int v1), .val (.int v2), .val (.int v4), .val (.int v6), .val (.int v8), .val (.int v10), .val (.int v12), .val (.ref b14), .val (.ref b16), .val (.long (0 : Int64)), .second, .val (.long v20), .second, .unset, .unset] [(.int (1 : Int32))])) (fun t k => ?_) ?_
    · show Steps p.tables e below (T19.setTop (mkF m 246 #[.val (.int p0), .val (.int p1), .val (.int p2), .val (.int p3), .val (.int p4), .val (.int p5), .val (.int v1), .val (.int v2), .val (.int v4), .val (.int v6), .val (.int v8), .val (.int v10), .val (.int v12), .val (.ref b14), .val (.ref b16), .val (.long (0 : Int64)), .second, .val (.long v20), .second, .unset, .unset] [(.int (lcmpW v20 (0 : Int64)))])) t
      refine XS.ifNo X19.here hx rfl (hb hby at_246) rfl ((if0 _ _).trans (teq ((lw_eq v20 (0 : Int64)).mpr hc21)).2) ?_
      show Steps p.tables e below (T19.setTop (mkF m 249 #[.val (.int p0), .val (.int p1), .val (.int p2), .val (.int p3), .val (.int p4), .val (.int p5), .val (.int v1), .val (.int v2), .val (.int v4), .val (.int v6), .val (.int v8), .val (.int v10), .val (.int v12), .val (.ref b14), .val (.ref b16), .val (.long (0 : Int64)), .second, .val (.long v20), .second, .unset, .unset] [])) t
      refine XS.iconst X19.here hx rfl (hb hby at_249) ?_
      show Steps p.tables e below (T19.setTop (mkF m 250 #[.val (.int p0), .val (.int p1), .val (.int p2), .val (.int p3), .val (.int p4), .val (.int p5), .val (.int v1), .val (.int v2), .val (.int v4), .val (.int v6), .val (.int v8), .val (.int v10), .val (.int v12), .val (.ref b14), .val (.ref b16), .val (.long (0 : Int64)), .second, .val (.long v20), .second, .unset, .unset] [(.int (1 : Int32))])) t
      refine XS.goto X19.here hx rfl (pc0 := 250) (pc' := 254) rfl (hb hby at_250) (by decide) (by decide) ?_
      show Steps p.tables e below (T19.setTop (mkF m 254 #[.val (.int p0), .val (.int p1), .val (.int p2), .val (.int p3), .val (.int p4), .val (.int p5), .val (.int v1), .val (.int v2), .val (.int v4), .val (.int v6), .val (.int v8), .val (.int v10), .val (.int v12), .val (.ref b14), .val (.ref b16), .val (.long (0 : Int64)), .second, .val (.long v20), .second, .unset, .unset] [(.int (1 : Int32))])) t
      exact k
    exact Own.retN hR X19 hx (t := .boolean) hret (by simp) (hb hby at_254) (by decide) (by decide) (by decide) ⟨rfl, N19⟩
  · refine hD _ (T11.setTop (mkF m 77 #[.val (.int p0), .val (.int p1), .val (.int p2), .val (.int p3), .val (.int p4), .val (.int p5), .val (.int v1), .val (.int v2), .val (.int v4), .val (.int v6), .val (.int v8), .val (.int v10), .val (.int v12), .unset, .unset, .unset, .unset, .unset, .unset, .unset, .unset] [(.int (1 : Int32)), (.int v1)])) (fun t k => ?_) ?_
    · show Steps p.tables e below (T11.setTop (mkF m 55 #[.val (.int p0), .val (.int p1), .val (.int p2), .val (.int p3), .val (.int p4), .val (.int p5), .val (.int v1), .val (.int v2), .val (.int v4), .val (.int v6), .val (.int v8), .val (.int v10), .val (.int v12), .unset, .unset, .unset, .unset, .unset, .unset, .unset, .unset] [(.int v1)])) t
      refine XS.ifYes X11.here hx rfl (pc0 := 55) (pc' := 74) rfl (hb hby at_55) rfl ((if0 _ _).trans (feq hc13).2) (by decide) (by decide) ?_
      show Steps p.tables e below (T11.setTop (mkF m 74 #[.val (.int p0), .val (.int p1), .val (.int p2), .val (.int p3), .val (.int p4), .val (.int p5), .val (.int v1), .val (.int v2), .val (.int v4), .val (.int v6), .val (.int v8), .val (.int v10), .val (.int v12), .unset, .unset, .unset, .unset, .unset, .unset, .unset, .unset] [])) t
      refine XS.iload X11.here hx rfl (hb hby at_74) rfl ?_
      show Steps p.tables e below (T11.setTop (mkF m 76 #[.val (.int p0), .val (.int p1), .val (.int p2), .val (.int p3), .val (.int p4), .val (.int p5), .val (.int v1), .val (.int v2), .val (.int v4), .val (.int v6), .val (.int v8), .val (.int v10), .val (.int v12), .unset, .unset, .unset, .unset, .unset, .unset, .unset, .unset] [(.int v1)])) t
      refine XS.iconst X11.here hx rfl (hb hby at_76) ?_
      show Steps p.tables e below (T11.setTop (mkF m 77 #[.val (.int p0), .val (.int p1), .val (.int p2), .val (.int p3), .val (.int p4), .val (.int p5), .val (.int v1), .val (.int v2), .val (.int v4), .val (.int v6), .val (.int v8), .val (.int v10), .val (.int v12), .unset, .unset, .unset, .unset, .unset, .unset, .unset, .unset] [(.int (1 : Int32)), (.int v1)])) t
      exact k
    by_cases hc22 : v1 = (1 : Int32)
    · obtain ⟨T23, h23, k23, X23, e23, E23, A23, st23⟩ := newP X11 hx hZ (hw _ (List.mem_of_getElem? (i := 13) rfl)) e11 (g := (mkF m 81 #[.val (.int p0), .val (.int p1), .val (.int p2), .val (.int p3), .val (.int p4), .val (.int p5), .val (.int v1), .val (.int v2), .val (.int v4), .val (.int v6), .val (.int v8), .val (.int v10), .val (.int v12), .unset, .unset, .unset, .unset, .unset, .unset, .unset, .unset] [(.int (1 : Int32))])) rfl (hb hby at_81) rfl (by decide) (cap := 1) (by decide) (by decide) (by decide) (by decide)
      obtain ⟨b23, g_b23⟩ : ∃ z : Nat, z = h0.size := ⟨_, rfl⟩
      rw [← g_b23] at A23 st23
      have g0_b23 : n0 ≤ b23 := by rw [g_b23]; exact Z0
      have f24 : Own.AvI Z h23 b23 .int 1 (fun _ => 0) := Own.AvI.new A23 (by decide) rfl
      have Z23 : n0 ≤ h23.size := Nat.le_trans Z0 E23.1
      have hj25 : 0 ≤ (0 : Int32).toInt ∧ (0 : Int32).toInt < (1 : Nat) := ⟨by decide, by decide⟩
      obtain ⟨T26, h26, X26, e26, A26, W26, st26⟩ := Own.stoI X23 hx hZ e23 f24 hj25 (g := (mkF m 87 #[.val (.int p0), .val (.int p1), .val (.int p2), .val (.int p3), .val (.int p4), .val (.int p5), .val (.int v1), .val (.int v2), .val (.int v4), .val (.int v6), .val (.int v8), .val (.int v10), .val (.int v12), .unset, .unset, .unset, .unset, .unset, .unset, .unset, .unset] [(.int v2), (.int (0 : Int32)), (.ref b23), (.ref b23)])) rfl rfl (hb hby at_87)
      have N26 := Fr.snoc X26 N11 (show n0 ≤ b23 by omega)
      have Z26 : n0 ≤ h26.size := Nat.le_trans Z23 (Keep.of_wr W26).1
      obtain ⟨T27, h27, k27, X27, e27, E27, A27, st27⟩ := newP X26 hx hZ (hw _ (List.mem_of_getElem? (i := 13) rfl)) e26 (g := (mkF m 91 #[.val (.int p0), .val (.int p1), .val (.int p2), .val (.int p3), .val (.int p4), .val (.int p5), .val (.int v1), .val (.int v2), .val (.int v4), .val (.int v6), .val (.int v8), .val (.int v10), .val (.int v12), .val (.ref b23), .unset, .unset, .unset, .unset, .unset, .unset, .unset] [(.int (1 : Int32))])) rfl (hb hby at_91) rfl (by decide) (cap := 1) (by decide) (by decide) (by decide) (by decide)
      obtain ⟨b27, g_b27⟩ : ∃ z : Nat, z = h26.size := ⟨_, rfl⟩
      rw [← g_b27] at A27 st27
      have lt_b23_b27 : (b23 : Nat) < b27 := by rw [g_b27]; exact A26.lt
      have g0_b27 : n0 ≤ b27 := by rw [g_b27]; exact Z26
      have f28 : Own.AvI Z h27 b23 .int 1 (fun i => if i = 0 then v2 else (fun _ => 0) i) := A26.ext E27
      have f29 : Own.AvI Z h27 b27 .int 1 (fun _ => 0) := Own.AvI.new A27 (by decide) rfl
      have Z27 : n0 ≤ h27.size := Nat.le_trans Z26 E27.1
      have hj30 : 0 ≤ (0 : Int32).toInt ∧ (0 : Int32).toInt < (1 : Nat) := ⟨by decide, by decide⟩
      obtain ⟨T31, h31, X31, e31, A31, W31, st31⟩ := Own.stoI X27 hx hZ e27 f29 hj30 (g := (mkF m 97 #[.val (.int p0), .val (.int p1), .val (.int p2), .val (.int p3), .val (.int p4), .val (.int p5), .val (.int v1), .val (.int v2), .val (.int v4), .val (.int v6), .val (.int v8), .val (.int v10), .val (.int v12), .val (.ref b23), .unset, .unset, .unset, .unset, .unset, .unset, .unset] [(.int v8), (.int (0 : Int32)), (.ref b27), (.ref b27)])) rfl rfl (hb hby at_97)
      have f32 : Own.AvI Z h31 b23 .int 1 (fun i => if i = 0 then v2 else (fun _ => 0) i) := f28.other W31 (Own.ne_of (by omega))
      have N31 := Fr.snoc X31 N26 (show n0 ≤ b27 by omega)
      have Z31 : n0 ≤ h31.size := Nat.le_trans Z27 (Keep.of_wr W31).1
      obtain ⟨v33, hv33⟩ : ∃ z : Int64, z = (v8.toInt64) := ⟨_, rfl⟩
      obtain ⟨T34, _, L34, X34, ⟨rfl, Nq34, e34⟩, st34⟩ := Own.callS (y := (⟨"com/example/ballast/ballast/model/CostTable", "key", "([I[I)J"⟩ : MethodName)) (W := 0) (argsL := [(.ref b23), (.ref b27)]) (rest := []) X31 hx hZ hown (hw _ (List.mem_of_getElem? (i := 14) rfl)) (hw _ (List.mem_of_getElem? (i := 15) rfl)) (hw _ (List.mem_of_getElem? (i := 16) rfl)) (hw _ (List.mem_of_getElem? (i := 17) rfl)) (by decide) e31 (rm11 l Z a0 hw [] b23 b27 (fun i => if i = 0 then v2 else (fun _ => 0) i) (fun i => if i = 0 then v8 else (fun _ => 0) i) h31 n0 f32 A31) (by decide) (by decide) (by decide) (by decide) (g := (mkF m 236 #[.val (.int p0), .val (.int p1), .val (.int p2), .val (.int p3), .val (.int p4), .val (.int p5), .val (.int v1), .val (.int v2), .val (.int v4), .val (.int v6), .val (.int v8), .val (.int v10), .val (.int v12), .val (.ref b23), .val (.ref b27), .val (.long v33), .second, .unset, .unset, .unset, .unset] [(.ref b27), (.ref b23)])) rfl (by rw [hml]; rfl) (lenOf pd_2 rfl) rfl (by show 2 * 0 + _ ≤ _; exact Nat.le_of_eq rfl) (hb hby at_236)
      have N34 := Fr.app N31 Nq34
      obtain ⟨v35, hv35⟩ : ∃ z : Int64, z = (own_key 1 (fun i => if i = 0 then v2 else (fun _ => 0) i) (fun i => if i = 0 then v8 else (fun _ => 0) i)) := ⟨_, rfl⟩
      refine hD _ (T34.setTop (mkF m 246 #[.val (.int p0), .val (.int p1), .val (.int p2), .val (.int p3), .val (.int p4), .val (.int p5), .val (.int v1), .val (.int v2), .val (.int v4), .val (.int v6), .val (.int v8), .val (.int v10), .val (.int v12), .val (.ref b23), .val (.ref b27), .val (.long v33), .second, .val (.long v35), .second, .unset, .unset] [(.int (lcmpW v35 v33))])) (fun t k => ?_) ?_
      · show Steps p.tables e below (T11.setTop (mkF m 77 #[.val (.int p0), .val (.int p1), .val (.int p2), .val (.int p3), .val (.int p4), .val (.int p5), .val (.int v1), .val (.int v2), .val (.int v4), .val (.int v6), .val (.int v8), .val (.int v10), .val (.int v12), .unset, .unset, .unset, .unset, .unset, .unset, .unset, .unset] [(.int (1 : Int32)), (.int v1)])) t
        refine XS.icmpNo X11.here hx rfl (hb hby at_77) rfl (teq hc22).2 ?_
        show Steps p.tables e below (T11.setTop (mkF m 80 #[.val (.int p0), .val (.int p1), .val (.int p2), .val (.int p3), .val (.int p4), .val (.int p5), .val (.int v1), .val (.int v2), .val (.int v4), .val (.int v6), .val (.int v8), .val (.int v10), .val (.int v12), .unset, .unset, .unset, .unset, .unset, .unset, .unset, .unset] [])) t
        refine XS.iconst X11.here hx rfl (hb hby at_80) ?_
        show Steps p.tables e below (T11.setTop (mkF m 81 #[.val (.int p0), .val (.int p1), .val (.int p2), .val (.int p3), .val (.int p4), .val (.int p5), .val (.int v1), .val (.int v2), .val (.int v4), .val (.int v6), .val (.int v8), .val (.int v10), .val (.int v12), .unset, .unset, .unset, .unset, .unset, .unset, .unset, .unset] [(.int (1 : Int32))])) t
        refine st23 _ ?_
        show Steps p.tables e below (T23.setTop (mkF m 83 #[.val (.int p0), .val (.int p1), .val (.int p2), .val (.int p3), .val (.int p4), .val (.int p5), .val (.int v1), .val (.int v2), .val (.int v4), .val (.int v6), .val (.int v8), .val (.int v10), .val (.int v12), .unset, .unset, .unset, .unset, .unset, .unset, .unset, .unset] [(.ref b23)])) t
        refine XS.dup X23.here hx rfl (hb hby at_83) rfl rfl ?_
        show Steps p.tables e below (T23.setTop (mkF m 84 #[.val (.int p0), .val (.int p1), .val (.int p2), .val (.int p3), .val (.int p4), .val (.int p5), .val (.int v1), .val (.int v2), .val (.int v4), .val (.int v6), .val (.int v8), .val (.int v10), .val (.int v12), .unset, .unset, .unset, .unset, .unset, .unset, .unset, .unset] [(.ref b23), (.ref b23)])) t
        refine XS.iconst X23.here hx rfl (hb hby at_84) ?_
        show Steps p.tables e below (T23.setTop (mkF m 85 #[.val (.int p0), .val (.int p1), .val (.int p2), .val (.int p3), .val (.int p4), .val (.int p5), .val (.int v1), .val (.int v2), .val (.int v4), .val (.int v6), .val (.int v8), .val (.int v10), .val (.int v12), .unset, .unset, .unset, .unset, .unset, .unset, .unset, .unset] [(.int (0 : Int32)), (.ref b23), (.ref b23)])) t
        refine XS.iload X23.here hx rfl (hb hby at_85) rfl ?_
        show Steps p.tables e below (T23.setTop (mkF m 87 #[.val (.int p0), .val (.int p1), .val (.int p2), .val (.int p3), .val (.int p4), .val (.int p5), .val (.int v1), .val (.int v2), .val (.int v4), .val (.int v6), .val (.int v8), .val (.int v10), .val (.int v12), .unset, .unset, .unset, .unset, .unset, .unset, .unset, .unset] [(.int v2), (.int (0 : Int32)), (.ref b23), (.ref b23)])) t
        refine st26 _ ?_
        show Steps p.tables e below (T26.setTop (mkF m 88 #[.val (.int p0), .val (.int p1), .val (.int p2), .val (.int p3), .val (.int p4), .val (.int p5), .val (.int v1), .val (.int v2), .val (.int v4), .val (.int v6), .val (.int v8), .val (.int v10), .val (.int v12), .unset, .unset, .unset, .unset, .unset, .unset, .unset, .unset] [(.ref b23)])) t
        refine XS.astore X26.here hx rfl (hb hby at_88) rfl rfl (l' := #[.val (.int p0), .val (.int p1), .val (.int p2), .val (.int p3), .val (.int p4), .val (.int p5), .val (.int v1), .val (.int v2), .val (.int v4), .val (.int v6), .val (.int v8), .val (.int v10), .val (.int v12), .val (.ref b23), .unset, .unset, .unset, .unset, .unset, .unset, .unset]) rfl ?_
        show Steps p.tables e below (T26.setTop (mkF m 90 #[.val (.int p0), .val (.int p1), .val (.int p2), .val (.int p3), .val (.int p4), .val (.int p5), .val (.int v1), .val (.int v2), .val (.int v4), .val (.int v6), .val (.int v8), .val (.int v10), .val (.int v12), .val (.ref b23), .unset, .unset, .unset, .unset, .unset, .unset, .unset] [])) t
        refine XS.iconst X26.here hx rfl (hb hby at_90) ?_
        show Steps p.tables e below (T26.setTop (mkF m 91 #[.val (.int p0), .val (.int p1), .val (.int p2), .val (.int p3), .val (.int p4), .val (.int p5), .val (.int v1), .val (.int v2), .val (.int v4), .val (.int v6), .val (.int v8), .val (.int v10), .val (.int v12), .val (.ref b23), .unset, .unset, .unset, .unset, .unset, .unset, .unset] [(.int (1 : Int32))])) t
        refine st27 _ ?_
        show Steps p.tables e below (T27.setTop (mkF m 93 #[.val (.int p0), .val (.int p1), .val (.int p2), .val (.int p3), .val (.int p4), .val (.int p5), .val (.int v1), .val (.int v2), .val (.int v4), .val (.int v6), .val (.int v8), .val (.int v10), .val (.int v12), .val (.ref b23), .unset, .unset, .unset, .unset, .unset, .unset, .unset] [(.ref b27)])) t
        refine XS.dup X27.here hx rfl (hb hby at_93) rfl rfl ?_
        show Steps p.tables e below (T27.setTop (mkF m 94 #[.val (.int p0), .val (.int p1), .val (.int p2), .val (.int p3), .val (.int p4), .val (.int p5), .val (.int v1), .val (.int v2), .val (.int v4), .val (.int v6), .val (.int v8), .val (.int v10), .val (.int v12), .val (.ref b23), .unset, .unset, .unset, .unset, .unset, .unset, .unset] [(.ref b27), (.ref b27)])) t
        refine XS.iconst X27.here hx rfl (hb hby at_94) ?_
        show Steps p.tables e below (T27.setTop (mkF m 95 #[.val (.int p0), .val (.int p1), .val (.int p2), .val (.int p3), .val (.int p4), .val (.int p5), .val (.int v1), .val (.int v2), .val (.int v4), .val (.int v6), .val (.int v8), .val (.int v10), .val (.int v12), .val (.ref b23), .unset, .unset, .unset, .unset, .unset, .unset, .unset] [(.int (0 : Int32)), (.ref b27), (.ref b27)])) t
        refine XS.iload X27.here hx rfl (hb hby at_95) rfl ?_
        show Steps p.tables e below (T27.setTop (mkF m 97 #[.val (.int p0), .val (.int p1), .val (.int p2), .val (.int p3), .val (.int p4), .val (.int p5), .val (.int v1), .val (.int v2), .val (.int v4), .val (.int v6), .val (.int v8), .val (.int v10), .val (.int v12), .val (.ref b23), .unset, .unset, .unset, .unset, .unset, .unset, .unset] [(.int v8), (.int (0 : Int32)), (.ref b27), (.ref b27)])) t
        refine st31 _ ?_
        show Steps p.tables e below (T31.setTop (mkF m 98 #[.val (.int p0), .val (.int p1), .val (.int p2), .val (.int p3), .val (.int p4), .val (.int p5), .val (.int v1), .val (.int v2), .val (.int v4), .val (.int v6), .val (.int v8), .val (.int v10), .val (.int v12), .val (.ref b23), .unset, .unset, .unset, .unset, .unset, .unset, .unset] [(.ref b27)])) t
        refine XS.astore X31.here hx rfl (hb hby at_98) rfl rfl (l' := #[.val (.int p0), .val (.int p1), .val (.int p2), .val (.int p3), .val (.int p4), .val (.int p5), .val (.int v1), .val (.int v2), .val (.int v4), .val (.int v6), .val (.int v8), .val (.int v10), .val (.int v12), .val (.ref b23), .val (.ref b27), .unset, .unset, .unset, .unset, .unset, .unset]) rfl ?_
        show Steps p.tables e below (T31.setTop (mkF m 100 #[.val (.int p0), .val (.int p1), .val (.int p2), .val (.int p3), .val (.int p4), .val (.int p5), .val (.int v1), .val (.int v2), .val (.int v4), .val (.int v6), .val (.int v8), .val (.int v10), .val (.int v12), .val (.ref b23), .val (.ref b27), .unset, .unset, .unset, .unset, .unset, .unset] [])) t
        refine XS.iload X31.here hx rfl (hb hby at_100) rfl ?_
        show Steps p.tables e below (T31.setTop (mkF m 102 #[.val (.int p0), .val (.int p1), .val (.int p2), .val (.int p3), .val (.int p4), .val (.int p5), .val (.int v1), .val (.int v2), .val (.int v4), .val (.int v6), .val (.int v8), .val (.int v10), .val (.int v12), .val (.ref b23), .val (.ref b27), .unset, .unset, .unset, .unset, .unset, .unset] [(.int v8)])) t
        refine XS.i2l X31.here hx rfl (hb hby at_102) rfl ?_
        show Steps p.tables e below (T31.setTop (mkF m 103 #[.val (.int p0), .val (.int p1), .val (.int p2), .val (.int p3), .val (.int p4), .val (.int p5), .val (.int v1), .val (.int v2), .val (.int v4), .val (.int v6), .val (.int v8), .val (.int v10), .val (.int v12), .val (.ref b23), .val (.ref b27), .unset, .unset, .unset, .unset, .unset, .unset] [(.long (v8.toInt64))])) t
        refine Own.nmJ hv33 ?_
        show Steps p.tables e below (T31.setTop (mkF m 103 #[.val (.int p0), .val (.int p1), .val (.int p2), .val (.int p3), .val (.int p4), .val (.int p5), .val (.int v1), .val (.int v2), .val (.int v4), .val (.int v6), .val (.int v8), .val (.int v10), .val (.int v12), .val (.ref b23), .val (.ref b27), .unset, .unset, .unset, .unset, .unset, .unset] [(.long v33)])) t
        refine XS.lstore X31.here hx rfl (hb hby at_103) rfl (l' := #[.val (.int p0), .val (.int p1), .val (.int p2), .val (.int p3), .val (.int p4), .val (.int p5), .val (.int v1), .val (.int v2), .val (.int v4), .val (.int v6), .val (.int v8), .val (.int v10), .val (.int v12), .val (.ref b23), .val (.ref b27), .val (.long v33), .second, .unset, .unset, .unset, .unset]) rfl ?_
        show Steps p.tables e below (T31.setTop (mkF m 105 #[.val (.int p0), .val (.int p1), .val (.int p2), .val (.int p3), .val (.int p4), .val (.int p5), .val (.int v1), .val (.int v2), .val (.int v4), .val (.int v6), .val (.int v8), .val (.int v10), .val (.int v12), .val (.ref b23), .val (.ref b27), .val (.long v33), .second, .unset, .unset, .unset, .unset] [])) t
        refine XS.goto X31.here hx rfl (pc0 := 105) (pc' := 232) rfl (hb hby at_105) (by decide) (by decide) ?_
        show Steps p.tables e below (T31.setTop (mkF m 232 #[.val (.int p0), .val (.int p1), .val (.int p2), .val (.int p3), .val (.int p4), .val (.int p5), .val (.int v1), .val (.int v2), .val (.int v4), .val (.int v6), .val (.int v8), .val (.int v10), .val (.int v12), .val (.ref b23), .val (.ref b27), .val (.long v33), .second, .unset, .unset, .unset, .unset] [])) t
        refine XS.aload X31.here hx rfl (hb hby at_232) rfl rfl ?_
        show Steps p.tables e below (T31.setTop (mkF m 234 #[.val (.int p0), .val (.int p1), .val (.int p2), .val (.int p3), .val (.int p4), .val (.int p5), .val (.int v1), .val (.int v2), .val (.int v4), .val (.int v6), .val (.int v8), .val (.int v10), .val (.int v12), .val (.ref b23), .val (.ref b27), .val (.long v33), .second, .unset, .unset, .unset, .unset] [(.ref b23)])) t
        refine XS.aload X31.here hx rfl (hb hby at_234) rfl rfl ?_
        show Steps p.tables e below (T31.setTop (mkF m 236 #[.val (.int p0), .val (.int p1), .val (.int p2), .val (.int p3), .val (.int p4), .val (.int p5), .val (.int v1), .val (.int v2), .val (.int v4), .val (.int v6), .val (.int v8), .val (.int v10), .val (.int v12), .val (.ref b23), .val (.ref b27), .val (.long v33), .second, .unset, .unset, .unset, .unset] [(.ref b27), (.ref b23)])) t
        refine st34 _ ?_
        show Steps p.tables e below (T34.setTop (mkF m 239 #[.val (.int p0), .val (.int p1), .val (.int p2), .val (.int p3), .val (.int p4), .val (.int p5), .val (.int v1), .val (.int v2), .val (.int v4), .val (.int v6), .val (.int v8), .val (.int v10), .val (.int v12), .val (.ref b23), .val (.ref b27), .val (.long v33), .second, .unset, .unset, .unset, .unset] [(.long (own_key 1 (fun i => if i = 0 then v2 else (fun _ => 0) i) (fun i => if i = 0 then v8 else (fun _ => 0) i)))])) t
        refine Own.nmJ hv35 ?_
        show Steps p.tables e below (T34.setTop (mkF m 239 #[.val (.int p0), .val (.int p1), .val (.int p2), .val (.int p3), .val (.int p4), .val (.int p5), .val (.int v1), .val (.int v2), .val (.int v4), .val (.int v6), .val (.int v8), .val (.int v10), .val (.int v12), .val (.ref b23), .val (.ref b27), .val (.long v33), .second, .unset, .unset, .unset, .unset] [(.long v35)])) t
        refine XS.lstore X34.here hx rfl (hb hby at_239) rfl (l' := #[.val (.int p0), .val (.int p1), .val (.int p2), .val (.int p3), .val (.int p4), .val (.int p5), .val (.int v1), .val (.int v2), .val (.int v4), .val (.int v6), .val (.int v8), .val (.int v10), .val (.int v12), .val (.ref b23), .val (.ref b27), .val (.long v33), .second, .val (.long v35), .second, .unset, .unset]) rfl ?_
        show Steps p.tables e below (T34.setTop (mkF m 241 #[.val (.int p0), .val (.int p1), .val (.int p2), .val (.int p3), .val (.int p4), .val (.int p5), .val (.int v1), .val (.int v2), .val (.int v4), .val (.int v6), .val (.int v8), .val (.int v10), .val (.int v12), .val (.ref b23), .val (.ref b27), .val (.long v33), .second, .val (.long v35), .second, .unset, .unset] [])) t
        refine XS.lload X34.here hx rfl (hb hby at_241) rfl ?_
        show Steps p.tables e below (T34.setTop (mkF m 243 #[.val (.int p0), .val (.int p1), .val (.int p2), .val (.int p3), .val (.int p4), .val (.int p5), .val (.int v1), .val (.int v2), .val (.int v4), .val (.int v6), .val (.int v8), .val (.int v10), .val (.int v12), .val (.ref b23), .val (.ref b27), .val (.long v33), .second, .val (.long v35), .second, .unset, .unset] [(.long v35)])) t
        refine XS.lload X34.here hx rfl (hb hby at_243) rfl ?_
        show Steps p.tables e below (T34.setTop (mkF m 245 #[.val (.int p0), .val (.int p1), .val (.int p2), .val (.int p3), .val (.int p4), .val (.int p5), .val (.int v1), .val (.int v2), .val (.int v4), .val (.int v6), .val (.int v8), .val (.int v10), .val (.int v12), .val (.ref b23), .val (.ref b27), .val (.long v33), .second, .val (.long v35), .second, .unset, .unset] [(.long v33), (.long v35)])) t
        refine XS.lcmp X34.here hx rfl (hb hby at_245) rfl ?_
        show Steps p.tables e below (T34.setTop (mkF m 246 #[.val (.int p0), .val (.int p1), .val (.int p2), .val (.int p3), .val (.int p4), .val (.int p5), .val (.int v1), .val (.int v2), .val (.int v4), .val (.int v6), .val (.int v8), .val (.int v10), .val (.int v12), .val (.ref b23), .val (.ref b27), .val (.long v33), .second, .val (.long v35), .second, .unset, .unset] [(.int (lcmpW v35 v33))])) t
        exact k
      have hc36 : v35 = v33 := by
        rw [hv35]; rw [hv33]
        simp [own_key, Int64.add_mul]
      refine hD _ (T34.setTop (mkF m 254 #[.val (.int p0), .val (.int p1), .val (.int p2), .val (.int p3), .val (.int p4), .val (.int p5), .val (.int v1), .val (.int v2), .val (.int v4), .val (.int v6), .val (.int v8), .val (.int v10), .val (.int v12), .val (.ref b23), .val (.ref b27), .val (.long v33), .second, .val (.long v35), .second, .unset, .unset] [(.int (1 : Int32))])) (fun t k => ?_) ?_
      · show Steps p.tables e below (T34.setTop (mkF m 246 #[.val (.int p0), .val (.int p1), .val (.int p2), .val (.int p3), .val (.int p4), .val (.int p5), .val (.int v1), .val (.int v2), .val (.int v4), .val (.int v6), .val (.int v8), .val (.int v10), .val (.int v12), .val (.ref b23), .val (.ref b27), .val (.long v33), .second, .val (.long v35), .second, .unset, .unset] [(.int (lcmpW v35 v33))])) t
        refine XS.ifNo X34.here hx rfl (hb hby at_246) rfl ((if0 _ _).trans (teq ((lw_eq v35 v33).mpr hc36)).2) ?_
        show Steps p.tables e below (T34.setTop (mkF m 249 #[.val (.int p0), .val (.int p1), .val (.int p2), .val (.int p3), .val (.int p4), .val (.int p5), .val (.int v1), .val (.int v2), .val (.int v4), .val (.int v6), .val (.int v8), .val (.int v10), .val (.int v12), .val (.ref b23), .val (.ref b27), .val (.long v33), .second, .val (.long v35), .second, .unset, .unset] [])) t
        refine XS.iconst X34.here hx rfl (hb hby at_249) ?_
        show Steps p.tables e below (T34.setTop (mkF m 250 #[.val (.int p0), .val (.int p1), .val (.int p2), .val (.int p3), .val (.int p4), .val (.int p5), .val (.int v1), .val (.int v2), .val (.int v4), .val (.int v6), .val (.int v8), .val (.int v10), .val (.int v12), .val (.ref b23), .val (.ref b27), .val (.long v33), .second, .val (.long v35), .second, .unset, .unset] [(.int (1 : Int32))])) t
        refine XS.goto X34.here hx rfl (pc0 := 250) (pc' := 254) rfl (hb hby at_250) (by decide) (by decide) ?_
        show Steps p.tables e below (T34.setTop (mkF m 254 #[.val (.int p0), .val (.int p1), .val (.int p2), .val (.int p3), .val (.int p4), .val (.int p5), .val (.int v1), .val (.int v2), .val (.int v4), .val (.int v6), .val (.int v8), .val (.int v10), .val (.int v12), .val (.ref b23), .val (.ref b27), .val (.long v33), .second, .val (.long v35), .second, .unset, .unset] [(.int (1 : Int32))])) t
        exact k
      exact Own.retN hR X34 hx (t := .boolean) hret (by simp) (hb hby at_254) (by decide) (by decide) (by decide) ⟨rfl, N34⟩
    · refine hD _ (T11.setTop (mkF m 111 #[.val (.int p0), .val (.int p1), .val (.int p2), .val (.int p3), .val (.int p4), .val (.int p5), .val (.int v1), .val (.int v2), .val (.int v4), .val (.int v6), .val (.int v8), .val (.int v10), .val (.int v12), .unset, .unset, .unset, .unset, .unset, .unset, .unset, .unset] [(.int (2 : Int32)), (.int v1)])) (fun t k => ?_) ?_
      · show Steps p.tables e below (T11.setTop (mkF m 77 #[.val (.int p0), .val (.int p1), .val (.int p2), .val (.int p3), .val (.int p4), .val (.int p5), .val (.int v1), .val (.int v2), .val (.int v4), .val (.int v6), .val (.int v8), .val (.int v10), .val (.int v12), .unset, .unset, .unset, .unset, .unset, .unset, .unset, .unset] [(.int (1 : Int32)), (.int v1)])) t
        refine XS.icmpYes X11.here hx rfl (pc0 := 77) (pc' := 108) rfl (hb hby at_77) rfl (feq hc22).2 (by decide) (by decide) ?_
        show Steps p.tables e below (T11.setTop (mkF m 108 #[.val (.int p0), .val (.int p1), .val (.int p2), .val (.int p3), .val (.int p4), .val (.int p5), .val (.int v1), .val (.int v2), .val (.int v4), .val (.int v6), .val (.int v8), .val (.int v10), .val (.int v12), .unset, .unset, .unset, .unset, .unset, .unset, .unset, .unset] [])) t
        refine XS.iload X11.here hx rfl (hb hby at_108) rfl ?_
        show Steps p.tables e below (T11.setTop (mkF m 110 #[.val (.int p0), .val (.int p1), .val (.int p2), .val (.int p3), .val (.int p4), .val (.int p5), .val (.int v1), .val (.int v2), .val (.int v4), .val (.int v6), .val (.int v8), .val (.int v10), .val (.int v12), .unset, .unset, .unset, .unset, .unset, .unset, .unset, .unset] [(.int v1)])) t
        refine XS.iconst X11.here hx rfl (hb hby at_110) ?_
        show Steps p.tables e below (T11.setTop (mkF m 111 #[.val (.int p0), .val (.int p1), .val (.int p2), .val (.int p3), .val (.int p4), .val (.int p5), .val (.int v1), .val (.int v2), .val (.int v4), .val (.int v6), .val (.int v8), .val (.int v10), .val (.int v12), .unset, .unset, .unset, .unset, .unset, .unset, .unset, .unset] [(.int (2 : Int32)), (.int v1)])) t
        exact k
      by_cases hc37 : v1 = (2 : Int32)
      · obtain ⟨T38, h38, k38, X38, e38, E38, A38, st38⟩ := newP X11 hx hZ (hw _ (List.mem_of_getElem? (i := 13) rfl)) e11 (g := (mkF m 115 #[.val (.int p0), .val (.int p1), .val (.int p2), .val (.int p3), .val (.int p4), .val (.int p5), .val (.int v1), .val (.int v2), .val (.int v4), .val (.int v6), .val (.int v8), .val (.int v10), .val (.int v12), .unset, .unset, .unset, .unset, .unset, .unset, .unset, .unset] [(.int (2 : Int32))])) rfl (hb hby at_115) rfl (by decide) (cap := 2) (by decide) (by decide) (by decide) (by decide)
        obtain ⟨b38, g_b38⟩ : ∃ z : Nat, z = h0.size := ⟨_, rfl⟩
        rw [← g_b38] at A38 st38
        have g0_b38 : n0 ≤ b38 := by rw [g_b38]; exact Z0
        have f39 : Own.AvI Z h38 b38 .int 2 (fun _ => 0) := Own.AvI.new A38 (by decide) rfl
        have Z38 : n0 ≤ h38.size := Nat.le_trans Z0 E38.1
        have hj40 : 0 ≤ (0 : Int32).toInt ∧ (0 : Int32).toInt < (2 : Nat) := ⟨by decide, by decide⟩
        obtain ⟨T41, h41, X41, e41, A41, W41, st41⟩ := Own.stoI X38 hx hZ e38 f39 hj40 (g := (mkF m 121 #[.val (.int p0), .val (.int p1), .val (.int p2), .val (.int p3), .val (.int p4), .val (.int p5), .val (.int v1), .val (.int v2), .val (.int v4), .val (.int v6), .val (.int v8), .val (.int v10), .val (.int v12), .unset, .unset, .unset, .unset, .unset, .unset, .unset, .unset] [(.int v2), (.int (0 : Int32)), (.ref b38), (.ref b38)])) rfl rfl (hb hby at_121)
        have N41 := Fr.snoc X41 N11 (show n0 ≤ b38 by omega)
        have Z41 : n0 ≤ h41.size := Nat.le_trans Z38 (Keep.of_wr W41).1
        have hj42 : 0 ≤ (1 : Int32).toInt ∧ (1 : Int32).toInt < (2 : Nat) := ⟨by decide, by decide⟩
        obtain ⟨T43, h43, X43, e43, A43, W43, st43⟩ := Own.stoI X41 hx hZ e41 A41 hj42 (g := (mkF m 126 #[.val (.int p0), .val (.int p1), .val (.int p2), .val (.int p3), .val (.int p4), .val (.int p5), .val (.int v1), .val (.int v2), .val (.int v4), .val (.int v6), .val (.int v8), .val (.int v10), .val (.int v12), .unset, .unset, .unset, .unset, .unset, .unset, .unset, .unset] [(.int v4), (.int (1 : Int32)), (.ref b38), (.ref b38)])) rfl rfl (hb hby at_126)
        have N43 := Fr.snoc X43 N41 (show n0 ≤ b38 by omega)
        have Z43 : n0 ≤ h43.size := Nat.le_trans Z41 (Keep.of_wr W43).1
        obtain ⟨T44, h44, k44, X44, e44, E44, A44, st44⟩ := newP X43 hx hZ (hw _ (List.mem_of_getElem? (i := 13) rfl)) e43 (g := (mkF m 130 #[.val (.int p0), .val (.int p1), .val (.int p2), .val (.int p3), .val (.int p4), .val (.int p5), .val (.int v1), .val (.int v2), .val (.int v4), .val (.int v6), .val (.int v8), .val (.int v10), .val (.int v12), .val (.ref b38), .unset, .unset, .unset, .unset, .unset, .unset, .unset] [(.int (2 : Int32))])) rfl (hb hby at_130) rfl (by decide) (cap := 2) (by decide) (by decide) (by decide) (by decide)
        obtain ⟨b44, g_b44⟩ : ∃ z : Nat, z = h43.size := ⟨_, rfl⟩
        rw [← g_b44] at A44 st44
        have lt_b38_b44 : (b38 : Nat) < b44 := by rw [g_b44]; exact A43.lt
        have g0_b44 : n0 ≤ b44 := by rw [g_b44]; exact Z43
        have f45 : Own.AvI Z h44 b38 .int 2 (fun i => if i = 1 then v4 else (fun i => if i = 0 then v2 else (fun _ => 0) i) i) := A43.ext E44
        have f46 : Own.AvI Z h44 b44 .int 2 (fun _ => 0) := Own.AvI.new A44 (by decide) rfl
        have Z44 : n0 ≤ h44.size := Nat.le_trans Z43 E44.1
        have hj47 : 0 ≤ (0 : Int32).toInt ∧ (0 : Int32).toInt < (2 : Nat) := ⟨by decide, by decide⟩
        obtain ⟨T48, h48, X48, e48, A48, W48, st48⟩ := Own.stoI X44 hx hZ e44 f46 hj47 (g := (mkF m 136 #[.val (.int p0), .val (.int p1), .val (.int p2), .val (.int p3), .val (.int p4), .val (.int p5), .val (.int v1), .val (.int v2), .val (.int v4), .val (.int v6), .val (.int v8), .val (.int v10), .val (.int v12), .val (.ref b38), .unset, .unset, .unset, .unset, .unset, .unset, .unset] [(.int v8), (.int (0 : Int32)), (.ref b44), (.ref b44)])) rfl rfl (hb hby at_136)
        have f49 : Own.AvI Z h48 b38 .int 2 (fun i => if i = 1 then v4 else (fun i => if i = 0 then v2 else (fun _ => 0) i) i) := f45.other W48 (Own.ne_of (by omega))
        have N48 := Fr.snoc X48 N43 (show n0 ≤ b44 by omega)
        have Z48 : n0 ≤ h48.size := Nat.le_trans Z44 (Keep.of_wr W48).1
        have hj50 : 0 ≤ (1 : Int32).toInt ∧ (1 : Int32).toInt < (2 : Nat) := ⟨by decide, by decide⟩
        obtain ⟨T51, h51, X51, e51, A51, W51, st51⟩ := Own.stoI X48 hx hZ e48 A48 hj50 (g := (mkF m 141 #[.val (.int p0), .val (.int p1), .val (.int p2), .val (.int p3), .val (.int p4), .val (.int p5), .val (.int v1), .val (.int v2), .val (.int v4), .val (.int v6), .val (.int v8), .val (.int v10), .val (.int v12), .val (.ref b38), .unset, .unset, .unset, .unset, .unset, .unset, .unset] [(.int v10), (.int (1 : Int32)), (.ref b44), (.ref b44)])) rfl rfl (hb hby at_141)
        have f52 : Own.AvI Z h51 b38 .int 2 (fun i => if i = 1 then v4 else (fun i => if i = 0 then v2 else (fun _ => 0) i) i) := f49.other W51 (Own.ne_of (by omega))
        have N51 := Fr.snoc X51 N48 (show n0 ≤ b44 by omega)
        have Z51 : n0 ≤ h51.size := Nat.le_trans Z48 (Keep.of_wr W51).1
        obtain ⟨v53, hv53⟩ : ∃ z : Int64, z = (((v8.toInt64) * (v4.toInt64)) + (v10.toInt64)) := ⟨_, rfl⟩
        obtain ⟨T54, _, L54, X54, ⟨rfl, Nq54, e54⟩, st54⟩ := Own.callS (y := (⟨"com/example/ballast/ballast/model/CostTable", "key", "([I[I)J"⟩ : MethodName)) (W := 0) (argsL := [(.ref b38), (.ref b44)]) (rest := []) X51 hx hZ hown (hw _ (List.mem_of_getElem? (i := 14) rfl)) (hw _ (List.mem_of_getElem? (i := 15) rfl)) (hw _ (List.mem_of_getElem? (i := 16) rfl)) (hw _ (List.mem_of_getElem? (i := 17) rfl)) (by decide) e51 (rm12 l Z a0 hw [] b38 b44 (fun i => if i = 1 then v4 else (fun i => if i = 0 then v2 else (fun _ => 0) i) i) (fun i => if i = 1 then v10 else (fun i => if i = 0 then v8 else (fun _ => 0) i) i) h51 n0 f52 A51) (by decide) (by decide) (by decide) (by decide) (g := (mkF m 236 #[.val (.int p0), .val (.int p1), .val (.int p2), .val (.int p3), .val (.int p4), .val (.int p5), .val (.int v1), .val (.int v2), .val (.int v4), .val (.int v6), .val (.int v8), .val (.int v10), .val (.int v12), .val (.ref b38), .val (.ref b44), .val (.long v53), .second, .unset, .unset, .unset, .unset] [(.ref b44), (.ref b38)])) rfl (by rw [hml]; rfl) (lenOf pd_2 rfl) rfl (by show 2 * 0 + _ ≤ _; exact Nat.le_of_eq rfl) (hb hby at_236)
        have N54 := Fr.app N51 Nq54
        obtain ⟨v55, hv55⟩ : ∃ z : Int64, z = (own_key 2 (fun i => if i = 1 then v4 else (fun i => if i = 0 then v2 else (fun _ => 0) i) i) (fun i => if i = 1 then v10 else (fun i => if i = 0 then v8 else (fun _ => 0) i) i)) := ⟨_, rfl⟩
        refine hD _ (T54.setTop (mkF m 246 #[.val (.int p0), .val (.int p1), .val (.int p2), .val (.int p3), .val (.int p4), .val (.int p5), .val (.int v1), .val (.int v2), .val (.int v4), .val (.int v6), .val (.int v8), .val (.int v10), .val (.int v12), .val (.ref b38), .val (.ref b44), .val (.long v53), .second, .val (.long v55), .second, .unset, .unset] [(.int (lcmpW v55 v53))])) (fun t k => ?_) ?_
        · show Steps p.tables e below (T11.setTop (mkF m 111 #[.val (.int p0), .val (.int p1), .val (.int p2), .val (.int p3), .val (.int p4), .val (.int p5), .val (.int v1), .val (.int v2), .val (.int v4), .val (.int v6), .val (.int v8), .val (.int v10), .val (.int v12), .unset, .unset, .unset, .unset, .unset, .unset, .unset, .unset] [(.int (2 : Int32)), (.int v1)])) t
          refine XS.icmpNo X11.here hx rfl (hb hby at_111) rfl (teq hc37).2 ?_
          show Steps p.tables e below (T11.setTop (mkF m 114 #[.val (.int p0), .val (.int p1), .val (.int p2), .val (.int p3), .val (.int p4), .val (.int p5), .val (.int v1), .val (.int v2), .val (.int v4), .val (.int v6), .val (.int v8), .val (.int v10), .val (.int v12), .unset, .unset, .unset, .unset, .unset, .unset, .unset, .unset] [])) t
          refine XS.iconst X11.here hx rfl (hb hby at_114) ?_
          show Steps p.tables e below (T11.setTop (mkF m 115 #[.val (.int p0), .val (.int p1), .val (.int p2), .val (.int p3), .val (.int p4), .val (.int p5), .val (.int v1), .val (.int v2), .val (.int v4), .val (.int v6), .val (.int v8), .val (.int v10), .val (.int v12), .unset, .unset, .unset, .unset, .unset, .unset, .unset, .unset] [(.int (2 : Int32))])) t
          refine st38 _ ?_
          show Steps p.tables e below (T38.setTop (mkF m 117 #[.val (.int p0), .val (.int p1), .val (.int p2), .val (.int p3), .val (.int p4), .val (.int p5), .val (.int v1), .val (.int v2), .val (.int v4), .val (.int v6), .val (.int v8), .val (.int v10), .val (.int v12), .unset, .unset, .unset, .unset, .unset, .unset, .unset, .unset] [(.ref b38)])) t
          refine XS.dup X38.here hx rfl (hb hby at_117) rfl rfl ?_
          show Steps p.tables e below (T38.setTop (mkF m 118 #[.val (.int p0), .val (.int p1), .val (.int p2), .val (.int p3), .val (.int p4), .val (.int p5), .val (.int v1), .val (.int v2), .val (.int v4), .val (.int v6), .val (.int v8), .val (.int v10), .val (.int v12), .unset, .unset, .unset, .unset, .unset, .unset, .unset, .unset] [(.ref b38), (.ref b38)])) t
          refine XS.iconst X38.here hx rfl (hb hby at_118) ?_
          show Steps p.tables e below (T38.setTop (mkF m 119 #[.val (.int p0), .val (.int p1), .val (.int p2), .val (.int p3), .val (.int p4), .val (.int p5), .val (.int v1), .val (.int v2), .val (.int v4), .val (.int v6), .val (.int v8), .val (.int v10), .val (.int v12), .unset, .unset, .unset, .unset, .unset, .unset, .unset, .unset] [(.int (0 : Int32)), (.ref b38), (.ref b38)])) t
          refine XS.iload X38.here hx rfl (hb hby at_119) rfl ?_
          show Steps p.tables e below (T38.setTop (mkF m 121 #[.val (.int p0), .val (.int p1), .val (.int p2), .val (.int p3), .val (.int p4), .val (.int p5), .val (.int v1), .val (.int v2), .val (.int v4), .val (.int v6), .val (.int v8), .val (.int v10), .val (.int v12), .unset, .unset, .unset, .unset, .unset, .unset, .unset, .unset] [(.int v2), (.int (0 : Int32)), (.ref b38), (.ref b38)])) t
          refine st41 _ ?_
          show Steps p.tables e below (T41.setTop (mkF m 122 #[.val (.int p0), .val (.int p1), .val (.int p2), .val (.int p3), .val (.int p4), .val (.int p5), .val (.int v1), .val (.int v2), .val (.int v4), .val (.int v6), .val (.int v8), .val (.int v10), .val (.int v12), .unset, .unset, .unset, .unset, .unset, .unset, .unset, .unset] [(.ref b38)])) t
          refine XS.dup X41.here hx rfl (hb hby at_122) rfl rfl ?_
          show Steps p.tables e below (T41.setTop (mkF m 123 #[.val (.int p0), .val (.int p1), .val (.int p2), .val (.int p3), .val (.int p4), .val (.int p5), .val (.int v1), .val (.int v2), .val (.int v4), .val (.int v6), .val (.int v8), .val (.int v10), .val (.int v12), .unset, .unset, .unset, .unset, .unset, .unset, .unset, .unset] [(.ref b38), (.ref b38)])) t
          refine XS.iconst X41.here hx rfl (hb hby at_123) ?_
          show Steps p.tables e below (T41.setTop (mkF m 124 #[.val (.int p0), .val (.int p1), .val (.int p2), .val (.int p3), .val (.int p4), .val (.int p5), .val (.int v1), .val (.int v2), .val (.int v4), .val (.int v6), .val (.int v8), .val (.int v10), .val (.int v12), .unset, .unset, .unset, .unset, .unset, .unset, .unset, .unset] [(.int (1 : Int32)), (.ref b38), (.ref b38)])) t
          refine XS.iload X41.here hx rfl (hb hby at_124) rfl ?_
          show Steps p.tables e below (T41.setTop (mkF m 126 #[.val (.int p0), .val (.int p1), .val (.int p2), .val (.int p3), .val (.int p4), .val (.int p5), .val (.int v1), .val (.int v2), .val (.int v4), .val (.int v6), .val (.int v8), .val (.int v10), .val (.int v12), .unset, .unset, .unset, .unset, .unset, .unset, .unset, .unset] [(.int v4), (.int (1 : Int32)), (.ref b38), (.ref b38)])) t
          refine st43 _ ?_
          show Steps p.tables e below (T43.setTop (mkF m 127 #[.val (.int p0), .val (.int p1), .val (.int p2), .val (.int p3), .val (.int p4), .val (.int p5), .val (.int v1), .val (.int v2), .val (.int v4), .val (.int v6), .val (.int v8), .val (.int v10), .val (.int v12), .unset, .unset, .unset, .unset, .unset, .unset, .unset, .unset] [(.ref b38)])) t
          refine XS.astore X43.here hx rfl (hb hby at_127) rfl rfl (l' := #[.val (.int p0), .val (.int p1), .val (.int p2), .val (.int p3), .val (.int p4), .val (.int p5), .val (.int v1), .val (.int v2), .val (.int v4), .val (.int v6), .val (.int v8), .val (.int v10), .val (.int v12), .val (.ref b38), .unset, .unset, .unset, .unset, .unset, .unset, .unset]) rfl ?_
          show Steps p.tables e below (T43.setTop (mkF m 129 #[.val (.int p0), .val (.int p1), .val (.int p2), .val (.int p3), .val (.int p4), .val (.int p5), .val (.int v1), .val (.int v2), .val (.int v4), .val (.int v6), .val (.int v8), .val (.int v10), .val (.int v12), .val (.ref b38), .unset, .unset, .unset, .unset, .unset, .unset, .unset] [])) t
          refine XS.iconst X43.here hx rfl (hb hby at_129) ?_
          show Steps p.tables e below (T43.setTop (mkF m 130 #[.val (.int p0), .val (.int p1), .val (.int p2), .val (.int p3), .val (.int p4), .val (.int p5), .val (.int v1), .val (.int v2), .val (.int v4), .val (.int v6), .val (.int v8), .val (.int v10), .val (.int v12), .val (.ref b38), .unset, .unset, .unset, .unset, .unset, .unset, .unset] [(.int (2 : Int32))])) t
          refine st44 _ ?_
          show Steps p.tables e below (T44.setTop (mkF m 132 #[.val (.int p0), .val (.int p1), .val (.int p2), .val (.int p3), .val (.int p4), .val (.int p5), .val (.int v1), .val (.int v2), .val (.int v4), .val (.int v6), .val (.int v8), .val (.int v10), .val (.int v12), .val (.ref b38), .unset, .unset, .unset, .unset, .unset, .unset, .unset] [(.ref b44)])) t
          refine XS.dup X44.here hx rfl (hb hby at_132) rfl rfl ?_
          show Steps p.tables e below (T44.setTop (mkF m 133 #[.val (.int p0), .val (.int p1), .val (.int p2), .val (.int p3), .val (.int p4), .val (.int p5), .val (.int v1), .val (.int v2), .val (.int v4), .val (.int v6), .val (.int v8), .val (.int v10), .val (.int v12), .val (.ref b38), .unset, .unset, .unset, .unset, .unset, .unset, .unset] [(.ref b44), (.ref b44)])) t
          refine XS.iconst X44.here hx rfl (hb hby at_133) ?_
          show Steps p.tables e below (T44.setTop (mkF m 134 #[.val (.int p0), .val (.int p1), .val (.int p2), .val (.int p3), .val (.int p4), .val (.int p5), .val (.int v1), .val (.int v2), .val (.int v4), .val (.int v6), .val (.int v8), .val (.int v10), .val (.int v12), .val (.ref b38), .unset, .unset, .unset, .unset, .unset, .unset, .unset] [(.int (0 : Int32)), (.ref b44), (.ref b44)])) t
          refine XS.iload X44.here hx rfl (hb hby at_134) rfl ?_
          show Steps p.tables e below (T44.setTop (mkF m 136 #[.val (.int p0), .val (.int p1), .val (.int p2), .val (.int p3), .val (.int p4), .val (.int p5), .val (.int v1), .val (.int v2), .val (.int v4), .val (.int v6), .val (.int v8), .val (.int v10), .val (.int v12), .val (.ref b38), .unset, .unset, .unset, .unset, .unset, .unset, .unset] [(.int v8), (.int (0 : Int32)), (.ref b44), (.ref b44)])) t
          refine st48 _ ?_
          show Steps p.tables e below (T48.setTop (mkF m 137 #[.val (.int p0), .val (.int p1), .val (.int p2), .val (.int p3), .val (.int p4), .val (.int p5), .val (.int v1), .val (.int v2), .val (.int v4), .val (.int v6), .val (.int v8), .val (.int v10), .val (.int v12), .val (.ref b38), .unset, .unset, .unset, .unset, .unset, .unset, .unset] [(.ref b44)])) t
          refine XS.dup X48.here hx rfl (hb hby at_137) rfl rfl ?_
          show Steps p.tables e below (T48.setTop (mkF m 138 #[.val (.int p0), .val (.int p1), .val (.int p2), .val (.int p3), .val (.int p4), .val (.int p5), .val (.int v1), .val (.int v2), .val (.int v4), .val (.int v6), .val (.int v8), .val (.int v10), .val (.int v12), .val (.ref b38), .unset, .unset, .unset, .unset, .unset, .unset, .unset] [(.ref b44), (.ref b44)])) t
          refine XS.iconst X48.here hx rfl (hb hby at_138) ?_
          show Steps p.tables e below (T48.setTop (mkF m 139 #[.val (.int p0), .val (.int p1), .val (.int p2), .val (.int p3), .val (.int p4), .val (.int p5), .val (.int v1), .val (.int v2), .val (.int v4), .val (.int v6), .val (.int v8), .val (.int v10), .val (.int v12), .val (.ref b38), .unset, .unset, .unset, .unset, .unset, .unset, .unset] [(.int (1 : Int32)), (.ref b44), (.ref b44)])) t
          refine XS.iload X48.here hx rfl (hb hby at_139) rfl ?_
          show Steps p.tables e below (T48.setTop (mkF m 141 #[.val (.int p0), .val (.int p1), .val (.int p2), .val (.int p3), .val (.int p4), .val (.int p5), .val (.int v1), .val (.int v2), .val (.int v4), .val (.int v6), .val (.int v8), .val (.int v10), .val (.int v12), .val (.ref b38), .unset, .unset, .unset, .unset, .unset, .unset, .unset] [(.int v10), (.int (1 : Int32)), (.ref b44), (.ref b44)])) t
          refine st51 _ ?_
          show Steps p.tables e below (T51.setTop (mkF m 142 #[.val (.int p0), .val (.int p1), .val (.int p2), .val (.int p3), .val (.int p4), .val (.int p5), .val (.int v1), .val (.int v2), .val (.int v4), .val (.int v6), .val (.int v8), .val (.int v10), .val (.int v12), .val (.ref b38), .unset, .unset, .unset, .unset, .unset, .unset, .unset] [(.ref b44)])) t
          refine XS.astore X51.here hx rfl (hb hby at_142) rfl rfl (l' := #[.val (.int p0), .val (.int p1), .val (.int p2), .val (.int p3), .val (.int p4), .val (.int p5), .val (.int v1), .val (.int v2), .val (.int v4), .val (.int v6), .val (.int v8), .val (.int v10), .val (.int v12), .val (.ref b38), .val (.ref b44), .unset, .unset, .unset, .unset, .unset, .unset]) rfl ?_
          show Steps p.tables e below (T51.setTop (mkF m 144 #[.val (.int p0), .val (.int p1), .val (.int p2), .val (.int p3), .val (.int p4), .val (.int p5), .val (.int v1), .val (.int v2), .val (.int v4), .val (.int v6), .val (.int v8), .val (.int v10), .val (.int v12), .val (.ref b38), .val (.ref b44), .unset, .unset, .unset, .unset, .unset, .unset] [])) t
          refine XS.iload X51.here hx rfl (hb hby at_144) rfl ?_
          show Steps p.tables e below (T51.setTop (mkF m 146 #[.val (.int p0), .val (.int p1), .val (.int p2), .val (.int p3), .val (.int p4), .val (.int p5), .val (.int v1), .val (.int v2), .val (.int v4), .val (.int v6), .val (.int v8), .val (.int v10), .val (.int v12), .val (.ref b38), .val (.ref b44), .unset, .unset, .unset, .unset, .unset, .unset] [(.int v8)])) t
          refine XS.i2l X51.here hx rfl (hb hby at_146) rfl ?_
          show Steps p.tables e below (T51.setTop (mkF m 147 #[.val (.int p0), .val (.int p1), .val (.int p2), .val (.int p3), .val (.int p4), .val (.int p5), .val (.int v1), .val (.int v2), .val (.int v4), .val (.int v6), .val (.int v8), .val (.int v10), .val (.int v12), .val (.ref b38), .val (.ref b44), .unset, .unset, .unset, .unset, .unset, .unset] [(.long (v8.toInt64))])) t
          refine XS.iload X51.here hx rfl (hb hby at_147) rfl ?_
          show Steps p.tables e below (T51.setTop (mkF m 149 #[.val (.int p0), .val (.int p1), .val (.int p2), .val (.int p3), .val (.int p4), .val (.int p5), .val (.int v1), .val (.int v2), .val (.int v4), .val (.int v6), .val (.int v8), .val (.int v10), .val (.int v12), .val (.ref b38), .val (.ref b44), .unset, .unset, .unset, .unset, .unset, .unset] [(.int v4), (.long (v8.toInt64))])) t
          refine XS.i2l X51.here hx rfl (hb hby at_149) rfl ?_
          show Steps p.tables e below (T51.setTop (mkF m 150 #[.val (.int p0), .val (.int p1), .val (.int p2), .val (.int p3), .val (.int p4), .val (.int p5), .val (.int v1), .val (.int v2), .val (.int v4), .val (.int v6), .val (.int v8), .val (.int v10), .val (.int v12), .val (.ref b38), .val (.ref b44), .unset, .unset, .unset, .unset, .unset, .unset] [(.long (v4.toInt64)), (.long (v8.toInt64))])) t
          refine XS.lmul X51.here hx rfl (hb hby at_150) rfl ?_
          show Steps p.tables e below (T51.setTop (mkF m 151 #[.val (.int p0), .val (.int p1), .val (.int p2), .val (.int p3), .val (.int p4), .val (.int p5), .val (.int v1), .val (.int v2), .val (.int v4), .val (.int v6), .val (.int v8), .val (.int v10), .val (.int v12), .val (.ref b38), .val (.ref b44), .unset, .unset, .unset, .unset, .unset, .unset] [(.long ((v8.toInt64) * (v4.toInt64)))])) t
          refine XS.iload X51.here hx rfl (hb hby at_151) rfl ?_
          show Steps p.tables e below (T51.setTop (mkF m 153 #[.val (.int p0), .val (.int p1), .val (.int p2), .val (.int p3), .val (.int p4), .val (.int p5), .val (.int v1), .val (.int v2), .val (.int v4), .val (.int v6), .val (.int v8), .val (.int v10), .val (.int v12), .val (.ref b38), .val (.ref b44), .unset, .unset, .unset, .unset, .unset, .unset] [(.int v10), (.long ((v8.toInt64) * (v4.toInt64)))])) t
          refine XS.i2l X51.here hx rfl (hb hby at_153) rfl ?_
          show Steps p.tables e below (T51.setTop (mkF m 154 #[.val (.int p0), .val (.int p1), .val (.int p2), .val (.int p3), .val (.int p4), .val (.int p5), .val (.int v1), .val (.int v2), .val (.int v4), .val (.int v6), .val (.int v8), .val (.int v10), .val (.int v12), .val (.ref b38), .val (.ref b44), .unset, .unset, .unset, .unset, .unset, .unset] [(.long (v10.toInt64)), (.long ((v8.toInt64) * (v4.toInt64)))])) t
          refine XS.ladd X51.here hx rfl (hb hby at_154) rfl ?_
          show Steps p.tables e below (T51.setTop (mkF m 155 #[.val (.int p0), .val (.int p1), .val (.int p2), .val (.int p3), .val (.int p4), .val (.int p5), .val (.int v1), .val (.int v2), .val (.int v4), .val (.int v6), .val (.int v8), .val (.int v10), .val (.int v12), .val (.ref b38), .val (.ref b44), .unset, .unset, .unset, .unset, .unset, .unset] [(.long (((v8.toInt64) * (v4.toInt64)) + (v10.toInt64)))])) t
          refine Own.nmJ hv53 ?_
          show Steps p.tables e below (T51.setTop (mkF m 155 #[.val (.int p0), .val (.int p1), .val (.int p2), .val (.int p3), .val (.int p4), .val (.int p5), .val (.int v1), .val (.int v2), .val (.int v4), .val (.int v6), .val (.int v8), .val (.int v10), .val (.int v12), .val (.ref b38), .val (.ref b44), .unset, .unset, .unset, .unset, .unset, .unset] [(.long v53)])) t
          refine XS.lstore X51.here hx rfl (hb hby at_155) rfl (l' := #[.val (.int p0), .val (.int p1), .val (.int p2), .val (.int p3), .val (.int p4), .val (.int p5), .val (.int v1), .val (.int v2), .val (.int v4), .val (.int v6), .val (.int v8), .val (.int v10), .val (.int v12), .val (.ref b38), .val (.ref b44), .val (.long v53), .second, .unset, .unset, .unset, .unset]) rfl ?_
          show Steps p.tables e below (T51.setTop (mkF m 157 #[.val (.int p0), .val (.int p1), .val (.int p2), .val (.int p3), .val (.int p4), .val (.int p5), .val (.int v1), .val (.int v2), .val (.int v4), .val (.int v6), .val (.int v8), .val (.int v10), .val (.int v12), .val (.ref b38), .val (.ref b44), .val (.long v53), .second, .unset, .unset, .unset, .unset] [])) t
          refine XS.goto X51.here hx rfl (pc0 := 157) (pc' := 232) rfl (hb hby at_157) (by decide) (by decide) ?_
          show Steps p.tables e below (T51.setTop (mkF m 232 #[.val (.int p0), .val (.int p1), .val (.int p2), .val (.int p3), .val (.int p4), .val (.int p5), .val (.int v1), .val (.int v2), .val (.int v4), .val (.int v6), .val (.int v8), .val (.int v10), .val (.int v12), .val (.ref b38), .val (.ref b44), .val (.long v53), .second, .unset, .unset, .unset, .unset] [])) t
          refine XS.aload X51.here hx rfl (hb hby at_232) rfl rfl ?_
          show Steps p.tables e below (T51.setTop (mkF m 234 #[.val (.int p0), .val (.int p1), .val (.int p2), .val (.int p3), .val (.int p4), .val (.int p5), .val (.int v1), .val (.int v2), .val (.int v4), .val (.int v6), .val (.int v8), .val (.int v10), .val (.int v12), .val (.ref b38), .val (.ref b44), .val (.long v53), .second, .unset, .unset, .unset, .unset] [(.ref b38)])) t
          refine XS.aload X51.here hx rfl (hb hby at_234) rfl rfl ?_
          show Steps p.tables e below (T51.setTop (mkF m 236 #[.val (.int p0), .val (.int p1), .val (.int p2), .val (.int p3), .val (.int p4), .val (.int p5), .val (.int v1), .val (.int v2), .val (.int v4), .val (.int v6), .val (.int v8), .val (.int v10), .val (.int v12), .val (.ref b38), .val (.ref b44), .val (.long v53), .second, .unset, .unset, .unset, .unset] [(.ref b44), (.ref b38)])) t
          refine st54 _ ?_
          show Steps p.tables e below (T54.setTop (mkF m 239 #[.val (.int p0), .val (.int p1), .val (.int p2), .val (.int p3), .val (.int p4), .val (.int p5), .val (.int v1), .val (.int v2), .val (.int v4), .val (.int v6), .val (.int v8), .val (.int v10), .val (.int v12), .val (.ref b38), .val (.ref b44), .val (.long v53), .second, .unset, .unset, .unset, .unset] [(.long (own_key 2 (fun i => if i = 1 then v4 else (fun i => if i = 0 then v2 else (fun _ => 0) i) i) (fun i => if i = 1 then v10 else (fun i => if i = 0 then v8 else (fun _ => 0) i) i)))])) t
          refine Own.nmJ hv55 ?_
          show Steps p.tables e below (T54.setTop (mkF m 239 #[.val (.int p0), .val (.int p1), .val (.int p2), .val (.int p3), .val (.int p4), .val (.int p5), .val (.int v1), .val (.int v2), .val (.int v4), .val (.int v6), .val (.int v8), .val (.int v10), .val (.int v12), .val (.ref b38), .val (.ref b44), .val (.long v53), .second, .unset, .unset, .unset, .unset] [(.long v55)])) t
          refine XS.lstore X54.here hx rfl (hb hby at_239) rfl (l' := #[.val (.int p0), .val (.int p1), .val (.int p2), .val (.int p3), .val (.int p4), .val (.int p5), .val (.int v1), .val (.int v2), .val (.int v4), .val (.int v6), .val (.int v8), .val (.int v10), .val (.int v12), .val (.ref b38), .val (.ref b44), .val (.long v53), .second, .val (.long v55), .second, .unset, .unset]) rfl ?_
          show Steps p.tables e below (T54.setTop (mkF m 241 #[.val (.int p0), .val (.int p1), .val (.int p2), .val (.int p3), .val (.int p4), .val (.int p5), .val (.int v1), .val (.int v2), .val (.int v4), .val (.int v6), .val (.int v8), .val (.int v10), .val (.int v12), .val (.ref b38), .val (.ref b44), .val (.long v53), .second, .val (.long v55), .second, .unset, .unset] [])) t
          refine XS.lload X54.here hx rfl (hb hby at_241) rfl ?_
          show Steps p.tables e below (T54.setTop (mkF m 243 #[.val (.int p0), .val (.int p1), .val (.int p2), .val (.int p3), .val (.int p4), .val (.int p5), .val (.int v1), .val (.int v2), .val (.int v4), .val (.int v6), .val (.int v8), .val (.int v10), .val (.int v12), .val (.ref b38), .val (.ref b44), .val (.long v53), .second, .val (.long v55), .second, .unset, .unset] [(.long v55)])) t
          refine XS.lload X54.here hx rfl (hb hby at_243) rfl ?_
          show Steps p.tables e below (T54.setTop (mkF m 245 #[.val (.int p0), .val (.int p1), .val (.int p2), .val (.int p3), .val (.int p4), .val (.int p5), .val (.int v1), .val (.int v2), .val (.int v4), .val (.int v6), .val (.int v8), .val (.int v10), .val (.int v12), .val (.ref b38), .val (.ref b44), .val (.long v53), .second, .val (.long v55), .second, .unset, .unset] [(.long v53), (.long v55)])) t
          refine XS.lcmp X54.here hx rfl (hb hby at_245) rfl ?_
          show Steps p.tables e below (T54.setTop (mkF m 246 #[.val (.int p0), .val (.int p1), .val (.int p2), .val (.int p3), .val (.int p4), .val (.int p5), .val (.int v1), .val (.int v2), .val (.int v4), .val (.int v6), .val (.int v8), .val (.int v10), .val (.int v12), .val (.ref b38), .val (.ref b44), .val (.long v53), .second, .val (.long v55), .second, .unset, .unset] [(.int (lcmpW v55 v53))])) t
          exact k
        have hc56 : v55 = v53 := by
          rw [hv55]; rw [hv53]
          simp [own_key, Int64.add_mul]
        refine hD _ (T54.setTop (mkF m 254 #[.val (.int p0), .val (.int p1), .val (.int p2), .val (.int p3), .val (.int p4), .val (.int p5), .val (.int v1), .val (.int v2), .val (.int v4), .val (.int v6), .val (.int v8), .val (.int v10), .val (.int v12), .val (.ref b38), .val (.ref b44), .val (.long v53), .second, .val (.long v55), .second, .unset, .unset] [(.int (1 : Int32))])) (fun t k => ?_) ?_
        · show Steps p.tables e below (T54.setTop (mkF m 246 #[.val (.int p0), .val (.int p1), .val (.int p2), .val (.int p3), .val (.int p4), .val (.int p5), .val (.int v1), .val (.int v2), .val (.int v4), .val (.int v6), .val (.int v8), .val (.int v10), .val (.int v12), .val (.ref b38), .val (.ref b44), .val (.long v53), .second, .val (.long v55), .second, .unset, .unset] [(.int (lcmpW v55 v53))])) t
          refine XS.ifNo X54.here hx rfl (hb hby at_246) rfl ((if0 _ _).trans (teq ((lw_eq v55 v53).mpr hc56)).2) ?_
          show Steps p.tables e below (T54.setTop (mkF m 249 #[.val (.int p0), .val (.int p1), .val (.int p2), .val (.int p3), .val (.int p4), .val (.int p5), .val (.int v1), .val (.int v2), .val (.int v4), .val (.int v6), .val (.int v8), .val (.int v10), .val (.int v12), .val (.ref b38), .val (.ref b44), .val (.long v53), .second, .val (.long v55), .second, .unset, .unset] [])) t
          refine XS.iconst X54.here hx rfl (hb hby at_249) ?_
          show Steps p.tables e below (T54.setTop (mkF m 250 #[.val (.int p0), .val (.int p1), .val (.int p2), .val (.int p3), .val (.int p4), .val (.int p5), .val (.int v1), .val (.int v2), .val (.int v4), .val (.int v6), .val (.int v8), .val (.int v10), .val (.int v12), .val (.ref b38), .val (.ref b44), .val (.long v53), .second, .val (.long v55), .second, .unset, .unset] [(.int (1 : Int32))])) t
          refine XS.goto X54.here hx rfl (pc0 := 250) (pc' := 254) rfl (hb hby at_250) (by decide) (by decide) ?_
          show Steps p.tables e below (T54.setTop (mkF m 254 #[.val (.int p0), .val (.int p1), .val (.int p2), .val (.int p3), .val (.int p4), .val (.int p5), .val (.int v1), .val (.int v2), .val (.int v4), .val (.int v6), .val (.int v8), .val (.int v10), .val (.int v12), .val (.ref b38), .val (.ref b44), .val (.long v53), .second, .val (.long v55), .second, .unset, .unset] [(.int (1 : Int32))])) t
          exact k
        exact Own.retN hR X54 hx (t := .boolean) hret (by simp) (hb hby at_254) (by decide) (by decide) (by decide) ⟨rfl, N54⟩
      · obtain ⟨T57, h57, k57, X57, e57, E57, A57, st57⟩ := newP X11 hx hZ (hw _ (List.mem_of_getElem? (i := 13) rfl)) e11 (g := (mkF m 161 #[.val (.int p0), .val (.int p1), .val (.int p2), .val (.int p3), .val (.int p4), .val (.int p5), .val (.int v1), .val (.int v2), .val (.int v4), .val (.int v6), .val (.int v8), .val (.int v10), .val (.int v12), .unset, .unset, .unset, .unset, .unset, .unset, .unset, .unset] [(.int (3 : Int32))])) rfl (hb hby at_161) rfl (by decide) (cap := 3) (by decide) (by decide) (by decide) (by decide)
        obtain ⟨b57, g_b57⟩ : ∃ z : Nat, z = h0.size := ⟨_, rfl⟩
        rw [← g_b57] at A57 st57
        have g0_b57 : n0 ≤ b57 := by rw [g_b57]; exact Z0
        have f58 : Own.AvI Z h57 b57 .int 3 (fun _ => 0) := Own.AvI.new A57 (by decide) rfl
        have Z57 : n0 ≤ h57.size := Nat.le_trans Z0 E57.1
        have hj59 : 0 ≤ (0 : Int32).toInt ∧ (0 : Int32).toInt < (3 : Nat) := ⟨by decide, by decide⟩
        obtain ⟨T60, h60, X60, e60, A60, W60, st60⟩ := Own.stoI X57 hx hZ e57 f58 hj59 (g := (mkF m 167 #[.val (.int p0), .val (.int p1), .val (.int p2), .val (.int p3), .val (.int p4), .val (.int p5), .val (.int v1), .val (.int v2), .val (.int v4), .val (.int v6), .val (.int v8), .val (.int v10), .val (.int v12), .unset, .unset, .unset, .unset, .unset, .unset, .unset, .unset] [(.int v2), (.int (0 : Int32)), (.ref b57), (.ref b57)])) rfl rfl (hb hby at_167)
        have N60 := Fr.snoc X60 N11 (show n0 ≤ b57 by omega)
        have Z60 : n0 ≤ h60.size := Nat.le_trans Z57 (Keep.of_wr W60).1
        have hj61 : 0 ≤ (1 : Int32).toInt ∧ (1 : Int32).toInt < (3 : Nat) := ⟨by decide, by decide⟩
        obtain ⟨T62, h62, X62, e62, A62, W62, st62⟩ := Own.stoI X60 hx hZ e60 A60 hj61 (g := (mkF m 172 #[.val (.int p0), .val (.int p1), .val (.int p2), .val (.int p3), .val (.int p4), .val (.int p5), .val (.int v1), .val (.int v2), .val (.int v4), .val (.int v6), .val (.int v8), .val (.int v10), .val (.int v12), .unset, .unset, .unset, .unset, .unset, .unset, .unset, .unset] [(.int v4), (.int (1 : Int32)), (.ref b57), (.ref b57)])) rfl rfl (hb hby at_172)
        have N62 := Fr.snoc X62 N60 (show n0 ≤ b57 by omega)
        have Z62 : n0 ≤ h62.size := Nat.le_trans Z60 (Keep.of_wr W62).1
        have hj63 : 0 ≤ (2 : Int32).toInt ∧ (2 : Int32).toInt < (3 : Nat) := ⟨by decide, by decide⟩
        obtain ⟨T64, h64, X64, e64, A64, W64, st64⟩ := Own.stoI X62 hx hZ e62 A62 hj63 (g := (mkF m 177 #[.val (.int p0), .val (.int p1), .val (.int p2), .val (.int p3), .val (.int p4), .val (.int p5), .val (.int v1), .val (.int v2), .val (.int v4), .val (.int v6), .val (.int v8), .val (.int v10), .val (.int v12), .unset, .unset, .unset, .unset, .unset, .unset, .unset, .unset] [(.int v6), (.int (2 : Int32)), (.ref b57), (.ref b57)])) rfl rfl (hb hby at_177)
        have N64 := Fr.snoc X64 N62 (show n0 ≤ b57 by omega)
        have Z64 : n0 ≤ h64.size := Nat.le_trans Z62 (Keep.of_wr W64).1
        obtain ⟨T65, h65, k65, X65, e65, E65, A65, st65⟩ := newP X64 hx hZ (hw _ (List.mem_of_getElem? (i := 13) rfl)) e64 (g := (mkF m 181 #[.val (.int p0), .val (.int p1), .val (.int p2), .val (.int p3), .val (.int p4), .val (.int p5), .val (.int v1), .val (.int v2), .val (.int v4), .val (.int v6), .val (.int v8), .val (.int v10), .val (.int v12), .val (.ref b57), .unset, .unset, .unset, .unset, .unset, .unset, .unset] [(.int (3 : Int32))])) rfl (hb hby at_181) rfl (by decide) (cap := 3) (by decide) (by decide) (by decide) (by decide)
        obtain ⟨b65, g_b65⟩ : ∃ z : Nat, z = h64.size := ⟨_, rfl⟩
        rw [← g_b65] at A65 st65
        have lt_b57_b65 : (b57 : Nat) < b65 := by rw [g_b65]; exact A64.lt
        have g0_b65 : n0 ≤ b65 := by rw [g_b65]; exact Z64
        have f66 : Own.AvI Z h65 b57 .int 3 (fun i => if i = 2 then v6 else (fun i => if i = 1 then v4 else (fun i => if i = 0 then v2 else (fun _ => 0) i) i) i) := A64.ext E65
        have f67 : Own.AvI Z h65 b65 .int 3 (fun _ => 0) := Own.AvI.new A65 (by decide) rfl
        have Z65 : n0 ≤ h65.size := Nat.le_trans Z64 E65.1
        have hj68 : 0 ≤ (0 : Int32).toInt ∧ (0 : Int32).toInt < (3 : Nat) := ⟨by decide, by decide⟩
        obtain ⟨T69, h69, X69, e69, A69, W69, st69⟩ := Own.stoI X65 hx hZ e65 f67 hj68 (g := (mkF m 187 #[.val (.int p0), .val (.int p1), .val (.int p2), .val (.int p3), .val (.int p4), .val (.int p5), .val (.int v1), .val (.int v2), .val (.int v4), .val (.int v6), .val (.int v8), .val (.int v10), .val (.int v12), .val (.ref b57), .unset, .unset, .unset, .unset, .unset, .unset, .unset] [(.int v8), (.int (0 : Int32)), (.ref b65), (.ref b65)])) rfl rfl (hb hby at_187)
        have f70 : Own.AvI Z h69 b57 .int 3 (fun i => if i = 2 then v6 else (fun i => if i = 1 then v4 else (fun i => if i = 0 then v2 else (fun _ => 0) i) i) i) := f66.other W69 (Own.ne_of (by omega))
        have N69 := Fr.snoc X69 N64 (show n0 ≤ b65 by omega)
        have Z69 : n0 ≤ h69.size := Nat.le_trans Z65 (Keep.of_wr W69).1
        have hj71 : 0 ≤ (1 : Int32).toInt ∧ (1 : Int32).toInt < (3 : Nat) := ⟨by decide, by decide⟩
        obtain ⟨T72, h72, X72, e72, A72, W72, st72⟩ := Own.stoI X69 hx hZ e69 A69 hj71 (g := (mkF m 192 #[.val (.int p0), .val (.int p1), .val (.int p2), .val (.int p3), .val (.int p4), .val (.int p5), .val (.int v1), .val (.int v2), .val (.int v4), .val (.int v6), .val (.int v8), .val (.int v10), .val (.int v12), .val (.ref b57), .unset, .unset, .unset, .unset, .unset, .unset, .unset] [(.int v10), (.int (1 : Int32)), (.ref b65), (.ref b65)])) rfl rfl (hb hby at_192)
        have f73 : Own.AvI Z h72 b57 .int 3 (fun i => if i = 2 then v6 else (fun i => if i = 1 then v4 else (fun i => if i = 0 then v2 else (fun _ => 0) i) i) i) := f70.other W72 (Own.ne_of (by omega))
        have N72 := Fr.snoc X72 N69 (show n0 ≤ b65 by omega)
        have Z72 : n0 ≤ h72.size := Nat.le_trans Z69 (Keep.of_wr W72).1
        have hj74 : 0 ≤ (2 : Int32).toInt ∧ (2 : Int32).toInt < (3 : Nat) := ⟨by decide, by decide⟩
        obtain ⟨T75, h75, X75, e75, A75, W75, st75⟩ := Own.stoI X72 hx hZ e72 A72 hj74 (g := (mkF m 197 #[.val (.int p0), .val (.int p1), .val (.int p2), .val (.int p3), .val (.int p4), .val (.int p5), .val (.int v1), .val (.int v2), .val (.int v4), .val (.int v6), .val (.int v8), .val (.int v10), .val (.int v12), .val (.ref b57), .unset, .unset, .unset, .unset, .unset, .unset, .unset] [(.int v12), (.int (2 : Int32)), (.ref b65), (.ref b65)])) rfl rfl (hb hby at_197)
        have f76 : Own.AvI Z h75 b57 .int 3 (fun i => if i = 2 then v6 else (fun i => if i = 1 then v4 else (fun i => if i = 0 then v2 else (fun _ => 0) i) i) i) := f73.other W75 (Own.ne_of (by omega))
        have N75 := Fr.snoc X75 N72 (show n0 ≤ b65 by omega)
        have Z75 : n0 ≤ h75.size := Nat.le_trans Z72 (Keep.of_wr W75).1
        obtain ⟨v77, hv77⟩ : ∃ z : Int64, z = (v4.toInt64) := ⟨_, rfl⟩
        obtain ⟨v78, hv78⟩ : ∃ z : Int64, z = (v6.toInt64) := ⟨_, rfl⟩
        obtain ⟨v79, hv79⟩ : ∃ z : Int64, z = (((((v8.toInt64) * v77) * v78) + ((v10.toInt64) * v78)) + (v12.toInt64)) := ⟨_, rfl⟩
        obtain ⟨T80, _, L80, X80, ⟨rfl, Nq80, e80⟩, st80⟩ := Own.callS (y := (⟨"com/example/ballast/ballast/model/CostTable", "key", "([I[I)J"⟩ : MethodName)) (W := 0) (argsL := [(.ref b57), (.ref b65)]) (rest := []) X75 hx hZ hown (hw _ (List.mem_of_getElem? (i := 14) rfl)) (hw _ (List.mem_of_getElem? (i := 15) rfl)) (hw _ (List.mem_of_getElem? (i := 16) rfl)) (hw _ (List.mem_of_getElem? (i := 17) rfl)) (by decide) e75 (rm13 l Z a0 hw [] b57 b65 (fun i => if i = 2 then v6 else (fun i => if i = 1 then v4 else (fun i => if i = 0 then v2 else (fun _ => 0) i) i) i) (fun i => if i = 2 then v12 else (fun i => if i = 1 then v10 else (fun i => if i = 0 then v8 else (fun _ => 0) i) i) i) h75 n0 f76 A75) (by decide) (by decide) (by decide) (by decide) (g := (mkF m 236 #[.val (.int p0), .val (.int p1), .val (.int p2), .val (.int p3), .val (.int p4), .val (.int p5), .val (.int v1), .val (.int v2), .val (.int v4), .val (.int v6), .val (.int v8), .val (.int v10), .val (.int v12), .val (.ref b57), .val (.ref b65), .val (.long v79), .second, .val (.long v77), .second, .val (.long v78), .second] [(.ref b65), (.ref b57)])) rfl (by rw [hml]; rfl) (lenOf pd_2 rfl) rfl (by show 2 * 0 + _ ≤ _; exact Nat.le_of_eq rfl) (hb hby at_236)
        have N80 := Fr.app N75 Nq80
        obtain ⟨v81, hv81⟩ : ∃ z : Int64, z = (own_key 3 (fun i => if i = 2 then v6 else (fun i => if i = 1 then v4 else (fun i => if i = 0 then v2 else (fun _ => 0) i) i) i) (fun i => if i = 2 then v12 else (fun i => if i = 1 then v10 else (fun i => if i = 0 then v8 else (fun _ => 0) i) i) i)) := ⟨_, rfl⟩
        refine hD _ (T80.setTop (mkF m 246 #[.val (.int p0), .val (.int p1), .val (.int p2), .val (.int p3), .val (.int p4), .val (.int p5), .val (.int v1), .val (.int v2), .val (.int v4), .val (.int v6), .val (.int v8), .val (.int v10), .val (.int v12), .val (.ref b57), .val (.ref b65), .val (.long v79), .second, .val (.long v81), .second, .val (.long v78), .second] [(.int (lcmpW v81 v79))])) (fun t k => ?_) ?_
        · show Steps p.tables e below (T11.setTop (mkF m 111 #[.val (.int p0), .val (.int p1), .val (.int p2), .val (.int p3), .val (.int p4), .val (.int p5), .val (.int v1), .val (.int v2), .val (.int v4), .val (.int v6), .val (.int v8), .val (.int v10), .val (.int v12), .unset, .unset, .unset, .unset, .unset, .unset, .unset, .unset] [(.int (2 : Int32)), (.int v1)])) t
          refine XS.icmpYes X11.here hx rfl (pc0 := 111) (pc' := 160) rfl (hb hby at_111) rfl (feq hc37).2 (by decide) (by decide) ?_
          show Steps p.tables e below (T11.setTop (mkF m 160 #[.val (.int p0), .val (.int p1), .val (.int p2), .val (.int p3), .val (.int p4), .val (.int p5), .val (.int v1), .val (.int v2), .val (.int v4), .val (.int v6), .val (.int v8), .val (.int v10), .val (.int v12), .unset, .unset, .unset, .unset, .unset, .unset, .unset, .unset] [])) t
          refine XS.iconst X11.here hx rfl (hb hby at_160) ?_
          show Steps p.tables e below (T11.setTop (mkF m 161 #[.val (.int p0), .val (.int p1), .val (.int p2), .val (.int p3), .val (.int p4), .val (.int p5), .val (.int v1), .val (.int v2), .val (.int v4), .val (.int v6), .val (.int v8), .val (.int v10), .val (.int v12), .unset, .unset, .unset, .unset, .unset, .unset, .unset, .unset] [(.int (3 : Int32))])) t
          refine st57 _ ?_
          show Steps p.tables e below (T57.setTop (mkF m 163 #[.val (.int p0), .val (.int p1), .val (.int p2), .val (.int p3), .val (.int p4), .val (.int p5), .val (.int v1), .val (.int v2), .val (.int v4), .val (.int v6), .val (.int v8), .val (.int v10), .val (.int v12), .unset, .unset, .unset, .unset, .unset, .unset, .unset, .unset] [(.ref b57)])) t
          refine XS.dup X57.here hx rfl (hb hby at_163) rfl rfl ?_
          show Steps p.tables e below (T57.setTop (mkF m 164 #[.val (.int p0), .val (.int p1), .val (.int p2), .val (.int p3), .val (.int p4), .val (.int p5), .val (.int v1), .val (.int v2), .val (.int v4), .val (.int v6), .val (.int v8), .val (.int v10), .val (.int v12), .unset, .unset, .unset, .unset, .unset, .unset, .unset, .unset] [(.ref b57), (.ref b57)])) t
          refine XS.iconst X57.here hx rfl (hb hby at_164) ?_
          show Steps p.tables e below (T57.setTop (mkF m 165 #[.val (.int p0), .val (.int p1), .val (.int p2), .val (.int p3), .val (.int p4), .val (.int p5), .val (.int v1), .val (.int v2), .val (.int v4), .val (.int v6), .val (.int v8), .val (.int v10), .val (.int v12), .unset, .unset, .unset, .unset, .unset, .unset, .unset, .unset] [(.int (0 : Int32)), (.ref b57), (.ref b57)])) t
          refine XS.iload X57.here hx rfl (hb hby at_165) rfl ?_
          show Steps p.tables e below (T57.setTop (mkF m 167 #[.val (.int p0), .val (.int p1), .val (.int p2), .val (.int p3), .val (.int p4), .val (.int p5), .val (.int v1), .val (.int v2), .val (.int v4), .val (.int v6), .val (.int v8), .val (.int v10), .val (.int v12), .unset, .unset, .unset, .unset, .unset, .unset, .unset, .unset] [(.int v2), (.int (0 : Int32)), (.ref b57), (.ref b57)])) t
          refine st60 _ ?_
          show Steps p.tables e below (T60.setTop (mkF m 168 #[.val (.int p0), .val (.int p1), .val (.int p2), .val (.int p3), .val (.int p4), .val (.int p5), .val (.int v1), .val (.int v2), .val (.int v4), .val (.int v6), .val (.int v8), .val (.int v10), .val (.int v12), .unset, .unset, .unset, .unset, .unset, .unset, .unset, .unset] [(.ref b57)])) t
          refine XS.dup X60.here hx rfl (hb hby at_168) rfl rfl ?_
          show Steps p.tables e below (T60.setTop (mkF m 169 #[.val (.int p0), .val (.int p1), .val (.int p2), .val (.int p3), .val (.int p4), .val (.int p5), .val (.int v1), .val (.int v2), .val (.int v4), .val (.int v6), .val (.int v8), .val (.int v10), .val (.int v12), .unset, .unset, .unset, .unset, .unset, .unset, .unset, .unset] [(.ref b57), (.ref b57)])) t
          refine XS.iconst X60.here hx rfl (hb hby at_169) ?_
          show Steps p.tables e below (T60.setTop (mkF m 170 #[.val (.int p0), .val (.int p1), .val (.int p2), .val (.int p3), .val (.int p4), .val (.int p5), .val (.int v1), .val (.int v2), .val (.int v4), .val (.int v6), .val (.int v8), .val (.int v10), .val (.int v12), .unset, .unset, .unset, .unset, .unset, .unset, .unset, .unset] [(.int (1 : Int32)), (.ref b57), (.ref b57)])) t
          refine XS.iload X60.here hx rfl (hb hby at_170) rfl ?_
          show Steps p.tables e below (T60.setTop (mkF m 172 #[.val (.int p0), .val (.int p1), .val (.int p2), .val (.int p3), .val (.int p4), .val (.int p5), .val (.int v1), .val (.int v2), .val (.int v4), .val (.int v6), .val (.int v8), .val (.int v10), .val (.int v12), .unset, .unset, .unset, .unset, .unset, .unset, .unset, .unset] [(.int v4), (.int (1 : Int32)), (.ref b57), (.ref b57)])) t
          refine st62 _ ?_
          show Steps p.tables e below (T62.setTop (mkF m 173 #[.val (.int p0), .val (.int p1), .val (.int p2), .val (.int p3), .val (.int p4), .val (.int p5), .val (.int v1), .val (.int v2), .val (.int v4), .val (.int v6), .val (.int v8), .val (.int v10), .val (.int v12), .unset, .unset, .unset, .unset, .unset, .unset, .unset, .unset] [(.ref b57)])) t
          refine XS.dup X62.here hx rfl (hb hby at_173) rfl rfl ?_
          show Steps p.tables e below (T62.setTop (mkF m 174 #[.val (.int p0), .val (.int p1), .val (.int p2), .val (.int p3), .val (.int p4), .val (.int p5), .val (.int v1), .val (.int v2), .val (.int v4), .val (.int v6), .val (.int v8), .val (.int v10), .val (.int v12), .unset, .unset, .unset, .unset, .unset, .unset, .unset, .unset] [(.ref b57), (.ref b57)])) t
          refine XS.iconst X62.here hx rfl (hb hby at_174) ?_
          show Steps p.tables e below (T62.setTop (mkF m 175 #[.val (.int p0), .val (.int p1), .val (.int p2), .val (.int p3), .val (.int p4), .val (.int p5), .val (.int v1), .val (.int v2), .val (.int v4), .val (.int v6), .val (.int v8), .val (.int v10), .val (.int v12), .unset, .unset, .unset, .unset, .unset, .unset, .unset, .unset] [(.int (2 : Int32)), (.ref b57), (.ref b57)])) t
          refine XS.iload X62.here hx rfl (hb hby at_175) rfl ?_
          show Steps p.tables e below (T62.setTop (mkF m 177 #[.val (.int p0), .val (.int p1), .val (.int p2), .val (.int p3), .val (.int p4), .val (.int p5), .val (.int v1), .val (.int v2), .val (.int v4), .val (.int v6), .val (.int v8), .val (.int v10), .val (.int v12), .unset, .unset, .unset, .unset, .unset, .unset, .unset, .unset] [(.int v6), (.int (2 : Int32)), (.ref b57), (.ref b57)])) t
          refine st64 _ ?_
          show Steps p.tables e below (T64.setTop (mkF m 178 #[.val (.int p0), .val (.int p1), .val (.int p2), .val (.int p3), .val (.int p4), .val (.int p5), .val (.int v1), .val (.int v2), .val (.int v4), .val (.int v6), .val (.int v8), .val (.int v10), .val (.int v12), .unset, .unset, .unset, .unset, .unset, .unset, .unset, .unset] [(.ref b57)])) t
          refine XS.astore X64.here hx rfl (hb hby at_178) rfl rfl (l' := #[.val (.int p0), .val (.int p1), .val (.int p2), .val (.int p3), .val (.int p4), .val (.int p5), .val (.int v1), .val (.int v2), .val (.int v4), .val (.int v6), .val (.int v8), .val (.int v10), .val (.int v12), .val (.ref b57), .unset, .unset, .unset, .unset, .unset, .unset, .unset]) rfl ?_
          show Steps p.tables e below (T64.setTop (mkF m 180 #[.val (.int p0), .val (.int p1), .val (.int p2), .val (.int p3), .val (.int p4), .val (.int p5), .val (.int v1), .val (.int v2), .val (.int v4), .val (.int v6), .val (.int v8), .val (.int v10), .val (.int v12), .val (.ref b57), .unset, .unset, .unset, .unset, .unset, .unset, .unset] [])) t
          refine XS.iconst X64.here hx rfl (hb hby at_180) ?_
          show Steps p.tables e below (T64.setTop (mkF m 181 #[.val (.int p0), .val (.int p1), .val (.int p2), .val (.int p3), .val (.int p4), .val (.int p5), .val (.int v1), .val (.int v2), .val (.int v4), .val (.int v6), .val (.int v8), .val (.int v10), .val (.int v12), .val (.ref b57), .unset, .unset, .unset, .unset, .unset, .unset, .unset] [(.int (3 : Int32))])) t
          refine st65 _ ?_
          show Steps p.tables e below (T65.setTop (mkF m 183 #[.val (.int p0), .val (.int p1), .val (.int p2), .val (.int p3), .val (.int p4), .val (.int p5), .val (.int v1), .val (.int v2), .val (.int v4), .val (.int v6), .val (.int v8), .val (.int v10), .val (.int v12), .val (.ref b57), .unset, .unset, .unset, .unset, .unset, .unset, .unset] [(.ref b65)])) t
          refine XS.dup X65.here hx rfl (hb hby at_183) rfl rfl ?_
          show Steps p.tables e below (T65.setTop (mkF m 184 #[.val (.int p0), .val (.int p1), .val (.int p2), .val (.int p3), .val (.int p4), .val (.int p5), .val (.int v1), .val (.int v2), .val (.int v4), .val (.int v6), .val (.int v8), .val (.int v10), .val (.int v12), .val (.ref b57), .unset, .unset, .unset, .unset, .unset, .unset, .unset] [(.ref b65), (.ref b65)])) t
          refine XS.iconst X65.here hx rfl (hb hby at_184) ?_
          show Steps p.tables e below (T65.setTop (mkF m 185 #[.val (.int p0), .val (.int p1), .val (.int p2), .val (.int p3), .val (.int p4), .val (.int p5), .val (.int v1), .val (.int v2), .val (.int v4), .val (.int v6), .val (.int v8), .val (.int v10), .val (.int v12), .val (.ref b57), .unset, .unset, .unset, .unset, .unset, .unset, .unset] [(.int (0 : Int32)), (.ref b65), (.ref b65)])) t
          refine XS.iload X65.here hx rfl (hb hby at_185) rfl ?_
          show Steps p.tables e below (T65.setTop (mkF m 187 #[.val (.int p0), .val (.int p1), .val (.int p2), .val (.int p3), .val (.int p4), .val (.int p5), .val (.int v1), .val (.int v2), .val (.int v4), .val (.int v6), .val (.int v8), .val (.int v10), .val (.int v12), .val (.ref b57), .unset, .unset, .unset, .unset, .unset, .unset, .unset] [(.int v8), (.int (0 : Int32)), (.ref b65), (.ref b65)])) t
          refine st69 _ ?_
          show Steps p.tables e below (T69.setTop (mkF m 188 #[.val (.int p0), .val (.int p1), .val (.int p2), .val (.int p3), .val (.int p4), .val (.int p5), .val (.int v1), .val (.int v2), .val (.int v4), .val (.int v6), .val (.int v8), .val (.int v10), .val (.int v12), .val (.ref b57), .unset, .unset, .unset, .unset, .unset, .unset, .unset] [(.ref b65)])) t
          refine XS.dup X69.here hx rfl (hb hby at_188) rfl rfl ?_
          show Steps p.tables e below (T69.setTop (mkF m 189 #[.val (.int p0), .val (.int p1), .val (.int p2), .val (.int p3), .val (.int p4), .val (.int p5), .val (.int v1), .val (.int v2), .val (.int v4), .val (.int v6), .val (.int v8), .val (.int v10), .val (.int v12), .val (.ref b57), .unset, .unset, .unset, .unset, .unset, .unset, .unset] [(.ref b65), (.ref b65)])) t
          refine XS.iconst X69.here hx rfl (hb hby at_189) ?_
          show Steps p.tables e below (T69.setTop (mkF m 190 #[.val (.int p0), .val (.int p1), .val (.int p2), .val (.int p3), .val (.int p4), .val (.int p5), .val (.int v1), .val (.int v2), .val (.int v4), .val (.int v6), .val (.int v8), .val (.int v10), .val (.int v12), .val (.ref b57), .unset, .unset, .unset, .unset, .unset, .unset, .unset] [(.int (1 : Int32)), (.ref b65), (.ref b65)])) t
          refine XS.iload X69.here hx rfl (hb hby at_190) rfl ?_
          show Steps p.tables e below (T69.setTop (mkF m 192 #[.val (.int p0), .val (.int p1), .val (.int p2), .val (.int p3), .val (.int p4), .val (.int p5), .val (.int v1), .val (.int v2), .val (.int v4), .val (.int v6), .val (.int v8), .val (.int v10), .val (.int v12), .val (.ref b57), .unset, .unset, .unset, .unset, .unset, .unset, .unset] [(.int v10), (.int (1 : Int32)), (.ref b65), (.ref b65)])) t
          refine st72 _ ?_
          show Steps p.tables e below (T72.setTop (mkF m 193 #[.val (.int p0), .val (.int p1), .val (.int p2), .val (.int p3), .val (.int p4), .val (.int p5), .val (.int v1), .val (.int v2), .val (.int v4), .val (.int v6), .val (.int v8), .val (.int v10), .val (.int v12), .val (.ref b57), .unset, .unset, .unset, .unset, .unset, .unset, .unset] [(.ref b65)])) t
          refine XS.dup X72.here hx rfl (hb hby at_193) rfl rfl ?_
          show Steps p.tables e below (T72.setTop (mkF m 194 #[.val (.int p0), .val (.int p1), .val (.int p2), .val (.int p3), .val (.int p4), .val (.int p5), .val (.int v1), .val (.int v2), .val (.int v4), .val (.int v6), .val (.int v8), .val (.int v10), .val (.int v12), .val (.ref b57), .unset, .unset, .unset, .unset, .unset, .unset, .unset] [(.ref b65), (.ref b65)])) t
          refine XS.iconst X72.here hx rfl (hb hby at_194) ?_
          show Steps p.tables e below (T72.setTop (mkF m 195 #[.val (.int p0), .val (.int p1), .val (.int p2), .val (.int p3), .val (.int p4), .val (.int p5), .val (.int v1), .val (.int v2), .val (.int v4), .val (.int v6), .val (.int v8), .val (.int v10), .val (.int v12), .val (.ref b57), .unset, .unset, .unset, .unset, .unset, .unset, .unset] [(.int (2 : Int32)), (.ref b65), (.ref b65)])) t
          refine XS.iload X72.here hx rfl (hb hby at_195) rfl ?_
          show Steps p.tables e below (T72.setTop (mkF m 197 #[.val (.int p0), .val (.int p1), .val (.int p2), .val (.int p3), .val (.int p4), .val (.int p5), .val (.int v1), .val (.int v2), .val (.int v4), .val (.int v6), .val (.int v8), .val (.int v10), .val (.int v12), .val (.ref b57), .unset, .unset, .unset, .unset, .unset, .unset, .unset] [(.int v12), (.int (2 : Int32)), (.ref b65), (.ref b65)])) t
          refine st75 _ ?_
          show Steps p.tables e below (T75.setTop (mkF m 198 #[.val (.int p0), .val (.int p1), .val (.int p2), .val (.int p3), .val (.int p4), .val (.int p5), .val (.int v1), .val (.int v2), .val (.int v4), .val (.int v6), .val (.int v8), .val (.int v10), .val (.int v12), .val (.ref b57), .unset, .unset, .unset, .unset, .unset, .unset, .unset] [(.ref b65)])) t
          refine XS.astore X75.here hx rfl (hb hby at_198) rfl rfl (l' := #[.val (.int p0), .val (.int p1), .val (.int p2), .val (.int p3), .val (.int p4), .val (.int p5), .val (.int v1), .val (.int v2), .val (.int v4), .val (.int v6), .val (.int v8), .val (.int v10), .val (.int v12), .val (.ref b57), .val (.ref b65), .unset, .unset, .unset, .unset, .unset, .unset]) rfl ?_
          show Steps p.tables e below (T75.setTop (mkF m 200 #[.val (.int p0), .val (.int p1), .val (.int p2), .val (.int p3), .val (.int p4), .val (.int p5), .val (.int v1), .val (.int v2), .val (.int v4), .val (.int v6), .val (.int v8), .val (.int v10), .val (.int v12), .val (.ref b57), .val (.ref b65), .unset, .unset, .unset, .unset, .unset, .unset] [])) t
          refine XS.iload X75.here hx rfl (hb hby at_200) rfl ?_
          show Steps p.tables e below (T75.setTop (mkF m 202 #[.val (.int p0), .val (.int p1), .val (.int p2), .val (.int p3), .val (.int p4), .val (.int p5), .val (.int v1), .val (.int v2), .val (.int v4), .val (.int v6), .val (.int v8), .val (.int v10), .val (.int v12), .val (.ref b57), .val (.ref b65), .unset, .unset, .unset, .unset, .unset, .unset] [(.int v4)])) t
          refine XS.i2l X75.here hx rfl (hb hby at_202) rfl ?_
          show Steps p.tables e below (T75.setTop (mkF m 203 #[.val (.int p0), .val (.int p1), .val (.int p2), .val (.int p3), .val (.int p4), .val (.int p5), .val (.int v1), .val (.int v2), .val (.int v4), .val (.int v6), .val (.int v8), .val (.int v10), .val (.int v12), .val (.ref b57), .val (.ref b65), .unset, .unset, .unset, .unset, .unset, .unset] [(.long (v4.toInt64))])) t
          refine Own.nmJ hv77 ?_
          show Steps p.tables e below (T75.setTop (mkF m 203 #[.val (.int p0), .val (.int p1), .val (.int p2), .val (.int p3), .val (.int p4), .val (.int p5), .val (.int v1), .val (.int v2), .val (.int v4), .val (.int v6), .val (.int v8), .val (.int v10), .val (.int v12), .val (.ref b57), .val (.ref b65), .unset, .unset, .unset, .unset, .unset, .unset] [(.long v77)])) t
          refine XS.lstore X75.here hx rfl (hb hby at_203) rfl (l' := #[.val (.int p0), .val (.int p1), .val (.int p2), .val (.int p3), .val (.int p4), .val (.int p5), .val (.int v1), .val (.int v2), .val (.int v4), .val (.int v6), .val (.int v8), .val (.int v10), .val (.int v12), .val (.ref b57), .val (.ref b65), .unset, .unset, .val (.long v77), .second, .unset, .unset]) rfl ?_
          show Steps p.tables e below (T75.setTop (mkF m 205 #[.val (.int p0), .val (.int p1), .val (.int p2), .val (.int p3), .val (.int p4), .val (.int p5), .val (.int v1), .val (.int v2), .val (.int v4), .val (.int v6), .val (.int v8), .val (.int v10), .val (.int v12), .val (.ref b57), .val (.ref b65), .unset, .unset, .val (.long v77), .second, .unset, .unset] [])) t
          refine XS.iload X75.here hx rfl (hb hby at_205) rfl ?_
          show Steps p.tables e below (T75.setTop (mkF m 207 #[.val (.int p0), .val (.int p1), .val (.int p2), .val (.int p3), .val (.int p4), .val (.int p5), .val (.int v1), .val (.int v2), .val (.int v4), .val (.int v6), .val (.int v8), .val (.int v10), .val (.int v12), .val (.ref b57), .val (.ref b65), .unset, .unset, .val (.long v77), .second, .unset, .unset] [(.int v6)])) t
          refine XS.i2l X75.here hx rfl (hb hby at_207) rfl ?_
          show Steps p.tables e below (T75.setTop (mkF m 208 #[.val (.int p0), .val (.int p1), .val (.int p2), .val (.int p3), .val (.int p4), .val (.int p5), .val (.int v1), .val (.int v2), .val (.int v4), .val (.int v6), .val (.int v8), .val (.int v10), .val (.int v12), .val (.ref b57), .val (.ref b65), .unset, .unset, .val (.long v77), .second, .unset, .unset] [(.long (v6.toInt64))])) t
          refine Own.nmJ hv78 ?_
          show Steps p.tables e below (T75.setTop (mkF m 208 #[.val (.int p0), .val (.int p1), .val (.int p2), .val (.int p3), .val (.int p4), .val (.int p5), .val (.int v1), .val (.int v2), .val (.int v4), .val (.int v6), .val (.int v8), .val (.int v10), .val (.int v12), .val (.ref b57), .val (.ref b65), .unset, .unset, .val (.long v77), .second, .unset, .unset] [(.long v78)])) t
          refine XS.lstore X75.here hx rfl (hb hby at_208) rfl (l' := #[.val (.int p0), .val (.int p1), .val (.int p2), .val (.int p3), .val (.int p4), .val (.int p5), .val (.int v1), .val (.int v2), .val (.int v4), .val (.int v6), .val (.int v8), .val (.int v10), .val (.int v12), .val (.ref b57), .val (.ref b65), .unset, .unset, .val (.long v77), .second, .val (.long v78), .second]) rfl ?_
          show Steps p.tables e below (T75.setTop (mkF m 210 #[.val (.int p0), .val (.int p1), .val (.int p2), .val (.int p3), .val (.int p4), .val (.int p5), .val (.int v1), .val (.int v2), .val (.int v4), .val (.int v6), .val (.int v8), .val (.int v10), .val (.int v12), .val (.ref b57), .val (.ref b65), .unset, .unset, .val (.long v77), .second, .val (.long v78), .second] [])) t
          refine XS.iload X75.here hx rfl (hb hby at_210) rfl ?_
          show Steps p.tables e below (T75.setTop (mkF m 212 #[.val (.int p0), .val (.int p1), .val (.int p2), .val (.int p3), .val (.int p4), .val (.int p5), .val (.int v1), .val (.int v2), .val (.int v4), .val (.int v6), .val (.int v8), .val (.int v10), .val (.int v12), .val (.ref b57), .val (.ref b65), .unset, .unset, .val (.long v77), .second, .val (.long v78), .second] [(.int v8)])) t
          refine XS.i2l X75.here hx rfl (hb hby at_212) rfl ?_
          show Steps p.tables e below (T75.setTop (mkF m 213 #[.val (.int p0), .val (.int p1), .val (.int p2), .val (.int p3), .val (.int p4), .val (.int p5), .val (.int v1), .val (.int v2), .val (.int v4), .val (.int v6), .val (.int v8), .val (.int v10), .val (.int v12), .val (.ref b57), .val (.ref b65), .unset, .unset, .val (.long v77), .second, .val (.long v78), .second] [(.long (v8.toInt64))])) t
          refine XS.lload X75.here hx rfl (hb hby at_213) rfl ?_
          show Steps p.tables e below (T75.setTop (mkF m 215 #[.val (.int p0), .val (.int p1), .val (.int p2), .val (.int p3), .val (.int p4), .val (.int p5), .val (.int v1), .val (.int v2), .val (.int v4), .val (.int v6), .val (.int v8), .val (.int v10), .val (.int v12), .val (.ref b57), .val (.ref b65), .unset, .unset, .val (.long v77), .second, .val (.long v78), .second] [(.long v77), (.long (v8.toInt64))])) t
          refine XS.lmul X75.here hx rfl (hb hby at_215) rfl ?_
          show Steps p.tables e below (T75.setTop (mkF m 216 #[.val (.int p0), .val (.int p1), .val (.int p2), .val (.int p3), .val (.int p4), .val (.int p5), .val (.int v1), .val (.int v2), .val (.int v4), .val (.int v6), .val (.int v8), .val (.int v10), .val (.int v12), .val (.ref b57), .val (.ref b65), .unset, .unset, .val (.long v77), .second, .val (.long v78), .second] [(.long ((v8.toInt64) * v77))])) t
          refine XS.lload X75.here hx rfl (hb hby at_216) rfl ?_
          show Steps p.tables e below (T75.setTop (mkF m 218 #[.val (.int p0), .val (.int p1), .val (.int p2), .val (.int p3), .val (.int p4), .val (.int p5), .val (.int v1), .val (.int v2), .val (.int v4), .val (.int v6), .val (.int v8), .val (.int v10), .val (.int v12), .val (.ref b57), .val (.ref b65), .unset, .unset, .val (.long v77), .second, .val (.long v78), .second] [(.long v78), (.long ((v8.toInt64) * v77))])) t
          refine XS.lmul X75.here hx rfl (hb hby at_218) rfl ?_
          show Steps p.tables e below (T75.setTop (mkF m 219 #[.val (.int p0), .val (.int p1), .val (.int p2), .val (.int p3), .val (.int p4), .val (.int p5), .val (.int v1), .val (.int v2), .val (.int v4), .val (.int v6), .val (.int v8), .val (.int v10), .val (.int v12), .val (.ref b57), .val (.ref b65), .unset, .unset, .val (.long v77), .second, .val (.long v78), .second] [(.long (((v8.toInt64) * v77) * v78))])) t
          refine XS.iload X75.here hx rfl (hb hby at_219) rfl ?_
          show Steps p.tables e below (T75.setTop (mkF m 221 #[.val (.int p0), .val (.int p1), .val (.int p2), .val (.int p3), .val (.int p4), .val (.int p5), .val (.int v1), .val (.int v2), .val (.int v4), .val (.int v6), .val (.int v8), .val (.int v10), .val (.int v12), .val (.ref b57), .val (.ref b65), .unset, .unset, .val (.long v77), .second, .val (.long v78), .second] [(.int v10), (.long (((v8.toInt64) * v77) * v78))])) t
          refine XS.i2l X75.here hx rfl (hb hby at_221) rfl ?_
          show Steps p.tables e below (T75.setTop (mkF m 222 #[.val (.int p0), .val (.int p1), .val (.int p2), .val (.int p3), .val (.int p4), .val (.int p5), .val (.int v1), .val (.int v2), .val (.int v4), .val (.int v6), .val (.int v8), .val (.int v10), .val (.int v12), .val (.ref b57), .val (.ref b65), .unset, .unset, .val (.long v77), .second, .val (.long v78), .second] [(.long (v10.toInt64)), (.long (((v8.toInt64) * v77) * v78))])) t
          refine XS.lload X75.here hx rfl (hb hby at_222) rfl ?_
          show Steps p.tables e below (T75.setTop (mkF m 224 #[.val (.int p0), .val (.int p1), .val (.int p2), .val (.int p3), .val (.int p4), .val (.int p5), .val (.int v1), .val (.int v2), .val (.int v4), .val (.int v6), .val (.int v8), .val (.int v10), .val (.int v12), .val (.ref b57), .val (.ref b65), .unset, .unset, .val (.long v77), .second, .val (.long v78), .second] [(.long v78), (.long (v10.toInt64)), (.long (((v8.toInt64) * v77) * v78))])) t
          refine XS.lmul X75.here hx rfl (hb hby at_224) rfl ?_
          show Steps p.tables e below (T75.setTop (mkF m 225 #[.val (.int p0), .val (.int p1), .val (.int p2), .val (.int p3), .val (.int p4), .val (.int p5), .val (.int v1), .val (.int v2), .val (.int v4), .val (.int v6), .val (.int v8), .val (.int v10), .val (.int v12), .val (.ref b57), .val (.ref b65), .unset, .unset, .val (.long v77), .second, .val (.long v78), .second] [(.long ((v10.toInt64) * v78)), (.long (((v8.toInt64) * v77) * v78))])) t
          refine XS.ladd X75.here hx rfl (hb hby at_225) rfl ?_
          show Steps p.tables e below (T75.setTop (mkF m 226 #[.val (.int p0), .val (.int p1), .val (.int p2), .val (.int p3), .val (.int p4), .val (.int p5), .val (.int v1), .val (.int v2), .val (.int v4), .val (.int v6), .val (.int v8), .val (.int v10), .val (.int v12), .val (.ref b57), .val (.ref b65), .unset, .unset, .val (.long v77), .second, .val (.long v78), .second] [(.long ((((v8.toInt64) * v77) * v78) + ((v10.toInt64) * v78)))])) t
          refine XS.iload X75.here hx rfl (hb hby at_226) rfl ?_
          show Steps p.tables e below (T75.setTop (mkF m 228 #[.val (.int p0), .val (.int p1), .val (.int p2), .val (.int p3), .val (.int p4), .val (.int p5), .val (.int v1), .val (.int v2), .val (.int v4), .val (.int v6), .val (.int v8), .val (.int v10), .val (.int v12), .val (.ref b57), .val (.ref b65), .unset, .unset, .val (.long v77), .second, .val (.long v78), .second] [(.int v12), (.long ((((v8.toInt64) * v77) * v78) + ((v10.toInt64) * v78)))])) t
          refine XS.i2l X75.here hx rfl (hb hby at_228) rfl ?_
          show Steps p.tables e below (T75.setTop (mkF m 229 #[.val (.int p0), .val (.int p1), .val (.int p2), .val (.int p3), .val (.int p4), .val (.int p5), .val (.int v1), .val (.int v2), .val (.int v4), .val (.int v6), .val (.int v8), .val (.int v10), .val (.int v12), .val (.ref b57), .val (.ref b65), .unset, .unset, .val (.long v77), .second, .val (.long v78), .second] [(.long (v12.toInt64)), (.long ((((v8.toInt64) * v77) * v78) + ((v10.toInt64) * v78)))])) t
          refine XS.ladd X75.here hx rfl (hb hby at_229) rfl ?_
          show Steps p.tables e below (T75.setTop (mkF m 230 #[.val (.int p0), .val (.int p1), .val (.int p2), .val (.int p3), .val (.int p4), .val (.int p5), .val (.int v1), .val (.int v2), .val (.int v4), .val (.int v6), .val (.int v8), .val (.int v10), .val (.int v12), .val (.ref b57), .val (.ref b65), .unset, .unset, .val (.long v77), .second, .val (.long v78), .second] [(.long (((((v8.toInt64) * v77) * v78) + ((v10.toInt64) * v78)) + (v12.toInt64)))])) t
          refine Own.nmJ hv79 ?_
          show Steps p.tables e below (T75.setTop (mkF m 230 #[.val (.int p0), .val (.int p1), .val (.int p2), .val (.int p3), .val (.int p4), .val (.int p5), .val (.int v1), .val (.int v2), .val (.int v4), .val (.int v6), .val (.int v8), .val (.int v10), .val (.int v12), .val (.ref b57), .val (.ref b65), .unset, .unset, .val (.long v77), .second, .val (.long v78), .second] [(.long v79)])) t
          refine XS.lstore X75.here hx rfl (hb hby at_230) rfl (l' := #[.val (.int p0), .val (.int p1), .val (.int p2), .val (.int p3), .val (.int p4), .val (.int p5), .val (.int v1), .val (.int v2), .val (.int v4), .val (.int v6), .val (.int v8), .val (.int v10), .val (.int v12), .val (.ref b57), .val (.ref b65), .val (.long v79), .second, .val (.long v77), .second, .val (.long v78), .second]) rfl ?_
          show Steps p.tables e below (T75.setTop (mkF m 232 #[.val (.int p0), .val (.int p1), .val (.int p2), .val (.int p3), .val (.int p4), .val (.int p5), .val (.int v1), .val (.int v2), .val (.int v4), .val (.int v6), .val (.int v8), .val (.int v10), .val (.int v12), .val (.ref b57), .val (.ref b65), .val (.long v79), .second, .val (.long v77), .second, .val (.long v78), .second] [])) t
          refine XS.aload X75.here hx rfl (hb hby at_232) rfl rfl ?_
          show Steps p.tables e below (T75.setTop (mkF m 234 #[.val (.int p0), .val (.int p1), .val (.int p2), .val (.int p3), .val (.int p4), .val (.int p5), .val (.int v1), .val (.int v2), .val (.int v4), .val (.int v6), .val (.int v8), .val (.int v10), .val (.int v12), .val (.ref b57), .val (.ref b65), .val (.long v79), .second, .val (.long v77), .second, .val (.long v78), .second] [(.ref b57)])) t
          refine XS.aload X75.here hx rfl (hb hby at_234) rfl rfl ?_
          show Steps p.tables e below (T75.setTop (mkF m 236 #[.val (.int p0), .val (.int p1), .val (.int p2), .val (.int p3), .val (.int p4), .val (.int p5), .val (.int v1), .val (.int v2), .val (.int v4), .val (.int v6), .val (.int v8), .val (.int v10), .val (.int v12), .val (.ref b57), .val (.ref b65), .val (.long v79), .second, .val (.long v77), .second, .val (.long v78), .second] [(.ref b65), (.ref b57)])) t
          refine st80 _ ?_
          show Steps p.tables e below (T80.setTop (mkF m 239 #[.val (.int p0), .val (.int p1), .val (.int p2), .val (.int p3), .val (.int p4), .val (.int p5), .val (.int v1), .val (.int v2), .val (.int v4), .val (.int v6), .val (.int v8), .val (.int v10), .val (.int v12), .val (.ref b57), .val (.ref b65), .val (.long v79), .second, .val (.long v77), .second, .val (.long v78), .second] [(.long (own_key 3 (fun i => if i = 2 then v6 else (fun i => if i = 1 then v4 else (fun i => if i = 0 then v2 else (fun _ => 0) i) i) i) (fun i => if i = 2 then v12 else (fun i => if i = 1 then v10 else (fun i => if i = 0 then v8 else (fun _ => 0) i) i) i)))])) t
          refine Own.nmJ hv81 ?_
          show Steps p.tables e below (T80.setTop (mkF m 239 #[.val (.int p0), .val (.int p1), .val (.int p2), .val (.int p3), .val (.int p4), .val (.int p5), .val (.int v1), .val (.int v2), .val (.int v4), .val (.int v6), .val (.int v8), .val (.int v10), .val (.int v12), .val (.ref b57), .val (.ref b65), .val (.long v79), .second, .val (.long v77), .second, .val (.long v78), .second] [(.long v81)])) t
          refine XS.lstore X80.here hx rfl (hb hby at_239) rfl (l' := #[.val (.int p0), .val (.int p1), .val (.int p2), .val (.int p3), .val (.int p4), .val (.int p5), .val (.int v1), .val (.int v2), .val (.int v4), .val (.int v6), .val (.int v8), .val (.int v10), .val (.int v12), .val (.ref b57), .val (.ref b65), .val (.long v79), .second, .val (.long v81), .second, .val (.long v78), .second]) rfl ?_
          show Steps p.tables e below (T80.setTop (mkF m 241 #[.val (.int p0), .val (.int p1), .val (.int p2), .val (.int p3), .val (.int p4), .val (.int p5), .val (.int v1), .val (.int v2), .val (.int v4), .val (.int v6), .val (.int v8), .val (.int v10), .val (.int v12), .val (.ref b57), .val (.ref b65), .val (.long v79), .second, .val (.long v81), .second, .val (.long v78), .second] [])) t
          refine XS.lload X80.here hx rfl (hb hby at_241) rfl ?_
          show Steps p.tables e below (T80.setTop (mkF m 243 #[.val (.int p0), .val (.int p1), .val (.int p2), .val (.int p3), .val (.int p4), .val (.int p5), .val (.int v1), .val (.int v2), .val (.int v4), .val (.int v6), .val (.int v8), .val (.int v10), .val (.int v12), .val (.ref b57), .val (.ref b65), .val (.long v79), .second, .val (.long v81), .second, .val (.long v78), .second] [(.long v81)])) t
          refine XS.lload X80.here hx rfl (hb hby at_243) rfl ?_
          show Steps p.tables e below (T80.setTop (mkF m 245 #[.val (.int p0), .val (.int p1), .val (.int p2), .val (.int p3), .val (.int p4), .val (.int p5), .val (.int v1), .val (.int v2), .val (.int v4), .val (.int v6), .val (.int v8), .val (.int v10), .val (.int v12), .val (.ref b57), .val (.ref b65), .val (.long v79), .second, .val (.long v81), .second, .val (.long v78), .second] [(.long v79), (.long v81)])) t
          refine XS.lcmp X80.here hx rfl (hb hby at_245) rfl ?_
          show Steps p.tables e below (T80.setTop (mkF m 246 #[.val (.int p0), .val (.int p1), .val (.int p2), .val (.int p3), .val (.int p4), .val (.int p5), .val (.int v1), .val (.int v2), .val (.int v4), .val (.int v6), .val (.int v8), .val (.int v10), .val (.int v12), .val (.ref b57), .val (.ref b65), .val (.long v79), .second, .val (.long v81), .second, .val (.long v78), .second] [(.int (lcmpW v81 v79))])) t
          exact k
        have hc82 : v81 = v79 := by
          rw [hv81, hv79, hv77, hv78]
          simp [own_key, Int64.add_mul]
        refine hD _ (T80.setTop (mkF m 254 #[.val (.int p0), .val (.int p1), .val (.int p2), .val (.int p3), .val (.int p4), .val (.int p5), .val (.int v1), .val (.int v2), .val (.int v4), .val (.int v6), .val (.int v8), .val (.int v10), .val (.int v12), .val (.ref b57), .val (.ref b65), .val (.long v79), .second, .val (.long v81), .second, .val (.long v78), .second] [(.int (1 : Int32))])) (fun t k => ?_) ?_
        · show Steps p.tables e below (T80.setTop (mkF m 246 #[.val (.int p0), .val (.int p1), .val (.int p2), .val (.int p3), .val (.int p4), .val (.int p5), .val (.int v1), .val (.int v2), .val (.int v4), .val (.int v6), .val (.int v8), .val (.int v10), .val (.int v12), .val (.ref b57), .val (.ref b65), .val (.long v79), .second, .val (.long v81), .second, .val (.long v78), .second] [(.int (lcmpW v81 v79))])) t
          refine XS.ifNo X80.here hx rfl (hb hby at_246) rfl ((if0 _ _).trans (teq ((lw_eq v81 v79).mpr hc82)).2) ?_
          show Steps p.tables e below (T80.setTop (mkF m 249 #[.val (.int p0), .val (.int p1), .val (.int p2), .val (.int p3), .val (.int p4), .val (.int p5), .val (.int v1), .val (.int v2), .val (.int v4), .val (.int v6), .val (.int v8), .val (.int v10), .val (.int v12), .val (.ref b57), .val (.ref b65), .val (.long v79), .second, .val (.long v81), .second, .val (.long v78), .second] [])) t
          refine XS.iconst X80.here hx rfl (hb hby at_249) ?_
          show Steps p.tables e below (T80.setTop (mkF m 250 #[.val (.int p0), .val (.int p1), .val (.int p2), .val (.int p3), .val (.int p4), .val (.int p5), .val (.int v1), .val (.int v2), .val (.int v4), .val (.int v6), .val (.int v8), .val (.int v10), .val (.int v12), .val (.ref b57), .val (.ref b65), .val (.long v79), .second, .val (.long v81), .second, .val (.long v78), .second] [(.int (1 : Int32))])) t
          refine XS.goto X80.here hx rfl (pc0 := 250) (pc' := 254) rfl (hb hby at_250) (by decide) (by decide) ?_
          show Steps p.tables e below (T80.setTop (mkF m 254 #[.val (.int p0), .val (.int p1), .val (.int p2), .val (.int p3), .val (.int p4), .val (.int p5), .val (.int v1), .val (.int v2), .val (.int v4), .val (.int v6), .val (.int v8), .val (.int v10), .val (.int v12), .val (.ref b57), .val (.ref b65), .val (.long v79), .second, .val (.long v81), .second, .val (.long v78), .second] [(.int (1 : Int32))])) t
          exact k
        exact Own.retN hR X80 hx (t := .boolean) hret (by simp) (hb hby at_254) (by decide) (by decide) (by decide) ⟨rfl, N80⟩
set_option maxRecDepth 65536 in
set_option maxHeartbeats 40000000 in
theorem comes_1 {Post : Tables → Env → Array Value → State → Outcome → State → Prop} (hpost : ∀ tb e args s v u, (limb_1_1.after args s (.returned v) u = true ∧ limb_1_2.after args s (.returned v) u = true ∧ True) → FrameEnd s (.returned v) u (Jvm.fieldLocs frame_1_writes args s ++ Jvm.arrayLocs frame_1_arrays args s ++ Jvm.staticLocs frame_1_statics s) 16 128 → Post tb e args s (.returned v) u) :
    ArmFor flags0 classFile x code maxLocals ret World_1 tables_1 room_1 Calls_1 rest_1 Pre_1 Post := by
  intro l hfl _ _ p e ha hc hk s m args below hf hA hF happ hP
  obtain ⟨hcalls, hrest, hpre⟩ := hP
  obtain ⟨-, -, -, hnamed, -, -, -, hat⟩ := (Spec.applies_iff hf).mp happ
  obtain ⟨hg, hn⟩ := and_e (Cond.before_iff.mp (show (Jvm.Cond.and given_1 narrow_1).before args s = true from hpre))
  obtain ⟨hcnt, hg0⟩ := and_e hg
  obtain ⟨ga0, hg1⟩ := and_e hg0
  obtain ⟨ga1, hg2⟩ := and_e hg1
  obtain ⟨ga2, hg3⟩ := and_e hg2
  obtain ⟨ga3, hg4⟩ := and_e hg3
  obtain ⟨ga4, hg5⟩ := and_e hg4
  obtain ⟨w0, w1, w2, w3, w4, w5, rfl⟩ : ∃ w0 w1 w2 w3 w4 w5 : Value, args = #[w0, w1, w2, w3, w4, w5] := by
    have hs : args.size = 6 := by simpa [Cond.value, given_1] using hcnt
    obtain ⟨L⟩ := args
    match L, hs with
    | [w0, w1, w2, w3, w4, w5], _ => exact ⟨w0, w1, w2, w3, w4, w5, rfl⟩
  have hw := fun d (hd : d ∈ tables_1) => atoms_spec (ws := Jvm.Cond.code x code maxLocals ret :: tables_1) hat d (List.mem_cons_of_mem _ hd)
  obtain ⟨i0, ei0⟩ := is_v ga0
  obtain rfl : w0 = (.int i0) := Option.some.inj ei0
  obtain ⟨i1, ei1⟩ := is_v ga1
  obtain rfl : w1 = (.int i1) := Option.some.inj ei1
  obtain ⟨i2, ei2⟩ := is_v ga2
  obtain rfl : w2 = (.int i2) := Option.some.inj ei2
  obtain ⟨i3, ei3⟩ := is_v ga3
  obtain rfl : w3 = (.int i3) := Option.some.inj ei3
  obtain ⟨i4, ei4⟩ := is_v ga4
  obtain rfl : w4 = (.int i4) := Option.some.inj ei4
  obtain ⟨i5, ei5⟩ := is_v hg5
  obtain rfl : w5 = (.int i5) := Option.some.inj ei5
  obtain ⟨n, o, h1, h2, h3, _, L, rfl, ⟨rfl, N⟩, hq⟩ := rm0 l s _ hw tables_1 i0 i1 i2 i3 i4 i5 s.heap s.heap.size (Nat.le_refl _) p e ha hc hk s m _ below hf ((Spec.applies_iff_loose hf).mp happ).1 ⟨rfl, State.Warmed39.refl s, rfl⟩ trivial
  refine ⟨n, _, h1, h2, h3, hpost _ _ _ _ _ _ ⟨Cond.after_iff.mpr rfl, Cond.after_iff.mpr (eq_i res_at (Term.int_eval (1)) rfl), trivial⟩ ⟨hq.1, hq.2.1, (hq.2.2.sift fun y hy => Or.inr (N y hy)).mono (by decide) (by decide)⟩⟩
theorem main_1_1 : Claimed_1_1 := comes_1 fun _ _ _ _ _ _ h hF => ⟨h.1, hF⟩
theorem main_1_2 : Claimed_1_2 := comes_1 fun _ _ _ _ _ _ h hF => ⟨h.2.1, hF⟩
end Jvm.Pilot.@@N@@
namespace Jvm.Pilot.@@N@@
open Jvm Jvm.ClassFile Sem Op Lib Jvm.Free Jvm.Stand Jvm.Pilot.@@N@@.Jvm.D
/-! MADE BY PROGRAM (witnessworld.py) out of the Statement's table words and the real class files: 10 classes; the members and pool entries that the words name. The judged class is class 1, her method 3. -/
namespace start1
open Jvm.ClassFile
def u (s : String) : CpInfo := .utf8 (stringToUtf16 s)
/-- a pool by its gaps: so many unusable entries, then the entry; so many at the end -/
def gap : Nat → List CpInfo → List CpInfo
  | 0, r => r
  | n + 1, r => .unusable :: gap n r
def poolList (es : List (Nat × CpInfo)) (last : Nat) : List CpInfo := es.foldr (fun e r => gap e.1 (e.2 :: r)) (gap last [])
def pool (es : List (Nat × CpInfo)) (last : Nat) : Array CpInfo := ⟨poolList es last⟩
def fileOf (pool : Array CpInfo) (this : Nat) (attrs : Array Attribute := #[]) (ms : Array MethodInfo := #[]) (fl : Nat := 33) (sup : Nat := 0) (ifs : Array Nat := #[]) (fds : Array FieldInfo := #[]) : ClassFile where
  minorVersion := 0
  majorVersion := 65
  constantPool := pool
  accessFlags := fl
  thisClass := this
  superClass := sup
  interfaces := ifs
  fields := fds
  methods := ms
  attributes := attrs
def plain (name : String) (sup : Option ClassId) : Class where
  name := name
  kind := .ordinary
  loader := none
  accessFlags := 33
  super := sup
  interfaces := #[]
  cf := none
  fields := #[]
  methods := #[]
  instanceTypes := #[]
  staticTypes := #[]
  resolved := #[]
  callSites := []
  init := .initialized
  statics := none
  mirror := none

def pool0 : Array CpInfo := pool [(5, u "<init>"), (0, u "()V"), (1, .class_ 10), (1, u "java/lang/Object")] 113

def k0m0 : Method := { name := "<init>", desc := "()V", sig := { parameters := [], returnType := none }, accessFlags := 1, code := none }
/-- java/lang/Object -/
def k0 : Class := { plain "java/lang/Object" none with
  accessFlags := 33
  interfaces := #[]
  cf := some (fileOf pool0 8 #[] #[{ accessFlags := 1, nameIndex := 5, descriptorIndex := 6, attributes := #[] }] 33 0 #[] #[])
  fields := #[]
  methods := #[k0m0]
  instanceTypes := #[]
  staticTypes := #[]
  resolved := Array.replicate 124 none
  statics := none }

def pool1 : Array CpInfo := pool [(2, .class_ 4), (1, u "java/lang/Object"), (0, u "<init>"), (0, u "()V"), (0, .integer 2147483647), (0, .methodref 9 10), (0, .class_ 11), (0, .nameAndType 12 13), (0, u "java/lang/Math"), (0, u "max"), (0, u "(II)I"), (0, .integer 65535), (0, .methodref 16 17), (0, .class_ 18), (0, .nameAndType 19 20), (0, u "com/example/ballast/ballast/model/CostTableKeyPinLaw"), (0, u "size"), (0, u "(I)I"), (0, .methodref 16 22), (0, .nameAndType 23 13), (0, u "val"), (0, .methodref 25 26), (0, .class_ 27), (0, .nameAndType 28 29), (0, u "com/example/ballast/ballast/model/CostTable"), (0, u "key"), (0, u "([I[I)J"), (2, u "law"), (0, u "(IIIIII)Z")] 5

def k1m0 : Method := { name := "<init>", desc := "()V", sig := { parameters := [], returnType := none }, accessFlags := 1, code := none }
def k1c1 : Code := { maxStack := 3, maxLocals := 1, code := method_2_code, exceptionTable := #[], attributes := #[] }
def k1m1 : Method := { name := "size", desc := "(I)I", sig := { parameters := [.int], returnType := some .int }, accessFlags := 10, code := some k1c1 }
def k1c2 : Code := { maxStack := 2, maxLocals := 2, code := method_3_code, exceptionTable := #[], attributes := #[] }
def k1m2 : Method := { name := "val", desc := "(II)I", sig := { parameters := [.int, .int], returnType := some .int }, accessFlags := 10, code := some k1c2 }
def k1c3 : Code := { maxStack := 6, maxLocals := 21, code := code, exceptionTable := #[], attributes := #[] }
def k1m3 : Method := { name := "law", desc := "(IIIIII)Z", sig := { parameters := [.int, .int, .int, .int, .int, .int], returnType := some .boolean }, accessFlags := 9, code := some k1c3 }
/-- com/example/ballast/ballast/model/CostTableKeyPinLaw -/
def k1 : Class := { plain "com/example/ballast/ballast/model/CostTableKeyPinLaw" (some 0) with
  accessFlags := 49
  interfaces := #[]
  cf := some (fileOf pool1 16 #[] #[{ accessFlags := 1, nameIndex := 5, descriptorIndex := 6, attributes := #[] }, { accessFlags := 10, nameIndex := 19, descriptorIndex := 20, attributes := #[] }, { accessFlags := 10, nameIndex := 23, descriptorIndex := 13, attributes := #[] }, { accessFlags := 9, nameIndex := 32, descriptorIndex := 33, attributes := #[] }] 49 2 #[] #[])
  fields := #[]
  methods := #[k1m0, k1m1, k1m2, k1m3]
  instanceTypes := #[]
  staticTypes := #[]
  resolved := Array.replicate 39 none
  statics := none }

def pool2 : Array CpInfo := pool [(1, .class_ 2), (0, u "java/lang/Math"), (1, .class_ 6), (1, u "java/lang/Object"), (0, u "<init>"), (0, u "()V"), (89, .class_ 100), (1, u "java/lang/Math$RandomNumberGeneratorHolder"), (71, u "negativeZeroFloatBits"), (0, u "J"), (2, u "negativeZeroDoubleBits"), (21, u "max"), (46, u "$assertionsDisabled"), (0, u "Z"), (88, u "(II)I"), (2, u "twoToTheDoubleScaleDown"), (0, u "D"), (4, u "twoToTheDoubleScaleUp"), (9, u "E"), (3, u "PI"), (2, u "TAU"), (2, u "DEGREES_TO_RADIANS"), (0, u "RADIANS_TO_DEGREES")] 94

def k2m0 : Method := { name := "<init>", desc := "()V", sig := { parameters := [], returnType := none }, accessFlags := 2, code := none }
def k2c1 : Code := { maxStack := 2, maxLocals := 2, code := jdk_29_method_65_code, exceptionTable := #[], attributes := #[] }
def k2m1 : Method := { name := "max", desc := "(II)I", sig := { parameters := [.int, .int], returnType := some .int }, accessFlags := 9, code := some k2c1 }
/-- java/lang/Math -/
def k2 : Class := { plain "java/lang/Math" (some 0) with
  accessFlags := 49
  interfaces := #[]
  cf := some (fileOf pool2 1 #[.nestMembers #[98]] #[{ accessFlags := 2, nameIndex := 7, descriptorIndex := 8, attributes := #[] }, { accessFlags := 9, nameIndex := 198, descriptorIndex := 335, attributes := #[] }] 49 4 #[] #[{ accessFlags := 25, nameIndex := 354, descriptorIndex := 339, attributes := #[] }, { accessFlags := 25, nameIndex := 358, descriptorIndex := 339, attributes := #[] }, { accessFlags := 25, nameIndex := 361, descriptorIndex := 339, attributes := #[] }, { accessFlags := 26, nameIndex := 364, descriptorIndex := 339, attributes := #[] }, { accessFlags := 26, nameIndex := 365, descriptorIndex := 339, attributes := #[] }, { accessFlags := 26, nameIndex := 172, descriptorIndex := 173, attributes := #[] }, { accessFlags := 26, nameIndex := 176, descriptorIndex := 173, attributes := #[] }, { accessFlags := 8, nameIndex := 344, descriptorIndex := 339, attributes := #[] }, { accessFlags := 8, nameIndex := 338, descriptorIndex := 339, attributes := #[] }, { accessFlags := 4120, nameIndex := 245, descriptorIndex := 246, attributes := #[] }])
  fields := #[{ name := "E", type := .double, accessFlags := 25, slot := 0, constantValue := 0 }, { name := "PI", type := .double, accessFlags := 25, slot := 1, constantValue := 0 }, { name := "TAU", type := .double, accessFlags := 25, slot := 2, constantValue := 0 }, { name := "DEGREES_TO_RADIANS", type := .double, accessFlags := 26, slot := 3, constantValue := 0 }, { name := "RADIANS_TO_DEGREES", type := .double, accessFlags := 26, slot := 4, constantValue := 0 }, { name := "negativeZeroFloatBits", type := .long, accessFlags := 26, slot := 5, constantValue := 0 }, { name := "negativeZeroDoubleBits", type := .long, accessFlags := 26, slot := 6, constantValue := 0 }, { name := "twoToTheDoubleScaleUp", type := .double, accessFlags := 8, slot := 7, constantValue := 0 }, { name := "twoToTheDoubleScaleDown", type := .double, accessFlags := 8, slot := 8, constantValue := 0 }, { name := "$assertionsDisabled", type := .boolean, accessFlags := 4120, slot := 9, constantValue := 0 }]
  methods := #[k2m0, k2m1]
  instanceTypes := #[]
  staticTypes := #[.double, .double, .double, .double, .double, .long, .long, .double, .double, .boolean]
  resolved := Array.replicate 460 none
  statics := none }

def pool3 : Array CpInfo := pool [(2, .class_ 4), (1, u "java/lang/Object"), (3, .class_ 10), (1, u "com/example/ballast/ballast/model/CostTable"), (0, u "scope"), (0, u "[I"), (2, u "domainSizes"), (2, u "defaultCost"), (0, u "J"), (2, u "keys"), (0, u "[J"), (2, u "costs"), (60, u "key"), (0, u "([I[I)J")] 39

def k3c0 : Code := { maxStack := 4, maxLocals := 5, code := prog_64_method_5_code, exceptionTable := #[], attributes := #[] }
def k3m0 : Method := { name := "key", desc := "([I[I)J", sig := { parameters := [(.array .int), (.array .int)], returnType := some .long }, accessFlags := 8, code := some k3c0 }
/-- com/example/ballast/ballast/model/CostTable -/
def k3 : Class := { plain "com/example/ballast/ballast/model/CostTable" (some 0) with
  accessFlags := 49
  interfaces := #[]
  cf := some (fileOf pool3 8 #[] #[{ accessFlags := 8, nameIndex := 87, descriptorIndex := 88, attributes := #[] }] 49 2 #[] #[{ accessFlags := 18, nameIndex := 11, descriptorIndex := 12, attributes := #[] }, { accessFlags := 18, nameIndex := 15, descriptorIndex := 12, attributes := #[] }, { accessFlags := 18, nameIndex := 18, descriptorIndex := 19, attributes := #[] }, { accessFlags := 18, nameIndex := 22, descriptorIndex := 23, attributes := #[] }, { accessFlags := 18, nameIndex := 26, descriptorIndex := 23, attributes := #[] }])
  fields := #[{ name := "scope", type := (.array .int), accessFlags := 18, slot := 0, constantValue := 0 }, { name := "domainSizes", type := (.array .int), accessFlags := 18, slot := 1, constantValue := 0 }, { name := "defaultCost", type := .long, accessFlags := 18, slot := 2, constantValue := 0 }, { name := "keys", type := (.array .long), accessFlags := 18, slot := 3, constantValue := 0 }, { name := "costs", type := (.array .long), accessFlags := 18, slot := 4, constantValue := 0 }]
  methods := #[k3m0]
  instanceTypes := #[(.array .int), (.array .int), .long, (.array .long), (.array .long)]
  staticTypes := #[]
  resolved := Array.replicate 128 none
  statics := none }

def pool4 : Array CpInfo := pool [(1, u "java/lang/Cloneable"), (0, .class_ 1), (0, u "java/lang/Object"), (0, .class_ 3)] 3

/-- java/lang/Cloneable -/
def k4 : Class := { plain "java/lang/Cloneable" (some 0) with
  accessFlags := 1537
  interfaces := #[]
  cf := some (fileOf pool4 2 #[] #[] 1537 4 #[] #[])
  fields := #[]
  methods := #[]
  instanceTypes := #[]
  staticTypes := #[]
  resolved := Array.replicate 8 none
  statics := none }

def pool5 : Array CpInfo := pool [(1, u "java/io/Serializable"), (0, .class_ 1), (0, u "java/lang/Object"), (0, .class_ 3)] 3

/-- java/io/Serializable -/
def k5 : Class := { plain "java/io/Serializable" (some 0) with
  accessFlags := 1537
  interfaces := #[]
  cf := some (fileOf pool5 2 #[] #[] 1537 4 #[] #[])
  fields := #[]
  methods := #[]
  instanceTypes := #[]
  staticTypes := #[]
  resolved := Array.replicate 8 none
  statics := none }

/-- the primitive byte -/
def k6 : Class := { plain "byte" none with kind := .primitive 'B', accessFlags := 0x411 }
/-- [B -/
def k7 : Class := { plain "[B" (some 0) with kind := .array 6 .byte, interfaces := #[4, 5], accessFlags := 1041 }

/-- the primitive int -/
def k8 : Class := { plain "int" none with kind := .primitive 'I', accessFlags := 0x411 }
/-- [I -/
def k9 : Class := { plain "[I" (some 0) with kind := .array 8 .int, interfaces := #[4, 5], accessFlags := 1041 }

def heap : Heap := #[]
def classes : Array Class := #[k0, k1, k2, k3, k4, k5, k6, k7, k8, k9]
def interned : List (Array UInt16 × Addr) := []
def slotsUsed : Nat := 0
def theMethod : MethodId := ⟨1, 3⟩
def args0 : Array Value := #[.int 7, .int 7, .int 7, .int 7, .int 7, .int 7]
def aboutOver (below : List Frame) : State where
  vm := { classes := classes, interned := interned.toArray }
  heap := heap
  slotsUsed := slotsUsed
  threads := #[{ frames := .invoking theMethod args0 :: below }]
def below0 : List Frame := [.native { method := ⟨0, 0⟩, args := #[] }]
def about1 : State := aboutOver below0
def p0 : Program := .bare "" "" ""
def e0 : Env := launch0.env 0 0 0
theorem w_frames : about1.frames = Frame.invoking theMethod args0 :: below0 := rfl
set_option maxRecDepth 65536 in
theorem w_args : argsFit about1.vm theMethod args0 = true := by decide +kernel
set_option maxRecDepth 65536 in
theorem w_heap : heapFits about1 = true := by decide +kernel
set_option maxRecDepth 65536 in
theorem w_runnable : about1.curStatus? = some .runnable := by decide +kernel
set_option maxRecDepth 65536 in
theorem w_alone : about1.alone = true := by decide +kernel
set_option maxRecDepth 65536 in
theorem w_named : about1.methodNamed? x = some theMethod := by decide +kernel
set_option maxRecDepth 65536 in
theorem w_hears : about1.hears theMethod below0 = true := by decide +kernel
set_option maxRecDepth 65536 in
theorem w_ripe : about1.ripe theMethod args0 below0 = true := by decide +kernel
theorem w_running : about1.status = .running := rfl
set_option maxRecDepth 65536 in
theorem w_room : about1.hasRoom e0.platform room_1 = true :=
  launch0.hasRoom_least _ room_1 (by decide +kernel) (by decide +kernel) (by decide +kernel) (by decide +kernel) (by decide +kernel) (by decide +kernel)
theorem allAtoms_all (ts : List Jvm.Cond) (a : Array Jvm.Value) (st : Jvm.State) : (allAtoms ts).before a st = ts.all (fun c => c.before a st) := by
  induction ts with
  | nil => rfl
  | cons c t ih =>
    show (Jvm.Cond.and c (allAtoms t)).before a st = _
    rw [Jvm.Cond.before_and, ih, List.all_cons]
def words1 : List Jvm.Cond := Jvm.Cond.code x code maxLocals ret :: tables_1
/-- a 'code' word, met by the world's own term for the bytes: nothing is compared byte by byte -/
theorem code_word {y : MethodName} {bytes : ByteArray} {mx : Nat} {rt : Option FieldType} {a : Array Value} {s : State} {m : MethodId} {meth : Method} {c : Code} (h1 : s.methodNamed? y = some m) (h2 : s.vm.method? m = some meth) (h3 : meth.code = some c) (h4 : c.code = bytes)
    (h5 : (c.maxLocals == mx && c.exceptionTable.isEmpty && decide (c.maxStack ≤ mostOperands) && decide (meth.sig.returnType = rt) && !meth.locks && decide (parseMethodDescriptor y.desc = some meth.sig)) = true) : (Jvm.Cond.code y bytes mx rt).before a s = true := by
  simp only [Bool.and_eq_true, beq_iff_eq, Bool.not_eq_true', decide_eq_true_eq] at h5
  obtain ⟨⟨⟨⟨⟨g1, g2⟩, g3⟩, g4⟩, g5⟩, g6⟩ := h5
  simp [Cond.before, Cond.holds, Cond.value, h1, h2, h3, h4, g1, g2, g3, g4, g5, g6]
def isCode : Jvm.Cond → Bool
  | .code _ _ _ _ => true
  | _ => false
theorem all_split {L : List Jvm.Cond} {P : Jvm.Cond → Bool} (h1 : L.all (fun c => isCode c || P c) = true) (h2 : ∀ c ∈ L.filter isCode, P c = true) : L.all P = true := by
  refine List.all_eq_true.mpr fun c hc => ?_
  have h := List.all_eq_true.mp h1 c hc
  rcases Bool.eq_false_or_eq_true (isCode c) with hi | hi
  · exact h2 c (List.mem_filter.mpr ⟨hc, hi⟩)
  · simpa [hi] using h
set_option maxRecDepth 65536 in
theorem w_c0 : (Jvm.Cond.code x code maxLocals ret).before args0 about1 = true := code_word (m := ⟨1, 3⟩) (meth := k1m3) (c := k1c3) (by decide +kernel) rfl rfl rfl (by decide +kernel)
set_option maxRecDepth 65536 in
theorem w_c1 : (Jvm.Cond.code ({ cls := "com/example/ballast/ballast/model/CostTableKeyPinLaw", name := "size", desc := "(I)I" } : Jvm.MethodName) method_2_code (1 : Nat) (Option.some Jvm.ClassFile.FieldType.int)).before args0 about1 = true := code_word (m := ⟨1, 1⟩) (meth := k1m1) (c := k1c1) (by decide +kernel) rfl rfl rfl (by decide +kernel)
set_option maxRecDepth 65536 in
theorem w_c2 : (Jvm.Cond.code ({ cls := "java/lang/Math", name := "max", desc := "(II)I" } : Jvm.MethodName) jdk_29_method_65_code (2 : Nat) (Option.some Jvm.ClassFile.FieldType.int)).before args0 about1 = true := code_word (m := ⟨2, 1⟩) (meth := k2m1) (c := k2c1) (by decide +kernel) rfl rfl rfl (by decide +kernel)
set_option maxRecDepth 65536 in
theorem w_c3 : (Jvm.Cond.code ({ cls := "com/example/ballast/ballast/model/CostTableKeyPinLaw", name := "val", desc := "(II)I" } : Jvm.MethodName) method_3_code (2 : Nat) (Option.some Jvm.ClassFile.FieldType.int)).before args0 about1 = true := code_word (m := ⟨1, 2⟩) (meth := k1m2) (c := k1c2) (by decide +kernel) rfl rfl rfl (by decide +kernel)
set_option maxRecDepth 65536 in
theorem w_c4 : (Jvm.Cond.code ({ cls := "com/example/ballast/ballast/model/CostTable", name := "key", desc := "([I[I)J" } : Jvm.MethodName) prog_64_method_5_code (5 : Nat) (Option.some Jvm.ClassFile.FieldType.long)).before args0 about1 = true := code_word (m := ⟨3, 0⟩) (meth := k3m0) (c := k3c0) (by decide +kernel) rfl rfl rfl (by decide +kernel)
def codes1 : List Jvm.Cond := [Jvm.Cond.code x code maxLocals ret, Jvm.Cond.code ({ cls := "com/example/ballast/ballast/model/CostTableKeyPinLaw", name := "size", desc := "(I)I" } : Jvm.MethodName) method_2_code (1 : Nat) (Option.some Jvm.ClassFile.FieldType.int), Jvm.Cond.code ({ cls := "java/lang/Math", name := "max", desc := "(II)I" } : Jvm.MethodName) jdk_29_method_65_code (2 : Nat) (Option.some Jvm.ClassFile.FieldType.int), Jvm.Cond.code ({ cls := "com/example/ballast/ballast/model/CostTableKeyPinLaw", name := "val", desc := "(II)I" } : Jvm.MethodName) method_3_code (2 : Nat) (Option.some Jvm.ClassFile.FieldType.int), Jvm.Cond.code ({ cls := "com/example/ballast/ballast/model/CostTable", name := "key", desc := "([I[I)J" } : Jvm.MethodName) prog_64_method_5_code (5 : Nat) (Option.some Jvm.ClassFile.FieldType.long)]
set_option maxRecDepth 65536 in
theorem codes_eq : words1.filter isCode = codes1 := rfl
theorem w_codes : ∀ c ∈ words1.filter isCode, c.before args0 about1 = true := by
  rw [codes_eq]
  intro c hc
  simp only [codes1, List.mem_cons, List.not_mem_nil, or_false] at hc
  rcases hc with rfl | rfl | rfl | rfl | rfl
  · exact w_c0
  · exact w_c1
  · exact w_c2
  · exact w_c3
  · exact w_c4
set_option maxRecDepth 65536 in
theorem w_t1 : words1.all (fun c => isCode c || c.before args0 about1) = true := by decide +kernel
theorem w_tables : (allAtoms (Jvm.Cond.code x code maxLocals ret :: tables_1)).before args0 about1 = true := by
  rw [allAtoms_all]
  show words1.all (fun c => c.before args0 about1) = true
  refine all_split ?_ w_codes
  rw [w_t1]
set_option maxRecDepth 65536 in
theorem w_case : (Jvm.Cond.and given_1 narrow_1).before args0 about1 = true := by decide +kernel
theorem w_applies : (headSpec (Jvm.Cond.code x code maxLocals ret :: tables_1) room_1).applies x e0.platform about1 = true :=
  (Spec.applies_iff w_frames).mpr ⟨w_running, w_runnable, w_alone, w_named, w_hears, w_ripe, w_room, w_tables⟩
theorem atStart : AtStart classFile x code maxLocals ret World_1 tables_1 room_1 Calls_1 rest_1 Pre_1 launch0 p0 e0 about1 theMethod args0 below0 :=
  ⟨lists_1, trivial, launch0.admits_env _ _ _, launch0.least_env, fairChoices_fair.cas, fairChoices_fair.clock, w_frames, w_args, w_heap, w_applies, trivial, trivial, w_case⟩
end start1
theorem witness_1 : WitnessClaimed_1 := ⟨start1.p0, start1.e0, start1.about1, start1.theMethod, start1.args0, start1.below0, start1.atStart⟩
end Jvm.Pilot.@@N@@
