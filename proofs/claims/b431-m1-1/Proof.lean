import JvmDerived
import JvmDerived.Pilot.@@N@@Statement
import JvmDerived.Pilot.@@N@@Code
set_option linter.unusedVariables false
set_option linter.unusedSimpArgs false
@@BLOCK:NumsL.lean.txt@@
namespace Jvm.Own
open Sem ClassFile Op Lib Jvm.Stand Jvm.Free Jvm.LawKit Jvm.RoadKit
section Kit
variable {p : Program} {l : Launch} {e : Env} {R : Room} {s : State} {m : MethodId} {args : Array Value} {below : List Frame} {meth : Method} {c : Code} {T : State} {locs : List Loc} {cells slots : Nat} {Z : State} {a0 : Array Value} {h : Heap}
/-- D is closed under going back over steps -/
def Clo (p : Program) (e : Env) (below : List Frame) (D : State → Prop) : Prop := ∀ (U U' : State), (∀ t, Steps p.tables e below U' t → Steps p.tables e below U t) → D U' → D U
/-- D holds wherever the body returns with what Q says -/
def Ret (p : Program) (l : Launch) (e : Env) (R : Room) (s : State) (m : MethodId) (args : Array Value) (below : List Frame) (meth : Method) (c : Code) (Q : Option Value → Heap → List Loc → Prop) (C N : Nat) (D : State → Prop) : Prop :=
  ∀ (T : State) (locs : List Loc) (cells slots : Nat) (v : Option Value) (U : State), Stand p l e R s m args below meth c T locs cells slots → (meth.sig.returnType = none → v = none) → cells ≤ C → slots ≤ N → Q v T.heap locs →
    (∀ fs, (∀ (f : JFrame) (acts : List Action), f.method = m → f.locked = none → f.entered = [] → (doReturn e (T.setTop f) acts v).1 = T.setFrames fs) → Steps p.tables e below U (T.setFrames fs)) → D U
theorem enter {y : MethodName} {code : ByteArray} {maxL : Nat} {ret : Option FieldType} {ws : List Cond} {rm : Room} {as' : Array Value} {h0 : Heap} {Q : Option Value → Heap → List Loc → Prop} {C N : Nat} (hpl : plainFor y = true)
    (body : ∀ (p : Program) (e : Env) (s : State) (m : MethodId) (below : List Frame) (meth : Method) (c : Code) (s₁ : State) (D : State → Prop),
      p.tables.exec = Jvm.exec → c.code = code → c.maxLocals = maxL → s.vm.findClass y.cls = some m.cls → meth.name = y.name → meth.sig.returnType = ret → Z.Warmed39 s.vm → Stand p l e rm s m as' below meth c s₁ [] 0 0 → s₁.heap = h0 →
      Clo p e below D → Ret p l e rm s m as' below meth c Q C N D → D (s₁.setTop (entryFrame m as' maxL))) :
    MetFree l y (head1 (Jvm.Cond.code y code maxL ret :: ws) rm) (fun a U => a = as' ∧ Z.Warmed39 U.vm ∧ U.heap = h0) (fun _ _ _ _ _ => True) (fun _ U o U' => ∃ v L, o = .returned v ∧ Q v U'.heap L ∧ FrameEnd U o U' L C N) := by
  refine MetFree.of_bodySF hpl hisR ?_
  intro p e s m args below meth c s₁ Bd hml hP hK
  obtain ⟨rfl, hZ, hh⟩ := hP
  have X0 : Stand p l e rm s m args below meth c s₁ [] 0 0 := Stand.of_body Bd
  refine body p e s m below meth c s₁ (fun U => ∃ s₂ o, Steps p.tables e below U s₂ ∧ s₂.status = .running ∧ Ended s₂ below o ∧ ∃ v L, o = .returned v ∧ Q v s₂.heap L ∧ FrameEnd s o s₂ L C N) Bd.exec Bd.bytes hml (findClass_of_methodNamed Bd.named) (name_of_methodNamed Bd.named Bd.method).1 Bd.returns hZ X0 (by rw [← hh, Bd.state]; rfl) ?_ ?_
  · rintro U U' k ⟨s₂, o, st, r⟩
    exact ⟨s₂, o, k _ st, r⟩
  · intro T locs cells slots v U X hv hc hn hQ k
    obtain ⟨fs, hr, hrun, hended, hW, hsame⟩ := X.leave (v := v) hv
    exact ⟨_, _, k fs hr, hrun, hended, v, locs, rfl, hQ, ⟨_, rfl⟩, hW, hsame.mono hc hn⟩
theorem mono {c' n' : Nat} (X : Stand p l e R s m args below meth c T locs cells slots) (hc : cells ≤ c') (hn : slots ≤ n') : Stand p l e R s m args below meth c T locs c' n' :=
  { X with same := X.same.weaken (fun _ hy _ => hy) hc hn }
theorem forget {k : Nat} (X : Stand p l e R s m args below meth c T locs cells slots) (N : Fr k locs) (hk : s.heap.size ≤ k) : Stand p l e R s m args below meth c T [] cells slots :=
  { X with same := X.same.weaken (fun y hy hlt => absurd hlt (Nat.not_lt.mpr (Nat.le_trans hk (N y hy)))) (Nat.le_refl _) (Nat.le_refl _) }
variable {Q : Option Value → Heap → List Loc → Prop} {C N : Nat} {D : State → Prop}
theorem retI (hR : Ret p l e R s m args below meth c Q C N D) (X : Stand p l e R s m args below meth c T locs cells slots) (hx : p.tables.exec = Jvm.exec) {pc : Nat} {Ls : Array Slot} {z : Int32} {rest : List Value} (hret : meth.sig.returnType = some .int) (hd : decode c.code pc = .ok (.ireturn, 1)) (hc : cells ≤ C) (hn : slots ≤ N) (hQ : Q (some (.int z)) T.heap locs) : D (T.setTop (mkF m pc Ls (.int z :: rest))) := by
  refine hR T locs cells slots (some (.int z)) _ X (fun h => by rw [hret] at h; cases h) hc hn hQ fun fs hl => ?_
  have hm' : T.vm.method? m = some meth := X.method'
  have hn : narrow .int (.int z) = .int z := rfl
  show Steps p.tables e below (T.setTop { method := m, pc := pc, locals := Ls, stack := _ :: rest, locked := none }) _
  jvm_step X.here [X.here.top, hx, hd, hm', hret, hn]
  first | (intro acts; rw [hl _ acts rfl rfl rfl]) | rw [hl _ _ rfl rfl rfl]
  exact Steps.refl _
theorem retN (hR : Ret p l e R s m args below meth c Q C N D) (X : Stand p l e R s m args below meth c T locs cells slots) (hx : p.tables.exec = Jvm.exec) {pc : Nat} {Ls : Array Slot} {z : Int32} {t : FieldType} {rest : List Value} (hret : meth.sig.returnType = some t) (ht : t = .boolean ∨ t = .byte ∨ t = .char ∨ t = .short) (hd : decode c.code pc = .ok (.ireturn, 1)) (hc : cells ≤ C) (hn : slots ≤ N) (hz : nar t z = z) (hQ : Q (some (.int z)) T.heap locs) : D (T.setTop (mkF m pc Ls (.int z :: rest))) := by
  refine hR T locs cells slots (some (.int z)) _ X (fun h => by rw [hret] at h; cases h) hc hn hQ fun fs hl => ?_
  exact Jvm.RoadKit.retN X hx hret ht hd (by rw [hz]; exact hl)
theorem retJ (hR : Ret p l e R s m args below meth c Q C N D) (X : Stand p l e R s m args below meth c T locs cells slots) (hx : p.tables.exec = Jvm.exec) {pc : Nat} {Ls : Array Slot} {z : Int64} (hret : meth.sig.returnType = some .long) (hd : decode c.code pc = .ok (.lreturn, 1)) (hc : cells ≤ C) (hn : slots ≤ N) (hQ : Q (some (.long z)) T.heap locs) : D (T.setTop (mkF m pc Ls [.long z])) :=
  hR T locs cells slots (some (.long z)) _ X (fun h => by rw [hret] at h; cases h) hc hn hQ fun fs hl => X.lreturnOut hx hret hd hl
theorem retA (hR : Ret p l e R s m args below meth c Q C N D) (X : Stand p l e R s m args below meth c T locs cells slots) (hx : p.tables.exec = Jvm.exec) {pc : Nat} {Ls : Array Slot} {w : Value} {t : FieldType} (hw : w.isRef = true) (hret : meth.sig.returnType = some t) (ht : t.isReference = true) (hd : decode c.code pc = .ok (.areturn, 1)) (hc : cells ≤ C) (hn : slots ≤ N) (hQ : Q (some w) T.heap locs) : D (T.setTop (mkF m pc Ls [w])) :=
  hR T locs cells slots (some w) _ X (fun h => by rw [hret] at h; cases h) hc hn hQ fun fs hl => X.areturnOut hx hw hret ht hd hl
theorem retV (hR : Ret p l e R s m args below meth c Q C N D) (X : Stand p l e R s m args below meth c T locs cells slots) (hx : p.tables.exec = Jvm.exec) {pc : Nat} {Ls : Array Slot} (hret : meth.sig.returnType = none) (hd : decode c.code pc = .ok (.return_, 1)) (hc : cells ≤ C) (hn : slots ≤ N) (hQ : Q none T.heap locs) : D (T.setTop (mkF m pc Ls [])) :=
  hR T locs cells slots none _ X (fun _ => rfl) hc hn hQ fun fs hl => X.returnOut hx hret hd hl
/-! calls -/
variable {y z : MethodName} {bytes : ByteArray} {maxL : Nat} {ret : Option FieldType} {rm : Room} {W : Nat} {Qc : Option Value → Heap → List Loc → Prop} {own Cn : String} {index : Nat} {g : JFrame} {argsL rest : List Value} {a : Addr}
theorem callS (X : Stand p l e R s m args below meth c T locs cells slots) (hx : p.tables.exec = Jvm.exec) (hZ : Z.Warmed39 s.vm) (hown : s.vm.findClass own = some m.cls)
    (w1 : (Cond.methodLink own index y).before a0 Z = true) (w2 : (Cond.static y).before a0 Z = true) (w3 : (Cond.initialized y.cls).before a0 Z = true) (w4 : (Cond.code y bytes maxL ret).before a0 Z = true)
    (hy : y.cls ≠ "java/lang/invoke/MethodHandle" ∧ y.cls ≠ "java/lang/invoke/VarHandle") (e0 : T.heap = h)
    (hM : MetFree l y (head1 [Cond.code y bytes maxL ret] rm) (fun a U => a = argsL.toArray ∧ Z.Warmed39 U.vm ∧ U.heap = h) (fun _ _ _ _ _ => True) (fun _ U o U' => ∃ v L, o = .returned v ∧ Qc v U'.heap L ∧ FrameEnd U o U' L rm.cells rm.slots))
    (hf : rm.frames + 1 ≤ R.frames) (hl : W + (maxL + 11) + rm.locals ≤ R.locals) (hcells : cells + rm.cells ≤ R.cells) (hslots : slots + rm.slots ≤ R.slots)
    (hg : g.method = m) (hsize : g.locals.size = c.maxLocals) (hlen : ∀ sig, parseMethodDescriptor y.desc = some sig → argsL.length = sig.parameters.length)
    (hstack : g.stack = argsL.reverse ++ rest) (hW : 2 * g.monitorRoom + (rest.map fun v => v.category).sum ≤ W) (hdg : decode c.code g.pc = .ok (.invokestatic index, 3)) :
    ∃ (T' : State) (v : Option Value) (L : List Loc), Stand p l e R s m args below meth c T' (locs ++ L) (cells + rm.cells) (slots + rm.slots) ∧ Qc v T'.heap L ∧
      ∀ t, Steps p.tables e below (T'.setTop { g with pc := g.pc + 3, stack := v.toList ++ rest }) t → Steps p.tables e below (T.setTop g) t := by
  obtain ⟨v, _, ⟨T', L', k', n'⟩, -, X', ⟨Lc, hQ, l1, y1, z1⟩, st⟩ := Jvm.LawKit.callS X hx (y := y) hown (mvT hZ w1) (mvT hZ w2) (mvT hZ w3) (mvT hZ w4) hy (backOf (W := W) hM hZ w4 w3 hf hl) hg hsize hlen hstack hW hdg (fun _ _ => ⟨rfl, e0, hcells, hslots⟩)
  dsimp only [Pt.U, Pt.locs, Pt.cells, Pt.slots] at X' l1 y1 z1 st hQ
  subst l1 y1 z1
  exact ⟨T', v, Lc, X', hQ, st⟩
theorem callI (X : Stand p l e R s m args below meth c T locs cells slots) (hx : p.tables.exec = Jvm.exec) (hZ : Z.Warmed39 s.vm) (hown : s.vm.findClass own = some m.cls) (hy1 : y.name = "<init>")
    (w1 : (Cond.methodLink own index y).before a0 Z = true) (w2 : (Cond.instanceMethod y).before a0 Z = true) (w3 : (Cond.initialized y.cls).before a0 Z = true) (w4 : (Cond.code y bytes maxL none).before a0 Z = true)
    (hy : y.cls ≠ "java/lang/invoke/MethodHandle" ∧ y.cls ≠ "java/lang/invoke/VarHandle") (e0 : T.heap = h)
    (hM : MetFree l y (head1 [Cond.code y bytes maxL none] rm) (fun q U => q = (.ref a :: argsL).toArray ∧ Z.Warmed39 U.vm ∧ U.heap = h) (fun _ _ _ _ _ => True) (fun _ U o U' => ∃ v L, o = .returned v ∧ Qc v U'.heap L ∧ FrameEnd U o U' L rm.cells rm.slots))
    (hf : rm.frames + 1 ≤ R.frames) (hl : W + (maxL + 11) + rm.locals ≤ R.locals) (hcells : cells + rm.cells ≤ R.cells) (hslots : slots + rm.slots ≤ R.slots)
    (hg : g.method = m) (hsize : g.locals.size = c.maxLocals) (hlen : ∀ sig, parseMethodDescriptor y.desc = some sig → argsL.length = sig.parameters.length)
    (hstack : g.stack = argsL.reverse ++ .ref a :: rest) (hW : 2 * g.monitorRoom + (rest.map fun v => v.category).sum ≤ W) (hdg : decode c.code g.pc = .ok (.invokespecial index, 3)) :
    ∃ (T' : State) (v : Option Value) (L : List Loc), Stand p l e R s m args below meth c T' (locs ++ L) (cells + rm.cells) (slots + rm.slots) ∧ Qc v T'.heap L ∧
      ∀ t, Steps p.tables e below (T'.setTop { g with pc := g.pc + 3, stack := v.toList ++ rest }) t → Steps p.tables e below (T.setTop g) t := by
  obtain ⟨v, _, ⟨T', L', k', n'⟩, -, X', ⟨Lc, hQ, l1, y1, z1⟩, st⟩ := X.specialBack hx (y := y) hy1 hown (mvT hZ w1) (mvT hZ w2) (mvT hZ w4) hy (backOf (W := W) hM hZ w4 w3 hf hl) hg hsize (Steps.refl _) hlen hstack hW hdg (fun _ _ => ⟨rfl, e0, hcells, hslots⟩)
  dsimp only [Pt.U, Pt.locs, Pt.cells, Pt.slots] at X' l1 y1 z1 st hQ
  subst l1 y1 z1
  exact ⟨T', v, Lc, X', hQ, fun t k => st.trans k⟩
theorem callV (X : Stand p l e R s m args below meth c T locs cells slots) (hx : p.tables.exec = Jvm.exec) (hZ : Z.Warmed39 s.vm) (hown : s.vm.findClass own = some m.cls)
    (w1 : (Cond.methodLink own index y).before a0 Z = true) (w5 : (Cond.declares y).before a0 Z = true) (w6 : (Cond.selects Cn y y).before a0 Z = true) (w2 : (Cond.instanceMethod y).before a0 Z = true) (w3 : (Cond.initialized y.cls).before a0 Z = true) (w4 : (Cond.code y bytes maxL ret).before a0 Z = true)
    (hy : y.cls ≠ "java/lang/invoke/MethodHandle" ∧ y.cls ≠ "java/lang/invoke/VarHandle") (e0 : T.heap = h) (E : Exa Z h a Cn)
    (hM : MetFree l y (head1 [Cond.code y bytes maxL ret] rm) (fun q U => q = (.ref a :: argsL).toArray ∧ Z.Warmed39 U.vm ∧ U.heap = h) (fun _ _ _ _ _ => True) (fun _ U o U' => ∃ v L, o = .returned v ∧ Qc v U'.heap L ∧ FrameEnd U o U' L rm.cells rm.slots))
    (hf : rm.frames + 1 ≤ R.frames) (hl : W + (maxL + 11) + rm.locals ≤ R.locals) (hcells : cells + rm.cells ≤ R.cells) (hslots : slots + rm.slots ≤ R.slots)
    (hg : g.method = m) (hsize : g.locals.size = c.maxLocals) (hlen : ∀ sig, parseMethodDescriptor y.desc = some sig → argsL.length = sig.parameters.length)
    (hstack : g.stack = argsL.reverse ++ .ref a :: rest) (hW : 2 * g.monitorRoom + (rest.map fun v => v.category).sum ≤ W) (hdg : decode c.code g.pc = .ok (.invokevirtual index, 3)) :
    ∃ (T' : State) (v : Option Value) (L : List Loc), Stand p l e R s m args below meth c T' (locs ++ L) (cells + rm.cells) (slots + rm.slots) ∧ Qc v T'.heap L ∧
      ∀ t, Steps p.tables e below (T'.setTop { g with pc := g.pc + 3, stack := v.toList ++ rest }) t → Steps p.tables e below (T.setTop g) t := by
  obtain ⟨cq, kq, q1, q2, q3⟩ := isOf hZ e0 E
  obtain ⟨v, _, ⟨T', L', k', n'⟩, -, X', ⟨Lc, hQ, l1, y1, z1⟩, st⟩ := X.virtualBack hx (y := y) (z := y) hown (mvT hZ w1) (mvT hZ w5) (notFace_of_selects (args := #[]) (mvT hZ w6)) (mvT hZ w6) (mvT hZ w2) hy (backOf (W := W) hM hZ w4 w3 hf hl) q1 q3 hg hsize (Steps.refl _) hlen hstack hW hdg (fun _ _ => ⟨rfl, e0, hcells, hslots⟩)
  dsimp only [Pt.U, Pt.locs, Pt.cells, Pt.slots] at X' l1 y1 z1 st hQ
  subst l1 y1 z1
  exact ⟨T', v, Lc, X', hQ, fun t k => st.trans k⟩
/-! arrays, as functions of the place -/
def AvI (Z : State) (h : Heap) (a : Addr) (ty : FieldType) (n : Nat) (f : Nat → Int32) : Prop := ∃ c : Cell, Arr Z h a c ty ∧ c.slots.size = n ∧ n < 2 ^ 31 ∧ ∀ i, i < n → c.slots[i]? = some (.int (f i))
def AvJ (Z : State) (h : Heap) (a : Addr) (n : Nat) (f : Nat → Int64) : Prop := ∃ c : Cell, Arr Z h a c .long ∧ c.slots.size = n ∧ n < 2 ^ 31 ∧ ∀ i, i < n → c.slots[i]? = some (.long (f i))
variable {h' : Heap} {ty : FieldType} {n : Nat} {f f' : Nat → Int32} {fj fj' : Nat → Int64} {j x : Int32} {xl : Int64} {b : Addr} {sl : Nat} {v : Value} {ws : List Addr}
theorem clamp (hj : 0 ≤ j.toInt ∧ j.toInt < n) : j.toNatClampNeg = j.toInt.toNat ∧ ¬ j < 0 := by
  refine ⟨rfl, ?_⟩
  rw [Int32.lt_iff_toInt_lt, Int32.toInt_zero]; omega
theorem inb {c : Cell} (S : c.slots.size = n) (hj : 0 ≤ j.toInt ∧ j.toInt < n) : ¬ (j < 0 ∨ c.slots.size ≤ j.toNatClampNeg) := by
  have q := clamp hj
  rw [q.1, S]
  intro w
  rcases w with w | w
  · exact q.2 w
  · omega
theorem AvI.lt (A : AvI Z h a ty n f) : a < h.size := by obtain ⟨c, A, -⟩ := A; exact A.lt
theorem AvJ.lt (A : AvJ Z h a n fj) : a < h.size := by obtain ⟨c, A, -⟩ := A; exact A.lt
theorem AvI.ext (A : AvI Z h a ty n f) (E : Ext h h') : AvI Z h' a ty n f := by obtain ⟨c, A, r⟩ := A; exact ⟨c, A.ext E, r⟩
theorem AvJ.ext (A : AvJ Z h a n fj) (E : Ext h h') : AvJ Z h' a n fj := by obtain ⟨c, A, r⟩ := A; exact ⟨c, A.ext E, r⟩
theorem AvI.other (A : AvI Z h b ty n f) (W : Wr h h' a sl v) (q : b ≠ a) : AvI Z h' b ty n f := by obtain ⟨c, A, r⟩ := A; exact ⟨c, A.other W q, r⟩
theorem AvJ.other (A : AvJ Z h b n fj) (W : Wr h h' a sl v) (q : b ≠ a) : AvJ Z h' b n fj := by obtain ⟨c, A, r⟩ := A; exact ⟨c, A.other W q, r⟩
theorem AvI.keep (A : AvI Z h a ty n f) (K : Keep h h' ws) (q : a ∉ ws) : AvI Z h' a ty n f := by obtain ⟨c, A, r⟩ := A; exact ⟨c, ⟨K.2.1 a c A.1 q, A.2⟩, r⟩
theorem AvJ.keep (A : AvJ Z h a n fj) (K : Keep h h' ws) (q : a ∉ ws) : AvJ Z h' a n fj := by obtain ⟨c, A, r⟩ := A; exact ⟨c, ⟨K.2.1 a c A.1 q, A.2⟩, r⟩
theorem AvI.congr (A : AvI Z h a ty n f) (q : ∀ i, i < n → f' i = f i) : AvI Z h a ty n f' := by obtain ⟨c, A, S, M, H⟩ := A; exact ⟨c, A, S, M, fun i hi => by rw [q i hi]; exact H i hi⟩
theorem AvJ.congr (A : AvJ Z h a n fj) (q : ∀ i, i < n → fj' i = fj i) : AvJ Z h a n fj' := by obtain ⟨c, A, S, M, H⟩ := A; exact ⟨c, A, S, M, fun i hi => by rw [q i hi]; exact H i hi⟩
theorem AvI.new {cA : ClassId} {z : Int32} (A : Arr Z h a (newA cA ty z) ty) (hz : z.toInt = n) (hd : defaultValue ty = .int 0) : AvI Z h a ty n (fun _ => 0) := by
  have q : z.toNatClampNeg = n := by show z.toInt.toNat = n; omega
  refine ⟨_, A, by rw [sz_new]; exact q, by have := z.toInt_lt; omega, fun i hi => ?_⟩
  simp [newA, q, hi, hd]
theorem AvJ.new {cA : ClassId} {z : Int32} (A : Arr Z h a (newA cA .long z) .long) (hz : z.toInt = n) : AvJ Z h a n (fun _ => 0) := by
  have q : z.toNatClampNeg = n := by show z.toInt.toNat = n; omega
  refine ⟨_, A, by rw [sz_new]; exact q, by have := z.toInt_lt; omega, fun i hi => ?_⟩
  simp [newA, q, hi, defaultValue]
theorem len_nat {c : Cell} (S : c.slots.size = n) (M : n < 2 ^ 31) : c.slots.size.toInt32 = Int32.ofNat n := by rw [S]
theorem lenI (X : Stand p l e R s m args below meth c T locs cells slots) (hx : p.tables.exec = Jvm.exec) (hZ : Z.Warmed39 s.vm) (e0 : T.heap = h) (A : AvI Z h a ty n f) (hg : g.method = m) (hs : g.stack = .ref a :: rest) (hd : decode c.code g.pc = .ok (.arraylength, 1)) :
    ∀ t, Steps p.tables e below (T.setTop { g with pc := g.pc + 1, stack := .int (Int32.ofNat n) :: rest }) t → Steps p.tables e below (T.setTop g) t := by
  obtain ⟨c, A, S, M, H⟩ := A
  intro t k
  refine X.arraylength hx (by rw [e0]; exact A.1) (State.isArrayOf_alike hZ.alike A.2.1) hg hs hd _ ?_
  rw [len_nat S M]; exact k
theorem lenJ (X : Stand p l e R s m args below meth c T locs cells slots) (hx : p.tables.exec = Jvm.exec) (hZ : Z.Warmed39 s.vm) (e0 : T.heap = h) (A : AvJ Z h a n fj) (hg : g.method = m) (hs : g.stack = .ref a :: rest) (hd : decode c.code g.pc = .ok (.arraylength, 1)) :
    ∀ t, Steps p.tables e below (T.setTop { g with pc := g.pc + 1, stack := .int (Int32.ofNat n) :: rest }) t → Steps p.tables e below (T.setTop g) t := by
  obtain ⟨c, A, S, M, H⟩ := A
  intro t k
  refine X.arraylength hx (by rw [e0]; exact A.1) (State.isArrayOf_alike hZ.alike A.2.1) hg hs hd _ ?_
  rw [len_nat S M]; exact k
theorem ldI (X : Stand p l e R s m args below meth c T locs cells slots) (hx : p.tables.exec = Jvm.exec) (hZ : Z.Warmed39 s.vm) (e0 : T.heap = h) (A : AvI Z h a .int n f) (hj : 0 ≤ j.toInt ∧ j.toInt < n) (hg : g.method = m) (hs : g.stack = .int j :: .ref a :: rest) (hd : decode c.code g.pc = .ok (.iaload, 1)) :
    ∀ t, Steps p.tables e below (T.setTop { g with pc := g.pc + 1, stack := .int (f j.toInt.toNat) :: rest }) t → Steps p.tables e below (T.setTop g) t := by
  obtain ⟨c, A, S, M, H⟩ := A
  exact fun t k => X.iaload hx (by rw [e0]; exact A.1) (State.isArrayOf_alike hZ.alike A.2.1) A.2.2 (inb S hj) (by rw [(clamp hj).1]; exact H _ (by omega)) hg hs hd _ k
theorem ldJ (X : Stand p l e R s m args below meth c T locs cells slots) (hx : p.tables.exec = Jvm.exec) (hZ : Z.Warmed39 s.vm) (e0 : T.heap = h) (A : AvJ Z h a n fj) (hj : 0 ≤ j.toInt ∧ j.toInt < n) (hg : g.method = m) (hs : g.stack = .int j :: .ref a :: rest) (hd : decode c.code g.pc = .ok (.laload, 1)) :
    ∀ t, Steps p.tables e below (T.setTop { g with pc := g.pc + 1, stack := .long (fj j.toInt.toNat) :: rest }) t → Steps p.tables e below (T.setTop g) t := by
  obtain ⟨c, A, S, M, H⟩ := A
  exact fun t k => X.laload hx (by rw [e0]; exact A.1) (State.isArrayOf_alike hZ.alike A.2.1) A.2.2 (inb S hj) (by rw [(clamp hj).1]; exact H _ (by omega)) hg hs hd _ k
theorem ldB (X : Stand p l e R s m args below meth c T locs cells slots) (hx : p.tables.exec = Jvm.exec) (hZ : Z.Warmed39 s.vm) (e0 : T.heap = h) (A : AvI Z h a .byte n f) (hj : 0 ≤ j.toInt ∧ j.toInt < n) (hg : g.method = m) (hs : g.stack = .int j :: .ref a :: rest) (hd : decode c.code g.pc = .ok (.baload, 1)) :
    ∀ t, Steps p.tables e below (T.setTop { g with pc := g.pc + 1, stack := .int (f j.toInt.toNat) :: rest }) t → Steps p.tables e below (T.setTop g) t := by
  obtain ⟨c, A, S, M, H⟩ := A
  exact fun t k => X.baloadBytes hx (by rw [e0]; exact A.1) (State.isArrayOf_alike hZ.alike A.2.1) A.2.2 (inb S hj) (by rw [(clamp hj).1]; exact H _ (by omega)) hg hs hd _ k
theorem AvI.set (A : AvI Z h a ty n f) (hj : 0 ≤ j.toInt ∧ j.toInt < n) (W : Wr h h' a j.toNatClampNeg (.int x)) : AvI Z h' a ty n (fun i => if i = j.toInt.toNat then x else f i) := by
  obtain ⟨c, A, S, M, H⟩ := A
  refine ⟨_, A.same W, by rw [sz_set]; exact S, M, fun i hi => ?_⟩
  rw [(clamp hj).1]
  by_cases q : i = j.toInt.toNat
  · subst q
    simp only [Cell.setSlot, if_true]
    show (c.slots.setIfInBounds j.toInt.toNat _)[j.toInt.toNat]? = _
    rw [Array.getElem?_setIfInBounds, if_pos rfl, if_pos (by rw [S]; exact hi)]
  · simp only [Cell.setSlot, q, if_false]
    rw [Array.getElem?_setIfInBounds_ne (Ne.symm q)]; exact H i hi
theorem AvJ.set (A : AvJ Z h a n fj) (hj : 0 ≤ j.toInt ∧ j.toInt < n) (W : Wr h h' a j.toNatClampNeg (.long xl)) : AvJ Z h' a n (fun i => if i = j.toInt.toNat then xl else fj i) := by
  obtain ⟨c, A, S, M, H⟩ := A
  refine ⟨_, A.same W, by rw [sz_set]; exact S, M, fun i hi => ?_⟩
  rw [(clamp hj).1]
  by_cases q : i = j.toInt.toNat
  · subst q
    simp only [Cell.setSlot, if_true]
    show (c.slots.setIfInBounds j.toInt.toNat _)[j.toInt.toNat]? = _
    rw [Array.getElem?_setIfInBounds, if_pos rfl, if_pos (by rw [S]; exact hi)]
  · simp only [Cell.setSlot, q, if_false]
    rw [Array.getElem?_setIfInBounds_ne (Ne.symm q)]; exact H i hi
theorem stoI (X : Stand p l e R s m args below meth c T locs cells slots) (hx : p.tables.exec = Jvm.exec) (hZ : Z.Warmed39 s.vm) (e0 : T.heap = h) (A : AvI Z h a .int n f) (hj : 0 ≤ j.toInt ∧ j.toInt < n) (hg : g.method = m) (hs : g.stack = .int x :: .int j :: .ref a :: rest) (hd : decode c.code g.pc = .ok (.iastore, 1)) :
    ∃ T' h', Stand p l e R s m args below meth c T' (locs ++ [⟨a, j.toNatClampNeg⟩]) cells slots ∧ T'.heap = h' ∧ AvI Z h' a .int n (fun i => if i = j.toInt.toNat then x else f i) ∧ Wr h h' a j.toNatClampNeg (.int x) ∧ ∀ t, Steps p.tables e below (T'.setTop { g with pc := g.pc + 1, stack := rest }) t → Steps p.tables e below (T.setTop g) t := by
  obtain ⟨c, A', S, M, H⟩ := id A
  obtain ⟨T', h', X', e', W, st⟩ := stI X hx hZ e0 A' (inb S hj) hg hs hd
  exact ⟨T', h', X', e', A.set hj W, W, st⟩
theorem stoJ (X : Stand p l e R s m args below meth c T locs cells slots) (hx : p.tables.exec = Jvm.exec) (hZ : Z.Warmed39 s.vm) (e0 : T.heap = h) (A : AvJ Z h a n fj) (hj : 0 ≤ j.toInt ∧ j.toInt < n) (hg : g.method = m) (hs : g.stack = .long xl :: .int j :: .ref a :: rest) (hd : decode c.code g.pc = .ok (.lastore, 1)) :
    ∃ T' h', Stand p l e R s m args below meth c T' (locs ++ [⟨a, j.toNatClampNeg⟩]) cells slots ∧ T'.heap = h' ∧ AvJ Z h' a n (fun i => if i = j.toInt.toNat then xl else fj i) ∧ Wr h h' a j.toNatClampNeg (.long xl) ∧ ∀ t, Steps p.tables e below (T'.setTop { g with pc := g.pc + 1, stack := rest }) t → Steps p.tables e below (T.setTop g) t := by
  obtain ⟨c, A', S, M, H⟩ := id A
  obtain ⟨T', h', X', e', W, st⟩ := stJ X hx hZ e0 A' (inb S hj) hg hs hd
  exact ⟨T', h', X', e', A.set hj W, W, st⟩
theorem stoB (X : Stand p l e R s m args below meth c T locs cells slots) (hx : p.tables.exec = Jvm.exec) (hZ : Z.Warmed39 s.vm) (e0 : T.heap = h) (A : AvI Z h a .byte n f) (hj : 0 ≤ j.toInt ∧ j.toInt < n) (hg : g.method = m) (hs : g.stack = .int x :: .int j :: .ref a :: rest) (hd : decode c.code g.pc = .ok (.bastore, 1)) :
    ∃ T' h', Stand p l e R s m args below meth c T' (locs ++ [⟨a, j.toNatClampNeg⟩]) cells slots ∧ T'.heap = h' ∧ AvI Z h' a .byte n (fun i => if i = j.toInt.toNat then nar .byte x else f i) ∧ Wr h h' a j.toNatClampNeg (.int (nar .byte x)) ∧ ∀ t, Steps p.tables e below (T'.setTop { g with pc := g.pc + 1, stack := rest }) t → Steps p.tables e below (T.setTop g) t := by
  obtain ⟨c, A', S, M, H⟩ := id A
  obtain ⟨T', h', X', e', W, st⟩ := stB X hx hZ e0 A' (inb S hj) hg hs hd
  exact ⟨T', h', X', e', A.set hj W, W, st⟩
theorem stoZ (X : Stand p l e R s m args below meth c T locs cells slots) (hx : p.tables.exec = Jvm.exec) (hZ : Z.Warmed39 s.vm) (e0 : T.heap = h) (A : AvI Z h a .boolean n f) (hj : 0 ≤ j.toInt ∧ j.toInt < n) (hg : g.method = m) (hs : g.stack = .int x :: .int j :: .ref a :: rest) (hd : decode c.code g.pc = .ok (.bastore, 1)) :
    ∃ T' h', Stand p l e R s m args below meth c T' (locs ++ [⟨a, j.toNatClampNeg⟩]) cells slots ∧ T'.heap = h' ∧ AvI Z h' a .boolean n (fun i => if i = j.toInt.toNat then nar .boolean x else f i) ∧ Wr h h' a j.toNatClampNeg (.int (nar .boolean x)) ∧ ∀ t, Steps p.tables e below (T'.setTop { g with pc := g.pc + 1, stack := rest }) t → Steps p.tables e below (T.setTop g) t := by
  obtain ⟨c, A', S, M, H⟩ := id A
  obtain ⟨T', h', X', e', W, st⟩ := stZ X hx hZ e0 A' (inb S hj) hg hs hd
  exact ⟨T', h', X', e', A.set hj W, W, st⟩
theorem snoc {k : Nat} (N : Fr k locs) (q : k ≤ a) : Fr k (locs ++ [⟨a, sl⟩]) := N.app fun y hy => by cases List.mem_singleton.mp hy; exact q
theorem nmI {v x : Int32} {pc : Nat} {ls : Array Slot} {st : List Value} {t : State} (q : v = x) (k : Steps p.tables e below (T.setTop (mkF m pc ls (.int v :: st))) t) : Steps p.tables e below (T.setTop (mkF m pc ls (.int x :: st))) t := by subst q; exact k
theorem nmJ {v x : Int64} {pc : Nat} {ls : Array Slot} {st : List Value} {t : State} (q : v = x) (k : Steps p.tables e below (T.setTop (mkF m pc ls (.long v :: st))) t) : Steps p.tables e below (T.setTop (mkF m pc ls (.long x :: st))) t := by subst q; exact k
theorem ne_of {x y : Nat} (q : @Ne Nat x y) : @Ne Addr x y := q
theorem ldZ (X : Stand p l e R s m args below meth c T locs cells slots) (hx : p.tables.exec = Jvm.exec) (hZ : Z.Warmed39 s.vm) (e0 : T.heap = h) (A : AvI Z h a .boolean n f) (hj : 0 ≤ j.toInt ∧ j.toInt < n) (hg : g.method = m) (hs : g.stack = .int j :: .ref a :: rest) (hd : decode c.code g.pc = .ok (.baload, 1)) :
    ∀ t, Steps p.tables e below (T.setTop { g with pc := g.pc + 1, stack := .int (f j.toInt.toNat) :: rest }) t → Steps p.tables e below (T.setTop g) t := by
  obtain ⟨c, A, S, M, H⟩ := A
  exact fun t k => X.baloadBooleans hx (by rw [e0]; exact A.1) (State.isArrayOf_alike hZ.alike A.2.1) A.2.2 (inb S hj) (by rw [(clamp hj).1]; exact H _ (by omega)) hg hs hd _ k
theorem lrem_eq (x y : Int64) : x - x / y * y = x % y := by
  apply Int64.toInt_inj.mp
  have hy := Int64.toInt_mod x y
  have q := Int64.toInt_div x y
  rw [hy, Int64.toInt_sub, Int64.toInt_mul, q]
  have h1 := Int.tmod_add_mul_tdiv x.toInt y.toInt
  have h2 : x.toInt.tmod y.toInt = x.toInt - x.toInt.tdiv y.toInt * y.toInt := by rw [Int.mul_comm]; omega
  have h3 := rng64 x
  have h4 := rng64 y
  have h5 : (x.toInt.tmod y.toInt) % (2 ^ 64) = (x.toInt - x.toInt.tdiv y.toInt * y.toInt) % (2 ^ 64) := by rw [h2]
  have h6 : -2 ^ 63 ≤ x.toInt.tmod y.toInt ∧ x.toInt.tmod y.toInt < 2 ^ 63 := by rw [← hy]; exact ⟨(x % y).le_toInt, (x % y).toInt_lt⟩
  rw [← Int.bmod_eq_of_le (n := x.toInt.tmod y.toInt) (m := 2 ^ 64) (by omega) (by omega), h2]
  simp only [Int.bmod_sub_bmod, Int.sub_bmod_bmod, Int.bmod_mul_bmod, Int.mul_bmod_bmod]
theorem lremM {t : State} (X : Stand p l e R s m args below meth c T locs cells slots) (hx : p.tables.exec = Jvm.exec) (hg : g.method = m) {x y : Int64} (hd : decode c.code g.pc = .ok (.lrem, 1)) (hs : g.stack = .long y :: .long x :: rest) (hy : y ≠ 0)
    (hr : Steps p.tables e below (T.setTop { g with pc := g.pc + 1, stack := .long (x % y) :: rest }) t) : Steps p.tables e below (T.setTop g) t :=
  XS.lrem X.here hx hg hd hs hy (by rw [lrem_eq]; exact hr)
/-- a boolean as an int -/
def b2i (b : Bool) : Int32 := if b then 1 else 0
theorem b2i_t : b2i true = 1 := rfl
theorem b2i_f : b2i false = 0 := rfl
theorem b2i_nar (b : Bool) : nar .boolean (b2i b) = b2i b := by cases b <;> decide
theorem b2i_eq0 {b : Bool} : b2i b = 0 ↔ ¬ b = true := by cases b <;> decide
theorem b2i_inj {b b' : Bool} : b2i b = b2i b' ↔ b = b' := by cases b <;> cases b' <;> decide
end Kit
end Jvm.Own
namespace Jvm.Pilot.@@N@@
open Jvm Jvm.ClassFile Sem Op Lib Jvm.Free Jvm.Stand Jvm.LawKit Jvm.RoadKit Bundle Jvm.Pilot.@@N@@.Jvm.D
def own_lab (i s : Int32) : Int32 := (i + s) &&& 3
def own_up (g : Nat → Int32) (i x : Int32) : Nat → Int32 := fun ii => if ii = i.toInt.toNat then x else g ii
def own_ecw (i k j s : Int32) : Int32 := if k = 0 then (if i = 0 then own_lab 0 s else 0) else if k < i then 0 else if i = k then own_lab ((j + 1) % k) s else if i = j then own_lab k s else own_lab ((i + 1) % k) s
def own_eccw (i k j s : Int32) : Int32 := if k = 0 then (if i = 0 then own_lab 0 s else 0) else if k < i then 0 else if i = k then own_lab j s else if i = (j + 1) % k then own_lab k s else own_lab ((i + k - 1) % k) s
theorem own_eq {a b : Int32} : a = b ↔ a.toInt = b.toInt := Int32.toInt_inj.symm
theorem own_lt {a b : Int32} : a < b ↔ a.toInt < b.toInt := Int32.lt_iff_toInt_lt
theorem own_k : (0 : Int32).toInt = 0 ∧ (1 : Int32).toInt = 1 ∧ (2 : Int32).toInt = 2 ∧ (3 : Int32).toInt = 3 ∧ (-1 : Int32).toInt = -1 := by decide
theorem own_s4 {v x : Int32} (h : v = x &&& 3) : v = 0 ∨ v = 1 ∨ v = 2 ∨ v = 3 := by
  have e : (x &&& 3).toInt = x.toInt % 2 ^ 2 := Jvm.Kit.i32_mask x 3 (k := 2) (by decide) (by decide)
  rw [← h] at e
  have := own_k
  simp only [own_eq]; omega
theorem own_o2 {v x : Int32} (h : v = x &&& 1) : v = 0 ∨ v = 1 := by
  have e : (x &&& 1).toInt = x.toInt % 2 ^ 1 := Jvm.Kit.i32_mask x 1 (k := 1) (by decide) (by decide)
  rw [← h] at e
  have := own_k
  simp only [own_eq]; omega
theorem own_r3 {v x : Int32} (h : v = (x &&& 2147483647) % 3) : 0 ≤ v.toInt ∧ v.toInt < 3 := by
  have hm : (x &&& 2147483647).toInt = x.toInt % 2 ^ 31 := Jvm.Kit.i32_mask x 2147483647 (k := 31) (by decide) (by decide)
  have := own_k
  have e : ((x &&& 2147483647) % 3).toInt = (x &&& 2147483647).toInt % (3 : Int32).toInt := Jvm.Kit.i32_rem_nonneg (by omega)
  rw [h, e, this.2.2.2.1]; omega
theorem own_k0 {v x : Int32} (h : v = (x &&& 2147483647) % 3) (hc : v < 1) : v = 0 := by
  have := own_r3 h
  have := own_k
  rw [own_lt] at hc; rw [own_eq]; omega
theorem own_k1 {v x : Int32} (h : v = (x &&& 2147483647) % 3) (hc : ¬ v < 1) (hc2 : ¬ v = 2) : v = 1 := by
  have := own_r3 h
  have := own_k
  rw [own_lt] at hc; rw [own_eq] at hc2; rw [own_eq]; omega
theorem own_j1 {v x : Int32} (h : v = (x &&& 2147483647) % 1) : v = 0 := by
  have hm : (x &&& 2147483647).toInt = x.toInt % 2 ^ 31 := Jvm.Kit.i32_mask x 2147483647 (k := 31) (by decide) (by decide)
  have := own_k
  have e : ((x &&& 2147483647) % 1).toInt = (x &&& 2147483647).toInt % (1 : Int32).toInt := Jvm.Kit.i32_rem_nonneg (by omega)
  rw [own_eq, h, e, this.2.1, this.1]; omega
theorem own_j2 {v x : Int32} (h : v = (x &&& 2147483647) % 2) (hc : ¬ v = 0) : v = 1 := by
  have hm : (x &&& 2147483647).toInt = x.toInt % 2 ^ 31 := Jvm.Kit.i32_mask x 2147483647 (k := 31) (by decide) (by decide)
  have := own_k
  have e0 : ((x &&& 2147483647) % 2).toInt = (x &&& 2147483647).toInt % (2 : Int32).toInt := Jvm.Kit.i32_rem_nonneg (by omega)
  have e : v.toInt = (x &&& 2147483647).toInt % 2 := by rw [h, e0, this.2.2.1]
  rw [own_eq] at hc; rw [own_eq]; omega
theorem d1_0 : decode method_2_code 0 = .ok (.iload_n 0, 1) := by decide +kernel
theorem d1_1 : decode method_2_code 1 = .ok (.iload_n 1, 1) := by decide +kernel
theorem d1_2 : decode method_2_code 2 = .ok (.iadd, 1) := by decide +kernel
theorem d1_3 : decode method_2_code 3 = .ok (.iconst 3, 1) := by decide +kernel
theorem d1_4 : decode method_2_code 4 = .ok (.iand, 1) := by decide +kernel
theorem d1_5 : decode method_2_code 5 = .ok (.ireturn, 1) := by decide +kernel
theorem pn_0 : plainName "com/example/libgriddraw/libgriddraw/core/RotationSystemInsertClockwiseOfPinLaw" = true := by first | (simp [plainName, overriddenIn]; done) | decide +kernel
theorem ef_1 (m : MethodId) (p0 : Int32) (p1 : Int32) : entryFrame m #[(.int p0), (.int p1)] 2 = mkF m 0 #[.val (.int p0), .val (.int p1)] [] := by first | (simp [entryFrame, mkF, argsToLocals, Value.category]; done) | rfl
def Q1 (Z : State) (p0 : Int32) (p1 : Int32) (h0 : Heap) (n0 : Nat) (v : Option Value) (h : Heap) (L : List Loc) : Prop := v = some (.int (own_lab p0 p1)) ∧ Fr n0 L ∧ h = h0
set_option maxRecDepth 65536 in
set_option maxHeartbeats 40000000 in
theorem rm1 (l : Launch) (Z : State) (a0 : Array Value) (hw : ∀ d ∈ tables_1, d.before a0 Z = true) (ws : List Jvm.Cond) (p0 : Int32) (p1 : Int32) (h0 : Heap) (n0 : Nat) :
    MetFree l (⟨"com/example/libgriddraw/libgriddraw/core/RotationSystemInsertClockwiseOfPinLaw", "lab", "(II)I"⟩ : MethodName) (head1 (Jvm.Cond.code (⟨"com/example/libgriddraw/libgriddraw/core/RotationSystemInsertClockwiseOfPinLaw", "lab", "(II)I"⟩ : MethodName) method_2_code 2 (some .int) :: ws) ({ frames := 0, cells := 0, slots := 0, locals := 0 } : Room)) (fun a U => a = #[(.int p0), (.int p1)] ∧ Z.Warmed39 U.vm ∧ U.heap = h0) (fun _ _ _ _ _ => True) (fun _ U o U' => ∃ v L, o = .returned v ∧ Q1 Z p0 p1 h0 n0 v U'.heap L ∧ FrameEnd U o U' L ({ frames := 0, cells := 0, slots := 0, locals := 0 } : Room).cells ({ frames := 0, cells := 0, slots := 0, locals := 0 } : Room).slots) := by
  refine Own.enter (Q := Q1 Z p0 p1 h0 n0) (plainFor_of_name pn_0) ?_
  intro p e s m below meth c s₁ D hx hby hml hown hnm hret hZ X0 e0 hD hR
  have N0 := Fr.nil n0
  rw [show entryFrame m #[(.int p0), (.int p1)] 2 = mkF m 0 #[.val (.int p0), .val (.int p1)] [] from ef_1 m p0 p1]
  refine hD _ (s₁.setTop (mkF m 5 #[.val (.int p0), .val (.int p1)] [(.int ((p0 + p1) &&& (3 : Int32)))])) (fun t k => ?_) ?_
  · show Steps p.tables e below (s₁.setTop (mkF m 0 #[.val (.int p0), .val (.int p1)] [])) t
    refine XS.iloadN X0.here hx rfl (hb hby d1_0) rfl ?_
    show Steps p.tables e below (s₁.setTop (mkF m 1 #[.val (.int p0), .val (.int p1)] [(.int p0)])) t
    refine XS.iloadN X0.here hx rfl (hb hby d1_1) rfl ?_
    show Steps p.tables e below (s₁.setTop (mkF m 2 #[.val (.int p0), .val (.int p1)] [(.int p1), (.int p0)])) t
    refine XS.iadd X0.here hx rfl (hb hby d1_2) rfl ?_
    show Steps p.tables e below (s₁.setTop (mkF m 3 #[.val (.int p0), .val (.int p1)] [(.int (p0 + p1))])) t
    refine XS.iconst X0.here hx rfl (hb hby d1_3) ?_
    show Steps p.tables e below (s₁.setTop (mkF m 4 #[.val (.int p0), .val (.int p1)] [(.int (3 : Int32)), (.int (p0 + p1))])) t
    refine XS.iand X0.here hx rfl (hb hby d1_4) rfl ?_
    show Steps p.tables e below (s₁.setTop (mkF m 5 #[.val (.int p0), .val (.int p1)] [(.int ((p0 + p1) &&& (3 : Int32)))])) t
    exact k
  exact Own.retI hR X0 hx hret (hb hby d1_5) (by decide) (by decide) ⟨rfl, N0, e0⟩
theorem d2_0 : decode prog_39_method_2_code 0 = .ok (.aload_n 0, 1) := by decide +kernel
theorem d2_1 : decode prog_39_method_2_code 1 = .ok (.invokespecial 17, 3) := by decide +kernel
theorem d2_4 : decode prog_39_method_2_code 4 = .ok (.aload_n 0, 1) := by decide +kernel
theorem d2_5 : decode prog_39_method_2_code 5 = .ok (.aload_n 1, 1) := by decide +kernel
theorem d2_6 : decode prog_39_method_2_code 6 = .ok (.putfield 22, 3) := by decide +kernel
theorem d2_9 : decode prog_39_method_2_code 9 = .ok (.aload_n 0, 1) := by decide +kernel
theorem d2_10 : decode prog_39_method_2_code 10 = .ok (.aload_n 2, 1) := by decide +kernel
theorem d2_11 : decode prog_39_method_2_code 11 = .ok (.putfield 25, 3) := by decide +kernel
theorem d2_14 : decode prog_39_method_2_code 14 = .ok (.aload_n 0, 1) := by decide +kernel
theorem d2_15 : decode prog_39_method_2_code 15 = .ok (.aload_n 3, 1) := by decide +kernel
theorem d2_16 : decode prog_39_method_2_code 16 = .ok (.putfield 7, 3) := by decide +kernel
theorem d2_19 : decode prog_39_method_2_code 19 = .ok (.return_, 1) := by decide +kernel
theorem pn_1 : plainName "com/example/libgriddraw/libgriddraw/core/RotationSystem" = true := by first | (simp [plainName, overriddenIn]; done) | decide +kernel
theorem ef_2 (m : MethodId) (o0 : Addr) (o1 : Addr) (o2 : Addr) (o3 : Addr) : entryFrame m #[(.ref o0), (.ref o1), (.ref o2), (.ref o3)] 4 = mkF m 0 #[.val (.ref o0), .val (.ref o1), .val (.ref o2), .val (.ref o3)] [] := by first | (simp [entryFrame, mkF, argsToLocals, Value.category]; done) | rfl
def Q2 (Z : State) (o0 : Nat) (o1 : Nat) (o2 : Nat) (o3 : Nat) (h0 : Heap) (n0 : Nat) (v : Option Value) (h : Heap) (L : List Loc) : Prop := v = none ∧ Fr n0 L ∧ Keep h0 h [o0] ∧ Exa Z h o0 "com/example/libgriddraw/libgriddraw/core/RotationSystem" ∧ Fld Z h o0 "com/example/libgriddraw/libgriddraw/core/RotationSystem" "ccwNext" "[I" (.ref o1) ∧ Fld Z h o0 "com/example/libgriddraw/libgriddraw/core/RotationSystem" "cwNext" "[I" (.ref o2) ∧ Fld Z h o0 "com/example/libgriddraw/libgriddraw/core/RotationSystem" "firstOut" "[I" (.ref o3)
set_option maxRecDepth 65536 in
set_option maxHeartbeats 40000000 in
theorem rm2 (l : Launch) (Z : State) (a0 : Array Value) (hw : ∀ d ∈ tables_1, d.before a0 Z = true) (ws : List Jvm.Cond) (o0 : Nat) (o1 : Nat) (o2 : Nat) (o3 : Nat) (h0 : Heap) (n0 : Nat) (Z0 : n0 ≤ h0.size) (g0 : n0 ≤ o0) (E_ : Exa Z h0 o0 "com/example/libgriddraw/libgriddraw/core/RotationSystem") (F_ccwNext : Fld Z h0 o0 "com/example/libgriddraw/libgriddraw/core/RotationSystem" "ccwNext" "[I" .null) (F_cwNext : Fld Z h0 o0 "com/example/libgriddraw/libgriddraw/core/RotationSystem" "cwNext" "[I" .null) (F_firstOut : Fld Z h0 o0 "com/example/libgriddraw/libgriddraw/core/RotationSystem" "firstOut" "[I" .null) :
    MetFree l (⟨"com/example/libgriddraw/libgriddraw/core/RotationSystem", "<init>", "([I[I[I)V"⟩ : MethodName) (head1 (Jvm.Cond.code (⟨"com/example/libgriddraw/libgriddraw/core/RotationSystem", "<init>", "([I[I[I)V"⟩ : MethodName) prog_39_method_2_code 4 none :: ws) ({ frames := 1, cells := 0, slots := 0, locals := 12 } : Room)) (fun a U => a = #[(.ref o0), (.ref o1), (.ref o2), (.ref o3)] ∧ Z.Warmed39 U.vm ∧ U.heap = h0) (fun _ _ _ _ _ => True) (fun _ U o U' => ∃ v L, o = .returned v ∧ Q2 Z o0 o1 o2 o3 h0 n0 v U'.heap L ∧ FrameEnd U o U' L ({ frames := 1, cells := 0, slots := 0, locals := 12 } : Room).cells ({ frames := 1, cells := 0, slots := 0, locals := 12 } : Room).slots) := by
  refine Own.enter (Q := Q2 Z o0 o1 o2 o3 h0 n0) (plainFor_of_name pn_1) ?_
  intro p e s m below meth c s₁ D hx hby hml hown hnm hret hZ X0 e0 hD hR
  have N0 := Fr.nil n0
  have K0 : Keep h0 h0 [o0] := Keep.refl h0 _
  rw [show entryFrame m #[(.ref o0), (.ref o1), (.ref o2), (.ref o3)] 4 = mkF m 0 #[.val (.ref o0), .val (.ref o1), .val (.ref o2), .val (.ref o3)] [] from ef_2 m o0 o1 o2 o3]
  obtain ⟨T1, X1, e1, st1⟩ := initO X0 hx hZ hown (hw _ (List.mem_of_getElem? (i := 15) rfl)) (hw _ (List.mem_of_getElem? (i := 16) rfl)) (hw _ (List.mem_of_getElem? (i := 17) rfl)) e0 (g := (mkF m 1 #[.val (.ref o0), .val (.ref o1), .val (.ref o2), .val (.ref o3)] [(.ref o0)])) rfl (by rw [hml]; rfl) rfl (hb hby d2_1) (by decide) (W := 0) (by show 2 * 0 + _ ≤ _; exact Nat.le_of_eq rfl) (by decide)
  obtain ⟨T2, h2, X2, e2, W2, st2⟩ := putF X1 hx hZ hown (host := "") (Or.inl (hw _ (List.mem_of_getElem? (i := 18) rfl))) Via.refl e1 F_ccwNext E_ (Or.inr ⟨(hw _ (List.mem_of_getElem? (i := 19) rfl)), rfl, hnm⟩) (hw _ (List.mem_of_getElem? (i := 6) rfl)) (ty := (.array .int)) (by decide) rfl rfl (g := (mkF m 6 #[.val (.ref o0), .val (.ref o1), .val (.ref o2), .val (.ref o3)] [(.ref o1), (.ref o0)])) rfl rfl (hb hby d2_6)
  have f3 : Fld Z h2 o0 "com/example/libgriddraw/libgriddraw/core/RotationSystem" "ccwNext" "[I" (.ref o1) := F_ccwNext.same W2
  have f4 : Exa Z h2 o0 "com/example/libgriddraw/libgriddraw/core/RotationSystem" := E_.wr W2
  have f5 : Fld Z h2 o0 "com/example/libgriddraw/libgriddraw/core/RotationSystem" "cwNext" "[I" .null := F_cwNext.other W2 (Or.inr (slot_ne (Or.inr (hw _ (List.mem_of_getElem? (i := 21) rfl))) (Or.inr (hw _ (List.mem_of_getElem? (i := 19) rfl))) (by decide) (t := (.array .int)) (t' := (.array .int)) (by decide) (by decide)))
  have f6 : Fld Z h2 o0 "com/example/libgriddraw/libgriddraw/core/RotationSystem" "firstOut" "[I" .null := F_firstOut.other W2 (Or.inr (slot_ne (Or.inr (hw _ (List.mem_of_getElem? (i := 23) rfl))) (Or.inr (hw _ (List.mem_of_getElem? (i := 19) rfl))) (by decide) (t := (.array .int)) (t' := (.array .int)) (by decide) (by decide)))
  have N2 := Fr.snoc X2 N0 (show n0 ≤ o0 by omega)
  have Z2 : n0 ≤ h2.size := Nat.le_trans Z0 (Keep.of_wr W2).1
  have K2 : Keep h0 h2 [o0] := K0.wr W2 (Or.inl (List.mem_of_getElem? (i := 0) rfl))
  obtain ⟨T7, h7, X7, e7, W7, st7⟩ := putF X2 hx hZ hown (host := "") (Or.inl (hw _ (List.mem_of_getElem? (i := 20) rfl))) Via.refl e2 f5 f4 (Or.inr ⟨(hw _ (List.mem_of_getElem? (i := 21) rfl)), rfl, hnm⟩) (hw _ (List.mem_of_getElem? (i := 6) rfl)) (ty := (.array .int)) (by decide) rfl rfl (g := (mkF m 11 #[.val (.ref o0), .val (.ref o1), .val (.ref o2), .val (.ref o3)] [(.ref o2), (.ref o0)])) rfl rfl (hb hby d2_11)
  have f8 : Fld Z h7 o0 "com/example/libgriddraw/libgriddraw/core/RotationSystem" "cwNext" "[I" (.ref o2) := f5.same W7
  have f9 : Exa Z h7 o0 "com/example/libgriddraw/libgriddraw/core/RotationSystem" := f4.wr W7
  have f10 : Fld Z h7 o0 "com/example/libgriddraw/libgriddraw/core/RotationSystem" "ccwNext" "[I" (.ref o1) := f3.other W7 (Or.inr (slot_ne (Or.inr (hw _ (List.mem_of_getElem? (i := 19) rfl))) (Or.inr (hw _ (List.mem_of_getElem? (i := 21) rfl))) (by decide) (t := (.array .int)) (t' := (.array .int)) (by decide) (by decide)))
  have f11 : Fld Z h7 o0 "com/example/libgriddraw/libgriddraw/core/RotationSystem" "firstOut" "[I" .null := f6.other W7 (Or.inr (slot_ne (Or.inr (hw _ (List.mem_of_getElem? (i := 23) rfl))) (Or.inr (hw _ (List.mem_of_getElem? (i := 21) rfl))) (by decide) (t := (.array .int)) (t' := (.array .int)) (by decide) (by decide)))
  have N7 := Fr.snoc X7 N2 (show n0 ≤ o0 by omega)
  have Z7 : n0 ≤ h7.size := Nat.le_trans Z2 (Keep.of_wr W7).1
  have K7 : Keep h0 h7 [o0] := K2.wr W7 (Or.inl (List.mem_of_getElem? (i := 0) rfl))
  obtain ⟨T12, h12, X12, e12, W12, st12⟩ := putF X7 hx hZ hown (host := "") (Or.inl (hw _ (List.mem_of_getElem? (i := 22) rfl))) Via.refl e7 f11 f9 (Or.inr ⟨(hw _ (List.mem_of_getElem? (i := 23) rfl)), rfl, hnm⟩) (hw _ (List.mem_of_getElem? (i := 6) rfl)) (ty := (.array .int)) (by decide) rfl rfl (g := (mkF m 16 #[.val (.ref o0), .val (.ref o1), .val (.ref o2), .val (.ref o3)] [(.ref o3), (.ref o0)])) rfl rfl (hb hby d2_16)
  have f13 : Fld Z h12 o0 "com/example/libgriddraw/libgriddraw/core/RotationSystem" "firstOut" "[I" (.ref o3) := f11.same W12
  have f14 : Exa Z h12 o0 "com/example/libgriddraw/libgriddraw/core/RotationSystem" := f9.wr W12
  have f15 : Fld Z h12 o0 "com/example/libgriddraw/libgriddraw/core/RotationSystem" "ccwNext" "[I" (.ref o1) := f10.other W12 (Or.inr (slot_ne (Or.inr (hw _ (List.mem_of_getElem? (i := 19) rfl))) (Or.inr (hw _ (List.mem_of_getElem? (i := 23) rfl))) (by decide) (t := (.array .int)) (t' := (.array .int)) (by decide) (by decide)))
  have f16 : Fld Z h12 o0 "com/example/libgriddraw/libgriddraw/core/RotationSystem" "cwNext" "[I" (.ref o2) := f8.other W12 (Or.inr (slot_ne (Or.inr (hw _ (List.mem_of_getElem? (i := 21) rfl))) (Or.inr (hw _ (List.mem_of_getElem? (i := 23) rfl))) (by decide) (t := (.array .int)) (t' := (.array .int)) (by decide) (by decide)))
  have N12 := Fr.snoc X12 N7 (show n0 ≤ o0 by omega)
  have Z12 : n0 ≤ h12.size := Nat.le_trans Z7 (Keep.of_wr W12).1
  have K12 : Keep h0 h12 [o0] := K7.wr W12 (Or.inl (List.mem_of_getElem? (i := 0) rfl))
  refine hD _ (T12.setTop (mkF m 19 #[.val (.ref o0), .val (.ref o1), .val (.ref o2), .val (.ref o3)] [])) (fun t k => ?_) ?_
  · show Steps p.tables e below (s₁.setTop (mkF m 0 #[.val (.ref o0), .val (.ref o1), .val (.ref o2), .val (.ref o3)] [])) t
    refine XS.aloadN X0.here hx rfl (hb hby d2_0) rfl rfl ?_
    show Steps p.tables e below (s₁.setTop (mkF m 1 #[.val (.ref o0), .val (.ref o1), .val (.ref o2), .val (.ref o3)] [(.ref o0)])) t
    refine st1 _ ?_
    show Steps p.tables e below (T1.setTop (mkF m 4 #[.val (.ref o0), .val (.ref o1), .val (.ref o2), .val (.ref o3)] [])) t
    refine XS.aloadN X1.here hx rfl (hb hby d2_4) rfl rfl ?_
    show Steps p.tables e below (T1.setTop (mkF m 5 #[.val (.ref o0), .val (.ref o1), .val (.ref o2), .val (.ref o3)] [(.ref o0)])) t
    refine XS.aloadN X1.here hx rfl (hb hby d2_5) rfl rfl ?_
    show Steps p.tables e below (T1.setTop (mkF m 6 #[.val (.ref o0), .val (.ref o1), .val (.ref o2), .val (.ref o3)] [(.ref o1), (.ref o0)])) t
    refine st2 _ ?_
    show Steps p.tables e below (T2.setTop (mkF m 9 #[.val (.ref o0), .val (.ref o1), .val (.ref o2), .val (.ref o3)] [])) t
    refine XS.aloadN X2.here hx rfl (hb hby d2_9) rfl rfl ?_
    show Steps p.tables e below (T2.setTop (mkF m 10 #[.val (.ref o0), .val (.ref o1), .val (.ref o2), .val (.ref o3)] [(.ref o0)])) t
    refine XS.aloadN X2.here hx rfl (hb hby d2_10) rfl rfl ?_
    show Steps p.tables e below (T2.setTop (mkF m 11 #[.val (.ref o0), .val (.ref o1), .val (.ref o2), .val (.ref o3)] [(.ref o2), (.ref o0)])) t
    refine st7 _ ?_
    show Steps p.tables e below (T7.setTop (mkF m 14 #[.val (.ref o0), .val (.ref o1), .val (.ref o2), .val (.ref o3)] [])) t
    refine XS.aloadN X7.here hx rfl (hb hby d2_14) rfl rfl ?_
    show Steps p.tables e below (T7.setTop (mkF m 15 #[.val (.ref o0), .val (.ref o1), .val (.ref o2), .val (.ref o3)] [(.ref o0)])) t
    refine XS.aloadN X7.here hx rfl (hb hby d2_15) rfl rfl ?_
    show Steps p.tables e below (T7.setTop (mkF m 16 #[.val (.ref o0), .val (.ref o1), .val (.ref o2), .val (.ref o3)] [(.ref o3), (.ref o0)])) t
    refine st12 _ ?_
    show Steps p.tables e below (T12.setTop (mkF m 19 #[.val (.ref o0), .val (.ref o1), .val (.ref o2), .val (.ref o3)] [])) t
    exact k
  exact Own.retV hR X12 hx hret (hb hby d2_19) (by decide) (by decide) (by rw [e12]; exact ⟨rfl, N12, K12, f14, f15, f16, f13⟩)
theorem d4_0 : decode jdk_65_method_103_code 0 = .ok (.iconst 0, 1) := by decide +kernel
theorem d4_1 : decode jdk_65_method_103_code 1 = .ok (.istore_n 2, 1) := by decide +kernel
theorem d4_2 : decode jdk_65_method_103_code 2 = .ok (.aload_n 0, 1) := by decide +kernel
theorem d4_3 : decode jdk_65_method_103_code 3 = .ok (.arraylength, 1) := by decide +kernel
theorem d4_4 : decode jdk_65_method_103_code 4 = .ok (.istore_n 3, 1) := by decide +kernel
theorem d4_5 : decode jdk_65_method_103_code 5 = .ok (.iload_n 2, 1) := by decide +kernel
theorem d4_6 : decode jdk_65_method_103_code 6 = .ok (.iload_n 3, 1) := by decide +kernel
theorem d4_7 : decode jdk_65_method_103_code 7 = .ok (.if_icmp .ge 13, 3) := by decide +kernel
theorem d4_10 : decode jdk_65_method_103_code 10 = .ok (.aload_n 0, 1) := by decide +kernel
theorem d4_11 : decode jdk_65_method_103_code 11 = .ok (.iload_n 2, 1) := by decide +kernel
theorem d4_12 : decode jdk_65_method_103_code 12 = .ok (.iload_n 1, 1) := by decide +kernel
theorem d4_13 : decode jdk_65_method_103_code 13 = .ok (.iastore, 1) := by decide +kernel
theorem d4_14 : decode jdk_65_method_103_code 14 = .ok (.iinc 2 1, 3) := by decide +kernel
theorem d4_17 : decode jdk_65_method_103_code 17 = .ok (.goto (-12), 3) := by decide +kernel
theorem d4_20 : decode jdk_65_method_103_code 20 = .ok (.return_, 1) := by decide +kernel
theorem pn_2 : plainName "java/util/Arrays" = true := by first | (simp [plainName, overriddenIn]; done) | decide +kernel
theorem ef_4 (m : MethodId) (o0 : Addr) (p1 : Int32) : entryFrame m #[(.ref o0), (.int p1)] 4 = mkF m 0 #[.val (.ref o0), .val (.int p1), .unset, .unset] [] := by first | (simp [entryFrame, mkF, argsToLocals, Value.category]; done) | rfl
def Q4 (Z : State) (o0 : Nat) (p1 : Int32) (f : Nat → Int32) (h0 : Heap) (n0 : Nat) (v : Option Value) (h : Heap) (L : List Loc) : Prop := v = none ∧ Fr n0 L ∧ Keep h0 h [o0] ∧ Own.AvI Z h o0 .int 2 (fun _ => p1)
set_option maxRecDepth 65536 in
set_option maxHeartbeats 40000000 in
theorem rm4 (l : Launch) (Z : State) (a0 : Array Value) (hw : ∀ d ∈ tables_1, d.before a0 Z = true) (ws : List Jvm.Cond) (o0 : Nat) (p1 : Int32) (f : Nat → Int32) (h0 : Heap) (n0 : Nat) (Z0 : n0 ≤ h0.size) (g0 : n0 ≤ o0) (A0 : Own.AvI Z h0 o0 .int 2 f) :
    MetFree l (⟨"java/util/Arrays", "fill", "([II)V"⟩ : MethodName) (head1 (Jvm.Cond.code (⟨"java/util/Arrays", "fill", "([II)V"⟩ : MethodName) jdk_65_method_103_code 4 none :: ws) ({ frames := 0, cells := 0, slots := 0, locals := 0 } : Room)) (fun a U => a = #[(.ref o0), (.int p1)] ∧ Z.Warmed39 U.vm ∧ U.heap = h0) (fun _ _ _ _ _ => True) (fun _ U o U' => ∃ v L, o = .returned v ∧ Q4 Z o0 p1 f h0 n0 v U'.heap L ∧ FrameEnd U o U' L ({ frames := 0, cells := 0, slots := 0, locals := 0 } : Room).cells ({ frames := 0, cells := 0, slots := 0, locals := 0 } : Room).slots) := by
  refine Own.enter (Q := Q4 Z o0 p1 f h0 n0) (plainFor_of_name pn_2) ?_
  intro p e s m below meth c s₁ D hx hby hml hown hnm hret hZ X0 e0 hD hR
  have N0 := Fr.nil n0
  have K0 : Keep h0 h0 [o0] := Keep.refl h0 _
  rw [show entryFrame m #[(.ref o0), (.int p1)] 4 = mkF m 0 #[.val (.ref o0), .val (.int p1), .unset, .unset] [] from ef_4 m o0 p1]
  have hj1 : 0 ≤ (0 : Int32).toInt ∧ (0 : Int32).toInt < (2 : Nat) := ⟨by decide, by decide⟩
  obtain ⟨T2, h2, X2, e2, A2, W2, st2⟩ := Own.stoI X0 hx hZ e0 A0 hj1 (g := (mkF m 13 #[.val (.ref o0), .val (.int p1), .val (.int (0 : Int32)), .val (.int (2 : Int32))] [(.int p1), (.int (0 : Int32)), (.ref o0)])) rfl rfl (hb hby d4_13)
  have N2 := Fr.snoc X2 N0 (show n0 ≤ o0 by omega)
  have Z2 : n0 ≤ h2.size := Nat.le_trans Z0 (Keep.of_wr W2).1
  have K2 : Keep h0 h2 [o0] := K0.wr W2 (Or.inl (List.mem_of_getElem? (i := 0) rfl))
  have hj3 : 0 ≤ (1 : Int32).toInt ∧ (1 : Int32).toInt < (2 : Nat) := ⟨by decide, by decide⟩
  obtain ⟨T4, h4, X4, e4, A4, W4, st4⟩ := Own.stoI X2 hx hZ e2 A2 hj3 (g := (mkF m 13 #[.val (.ref o0), .val (.int p1), .val (.int (1 : Int32)), .val (.int (2 : Int32))] [(.int p1), (.int (1 : Int32)), (.ref o0)])) rfl rfl (hb hby d4_13)
  have N4 := Fr.snoc X4 N2 (show n0 ≤ o0 by omega)
  have Z4 : n0 ≤ h4.size := Nat.le_trans Z2 (Keep.of_wr W4).1
  have K4 : Keep h0 h4 [o0] := K2.wr W4 (Or.inl (List.mem_of_getElem? (i := 0) rfl))
  refine hD _ (T4.setTop (mkF m 20 #[.val (.ref o0), .val (.int p1), .val (.int (2 : Int32)), .val (.int (2 : Int32))] [])) (fun t k => ?_) ?_
  · show Steps p.tables e below (s₁.setTop (mkF m 0 #[.val (.ref o0), .val (.int p1), .unset, .unset] [])) t
    refine XS.iconst X0.here hx rfl (hb hby d4_0) ?_
    show Steps p.tables e below (s₁.setTop (mkF m 1 #[.val (.ref o0), .val (.int p1), .unset, .unset] [(.int (0 : Int32))])) t
    refine XS.istoreN X0.here hx rfl (hb hby d4_1) rfl (l' := #[.val (.ref o0), .val (.int p1), .val (.int (0 : Int32)), .unset]) rfl ?_
    show Steps p.tables e below (s₁.setTop (mkF m 2 #[.val (.ref o0), .val (.int p1), .val (.int (0 : Int32)), .unset] [])) t
    refine XS.aloadN X0.here hx rfl (hb hby d4_2) rfl rfl ?_
    show Steps p.tables e below (s₁.setTop (mkF m 3 #[.val (.ref o0), .val (.int p1), .val (.int (0 : Int32)), .unset] [(.ref o0)])) t
    refine Own.lenI X0 hx hZ e0 A0 (g := (mkF m 3 #[.val (.ref o0), .val (.int p1), .val (.int (0 : Int32)), .unset] [(.ref o0)])) rfl rfl (hb hby d4_3) _ ?_
    show Steps p.tables e below (s₁.setTop (mkF m 4 #[.val (.ref o0), .val (.int p1), .val (.int (0 : Int32)), .unset] [(.int (Int32.ofNat 2))])) t
    refine Own.nmI (by decide : (2 : Int32) = (Int32.ofNat 2)) ?_
    show Steps p.tables e below (s₁.setTop (mkF m 4 #[.val (.ref o0), .val (.int p1), .val (.int (0 : Int32)), .unset] [(.int (2 : Int32))])) t
    refine XS.istoreN X0.here hx rfl (hb hby d4_4) rfl (l' := #[.val (.ref o0), .val (.int p1), .val (.int (0 : Int32)), .val (.int (2 : Int32))]) rfl ?_
    show Steps p.tables e below (s₁.setTop (mkF m 5 #[.val (.ref o0), .val (.int p1), .val (.int (0 : Int32)), .val (.int (2 : Int32))] [])) t
    refine XS.iloadN X0.here hx rfl (hb hby d4_5) rfl ?_
    show Steps p.tables e below (s₁.setTop (mkF m 6 #[.val (.ref o0), .val (.int p1), .val (.int (0 : Int32)), .val (.int (2 : Int32))] [(.int (0 : Int32))])) t
    refine XS.iloadN X0.here hx rfl (hb hby d4_6) rfl ?_
    show Steps p.tables e below (s₁.setTop (mkF m 7 #[.val (.ref o0), .val (.int p1), .val (.int (0 : Int32)), .val (.int (2 : Int32))] [(.int (2 : Int32)), (.int (0 : Int32))])) t
    refine XS.icmpNo X0.here hx rfl (hb hby d4_7) rfl (by decide) ?_
    show Steps p.tables e below (s₁.setTop (mkF m 10 #[.val (.ref o0), .val (.int p1), .val (.int (0 : Int32)), .val (.int (2 : Int32))] [])) t
    refine XS.aloadN X0.here hx rfl (hb hby d4_10) rfl rfl ?_
    show Steps p.tables e below (s₁.setTop (mkF m 11 #[.val (.ref o0), .val (.int p1), .val (.int (0 : Int32)), .val (.int (2 : Int32))] [(.ref o0)])) t
    refine XS.iloadN X0.here hx rfl (hb hby d4_11) rfl ?_
    show Steps p.tables e below (s₁.setTop (mkF m 12 #[.val (.ref o0), .val (.int p1), .val (.int (0 : Int32)), .val (.int (2 : Int32))] [(.int (0 : Int32)), (.ref o0)])) t
    refine XS.iloadN X0.here hx rfl (hb hby d4_12) rfl ?_
    show Steps p.tables e below (s₁.setTop (mkF m 13 #[.val (.ref o0), .val (.int p1), .val (.int (0 : Int32)), .val (.int (2 : Int32))] [(.int p1), (.int (0 : Int32)), (.ref o0)])) t
    refine st2 _ ?_
    show Steps p.tables e below (T2.setTop (mkF m 14 #[.val (.ref o0), .val (.int p1), .val (.int (0 : Int32)), .val (.int (2 : Int32))] [])) t
    refine XS.iinc X2.here hx rfl (hb hby d4_14) rfl (l' := #[.val (.ref o0), .val (.int p1), .val (.int ((0 : Int32) + (1 : Int32))), .val (.int (2 : Int32))]) rfl ?_
    show Steps p.tables e below (T2.setTop (mkF m 17 #[.val (.ref o0), .val (.int p1), .val (.int ((0 : Int32) + (1 : Int32))), .val (.int (2 : Int32))] [])) t
    rw [show ((0 : Int32) + (1 : Int32)) = (1 : Int32) from by decide]
    show Steps p.tables e below (T2.setTop (mkF m 17 #[.val (.ref o0), .val (.int p1), .val (.int (1 : Int32)), .val (.int (2 : Int32))] [])) t
    refine XS.goto X2.here hx rfl (pc0 := 17) (pc' := 5) rfl (hb hby d4_17) (by decide) (by decide) ?_
    show Steps p.tables e below (T2.setTop (mkF m 5 #[.val (.ref o0), .val (.int p1), .val (.int (1 : Int32)), .val (.int (2 : Int32))] [])) t
    refine XS.iloadN X2.here hx rfl (hb hby d4_5) rfl ?_
    show Steps p.tables e below (T2.setTop (mkF m 6 #[.val (.ref o0), .val (.int p1), .val (.int (1 : Int32)), .val (.int (2 : Int32))] [(.int (1 : Int32))])) t
    refine XS.iloadN X2.here hx rfl (hb hby d4_6) rfl ?_
    show Steps p.tables e below (T2.setTop (mkF m 7 #[.val (.ref o0), .val (.int p1), .val (.int (1 : Int32)), .val (.int (2 : Int32))] [(.int (2 : Int32)), (.int (1 : Int32))])) t
    refine XS.icmpNo X2.here hx rfl (hb hby d4_7) rfl (by decide) ?_
    show Steps p.tables e below (T2.setTop (mkF m 10 #[.val (.ref o0), .val (.int p1), .val (.int (1 : Int32)), .val (.int (2 : Int32))] [])) t
    refine XS.aloadN X2.here hx rfl (hb hby d4_10) rfl rfl ?_
    show Steps p.tables e below (T2.setTop (mkF m 11 #[.val (.ref o0), .val (.int p1), .val (.int (1 : Int32)), .val (.int (2 : Int32))] [(.ref o0)])) t
    refine XS.iloadN X2.here hx rfl (hb hby d4_11) rfl ?_
    show Steps p.tables e below (T2.setTop (mkF m 12 #[.val (.ref o0), .val (.int p1), .val (.int (1 : Int32)), .val (.int (2 : Int32))] [(.int (1 : Int32)), (.ref o0)])) t
    refine XS.iloadN X2.here hx rfl (hb hby d4_12) rfl ?_
    show Steps p.tables e below (T2.setTop (mkF m 13 #[.val (.ref o0), .val (.int p1), .val (.int (1 : Int32)), .val (.int (2 : Int32))] [(.int p1), (.int (1 : Int32)), (.ref o0)])) t
    refine st4 _ ?_
    show Steps p.tables e below (T4.setTop (mkF m 14 #[.val (.ref o0), .val (.int p1), .val (.int (1 : Int32)), .val (.int (2 : Int32))] [])) t
    refine XS.iinc X4.here hx rfl (hb hby d4_14) rfl (l' := #[.val (.ref o0), .val (.int p1), .val (.int ((1 : Int32) + (1 : Int32))), .val (.int (2 : Int32))]) rfl ?_
    show Steps p.tables e below (T4.setTop (mkF m 17 #[.val (.ref o0), .val (.int p1), .val (.int ((1 : Int32) + (1 : Int32))), .val (.int (2 : Int32))] [])) t
    rw [show ((1 : Int32) + (1 : Int32)) = (2 : Int32) from by decide]
    show Steps p.tables e below (T4.setTop (mkF m 17 #[.val (.ref o0), .val (.int p1), .val (.int (2 : Int32)), .val (.int (2 : Int32))] [])) t
    refine XS.goto X4.here hx rfl (pc0 := 17) (pc' := 5) rfl (hb hby d4_17) (by decide) (by decide) ?_
    show Steps p.tables e below (T4.setTop (mkF m 5 #[.val (.ref o0), .val (.int p1), .val (.int (2 : Int32)), .val (.int (2 : Int32))] [])) t
    refine XS.iloadN X4.here hx rfl (hb hby d4_5) rfl ?_
    show Steps p.tables e below (T4.setTop (mkF m 6 #[.val (.ref o0), .val (.int p1), .val (.int (2 : Int32)), .val (.int (2 : Int32))] [(.int (2 : Int32))])) t
    refine XS.iloadN X4.here hx rfl (hb hby d4_6) rfl ?_
    show Steps p.tables e below (T4.setTop (mkF m 7 #[.val (.ref o0), .val (.int p1), .val (.int (2 : Int32)), .val (.int (2 : Int32))] [(.int (2 : Int32)), (.int (2 : Int32))])) t
    refine XS.icmpYes X4.here hx rfl (pc0 := 7) (pc' := 20) rfl (hb hby d4_7) rfl (by decide) (by decide) (by decide) ?_
    show Steps p.tables e below (T4.setTop (mkF m 20 #[.val (.ref o0), .val (.int p1), .val (.int (2 : Int32)), .val (.int (2 : Int32))] [])) t
    exact k
  exact Own.retV hR X4 hx hret (hb hby d4_20) (by decide) (by decide) (by rw [e4]; exact ⟨rfl, N4, K4, A4.congr fun i hi => by
      match i, hi with
      | 0, _ => rfl
      | 1, _ => rfl⟩)
theorem d3_0 : decode prog_39_method_1_code 0 = .ok (.aload_n 0, 1) := by decide +kernel
theorem d3_1 : decode prog_39_method_1_code 1 = .ok (.iload_n 2, 1) := by decide +kernel
theorem d3_2 : decode prog_39_method_1_code 2 = .ok (.newarray .int, 2) := by decide +kernel
theorem d3_4 : decode prog_39_method_1_code 4 = .ok (.iload_n 2, 1) := by decide +kernel
theorem d3_5 : decode prog_39_method_1_code 5 = .ok (.newarray .int, 2) := by decide +kernel
theorem d3_7 : decode prog_39_method_1_code 7 = .ok (.iload_n 1, 1) := by decide +kernel
theorem d3_8 : decode prog_39_method_1_code 8 = .ok (.newarray .int, 2) := by decide +kernel
theorem d3_10 : decode prog_39_method_1_code 10 = .ok (.invokespecial 1, 3) := by decide +kernel
theorem d3_13 : decode prog_39_method_1_code 13 = .ok (.aload_n 0, 1) := by decide +kernel
theorem d3_14 : decode prog_39_method_1_code 14 = .ok (.getfield 7, 3) := by decide +kernel
theorem d3_17 : decode prog_39_method_1_code 17 = .ok (.iconst (-1), 1) := by decide +kernel
theorem d3_18 : decode prog_39_method_1_code 18 = .ok (.invokestatic 11, 3) := by decide +kernel
theorem d3_21 : decode prog_39_method_1_code 21 = .ok (.return_, 1) := by decide +kernel
theorem pd_0 : parseMethodDescriptor "([I[I[I)V" = some ⟨[(.array .int), (.array .int), (.array .int)], none⟩ := by decide +kernel
theorem pd_1 : parseMethodDescriptor "([II)V" = some ⟨[(.array .int), .int], none⟩ := by decide +kernel
theorem ef_3 (m : MethodId) (o0 : Addr) : entryFrame m #[(.ref o0), (.int (2 : Int32)), (.int (4 : Int32))] 3 = mkF m 0 #[.val (.ref o0), .val (.int (2 : Int32)), .val (.int (4 : Int32))] [] := by first | (simp [entryFrame, mkF, argsToLocals, Value.category]; done) | rfl
def Q3 (Z : State) (o0 : Nat) (h0 : Heap) (n0 : Nat) (v : Option Value) (h : Heap) (L : List Loc) : Prop := ∃ rc rw_ rf : Nat, v = none ∧ Fr n0 L ∧ Exa Z h o0 "com/example/libgriddraw/libgriddraw/core/RotationSystem" ∧ Fld Z h o0 "com/example/libgriddraw/libgriddraw/core/RotationSystem" "ccwNext" "[I" (.ref rc) ∧ Fld Z h o0 "com/example/libgriddraw/libgriddraw/core/RotationSystem" "cwNext" "[I" (.ref rw_) ∧ Fld Z h o0 "com/example/libgriddraw/libgriddraw/core/RotationSystem" "firstOut" "[I" (.ref rf) ∧ Own.AvI Z h rc .int 4 (fun _ => 0) ∧ Own.AvI Z h rw_ .int 4 (fun _ => 0) ∧ Own.AvI Z h rf .int 2 (fun _ => (-1 : Int32)) ∧ o0 < rc ∧ rc < rw_ ∧ rw_ < rf
set_option maxRecDepth 65536 in
set_option maxHeartbeats 40000000 in
theorem rm3 (l : Launch) (Z : State) (a0 : Array Value) (hw : ∀ d ∈ tables_1, d.before a0 Z = true) (ws : List Jvm.Cond) (o0 : Nat) (h0 : Heap) (n0 : Nat) (Z0 : n0 ≤ h0.size) (g0 : n0 ≤ o0) (E_ : Exa Z h0 o0 "com/example/libgriddraw/libgriddraw/core/RotationSystem") (F_ccwNext : Fld Z h0 o0 "com/example/libgriddraw/libgriddraw/core/RotationSystem" "ccwNext" "[I" .null) (F_cwNext : Fld Z h0 o0 "com/example/libgriddraw/libgriddraw/core/RotationSystem" "cwNext" "[I" .null) (F_firstOut : Fld Z h0 o0 "com/example/libgriddraw/libgriddraw/core/RotationSystem" "firstOut" "[I" .null) :
    MetFree l (⟨"com/example/libgriddraw/libgriddraw/core/RotationSystem", "<init>", "(II)V"⟩ : MethodName) (head1 (Jvm.Cond.code (⟨"com/example/libgriddraw/libgriddraw/core/RotationSystem", "<init>", "(II)V"⟩ : MethodName) prog_39_method_1_code 3 none :: ws) ({ frames := 2, cells := 3, slots := 10, locals := 27 } : Room)) (fun a U => a = #[(.ref o0), (.int (2 : Int32)), (.int (4 : Int32))] ∧ Z.Warmed39 U.vm ∧ U.heap = h0) (fun _ _ _ _ _ => True) (fun _ U o U' => ∃ v L, o = .returned v ∧ Q3 Z o0 h0 n0 v U'.heap L ∧ FrameEnd U o U' L ({ frames := 2, cells := 3, slots := 10, locals := 27 } : Room).cells ({ frames := 2, cells := 3, slots := 10, locals := 27 } : Room).slots) := by
  refine Own.enter (Q := Q3 Z o0 h0 n0) (plainFor_of_name pn_1) ?_
  intro p e s m below meth c s₁ D hx hby hml hown hnm hret hZ X0 e0 hD hR
  have N0 := Fr.nil n0
  rw [show entryFrame m #[(.ref o0), (.int (2 : Int32)), (.int (4 : Int32))] 3 = mkF m 0 #[.val (.ref o0), .val (.int (2 : Int32)), .val (.int (4 : Int32))] [] from ef_3 m o0]
  obtain ⟨T1, h1, k1, X1, e1, E1, A1, st1⟩ := newP X0 hx hZ (hw _ (List.mem_of_getElem? (i := 11) rfl)) e0 (g := (mkF m 2 #[.val (.ref o0), .val (.int (2 : Int32)), .val (.int (4 : Int32))] [(.int (4 : Int32)), (.ref o0)])) rfl (hb hby d3_2) rfl (by decide) (cap := 4) (by decide) (by decide) (by decide) (by decide)
  obtain ⟨b1, g_b1⟩ : ∃ z : Nat, z = h0.size := ⟨_, rfl⟩
  rw [← g_b1] at A1 st1
  have lt_o0_b1 : (o0 : Nat) < b1 := by rw [g_b1]; exact E_.lt
  have g0_b1 : n0 ≤ b1 := by rw [g_b1]; exact Z0
  have f2 : Exa Z h1 o0 "com/example/libgriddraw/libgriddraw/core/RotationSystem" := (E_.ext E1)
  have f3 : Fld Z h1 o0 "com/example/libgriddraw/libgriddraw/core/RotationSystem" "ccwNext" "[I" .null := (F_ccwNext.ext E1)
  have f4 : Fld Z h1 o0 "com/example/libgriddraw/libgriddraw/core/RotationSystem" "cwNext" "[I" .null := (F_cwNext.ext E1)
  have f5 : Fld Z h1 o0 "com/example/libgriddraw/libgriddraw/core/RotationSystem" "firstOut" "[I" .null := (F_firstOut.ext E1)
  have f6 : Own.AvI Z h1 b1 .int 4 (fun _ => 0) := Own.AvI.new A1 (by decide) rfl
  have Z1 : n0 ≤ h1.size := Nat.le_trans Z0 E1.1
  obtain ⟨T7, h7, k7, X7, e7, E7, A7, st7⟩ := newP X1 hx hZ (hw _ (List.mem_of_getElem? (i := 11) rfl)) e1 (g := (mkF m 5 #[.val (.ref o0), .val (.int (2 : Int32)), .val (.int (4 : Int32))] [(.int (4 : Int32)), (.ref b1), (.ref o0)])) rfl (hb hby d3_5) rfl (by decide) (cap := 4) (by decide) (by decide) (by decide) (by decide)
  obtain ⟨b7, g_b7⟩ : ∃ z : Nat, z = h1.size := ⟨_, rfl⟩
  rw [← g_b7] at A7 st7
  have lt_o0_b7 : (o0 : Nat) < b7 := by rw [g_b7]; exact f2.lt
  have lt_b1_b7 : (b1 : Nat) < b7 := by rw [g_b7]; exact f6.lt
  have g0_b7 : n0 ≤ b7 := by rw [g_b7]; exact Z1
  have f8 : Exa Z h7 o0 "com/example/libgriddraw/libgriddraw/core/RotationSystem" := (f2.ext E7)
  have f9 : Fld Z h7 o0 "com/example/libgriddraw/libgriddraw/core/RotationSystem" "ccwNext" "[I" .null := (f3.ext E7)
  have f10 : Fld Z h7 o0 "com/example/libgriddraw/libgriddraw/core/RotationSystem" "cwNext" "[I" .null := (f4.ext E7)
  have f11 : Fld Z h7 o0 "com/example/libgriddraw/libgriddraw/core/RotationSystem" "firstOut" "[I" .null := (f5.ext E7)
  have f12 : Own.AvI Z h7 b1 .int 4 (fun _ => 0) := f6.ext E7
  have f13 : Own.AvI Z h7 b7 .int 4 (fun _ => 0) := Own.AvI.new A7 (by decide) rfl
  have Z7 : n0 ≤ h7.size := Nat.le_trans Z1 E7.1
  obtain ⟨T14, h14, k14, X14, e14, E14, A14, st14⟩ := newP X7 hx hZ (hw _ (List.mem_of_getElem? (i := 11) rfl)) e7 (g := (mkF m 8 #[.val (.ref o0), .val (.int (2 : Int32)), .val (.int (4 : Int32))] [(.int (2 : Int32)), (.ref b7), (.ref b1), (.ref o0)])) rfl (hb hby d3_8) rfl (by decide) (cap := 2) (by decide) (by decide) (by decide) (by decide)
  obtain ⟨b14, g_b14⟩ : ∃ z : Nat, z = h7.size := ⟨_, rfl⟩
  rw [← g_b14] at A14 st14
  have lt_o0_b14 : (o0 : Nat) < b14 := by rw [g_b14]; exact f8.lt
  have lt_b1_b14 : (b1 : Nat) < b14 := by rw [g_b14]; exact f12.lt
  have lt_b7_b14 : (b7 : Nat) < b14 := by rw [g_b14]; exact f13.lt
  have g0_b14 : n0 ≤ b14 := by rw [g_b14]; exact Z7
  have f15 : Exa Z h14 o0 "com/example/libgriddraw/libgriddraw/core/RotationSystem" := (f8.ext E14)
  have f16 : Fld Z h14 o0 "com/example/libgriddraw/libgriddraw/core/RotationSystem" "ccwNext" "[I" .null := (f9.ext E14)
  have f17 : Fld Z h14 o0 "com/example/libgriddraw/libgriddraw/core/RotationSystem" "cwNext" "[I" .null := (f10.ext E14)
  have f18 : Fld Z h14 o0 "com/example/libgriddraw/libgriddraw/core/RotationSystem" "firstOut" "[I" .null := (f11.ext E14)
  have f19 : Own.AvI Z h14 b1 .int 4 (fun _ => 0) := f12.ext E14
  have f20 : Own.AvI Z h14 b7 .int 4 (fun _ => 0) := f13.ext E14
  have f21 : Own.AvI Z h14 b14 .int 2 (fun _ => 0) := Own.AvI.new A14 (by decide) rfl
  have Z14 : n0 ≤ h14.size := Nat.le_trans Z7 E14.1
  obtain ⟨T22, _, L22, X22, ⟨rfl, Nq22, Kq22, E22, FccwNext_22, FcwNext_22, FfirstOut_22⟩, st22⟩ := Own.callI (y := (⟨"com/example/libgriddraw/libgriddraw/core/RotationSystem", "<init>", "([I[I[I)V"⟩ : MethodName)) (W := 0) (argsL := [(.ref b1), (.ref b7), (.ref b14)]) (rest := []) (a := o0) X14 hx hZ hown rfl (hw _ (List.mem_of_getElem? (i := 12) rfl)) (hw _ (List.mem_of_getElem? (i := 13) rfl)) (hw _ (List.mem_of_getElem? (i := 7) rfl)) (hw _ (List.mem_of_getElem? (i := 14) rfl)) (by decide) e14 (rm2 l Z a0 hw [] o0 b1 b7 b14  h14 n0 Z14 g0 f15 f16 f17 f18) (by decide) (by decide) (by decide) (by decide) (g := (mkF m 10 #[.val (.ref o0), .val (.int (2 : Int32)), .val (.int (4 : Int32))] [(.ref b14), (.ref b7), (.ref b1), (.ref o0)])) rfl (by rw [hml]; rfl) (lenOf pd_0 rfl) rfl (by show 2 * 0 + _ ≤ _; exact Nat.le_of_eq rfl) (hb hby d3_10)
  have N22 := Fr.app N0 Nq22
  have Z22 : n0 ≤ T22.heap.size := Nat.le_trans Z14 Kq22.1
  have f23 : Own.AvI Z T22.heap b1 .int 4 (fun _ => 0) := f19.keep Kq22 (ninS (Own.ne_of (by omega)) nin0)
  have f24 : Own.AvI Z T22.heap b7 .int 4 (fun _ => 0) := f20.keep Kq22 (ninS (Own.ne_of (by omega)) nin0)
  have f25 : Own.AvI Z T22.heap b14 .int 2 (fun _ => 0) := f21.keep Kq22 (ninS (Own.ne_of (by omega)) nin0)
  obtain ⟨T26, X26, e26, st26⟩ := getF X22 hx hZ hown (host := "") (Or.inl (hw _ (List.mem_of_getElem? (i := 22) rfl))) Via.refl rfl FfirstOut_22 (g := (mkF m 14 #[.val (.ref o0), .val (.int (2 : Int32)), .val (.int (4 : Int32))] [(.ref o0)])) rfl rfl (hb hby d3_14)
  obtain ⟨T27, _, L27, X27, ⟨rfl, Nq27, Kq27, A27⟩, st27⟩ := Own.callS (y := (⟨"java/util/Arrays", "fill", "([II)V"⟩ : MethodName)) (W := 0) (argsL := [(.ref b14), (.int (-1 : Int32))]) (rest := []) X26 hx hZ hown (hw _ (List.mem_of_getElem? (i := 24) rfl)) (hw _ (List.mem_of_getElem? (i := 25) rfl)) (hw _ (List.mem_of_getElem? (i := 26) rfl)) (hw _ (List.mem_of_getElem? (i := 27) rfl)) (by decide) e26 (rm4 l Z a0 hw [] b14 (-1 : Int32) (fun _ => 0) T22.heap n0 Z22 g0_b14 f25) (by decide) (by decide) (by decide) (by decide) (g := (mkF m 18 #[.val (.ref o0), .val (.int (2 : Int32)), .val (.int (4 : Int32))] [(.int (-1 : Int32)), (.ref b14)])) rfl (by rw [hml]; rfl) (lenOf pd_1 rfl) rfl (by show 2 * 0 + _ ≤ _; exact Nat.le_of_eq rfl) (hb hby d3_18)
  have N27 := Fr.app N22 Nq27
  have Z27 : n0 ≤ T27.heap.size := Nat.le_trans Z22 Kq27.1
  have f28 : Own.AvI Z T27.heap b1 .int 4 (fun _ => 0) := f23.keep Kq27 (ninS (Own.ne_of (by omega)) nin0)
  have f29 : Own.AvI Z T27.heap b7 .int 4 (fun _ => 0) := f24.keep Kq27 (ninS (Own.ne_of (by omega)) nin0)
  have f31 : Exa Z T27.heap o0 "com/example/libgriddraw/libgriddraw/core/RotationSystem" := E22.keep Kq27
  have f32 : Fld Z T27.heap o0 "com/example/libgriddraw/libgriddraw/core/RotationSystem" "ccwNext" "[I" (.ref b1) := FccwNext_22.keep Kq27 (ninS (Own.ne_of (by omega)) nin0)
  have f33 : Fld Z T27.heap o0 "com/example/libgriddraw/libgriddraw/core/RotationSystem" "cwNext" "[I" (.ref b7) := FcwNext_22.keep Kq27 (ninS (Own.ne_of (by omega)) nin0)
  have f34 : Fld Z T27.heap o0 "com/example/libgriddraw/libgriddraw/core/RotationSystem" "firstOut" "[I" (.ref b14) := FfirstOut_22.keep Kq27 (ninS (Own.ne_of (by omega)) nin0)
  refine hD _ (T27.setTop (mkF m 21 #[.val (.ref o0), .val (.int (2 : Int32)), .val (.int (4 : Int32))] [])) (fun t k => ?_) ?_
  · show Steps p.tables e below (s₁.setTop (mkF m 0 #[.val (.ref o0), .val (.int (2 : Int32)), .val (.int (4 : Int32))] [])) t
    refine XS.aloadN X0.here hx rfl (hb hby d3_0) rfl rfl ?_
    show Steps p.tables e below (s₁.setTop (mkF m 1 #[.val (.ref o0), .val (.int (2 : Int32)), .val (.int (4 : Int32))] [(.ref o0)])) t
    refine XS.iloadN X0.here hx rfl (hb hby d3_1) rfl ?_
    show Steps p.tables e below (s₁.setTop (mkF m 2 #[.val (.ref o0), .val (.int (2 : Int32)), .val (.int (4 : Int32))] [(.int (4 : Int32)), (.ref o0)])) t
    refine st1 _ ?_
    show Steps p.tables e below (T1.setTop (mkF m 4 #[.val (.ref o0), .val (.int (2 : Int32)), .val (.int (4 : Int32))] [(.ref b1), (.ref o0)])) t
    refine XS.iloadN X1.here hx rfl (hb hby d3_4) rfl ?_
    show Steps p.tables e below (T1.setTop (mkF m 5 #[.val (.ref o0), .val (.int (2 : Int32)), .val (.int (4 : Int32))] [(.int (4 : Int32)), (.ref b1), (.ref o0)])) t
    refine st7 _ ?_
    show Steps p.tables e below (T7.setTop (mkF m 7 #[.val (.ref o0), .val (.int (2 : Int32)), .val (.int (4 : Int32))] [(.ref b7), (.ref b1), (.ref o0)])) t
    refine XS.iloadN X7.here hx rfl (hb hby d3_7) rfl ?_
    show Steps p.tables e below (T7.setTop (mkF m 8 #[.val (.ref o0), .val (.int (2 : Int32)), .val (.int (4 : Int32))] [(.int (2 : Int32)), (.ref b7), (.ref b1), (.ref o0)])) t
    refine st14 _ ?_
    show Steps p.tables e below (T14.setTop (mkF m 10 #[.val (.ref o0), .val (.int (2 : Int32)), .val (.int (4 : Int32))] [(.ref b14), (.ref b7), (.ref b1), (.ref o0)])) t
    refine st22 _ ?_
    show Steps p.tables e below (T22.setTop (mkF m 13 #[.val (.ref o0), .val (.int (2 : Int32)), .val (.int (4 : Int32))] [])) t
    refine XS.aloadN X22.here hx rfl (hb hby d3_13) rfl rfl ?_
    show Steps p.tables e below (T22.setTop (mkF m 14 #[.val (.ref o0), .val (.int (2 : Int32)), .val (.int (4 : Int32))] [(.ref o0)])) t
    refine st26 _ ?_
    show Steps p.tables e below (T26.setTop (mkF m 17 #[.val (.ref o0), .val (.int (2 : Int32)), .val (.int (4 : Int32))] [(.ref b14)])) t
    refine XS.iconst X26.here hx rfl (hb hby d3_17) ?_
    show Steps p.tables e below (T26.setTop (mkF m 18 #[.val (.ref o0), .val (.int (2 : Int32)), .val (.int (4 : Int32))] [(.int (-1 : Int32)), (.ref b14)])) t
    refine st27 _ ?_
    show Steps p.tables e below (T27.setTop (mkF m 21 #[.val (.ref o0), .val (.int (2 : Int32)), .val (.int (4 : Int32))] [])) t
    exact k
  exact Own.retV hR X27 hx hret (hb hby d3_21) (by decide) (by decide) ⟨b1, b7, b14, rfl, N27, f31, f32, f33, f34, f28, f29, A27, by omega, by omega, by omega⟩
theorem d5_0 : decode prog_39_method_10_code 0 = .ok (.iload_n 3, 1) := by decide +kernel
theorem d5_1 : decode prog_39_method_10_code 1 = .ok (.iconst (-1), 1) := by decide +kernel
theorem d5_2 : decode prog_39_method_10_code 2 = .ok (.if_icmp .ne 25, 3) := by decide +kernel
theorem d5_5 : decode prog_39_method_10_code 5 = .ok (.aload_n 0, 1) := by decide +kernel
theorem d5_6 : decode prog_39_method_10_code 6 = .ok (.getfield 22, 3) := by decide +kernel
theorem d5_9 : decode prog_39_method_10_code 9 = .ok (.iload_n 1, 1) := by decide +kernel
theorem d5_10 : decode prog_39_method_10_code 10 = .ok (.iload_n 1, 1) := by decide +kernel
theorem d5_11 : decode prog_39_method_10_code 11 = .ok (.iastore, 1) := by decide +kernel
theorem d5_12 : decode prog_39_method_10_code 12 = .ok (.aload_n 0, 1) := by decide +kernel
theorem d5_13 : decode prog_39_method_10_code 13 = .ok (.getfield 25, 3) := by decide +kernel
theorem d5_16 : decode prog_39_method_10_code 16 = .ok (.iload_n 1, 1) := by decide +kernel
theorem d5_17 : decode prog_39_method_10_code 17 = .ok (.iload_n 1, 1) := by decide +kernel
theorem d5_18 : decode prog_39_method_10_code 18 = .ok (.iastore, 1) := by decide +kernel
theorem d5_19 : decode prog_39_method_10_code 19 = .ok (.aload_n 0, 1) := by decide +kernel
theorem d5_20 : decode prog_39_method_10_code 20 = .ok (.getfield 7, 3) := by decide +kernel
theorem d5_23 : decode prog_39_method_10_code 23 = .ok (.iload_n 2, 1) := by decide +kernel
theorem d5_24 : decode prog_39_method_10_code 24 = .ok (.iload_n 1, 1) := by decide +kernel
theorem d5_25 : decode prog_39_method_10_code 25 = .ok (.iastore, 1) := by decide +kernel
theorem d5_26 : decode prog_39_method_10_code 26 = .ok (.return_, 1) := by decide +kernel
theorem ef_5 (m : MethodId) (o0 : Addr) (p1 : Int32) (p2 : Int32) : entryFrame m #[(.ref o0), (.int p1), (.int p2), (.int (-1 : Int32))] 5 = mkF m 0 #[.val (.ref o0), .val (.int p1), .val (.int p2), .val (.int (-1 : Int32)), .unset] [] := by first | (simp [entryFrame, mkF, argsToLocals, Value.category]; done) | rfl
def Q5 (Z : State) (o0 : Nat) (p1 : Int32) (p2 : Int32) (rc rw_ rf : Nat) (c_ w_ f_ : Nat → Int32) (h0 : Heap) (n0 : Nat) (v : Option Value) (h : Heap) (L : List Loc) : Prop := v = none ∧ Fr n0 L ∧ Exa Z h o0 "com/example/libgriddraw/libgriddraw/core/RotationSystem" ∧ Fld Z h o0 "com/example/libgriddraw/libgriddraw/core/RotationSystem" "ccwNext" "[I" (.ref rc) ∧ Fld Z h o0 "com/example/libgriddraw/libgriddraw/core/RotationSystem" "cwNext" "[I" (.ref rw_) ∧ Fld Z h o0 "com/example/libgriddraw/libgriddraw/core/RotationSystem" "firstOut" "[I" (.ref rf) ∧ Own.AvI Z h rc .int 4 (own_up c_ p1 p1) ∧ Own.AvI Z h rw_ .int 4 (own_up w_ p1 p1) ∧ Own.AvI Z h rf .int 2 (own_up f_ p2 p1)
set_option maxRecDepth 65536 in
set_option maxHeartbeats 40000000 in
theorem rm5 (l : Launch) (Z : State) (a0 : Array Value) (hw : ∀ d ∈ tables_1, d.before a0 Z = true) (ws : List Jvm.Cond) (o0 : Nat) (p1 : Int32) (p2 : Int32) (rc rw_ rf : Nat) (c_ w_ f_ : Nat → Int32) (h0 : Heap) (n0 : Nat) (Z0 : n0 ≤ h0.size) (g0 : n0 ≤ o0) (l1 : o0 < rc) (l2 : rc < rw_) (l3 : rw_ < rf) (hh : 0 ≤ p1.toInt ∧ p1.toInt < 4) (ho : 0 ≤ p2.toInt ∧ p2.toInt < 2) (E_ : Exa Z h0 o0 "com/example/libgriddraw/libgriddraw/core/RotationSystem") (F_ccwNext : Fld Z h0 o0 "com/example/libgriddraw/libgriddraw/core/RotationSystem" "ccwNext" "[I" (.ref rc)) (F_cwNext : Fld Z h0 o0 "com/example/libgriddraw/libgriddraw/core/RotationSystem" "cwNext" "[I" (.ref rw_)) (F_firstOut : Fld Z h0 o0 "com/example/libgriddraw/libgriddraw/core/RotationSystem" "firstOut" "[I" (.ref rf)) (A_rc : Own.AvI Z h0 rc .int 4 c_) (A_rw_ : Own.AvI Z h0 rw_ .int 4 w_) (A_rf : Own.AvI Z h0 rf .int 2 f_) :
    MetFree l (⟨"com/example/libgriddraw/libgriddraw/core/RotationSystem", "insertClockwiseOf", "(III)V"⟩ : MethodName) (head1 (Jvm.Cond.code (⟨"com/example/libgriddraw/libgriddraw/core/RotationSystem", "insertClockwiseOf", "(III)V"⟩ : MethodName) prog_39_method_10_code 5 none :: ws) ({ frames := 0, cells := 0, slots := 0, locals := 0 } : Room)) (fun a U => a = #[(.ref o0), (.int p1), (.int p2), (.int (-1 : Int32))] ∧ Z.Warmed39 U.vm ∧ U.heap = h0) (fun _ _ _ _ _ => True) (fun _ U o U' => ∃ v L, o = .returned v ∧ Q5 Z o0 p1 p2 rc rw_ rf c_ w_ f_ h0 n0 v U'.heap L ∧ FrameEnd U o U' L ({ frames := 0, cells := 0, slots := 0, locals := 0 } : Room).cells ({ frames := 0, cells := 0, slots := 0, locals := 0 } : Room).slots) := by
  refine Own.enter (Q := Q5 Z o0 p1 p2 rc rw_ rf c_ w_ f_ h0 n0) (plainFor_of_name pn_1) ?_
  intro p e s m below meth c s₁ D hx hby hml hown hnm hret hZ X0 e0 hD hR
  have N0 := Fr.nil n0
  rw [show entryFrame m #[(.ref o0), (.int p1), (.int p2), (.int (-1 : Int32))] 5 = mkF m 0 #[.val (.ref o0), .val (.int p1), .val (.int p2), .val (.int (-1 : Int32)), .unset] [] from ef_5 m o0 p1 p2]
  obtain ⟨T1, X1, e1, st1⟩ := getF X0 hx hZ hown (host := "") (Or.inl (hw _ (List.mem_of_getElem? (i := 18) rfl))) Via.refl e0 F_ccwNext (g := (mkF m 6 #[.val (.ref o0), .val (.int p1), .val (.int p2), .val (.int (-1 : Int32)), .unset] [(.ref o0)])) rfl rfl (hb hby d5_6)
  have hj2 : 0 ≤ p1.toInt ∧ p1.toInt < (4 : Nat) := hh
  obtain ⟨T3, h3, X3, e3, A3, W3, st3⟩ := Own.stoI X1 hx hZ e1 A_rc hj2 (g := (mkF m 11 #[.val (.ref o0), .val (.int p1), .val (.int p2), .val (.int (-1 : Int32)), .unset] [(.int p1), (.int p1), (.ref rc)])) rfl rfl (hb hby d5_11)
  have f4 : Exa Z h3 o0 "com/example/libgriddraw/libgriddraw/core/RotationSystem" := E_.wr W3
  have f5 : Fld Z h3 o0 "com/example/libgriddraw/libgriddraw/core/RotationSystem" "ccwNext" "[I" (.ref rc) := F_ccwNext.other W3 (Or.inl (Own.ne_of (by omega)))
  have f6 : Fld Z h3 o0 "com/example/libgriddraw/libgriddraw/core/RotationSystem" "cwNext" "[I" (.ref rw_) := F_cwNext.other W3 (Or.inl (Own.ne_of (by omega)))
  have f7 : Fld Z h3 o0 "com/example/libgriddraw/libgriddraw/core/RotationSystem" "firstOut" "[I" (.ref rf) := F_firstOut.other W3 (Or.inl (Own.ne_of (by omega)))
  have f8 : Own.AvI Z h3 rw_ .int 4 w_ := A_rw_.other W3 (Own.ne_of (by omega))
  have f9 : Own.AvI Z h3 rf .int 2 f_ := A_rf.other W3 (Own.ne_of (by omega))
  have N3 := Fr.snoc X3 N0 (show n0 ≤ rc by omega)
  have Z3 : n0 ≤ h3.size := Nat.le_trans Z0 (Keep.of_wr W3).1
  obtain ⟨T10, X10, e10, st10⟩ := getF X3 hx hZ hown (host := "") (Or.inl (hw _ (List.mem_of_getElem? (i := 20) rfl))) Via.refl e3 f6 (g := (mkF m 13 #[.val (.ref o0), .val (.int p1), .val (.int p2), .val (.int (-1 : Int32)), .unset] [(.ref o0)])) rfl rfl (hb hby d5_13)
  have hj11 : 0 ≤ p1.toInt ∧ p1.toInt < (4 : Nat) := hh
  obtain ⟨T12, h12, X12, e12, A12, W12, st12⟩ := Own.stoI X10 hx hZ e10 f8 hj11 (g := (mkF m 18 #[.val (.ref o0), .val (.int p1), .val (.int p2), .val (.int (-1 : Int32)), .unset] [(.int p1), (.int p1), (.ref rw_)])) rfl rfl (hb hby d5_18)
  have f13 : Exa Z h12 o0 "com/example/libgriddraw/libgriddraw/core/RotationSystem" := f4.wr W12
  have f14 : Fld Z h12 o0 "com/example/libgriddraw/libgriddraw/core/RotationSystem" "ccwNext" "[I" (.ref rc) := f5.other W12 (Or.inl (Own.ne_of (by omega)))
  have f15 : Fld Z h12 o0 "com/example/libgriddraw/libgriddraw/core/RotationSystem" "cwNext" "[I" (.ref rw_) := f6.other W12 (Or.inl (Own.ne_of (by omega)))
  have f16 : Fld Z h12 o0 "com/example/libgriddraw/libgriddraw/core/RotationSystem" "firstOut" "[I" (.ref rf) := f7.other W12 (Or.inl (Own.ne_of (by omega)))
  have f17 : Own.AvI Z h12 rc .int 4 (fun ii => if ii = p1.toInt.toNat then p1 else c_ ii) := A3.other W12 (Own.ne_of (by omega))
  have f18 : Own.AvI Z h12 rf .int 2 f_ := f9.other W12 (Own.ne_of (by omega))
  have N12 := Fr.snoc X12 N3 (show n0 ≤ rw_ by omega)
  have Z12 : n0 ≤ h12.size := Nat.le_trans Z3 (Keep.of_wr W12).1
  obtain ⟨T19, X19, e19, st19⟩ := getF X12 hx hZ hown (host := "") (Or.inl (hw _ (List.mem_of_getElem? (i := 22) rfl))) Via.refl e12 f16 (g := (mkF m 20 #[.val (.ref o0), .val (.int p1), .val (.int p2), .val (.int (-1 : Int32)), .unset] [(.ref o0)])) rfl rfl (hb hby d5_20)
  have hj20 : 0 ≤ p2.toInt ∧ p2.toInt < (2 : Nat) := ho
  obtain ⟨T21, h21, X21, e21, A21, W21, st21⟩ := Own.stoI X19 hx hZ e19 f18 hj20 (g := (mkF m 25 #[.val (.ref o0), .val (.int p1), .val (.int p2), .val (.int (-1 : Int32)), .unset] [(.int p1), (.int p2), (.ref rf)])) rfl rfl (hb hby d5_25)
  have f22 : Exa Z h21 o0 "com/example/libgriddraw/libgriddraw/core/RotationSystem" := f13.wr W21
  have f23 : Fld Z h21 o0 "com/example/libgriddraw/libgriddraw/core/RotationSystem" "ccwNext" "[I" (.ref rc) := f14.other W21 (Or.inl (Own.ne_of (by omega)))
  have f24 : Fld Z h21 o0 "com/example/libgriddraw/libgriddraw/core/RotationSystem" "cwNext" "[I" (.ref rw_) := f15.other W21 (Or.inl (Own.ne_of (by omega)))
  have f25 : Fld Z h21 o0 "com/example/libgriddraw/libgriddraw/core/RotationSystem" "firstOut" "[I" (.ref rf) := f16.other W21 (Or.inl (Own.ne_of (by omega)))
  have f26 : Own.AvI Z h21 rc .int 4 (fun ii => if ii = p1.toInt.toNat then p1 else c_ ii) := f17.other W21 (Own.ne_of (by omega))
  have f27 : Own.AvI Z h21 rw_ .int 4 (fun ii => if ii = p1.toInt.toNat then p1 else w_ ii) := A12.other W21 (Own.ne_of (by omega))
  have N21 := Fr.snoc X21 N12 (show n0 ≤ rf by omega)
  have Z21 : n0 ≤ h21.size := Nat.le_trans Z12 (Keep.of_wr W21).1
  refine hD _ (T21.setTop (mkF m 26 #[.val (.ref o0), .val (.int p1), .val (.int p2), .val (.int (-1 : Int32)), .unset] [])) (fun t k => ?_) ?_
  · show Steps p.tables e below (s₁.setTop (mkF m 0 #[.val (.ref o0), .val (.int p1), .val (.int p2), .val (.int (-1 : Int32)), .unset] [])) t
    refine XS.iloadN X0.here hx rfl (hb hby d5_0) rfl ?_
    show Steps p.tables e below (s₁.setTop (mkF m 1 #[.val (.ref o0), .val (.int p1), .val (.int p2), .val (.int (-1 : Int32)), .unset] [(.int (-1 : Int32))])) t
    refine XS.iconst X0.here hx rfl (hb hby d5_1) ?_
    show Steps p.tables e below (s₁.setTop (mkF m 2 #[.val (.ref o0), .val (.int p1), .val (.int p2), .val (.int (-1 : Int32)), .unset] [(.int (-1 : Int32)), (.int (-1 : Int32))])) t
    refine XS.icmpNo X0.here hx rfl (hb hby d5_2) rfl (by decide) ?_
    show Steps p.tables e below (s₁.setTop (mkF m 5 #[.val (.ref o0), .val (.int p1), .val (.int p2), .val (.int (-1 : Int32)), .unset] [])) t
    refine XS.aloadN X0.here hx rfl (hb hby d5_5) rfl rfl ?_
    show Steps p.tables e below (s₁.setTop (mkF m 6 #[.val (.ref o0), .val (.int p1), .val (.int p2), .val (.int (-1 : Int32)), .unset] [(.ref o0)])) t
    refine st1 _ ?_
    show Steps p.tables e below (T1.setTop (mkF m 9 #[.val (.ref o0), .val (.int p1), .val (.int p2), .val (.int (-1 : Int32)), .unset] [(.ref rc)])) t
    refine XS.iloadN X1.here hx rfl (hb hby d5_9) rfl ?_
    show Steps p.tables e below (T1.setTop (mkF m 10 #[.val (.ref o0), .val (.int p1), .val (.int p2), .val (.int (-1 : Int32)), .unset] [(.int p1), (.ref rc)])) t
    refine XS.iloadN X1.here hx rfl (hb hby d5_10) rfl ?_
    show Steps p.tables e below (T1.setTop (mkF m 11 #[.val (.ref o0), .val (.int p1), .val (.int p2), .val (.int (-1 : Int32)), .unset] [(.int p1), (.int p1), (.ref rc)])) t
    refine st3 _ ?_
    show Steps p.tables e below (T3.setTop (mkF m 12 #[.val (.ref o0), .val (.int p1), .val (.int p2), .val (.int (-1 : Int32)), .unset] [])) t
    refine XS.aloadN X3.here hx rfl (hb hby d5_12) rfl rfl ?_
    show Steps p.tables e below (T3.setTop (mkF m 13 #[.val (.ref o0), .val (.int p1), .val (.int p2), .val (.int (-1 : Int32)), .unset] [(.ref o0)])) t
    refine st10 _ ?_
    show Steps p.tables e below (T10.setTop (mkF m 16 #[.val (.ref o0), .val (.int p1), .val (.int p2), .val (.int (-1 : Int32)), .unset] [(.ref rw_)])) t
    refine XS.iloadN X10.here hx rfl (hb hby d5_16) rfl ?_
    show Steps p.tables e below (T10.setTop (mkF m 17 #[.val (.ref o0), .val (.int p1), .val (.int p2), .val (.int (-1 : Int32)), .unset] [(.int p1), (.ref rw_)])) t
    refine XS.iloadN X10.here hx rfl (hb hby d5_17) rfl ?_
    show Steps p.tables e below (T10.setTop (mkF m 18 #[.val (.ref o0), .val (.int p1), .val (.int p2), .val (.int (-1 : Int32)), .unset] [(.int p1), (.int p1), (.ref rw_)])) t
    refine st12 _ ?_
    show Steps p.tables e below (T12.setTop (mkF m 19 #[.val (.ref o0), .val (.int p1), .val (.int p2), .val (.int (-1 : Int32)), .unset] [])) t
    refine XS.aloadN X12.here hx rfl (hb hby d5_19) rfl rfl ?_
    show Steps p.tables e below (T12.setTop (mkF m 20 #[.val (.ref o0), .val (.int p1), .val (.int p2), .val (.int (-1 : Int32)), .unset] [(.ref o0)])) t
    refine st19 _ ?_
    show Steps p.tables e below (T19.setTop (mkF m 23 #[.val (.ref o0), .val (.int p1), .val (.int p2), .val (.int (-1 : Int32)), .unset] [(.ref rf)])) t
    refine XS.iloadN X19.here hx rfl (hb hby d5_23) rfl ?_
    show Steps p.tables e below (T19.setTop (mkF m 24 #[.val (.ref o0), .val (.int p1), .val (.int p2), .val (.int (-1 : Int32)), .unset] [(.int p2), (.ref rf)])) t
    refine XS.iloadN X19.here hx rfl (hb hby d5_24) rfl ?_
    show Steps p.tables e below (T19.setTop (mkF m 25 #[.val (.ref o0), .val (.int p1), .val (.int p2), .val (.int (-1 : Int32)), .unset] [(.int p1), (.int p2), (.ref rf)])) t
    refine st21 _ ?_
    show Steps p.tables e below (T21.setTop (mkF m 26 #[.val (.ref o0), .val (.int p1), .val (.int p2), .val (.int (-1 : Int32)), .unset] [])) t
    exact k
  exact Own.retV hR X21 hx hret (hb hby d5_26) (by decide) (by decide) (by rw [e21]; exact ⟨rfl, N21, f22, f23, f24, f25, f26, f27, A21⟩)
theorem d6_0 : decode prog_39_method_10_code 0 = .ok (.iload_n 3, 1) := by decide +kernel
theorem d6_1 : decode prog_39_method_10_code 1 = .ok (.iconst (-1), 1) := by decide +kernel
theorem d6_2 : decode prog_39_method_10_code 2 = .ok (.if_icmp .ne 25, 3) := by decide +kernel
theorem d6_27 : decode prog_39_method_10_code 27 = .ok (.aload_n 0, 1) := by decide +kernel
theorem d6_28 : decode prog_39_method_10_code 28 = .ok (.getfield 25, 3) := by decide +kernel
theorem d6_31 : decode prog_39_method_10_code 31 = .ok (.iload_n 3, 1) := by decide +kernel
theorem d6_32 : decode prog_39_method_10_code 32 = .ok (.iaload, 1) := by decide +kernel
theorem d6_33 : decode prog_39_method_10_code 33 = .ok (.istore 4, 2) := by decide +kernel
theorem d6_35 : decode prog_39_method_10_code 35 = .ok (.aload_n 0, 1) := by decide +kernel
theorem d6_36 : decode prog_39_method_10_code 36 = .ok (.getfield 22, 3) := by decide +kernel
theorem d6_39 : decode prog_39_method_10_code 39 = .ok (.iload 4, 2) := by decide +kernel
theorem d6_41 : decode prog_39_method_10_code 41 = .ok (.iload_n 1, 1) := by decide +kernel
theorem d6_42 : decode prog_39_method_10_code 42 = .ok (.iastore, 1) := by decide +kernel
theorem d6_43 : decode prog_39_method_10_code 43 = .ok (.aload_n 0, 1) := by decide +kernel
theorem d6_44 : decode prog_39_method_10_code 44 = .ok (.getfield 25, 3) := by decide +kernel
theorem d6_47 : decode prog_39_method_10_code 47 = .ok (.iload_n 1, 1) := by decide +kernel
theorem d6_48 : decode prog_39_method_10_code 48 = .ok (.iload 4, 2) := by decide +kernel
theorem d6_50 : decode prog_39_method_10_code 50 = .ok (.iastore, 1) := by decide +kernel
theorem d6_51 : decode prog_39_method_10_code 51 = .ok (.aload_n 0, 1) := by decide +kernel
theorem d6_52 : decode prog_39_method_10_code 52 = .ok (.getfield 22, 3) := by decide +kernel
theorem d6_55 : decode prog_39_method_10_code 55 = .ok (.iload_n 1, 1) := by decide +kernel
theorem d6_56 : decode prog_39_method_10_code 56 = .ok (.iload_n 3, 1) := by decide +kernel
theorem d6_57 : decode prog_39_method_10_code 57 = .ok (.iastore, 1) := by decide +kernel
theorem d6_58 : decode prog_39_method_10_code 58 = .ok (.aload_n 0, 1) := by decide +kernel
theorem d6_59 : decode prog_39_method_10_code 59 = .ok (.getfield 25, 3) := by decide +kernel
theorem d6_62 : decode prog_39_method_10_code 62 = .ok (.iload_n 3, 1) := by decide +kernel
theorem d6_63 : decode prog_39_method_10_code 63 = .ok (.iload_n 1, 1) := by decide +kernel
theorem d6_64 : decode prog_39_method_10_code 64 = .ok (.iastore, 1) := by decide +kernel
theorem d6_65 : decode prog_39_method_10_code 65 = .ok (.return_, 1) := by decide +kernel
theorem ef_6 (m : MethodId) (o0 : Addr) (p1 : Int32) (p2 : Int32) (p3 : Int32) : entryFrame m #[(.ref o0), (.int p1), (.int p2), (.int p3)] 5 = mkF m 0 #[.val (.ref o0), .val (.int p1), .val (.int p2), .val (.int p3), .unset] [] := by first | (simp [entryFrame, mkF, argsToLocals, Value.category]; done) | rfl
def Q6 (Z : State) (o0 : Nat) (p1 : Int32) (p2 : Int32) (p3 : Int32) (rc rw_ rf : Nat) (c_ w_ f_ : Nat → Int32) (h0 : Heap) (n0 : Nat) (v : Option Value) (h : Heap) (L : List Loc) : Prop := v = none ∧ Fr n0 L ∧ Exa Z h o0 "com/example/libgriddraw/libgriddraw/core/RotationSystem" ∧ Fld Z h o0 "com/example/libgriddraw/libgriddraw/core/RotationSystem" "ccwNext" "[I" (.ref rc) ∧ Fld Z h o0 "com/example/libgriddraw/libgriddraw/core/RotationSystem" "cwNext" "[I" (.ref rw_) ∧ Fld Z h o0 "com/example/libgriddraw/libgriddraw/core/RotationSystem" "firstOut" "[I" (.ref rf) ∧ Own.AvI Z h rc .int 4 (own_up (own_up c_ (w_ p3.toInt.toNat) p1) p1 p3) ∧ Own.AvI Z h rw_ .int 4 (own_up (own_up w_ p1 (w_ p3.toInt.toNat)) p3 p1) ∧ Own.AvI Z h rf .int 2 f_
set_option maxRecDepth 65536 in
set_option maxHeartbeats 40000000 in
theorem rm6 (l : Launch) (Z : State) (a0 : Array Value) (hw : ∀ d ∈ tables_1, d.before a0 Z = true) (ws : List Jvm.Cond) (o0 : Nat) (p1 : Int32) (p2 : Int32) (p3 : Int32) (rc rw_ rf : Nat) (c_ w_ f_ : Nat → Int32) (h0 : Heap) (n0 : Nat) (Z0 : n0 ≤ h0.size) (g0 : n0 ≤ o0) (l1 : o0 < rc) (l2 : rc < rw_) (l3 : rw_ < rf) (hh : 0 ≤ p1.toInt ∧ p1.toInt < 4) (ho : 0 ≤ p2.toInt ∧ p2.toInt < 2) (hb1 : 0 ≤ p3.toInt ∧ p3.toInt < 4) (hb2 : 0 ≤ (w_ p3.toInt.toNat).toInt ∧ (w_ p3.toInt.toNat).toInt < 4) (E_ : Exa Z h0 o0 "com/example/libgriddraw/libgriddraw/core/RotationSystem") (F_ccwNext : Fld Z h0 o0 "com/example/libgriddraw/libgriddraw/core/RotationSystem" "ccwNext" "[I" (.ref rc)) (F_cwNext : Fld Z h0 o0 "com/example/libgriddraw/libgriddraw/core/RotationSystem" "cwNext" "[I" (.ref rw_)) (F_firstOut : Fld Z h0 o0 "com/example/libgriddraw/libgriddraw/core/RotationSystem" "firstOut" "[I" (.ref rf)) (A_rc : Own.AvI Z h0 rc .int 4 c_) (A_rw_ : Own.AvI Z h0 rw_ .int 4 w_) (A_rf : Own.AvI Z h0 rf .int 2 f_) :
    MetFree l (⟨"com/example/libgriddraw/libgriddraw/core/RotationSystem", "insertClockwiseOf", "(III)V"⟩ : MethodName) (head1 (Jvm.Cond.code (⟨"com/example/libgriddraw/libgriddraw/core/RotationSystem", "insertClockwiseOf", "(III)V"⟩ : MethodName) prog_39_method_10_code 5 none :: ws) ({ frames := 0, cells := 0, slots := 0, locals := 0 } : Room)) (fun a U => a = #[(.ref o0), (.int p1), (.int p2), (.int p3)] ∧ Z.Warmed39 U.vm ∧ U.heap = h0) (fun _ _ _ _ _ => True) (fun _ U o U' => ∃ v L, o = .returned v ∧ Q6 Z o0 p1 p2 p3 rc rw_ rf c_ w_ f_ h0 n0 v U'.heap L ∧ FrameEnd U o U' L ({ frames := 0, cells := 0, slots := 0, locals := 0 } : Room).cells ({ frames := 0, cells := 0, slots := 0, locals := 0 } : Room).slots) := by
  refine Own.enter (Q := Q6 Z o0 p1 p2 p3 rc rw_ rf c_ w_ f_ h0 n0) (plainFor_of_name pn_1) ?_
  intro p e s m below meth c s₁ D hx hby hml hown hnm hret hZ X0 e0 hD hR
  have N0 := Fr.nil n0
  rw [show entryFrame m #[(.ref o0), (.int p1), (.int p2), (.int p3)] 5 = mkF m 0 #[.val (.ref o0), .val (.int p1), .val (.int p2), .val (.int p3), .unset] [] from ef_6 m o0 p1 p2 p3]
  refine hD _ (s₁.setTop (mkF m 2 #[.val (.ref o0), .val (.int p1), .val (.int p2), .val (.int p3), .unset] [(.int (-1 : Int32)), (.int p3)])) (fun t k => ?_) ?_
  · show Steps p.tables e below (s₁.setTop (mkF m 0 #[.val (.ref o0), .val (.int p1), .val (.int p2), .val (.int p3), .unset] [])) t
    refine XS.iloadN X0.here hx rfl (hb hby d6_0) rfl ?_
    show Steps p.tables e below (s₁.setTop (mkF m 1 #[.val (.ref o0), .val (.int p1), .val (.int p2), .val (.int p3), .unset] [(.int p3)])) t
    refine XS.iconst X0.here hx rfl (hb hby d6_1) ?_
    show Steps p.tables e below (s₁.setTop (mkF m 2 #[.val (.ref o0), .val (.int p1), .val (.int p2), .val (.int p3), .unset] [(.int (-1 : Int32)), (.int p3)])) t
    exact k
  have hc1 : ¬ (p3 = (-1 : Int32)) := by have := own_k; rw [own_eq]; omega
  obtain ⟨T2, X2, e2, st2⟩ := getF X0 hx hZ hown (host := "") (Or.inl (hw _ (List.mem_of_getElem? (i := 20) rfl))) Via.refl e0 F_cwNext (g := (mkF m 28 #[.val (.ref o0), .val (.int p1), .val (.int p2), .val (.int p3), .unset] [(.ref o0)])) rfl rfl (hb hby d6_28)
  have hj3 : 0 ≤ p3.toInt ∧ p3.toInt < (4 : Nat) := hb1
  obtain ⟨v4, hv4⟩ : ∃ z : Int32, z = (w_ p3.toInt.toNat) := ⟨_, rfl⟩
  obtain ⟨T5, X5, e5, st5⟩ := getF X2 hx hZ hown (host := "") (Or.inl (hw _ (List.mem_of_getElem? (i := 18) rfl))) Via.refl e2 F_ccwNext (g := (mkF m 36 #[.val (.ref o0), .val (.int p1), .val (.int p2), .val (.int p3), .val (.int v4)] [(.ref o0)])) rfl rfl (hb hby d6_36)
  have hj6 : 0 ≤ v4.toInt ∧ v4.toInt < (4 : Nat) := by rw [hv4]; exact hb2
  obtain ⟨T7, h7, X7, e7, A7, W7, st7⟩ := Own.stoI X5 hx hZ e5 A_rc hj6 (g := (mkF m 42 #[.val (.ref o0), .val (.int p1), .val (.int p2), .val (.int p3), .val (.int v4)] [(.int p1), (.int v4), (.ref rc)])) rfl rfl (hb hby d6_42)
  have f8 : Exa Z h7 o0 "com/example/libgriddraw/libgriddraw/core/RotationSystem" := E_.wr W7
  have f9 : Fld Z h7 o0 "com/example/libgriddraw/libgriddraw/core/RotationSystem" "ccwNext" "[I" (.ref rc) := F_ccwNext.other W7 (Or.inl (Own.ne_of (by omega)))
  have f10 : Fld Z h7 o0 "com/example/libgriddraw/libgriddraw/core/RotationSystem" "cwNext" "[I" (.ref rw_) := F_cwNext.other W7 (Or.inl (Own.ne_of (by omega)))
  have f11 : Fld Z h7 o0 "com/example/libgriddraw/libgriddraw/core/RotationSystem" "firstOut" "[I" (.ref rf) := F_firstOut.other W7 (Or.inl (Own.ne_of (by omega)))
  have f12 : Own.AvI Z h7 rw_ .int 4 w_ := A_rw_.other W7 (Own.ne_of (by omega))
  have f13 : Own.AvI Z h7 rf .int 2 f_ := A_rf.other W7 (Own.ne_of (by omega))
  have N7 := Fr.snoc X7 N0 (show n0 ≤ rc by omega)
  have Z7 : n0 ≤ h7.size := Nat.le_trans Z0 (Keep.of_wr W7).1
  obtain ⟨T14, X14, e14, st14⟩ := getF X7 hx hZ hown (host := "") (Or.inl (hw _ (List.mem_of_getElem? (i := 20) rfl))) Via.refl e7 f10 (g := (mkF m 44 #[.val (.ref o0), .val (.int p1), .val (.int p2), .val (.int p3), .val (.int v4)] [(.ref o0)])) rfl rfl (hb hby d6_44)
  have hj15 : 0 ≤ p1.toInt ∧ p1.toInt < (4 : Nat) := hh
  obtain ⟨T16, h16, X16, e16, A16, W16, st16⟩ := Own.stoI X14 hx hZ e14 f12 hj15 (g := (mkF m 50 #[.val (.ref o0), .val (.int p1), .val (.int p2), .val (.int p3), .val (.int v4)] [(.int v4), (.int p1), (.ref rw_)])) rfl rfl (hb hby d6_50)
  have f17 : Exa Z h16 o0 "com/example/libgriddraw/libgriddraw/core/RotationSystem" := f8.wr W16
  have f18 : Fld Z h16 o0 "com/example/libgriddraw/libgriddraw/core/RotationSystem" "ccwNext" "[I" (.ref rc) := f9.other W16 (Or.inl (Own.ne_of (by omega)))
  have f19 : Fld Z h16 o0 "com/example/libgriddraw/libgriddraw/core/RotationSystem" "cwNext" "[I" (.ref rw_) := f10.other W16 (Or.inl (Own.ne_of (by omega)))
  have f20 : Fld Z h16 o0 "com/example/libgriddraw/libgriddraw/core/RotationSystem" "firstOut" "[I" (.ref rf) := f11.other W16 (Or.inl (Own.ne_of (by omega)))
  have f21 : Own.AvI Z h16 rc .int 4 (fun ii => if ii = v4.toInt.toNat then p1 else c_ ii) := A7.other W16 (Own.ne_of (by omega))
  have f22 : Own.AvI Z h16 rf .int 2 f_ := f13.other W16 (Own.ne_of (by omega))
  have N16 := Fr.snoc X16 N7 (show n0 ≤ rw_ by omega)
  have Z16 : n0 ≤ h16.size := Nat.le_trans Z7 (Keep.of_wr W16).1
  obtain ⟨T23, X23, e23, st23⟩ := getF X16 hx hZ hown (host := "") (Or.inl (hw _ (List.mem_of_getElem? (i := 18) rfl))) Via.refl e16 f18 (g := (mkF m 52 #[.val (.ref o0), .val (.int p1), .val (.int p2), .val (.int p3), .val (.int v4)] [(.ref o0)])) rfl rfl (hb hby d6_52)
  have hj24 : 0 ≤ p1.toInt ∧ p1.toInt < (4 : Nat) := hh
  obtain ⟨T25, h25, X25, e25, A25, W25, st25⟩ := Own.stoI X23 hx hZ e23 f21 hj24 (g := (mkF m 57 #[.val (.ref o0), .val (.int p1), .val (.int p2), .val (.int p3), .val (.int v4)] [(.int p3), (.int p1), (.ref rc)])) rfl rfl (hb hby d6_57)
  have f26 : Exa Z h25 o0 "com/example/libgriddraw/libgriddraw/core/RotationSystem" := f17.wr W25
  have f27 : Fld Z h25 o0 "com/example/libgriddraw/libgriddraw/core/RotationSystem" "ccwNext" "[I" (.ref rc) := f18.other W25 (Or.inl (Own.ne_of (by omega)))
  have f28 : Fld Z h25 o0 "com/example/libgriddraw/libgriddraw/core/RotationSystem" "cwNext" "[I" (.ref rw_) := f19.other W25 (Or.inl (Own.ne_of (by omega)))
  have f29 : Fld Z h25 o0 "com/example/libgriddraw/libgriddraw/core/RotationSystem" "firstOut" "[I" (.ref rf) := f20.other W25 (Or.inl (Own.ne_of (by omega)))
  have f30 : Own.AvI Z h25 rw_ .int 4 (fun ii => if ii = p1.toInt.toNat then v4 else w_ ii) := A16.other W25 (Own.ne_of (by omega))
  have f31 : Own.AvI Z h25 rf .int 2 f_ := f22.other W25 (Own.ne_of (by omega))
  have N25 := Fr.snoc X25 N16 (show n0 ≤ rc by omega)
  have Z25 : n0 ≤ h25.size := Nat.le_trans Z16 (Keep.of_wr W25).1
  obtain ⟨T32, X32, e32, st32⟩ := getF X25 hx hZ hown (host := "") (Or.inl (hw _ (List.mem_of_getElem? (i := 20) rfl))) Via.refl e25 f28 (g := (mkF m 59 #[.val (.ref o0), .val (.int p1), .val (.int p2), .val (.int p3), .val (.int v4)] [(.ref o0)])) rfl rfl (hb hby d6_59)
  have hj33 : 0 ≤ p3.toInt ∧ p3.toInt < (4 : Nat) := hb1
  obtain ⟨T34, h34, X34, e34, A34, W34, st34⟩ := Own.stoI X32 hx hZ e32 f30 hj33 (g := (mkF m 64 #[.val (.ref o0), .val (.int p1), .val (.int p2), .val (.int p3), .val (.int v4)] [(.int p1), (.int p3), (.ref rw_)])) rfl rfl (hb hby d6_64)
  have f35 : Exa Z h34 o0 "com/example/libgriddraw/libgriddraw/core/RotationSystem" := f26.wr W34
  have f36 : Fld Z h34 o0 "com/example/libgriddraw/libgriddraw/core/RotationSystem" "ccwNext" "[I" (.ref rc) := f27.other W34 (Or.inl (Own.ne_of (by omega)))
  have f37 : Fld Z h34 o0 "com/example/libgriddraw/libgriddraw/core/RotationSystem" "cwNext" "[I" (.ref rw_) := f28.other W34 (Or.inl (Own.ne_of (by omega)))
  have f38 : Fld Z h34 o0 "com/example/libgriddraw/libgriddraw/core/RotationSystem" "firstOut" "[I" (.ref rf) := f29.other W34 (Or.inl (Own.ne_of (by omega)))
  have f39 : Own.AvI Z h34 rc .int 4 (fun ii => if ii = p1.toInt.toNat then p3 else (fun ii => if ii = v4.toInt.toNat then p1 else c_ ii) ii) := A25.other W34 (Own.ne_of (by omega))
  have f40 : Own.AvI Z h34 rf .int 2 f_ := f31.other W34 (Own.ne_of (by omega))
  have N34 := Fr.snoc X34 N25 (show n0 ≤ rw_ by omega)
  have Z34 : n0 ≤ h34.size := Nat.le_trans Z25 (Keep.of_wr W34).1
  refine hD _ (T34.setTop (mkF m 65 #[.val (.ref o0), .val (.int p1), .val (.int p2), .val (.int p3), .val (.int v4)] [])) (fun t k => ?_) ?_
  · show Steps p.tables e below (s₁.setTop (mkF m 2 #[.val (.ref o0), .val (.int p1), .val (.int p2), .val (.int p3), .unset] [(.int (-1 : Int32)), (.int p3)])) t
    refine XS.icmpYes X0.here hx rfl (pc0 := 2) (pc' := 27) rfl (hb hby d6_2) rfl (feq hc1).2 (by decide) (by decide) ?_
    show Steps p.tables e below (s₁.setTop (mkF m 27 #[.val (.ref o0), .val (.int p1), .val (.int p2), .val (.int p3), .unset] [])) t
    refine XS.aloadN X0.here hx rfl (hb hby d6_27) rfl rfl ?_
    show Steps p.tables e below (s₁.setTop (mkF m 28 #[.val (.ref o0), .val (.int p1), .val (.int p2), .val (.int p3), .unset] [(.ref o0)])) t
    refine st2 _ ?_
    show Steps p.tables e below (T2.setTop (mkF m 31 #[.val (.ref o0), .val (.int p1), .val (.int p2), .val (.int p3), .unset] [(.ref rw_)])) t
    refine XS.iloadN X2.here hx rfl (hb hby d6_31) rfl ?_
    show Steps p.tables e below (T2.setTop (mkF m 32 #[.val (.ref o0), .val (.int p1), .val (.int p2), .val (.int p3), .unset] [(.int p3), (.ref rw_)])) t
    refine Own.ldI X2 hx hZ e2 A_rw_ hj3 (g := (mkF m 32 #[.val (.ref o0), .val (.int p1), .val (.int p2), .val (.int p3), .unset] [(.int p3), (.ref rw_)])) rfl rfl (hb hby d6_32) _ ?_
    show Steps p.tables e below (T2.setTop (mkF m 33 #[.val (.ref o0), .val (.int p1), .val (.int p2), .val (.int p3), .unset] [(.int (w_ p3.toInt.toNat))])) t
    refine Own.nmI hv4 ?_
    show Steps p.tables e below (T2.setTop (mkF m 33 #[.val (.ref o0), .val (.int p1), .val (.int p2), .val (.int p3), .unset] [(.int v4)])) t
    refine XS.istore X2.here hx rfl (hb hby d6_33) rfl (l' := #[.val (.ref o0), .val (.int p1), .val (.int p2), .val (.int p3), .val (.int v4)]) rfl ?_
    show Steps p.tables e below (T2.setTop (mkF m 35 #[.val (.ref o0), .val (.int p1), .val (.int p2), .val (.int p3), .val (.int v4)] [])) t
    refine XS.aloadN X2.here hx rfl (hb hby d6_35) rfl rfl ?_
    show Steps p.tables e below (T2.setTop (mkF m 36 #[.val (.ref o0), .val (.int p1), .val (.int p2), .val (.int p3), .val (.int v4)] [(.ref o0)])) t
    refine st5 _ ?_
    show Steps p.tables e below (T5.setTop (mkF m 39 #[.val (.ref o0), .val (.int p1), .val (.int p2), .val (.int p3), .val (.int v4)] [(.ref rc)])) t
    refine XS.iload X5.here hx rfl (hb hby d6_39) rfl ?_
    show Steps p.tables e below (T5.setTop (mkF m 41 #[.val (.ref o0), .val (.int p1), .val (.int p2), .val (.int p3), .val (.int v4)] [(.int v4), (.ref rc)])) t
    refine XS.iloadN X5.here hx rfl (hb hby d6_41) rfl ?_
    show Steps p.tables e below (T5.setTop (mkF m 42 #[.val (.ref o0), .val (.int p1), .val (.int p2), .val (.int p3), .val (.int v4)] [(.int p1), (.int v4), (.ref rc)])) t
    refine st7 _ ?_
    show Steps p.tables e below (T7.setTop (mkF m 43 #[.val (.ref o0), .val (.int p1), .val (.int p2), .val (.int p3), .val (.int v4)] [])) t
    refine XS.aloadN X7.here hx rfl (hb hby d6_43) rfl rfl ?_
    show Steps p.tables e below (T7.setTop (mkF m 44 #[.val (.ref o0), .val (.int p1), .val (.int p2), .val (.int p3), .val (.int v4)] [(.ref o0)])) t
    refine st14 _ ?_
    show Steps p.tables e below (T14.setTop (mkF m 47 #[.val (.ref o0), .val (.int p1), .val (.int p2), .val (.int p3), .val (.int v4)] [(.ref rw_)])) t
    refine XS.iloadN X14.here hx rfl (hb hby d6_47) rfl ?_
    show Steps p.tables e below (T14.setTop (mkF m 48 #[.val (.ref o0), .val (.int p1), .val (.int p2), .val (.int p3), .val (.int v4)] [(.int p1), (.ref rw_)])) t
    refine XS.iload X14.here hx rfl (hb hby d6_48) rfl ?_
    show Steps p.tables e below (T14.setTop (mkF m 50 #[.val (.ref o0), .val (.int p1), .val (.int p2), .val (.int p3), .val (.int v4)] [(.int v4), (.int p1), (.ref rw_)])) t
    refine st16 _ ?_
    show Steps p.tables e below (T16.setTop (mkF m 51 #[.val (.ref o0), .val (.int p1), .val (.int p2), .val (.int p3), .val (.int v4)] [])) t
    refine XS.aloadN X16.here hx rfl (hb hby d6_51) rfl rfl ?_
    show Steps p.tables e below (T16.setTop (mkF m 52 #[.val (.ref o0), .val (.int p1), .val (.int p2), .val (.int p3), .val (.int v4)] [(.ref o0)])) t
    refine st23 _ ?_
    show Steps p.tables e below (T23.setTop (mkF m 55 #[.val (.ref o0), .val (.int p1), .val (.int p2), .val (.int p3), .val (.int v4)] [(.ref rc)])) t
    refine XS.iloadN X23.here hx rfl (hb hby d6_55) rfl ?_
    show Steps p.tables e below (T23.setTop (mkF m 56 #[.val (.ref o0), .val (.int p1), .val (.int p2), .val (.int p3), .val (.int v4)] [(.int p1), (.ref rc)])) t
    refine XS.iloadN X23.here hx rfl (hb hby d6_56) rfl ?_
    show Steps p.tables e below (T23.setTop (mkF m 57 #[.val (.ref o0), .val (.int p1), .val (.int p2), .val (.int p3), .val (.int v4)] [(.int p3), (.int p1), (.ref rc)])) t
    refine st25 _ ?_
    show Steps p.tables e below (T25.setTop (mkF m 58 #[.val (.ref o0), .val (.int p1), .val (.int p2), .val (.int p3), .val (.int v4)] [])) t
    refine XS.aloadN X25.here hx rfl (hb hby d6_58) rfl rfl ?_
    show Steps p.tables e below (T25.setTop (mkF m 59 #[.val (.ref o0), .val (.int p1), .val (.int p2), .val (.int p3), .val (.int v4)] [(.ref o0)])) t
    refine st32 _ ?_
    show Steps p.tables e below (T32.setTop (mkF m 62 #[.val (.ref o0), .val (.int p1), .val (.int p2), .val (.int p3), .val (.int v4)] [(.ref rw_)])) t
    refine XS.iloadN X32.here hx rfl (hb hby d6_62) rfl ?_
    show Steps p.tables e below (T32.setTop (mkF m 63 #[.val (.ref o0), .val (.int p1), .val (.int p2), .val (.int p3), .val (.int v4)] [(.int p3), (.ref rw_)])) t
    refine XS.iloadN X32.here hx rfl (hb hby d6_63) rfl ?_
    show Steps p.tables e below (T32.setTop (mkF m 64 #[.val (.ref o0), .val (.int p1), .val (.int p2), .val (.int p3), .val (.int v4)] [(.int p1), (.int p3), (.ref rw_)])) t
    refine st34 _ ?_
    show Steps p.tables e below (T34.setTop (mkF m 65 #[.val (.ref o0), .val (.int p1), .val (.int p2), .val (.int p3), .val (.int v4)] [])) t
    exact k
  subst hv4
  exact Own.retV hR X34 hx hret (hb hby d6_65) (by decide) (by decide) (by rw [e34]; exact ⟨rfl, N34, f35, f36, f37, f38, f39, A34, f40⟩)
theorem d7_0 : decode prog_39_method_5_code 0 = .ok (.aload_n 0, 1) := by decide +kernel
theorem d7_1 : decode prog_39_method_5_code 1 = .ok (.getfield 7, 3) := by decide +kernel
theorem d7_4 : decode prog_39_method_5_code 4 = .ok (.iload_n 1, 1) := by decide +kernel
theorem d7_5 : decode prog_39_method_5_code 5 = .ok (.iaload, 1) := by decide +kernel
theorem d7_6 : decode prog_39_method_5_code 6 = .ok (.ireturn, 1) := by decide +kernel
theorem ef_7 (m : MethodId) (o0 : Addr) (p1 : Int32) : entryFrame m #[(.ref o0), (.int p1)] 2 = mkF m 0 #[.val (.ref o0), .val (.int p1)] [] := by first | (simp [entryFrame, mkF, argsToLocals, Value.category]; done) | rfl
def Q7 (Z : State) (o0 : Nat) (p1 : Int32) (r : Nat) (f : Nat → Int32) (h0 : Heap) (n0 : Nat) (v : Option Value) (h : Heap) (L : List Loc) : Prop := v = some (.int (f p1.toInt.toNat)) ∧ Fr n0 L ∧ h = h0
set_option maxRecDepth 65536 in
set_option maxHeartbeats 40000000 in
theorem rm7 (l : Launch) (Z : State) (a0 : Array Value) (hw : ∀ d ∈ tables_1, d.before a0 Z = true) (ws : List Jvm.Cond) (o0 : Nat) (p1 : Int32) (r : Nat) (f : Nat → Int32) (h0 : Heap) (n0 : Nat) (hi : 0 ≤ p1.toInt ∧ p1.toInt < 2) (F_ : Fld Z h0 o0 "com/example/libgriddraw/libgriddraw/core/RotationSystem" "firstOut" "[I" (.ref r)) (A_ : Own.AvI Z h0 r .int 2 f) :
    MetFree l (⟨"com/example/libgriddraw/libgriddraw/core/RotationSystem", "firstOut", "(I)I"⟩ : MethodName) (head1 (Jvm.Cond.code (⟨"com/example/libgriddraw/libgriddraw/core/RotationSystem", "firstOut", "(I)I"⟩ : MethodName) prog_39_method_5_code 2 (some .int) :: ws) ({ frames := 0, cells := 0, slots := 0, locals := 0 } : Room)) (fun a U => a = #[(.ref o0), (.int p1)] ∧ Z.Warmed39 U.vm ∧ U.heap = h0) (fun _ _ _ _ _ => True) (fun _ U o U' => ∃ v L, o = .returned v ∧ Q7 Z o0 p1 r f h0 n0 v U'.heap L ∧ FrameEnd U o U' L ({ frames := 0, cells := 0, slots := 0, locals := 0 } : Room).cells ({ frames := 0, cells := 0, slots := 0, locals := 0 } : Room).slots) := by
  refine Own.enter (Q := Q7 Z o0 p1 r f h0 n0) (plainFor_of_name pn_1) ?_
  intro p e s m below meth c s₁ D hx hby hml hown hnm hret hZ X0 e0 hD hR
  have N0 := Fr.nil n0
  rw [show entryFrame m #[(.ref o0), (.int p1)] 2 = mkF m 0 #[.val (.ref o0), .val (.int p1)] [] from ef_7 m o0 p1]
  obtain ⟨T1, X1, e1, st1⟩ := getF X0 hx hZ hown (host := "") (Or.inl (hw _ (List.mem_of_getElem? (i := 22) rfl))) Via.refl e0 F_ (g := (mkF m 1 #[.val (.ref o0), .val (.int p1)] [(.ref o0)])) rfl rfl (hb hby d7_1)
  have hj2 : 0 ≤ p1.toInt ∧ p1.toInt < (2 : Nat) := hi
  refine hD _ (T1.setTop (mkF m 6 #[.val (.ref o0), .val (.int p1)] [(.int (f p1.toInt.toNat))])) (fun t k => ?_) ?_
  · show Steps p.tables e below (s₁.setTop (mkF m 0 #[.val (.ref o0), .val (.int p1)] [])) t
    refine XS.aloadN X0.here hx rfl (hb hby d7_0) rfl rfl ?_
    show Steps p.tables e below (s₁.setTop (mkF m 1 #[.val (.ref o0), .val (.int p1)] [(.ref o0)])) t
    refine st1 _ ?_
    show Steps p.tables e below (T1.setTop (mkF m 4 #[.val (.ref o0), .val (.int p1)] [(.ref r)])) t
    refine XS.iloadN X1.here hx rfl (hb hby d7_4) rfl ?_
    show Steps p.tables e below (T1.setTop (mkF m 5 #[.val (.ref o0), .val (.int p1)] [(.int p1), (.ref r)])) t
    refine Own.ldI X1 hx hZ e1 A_ hj2 (g := (mkF m 5 #[.val (.ref o0), .val (.int p1)] [(.int p1), (.ref r)])) rfl rfl (hb hby d7_5) _ ?_
    show Steps p.tables e below (T1.setTop (mkF m 6 #[.val (.ref o0), .val (.int p1)] [(.int (f p1.toInt.toNat))])) t
    exact k
  exact Own.retI hR X1 hx hret (hb hby d7_6) (by decide) (by decide) ⟨rfl, N0, e1⟩
theorem d8_0 : decode prog_39_method_7_code 0 = .ok (.aload_n 0, 1) := by decide +kernel
theorem d8_1 : decode prog_39_method_7_code 1 = .ok (.getfield 25, 3) := by decide +kernel
theorem d8_4 : decode prog_39_method_7_code 4 = .ok (.iload_n 1, 1) := by decide +kernel
theorem d8_5 : decode prog_39_method_7_code 5 = .ok (.iaload, 1) := by decide +kernel
theorem d8_6 : decode prog_39_method_7_code 6 = .ok (.ireturn, 1) := by decide +kernel
theorem ef_8 (m : MethodId) (o0 : Addr) (p1 : Int32) : entryFrame m #[(.ref o0), (.int p1)] 2 = mkF m 0 #[.val (.ref o0), .val (.int p1)] [] := by first | (simp [entryFrame, mkF, argsToLocals, Value.category]; done) | rfl
def Q8 (Z : State) (o0 : Nat) (p1 : Int32) (r : Nat) (f : Nat → Int32) (h0 : Heap) (n0 : Nat) (v : Option Value) (h : Heap) (L : List Loc) : Prop := v = some (.int (f p1.toInt.toNat)) ∧ Fr n0 L ∧ h = h0
set_option maxRecDepth 65536 in
set_option maxHeartbeats 40000000 in
theorem rm8 (l : Launch) (Z : State) (a0 : Array Value) (hw : ∀ d ∈ tables_1, d.before a0 Z = true) (ws : List Jvm.Cond) (o0 : Nat) (p1 : Int32) (r : Nat) (f : Nat → Int32) (h0 : Heap) (n0 : Nat) (hi : 0 ≤ p1.toInt ∧ p1.toInt < 4) (F_ : Fld Z h0 o0 "com/example/libgriddraw/libgriddraw/core/RotationSystem" "cwNext" "[I" (.ref r)) (A_ : Own.AvI Z h0 r .int 4 f) :
    MetFree l (⟨"com/example/libgriddraw/libgriddraw/core/RotationSystem", "cwNext", "(I)I"⟩ : MethodName) (head1 (Jvm.Cond.code (⟨"com/example/libgriddraw/libgriddraw/core/RotationSystem", "cwNext", "(I)I"⟩ : MethodName) prog_39_method_7_code 2 (some .int) :: ws) ({ frames := 0, cells := 0, slots := 0, locals := 0 } : Room)) (fun a U => a = #[(.ref o0), (.int p1)] ∧ Z.Warmed39 U.vm ∧ U.heap = h0) (fun _ _ _ _ _ => True) (fun _ U o U' => ∃ v L, o = .returned v ∧ Q8 Z o0 p1 r f h0 n0 v U'.heap L ∧ FrameEnd U o U' L ({ frames := 0, cells := 0, slots := 0, locals := 0 } : Room).cells ({ frames := 0, cells := 0, slots := 0, locals := 0 } : Room).slots) := by
  refine Own.enter (Q := Q8 Z o0 p1 r f h0 n0) (plainFor_of_name pn_1) ?_
  intro p e s m below meth c s₁ D hx hby hml hown hnm hret hZ X0 e0 hD hR
  have N0 := Fr.nil n0
  rw [show entryFrame m #[(.ref o0), (.int p1)] 2 = mkF m 0 #[.val (.ref o0), .val (.int p1)] [] from ef_8 m o0 p1]
  obtain ⟨T1, X1, e1, st1⟩ := getF X0 hx hZ hown (host := "") (Or.inl (hw _ (List.mem_of_getElem? (i := 20) rfl))) Via.refl e0 F_ (g := (mkF m 1 #[.val (.ref o0), .val (.int p1)] [(.ref o0)])) rfl rfl (hb hby d8_1)
  have hj2 : 0 ≤ p1.toInt ∧ p1.toInt < (4 : Nat) := hi
  refine hD _ (T1.setTop (mkF m 6 #[.val (.ref o0), .val (.int p1)] [(.int (f p1.toInt.toNat))])) (fun t k => ?_) ?_
  · show Steps p.tables e below (s₁.setTop (mkF m 0 #[.val (.ref o0), .val (.int p1)] [])) t
    refine XS.aloadN X0.here hx rfl (hb hby d8_0) rfl rfl ?_
    show Steps p.tables e below (s₁.setTop (mkF m 1 #[.val (.ref o0), .val (.int p1)] [(.ref o0)])) t
    refine st1 _ ?_
    show Steps p.tables e below (T1.setTop (mkF m 4 #[.val (.ref o0), .val (.int p1)] [(.ref r)])) t
    refine XS.iloadN X1.here hx rfl (hb hby d8_4) rfl ?_
    show Steps p.tables e below (T1.setTop (mkF m 5 #[.val (.ref o0), .val (.int p1)] [(.int p1), (.ref r)])) t
    refine Own.ldI X1 hx hZ e1 A_ hj2 (g := (mkF m 5 #[.val (.ref o0), .val (.int p1)] [(.int p1), (.ref r)])) rfl rfl (hb hby d8_5) _ ?_
    show Steps p.tables e below (T1.setTop (mkF m 6 #[.val (.ref o0), .val (.int p1)] [(.int (f p1.toInt.toNat))])) t
    exact k
  exact Own.retI hR X1 hx hret (hb hby d8_6) (by decide) (by decide) ⟨rfl, N0, e1⟩
theorem d9_0 : decode prog_39_method_6_code 0 = .ok (.aload_n 0, 1) := by decide +kernel
theorem d9_1 : decode prog_39_method_6_code 1 = .ok (.getfield 22, 3) := by decide +kernel
theorem d9_4 : decode prog_39_method_6_code 4 = .ok (.iload_n 1, 1) := by decide +kernel
theorem d9_5 : decode prog_39_method_6_code 5 = .ok (.iaload, 1) := by decide +kernel
theorem d9_6 : decode prog_39_method_6_code 6 = .ok (.ireturn, 1) := by decide +kernel
theorem ef_9 (m : MethodId) (o0 : Addr) (p1 : Int32) : entryFrame m #[(.ref o0), (.int p1)] 2 = mkF m 0 #[.val (.ref o0), .val (.int p1)] [] := by first | (simp [entryFrame, mkF, argsToLocals, Value.category]; done) | rfl
def Q9 (Z : State) (o0 : Nat) (p1 : Int32) (r : Nat) (f : Nat → Int32) (h0 : Heap) (n0 : Nat) (v : Option Value) (h : Heap) (L : List Loc) : Prop := v = some (.int (f p1.toInt.toNat)) ∧ Fr n0 L ∧ h = h0
set_option maxRecDepth 65536 in
set_option maxHeartbeats 40000000 in
theorem rm9 (l : Launch) (Z : State) (a0 : Array Value) (hw : ∀ d ∈ tables_1, d.before a0 Z = true) (ws : List Jvm.Cond) (o0 : Nat) (p1 : Int32) (r : Nat) (f : Nat → Int32) (h0 : Heap) (n0 : Nat) (hi : 0 ≤ p1.toInt ∧ p1.toInt < 4) (F_ : Fld Z h0 o0 "com/example/libgriddraw/libgriddraw/core/RotationSystem" "ccwNext" "[I" (.ref r)) (A_ : Own.AvI Z h0 r .int 4 f) :
    MetFree l (⟨"com/example/libgriddraw/libgriddraw/core/RotationSystem", "ccwNext", "(I)I"⟩ : MethodName) (head1 (Jvm.Cond.code (⟨"com/example/libgriddraw/libgriddraw/core/RotationSystem", "ccwNext", "(I)I"⟩ : MethodName) prog_39_method_6_code 2 (some .int) :: ws) ({ frames := 0, cells := 0, slots := 0, locals := 0 } : Room)) (fun a U => a = #[(.ref o0), (.int p1)] ∧ Z.Warmed39 U.vm ∧ U.heap = h0) (fun _ _ _ _ _ => True) (fun _ U o U' => ∃ v L, o = .returned v ∧ Q9 Z o0 p1 r f h0 n0 v U'.heap L ∧ FrameEnd U o U' L ({ frames := 0, cells := 0, slots := 0, locals := 0 } : Room).cells ({ frames := 0, cells := 0, slots := 0, locals := 0 } : Room).slots) := by
  refine Own.enter (Q := Q9 Z o0 p1 r f h0 n0) (plainFor_of_name pn_1) ?_
  intro p e s m below meth c s₁ D hx hby hml hown hnm hret hZ X0 e0 hD hR
  have N0 := Fr.nil n0
  rw [show entryFrame m #[(.ref o0), (.int p1)] 2 = mkF m 0 #[.val (.ref o0), .val (.int p1)] [] from ef_9 m o0 p1]
  obtain ⟨T1, X1, e1, st1⟩ := getF X0 hx hZ hown (host := "") (Or.inl (hw _ (List.mem_of_getElem? (i := 18) rfl))) Via.refl e0 F_ (g := (mkF m 1 #[.val (.ref o0), .val (.int p1)] [(.ref o0)])) rfl rfl (hb hby d9_1)
  have hj2 : 0 ≤ p1.toInt ∧ p1.toInt < (4 : Nat) := hi
  refine hD _ (T1.setTop (mkF m 6 #[.val (.ref o0), .val (.int p1)] [(.int (f p1.toInt.toNat))])) (fun t k => ?_) ?_
  · show Steps p.tables e below (s₁.setTop (mkF m 0 #[.val (.ref o0), .val (.int p1)] [])) t
    refine XS.aloadN X0.here hx rfl (hb hby d9_0) rfl rfl ?_
    show Steps p.tables e below (s₁.setTop (mkF m 1 #[.val (.ref o0), .val (.int p1)] [(.ref o0)])) t
    refine st1 _ ?_
    show Steps p.tables e below (T1.setTop (mkF m 4 #[.val (.ref o0), .val (.int p1)] [(.ref r)])) t
    refine XS.iloadN X1.here hx rfl (hb hby d9_4) rfl ?_
    show Steps p.tables e below (T1.setTop (mkF m 5 #[.val (.ref o0), .val (.int p1)] [(.int p1), (.ref r)])) t
    refine Own.ldI X1 hx hZ e1 A_ hj2 (g := (mkF m 5 #[.val (.ref o0), .val (.int p1)] [(.int p1), (.ref r)])) rfl rfl (hb hby d9_5) _ ?_
    show Steps p.tables e below (T1.setTop (mkF m 6 #[.val (.ref o0), .val (.int p1)] [(.int (f p1.toInt.toNat))])) t
    exact k
  exact Own.retI hR X1 hx hret (hb hby d9_6) (by decide) (by decide) ⟨rfl, N0, e1⟩
theorem d20_0 : decode method_3_code 0 = .ok (.iload_n 1, 1) := by decide +kernel
theorem d20_1 : decode method_3_code 1 = .ok (.ifCond .ne 17, 3) := by decide +kernel
theorem d20_4 : decode method_3_code 4 = .ok (.iload_n 0, 1) := by decide +kernel
theorem d20_5 : decode method_3_code 5 = .ok (.ifCond .ne 11, 3) := by decide +kernel
theorem d20_8 : decode method_3_code 8 = .ok (.iconst 0, 1) := by decide +kernel
theorem d20_9 : decode method_3_code 9 = .ok (.iload_n 3, 1) := by decide +kernel
theorem d20_10 : decode method_3_code 10 = .ok (.invokestatic 7, 3) := by decide +kernel
theorem d20_13 : decode method_3_code 13 = .ok (.goto 4, 3) := by decide +kernel
theorem d20_16 : decode method_3_code 16 = .ok (.iconst 0, 1) := by decide +kernel
theorem d20_17 : decode method_3_code 17 = .ok (.ireturn, 1) := by decide +kernel
theorem d20_18 : decode method_3_code 18 = .ok (.iload_n 0, 1) := by decide +kernel
theorem d20_19 : decode method_3_code 19 = .ok (.iload_n 1, 1) := by decide +kernel
theorem d20_20 : decode method_3_code 20 = .ok (.if_icmp .le 5, 3) := by decide +kernel
theorem d20_23 : decode method_3_code 23 = .ok (.iconst 0, 1) := by decide +kernel
theorem d20_24 : decode method_3_code 24 = .ok (.ireturn, 1) := by decide +kernel
theorem d20_25 : decode method_3_code 25 = .ok (.iload_n 0, 1) := by decide +kernel
theorem d20_26 : decode method_3_code 26 = .ok (.iload_n 1, 1) := by decide +kernel
theorem d20_27 : decode method_3_code 27 = .ok (.if_icmp .ne 13, 3) := by decide +kernel
theorem d20_30 : decode method_3_code 30 = .ok (.iload_n 2, 1) := by decide +kernel
theorem d20_31 : decode method_3_code 31 = .ok (.iconst 1, 1) := by decide +kernel
theorem d20_32 : decode method_3_code 32 = .ok (.iadd, 1) := by decide +kernel
theorem d20_33 : decode method_3_code 33 = .ok (.iload_n 1, 1) := by decide +kernel
theorem d20_34 : decode method_3_code 34 = .ok (.irem, 1) := by decide +kernel
theorem d20_35 : decode method_3_code 35 = .ok (.iload_n 3, 1) := by decide +kernel
theorem d20_36 : decode method_3_code 36 = .ok (.invokestatic 7, 3) := by decide +kernel
theorem d20_39 : decode method_3_code 39 = .ok (.ireturn, 1) := by decide +kernel
theorem d20_40 : decode method_3_code 40 = .ok (.iload_n 0, 1) := by decide +kernel
theorem d20_41 : decode method_3_code 41 = .ok (.iload_n 2, 1) := by decide +kernel
theorem d20_42 : decode method_3_code 42 = .ok (.if_icmp .ne 9, 3) := by decide +kernel
theorem d20_45 : decode method_3_code 45 = .ok (.iload_n 1, 1) := by decide +kernel
theorem d20_46 : decode method_3_code 46 = .ok (.iload_n 3, 1) := by decide +kernel
theorem d20_47 : decode method_3_code 47 = .ok (.invokestatic 7, 3) := by decide +kernel
theorem d20_50 : decode method_3_code 50 = .ok (.ireturn, 1) := by decide +kernel
theorem d20_51 : decode method_3_code 51 = .ok (.iload_n 0, 1) := by decide +kernel
theorem d20_52 : decode method_3_code 52 = .ok (.iconst 1, 1) := by decide +kernel
theorem d20_53 : decode method_3_code 53 = .ok (.iadd, 1) := by decide +kernel
theorem d20_54 : decode method_3_code 54 = .ok (.iload_n 1, 1) := by decide +kernel
theorem d20_55 : decode method_3_code 55 = .ok (.irem, 1) := by decide +kernel
theorem d20_56 : decode method_3_code 56 = .ok (.iload_n 3, 1) := by decide +kernel
theorem d20_57 : decode method_3_code 57 = .ok (.invokestatic 7, 3) := by decide +kernel
theorem d20_60 : decode method_3_code 60 = .ok (.ireturn, 1) := by decide +kernel
theorem pd_2 : parseMethodDescriptor "(II)I" = some ⟨[.int, .int], some .int⟩ := by decide +kernel
theorem ef_20 (m : MethodId) (p0 : Int32) (p1 : Int32) (p2 : Int32) (p3 : Int32) : entryFrame m #[(.int p0), (.int p1), (.int p2), (.int p3)] 4 = mkF m 0 #[.val (.int p0), .val (.int p1), .val (.int p2), .val (.int p3)] [] := by first | (simp [entryFrame, mkF, argsToLocals, Value.category]; done) | rfl
def Q20 (Z : State) (p0 : Int32) (p1 : Int32) (p2 : Int32) (p3 : Int32) (h0 : Heap) (n0 : Nat) (v : Option Value) (h : Heap) (L : List Loc) : Prop := v = some (.int (own_ecw p0 p1 p2 p3)) ∧ Fr n0 L ∧ h = h0
set_option maxRecDepth 65536 in
set_option maxHeartbeats 40000000 in
theorem rm20 (l : Launch) (Z : State) (a0 : Array Value) (hw : ∀ d ∈ tables_1, d.before a0 Z = true) (ws : List Jvm.Cond) (p0 : Int32) (p1 : Int32) (p2 : Int32) (p3 : Int32) (h0 : Heap) (n0 : Nat) :
    MetFree l (⟨"com/example/libgriddraw/libgriddraw/core/RotationSystemInsertClockwiseOfPinLaw", "expCw", "(IIII)I"⟩ : MethodName) (head1 (Jvm.Cond.code (⟨"com/example/libgriddraw/libgriddraw/core/RotationSystemInsertClockwiseOfPinLaw", "expCw", "(IIII)I"⟩ : MethodName) method_3_code 4 (some .int) :: ws) ({ frames := 1, cells := 0, slots := 0, locals := 13 } : Room)) (fun a U => a = #[(.int p0), (.int p1), (.int p2), (.int p3)] ∧ Z.Warmed39 U.vm ∧ U.heap = h0) (fun _ _ _ _ _ => True) (fun _ U o U' => ∃ v L, o = .returned v ∧ Q20 Z p0 p1 p2 p3 h0 n0 v U'.heap L ∧ FrameEnd U o U' L ({ frames := 1, cells := 0, slots := 0, locals := 13 } : Room).cells ({ frames := 1, cells := 0, slots := 0, locals := 13 } : Room).slots) := by
  refine Own.enter (Q := Q20 Z p0 p1 p2 p3 h0 n0) (plainFor_of_name pn_0) ?_
  intro p e s m below meth c s₁ D hx hby hml hown hnm hret hZ X0 e0 hD hR
  have N0 := Fr.nil n0
  rw [show entryFrame m #[(.int p0), (.int p1), (.int p2), (.int p3)] 4 = mkF m 0 #[.val (.int p0), .val (.int p1), .val (.int p2), .val (.int p3)] [] from ef_20 m p0 p1 p2 p3]
  refine hD _ (s₁.setTop (mkF m 1 #[.val (.int p0), .val (.int p1), .val (.int p2), .val (.int p3)] [(.int p1)])) (fun t k => ?_) ?_
  · show Steps p.tables e below (s₁.setTop (mkF m 0 #[.val (.int p0), .val (.int p1), .val (.int p2), .val (.int p3)] [])) t
    refine XS.iloadN X0.here hx rfl (hb hby d20_0) rfl ?_
    show Steps p.tables e below (s₁.setTop (mkF m 1 #[.val (.int p0), .val (.int p1), .val (.int p2), .val (.int p3)] [(.int p1)])) t
    exact k
  by_cases hc1 : p1 = (0 : Int32)
  · refine hD _ (s₁.setTop (mkF m 5 #[.val (.int p0), .val (.int p1), .val (.int p2), .val (.int p3)] [(.int p0)])) (fun t k => ?_) ?_
    · show Steps p.tables e below (s₁.setTop (mkF m 1 #[.val (.int p0), .val (.int p1), .val (.int p2), .val (.int p3)] [(.int p1)])) t
      refine XS.ifNo X0.here hx rfl (hb hby d20_1) rfl ((if0 _ _).trans (teq hc1).2) ?_
      show Steps p.tables e below (s₁.setTop (mkF m 4 #[.val (.int p0), .val (.int p1), .val (.int p2), .val (.int p3)] [])) t
      refine XS.iloadN X0.here hx rfl (hb hby d20_4) rfl ?_
      show Steps p.tables e below (s₁.setTop (mkF m 5 #[.val (.int p0), .val (.int p1), .val (.int p2), .val (.int p3)] [(.int p0)])) t
      exact k
    by_cases hc2 : p0 = (0 : Int32)
    · obtain ⟨T3, _, L3, X3, ⟨rfl, Nq3, e3⟩, st3⟩ := Own.callS (y := (⟨"com/example/libgriddraw/libgriddraw/core/RotationSystemInsertClockwiseOfPinLaw", "lab", "(II)I"⟩ : MethodName)) (W := 0) (argsL := [(.int (0 : Int32)), (.int p3)]) (rest := []) X0 hx hZ hown (hw _ (List.mem_of_getElem? (i := 1) rfl)) (hw _ (List.mem_of_getElem? (i := 2) rfl)) (hw _ (List.mem_of_getElem? (i := 3) rfl)) (hw _ (List.mem_of_getElem? (i := 4) rfl)) (by decide) e0 (rm1 l Z a0 hw [] (0 : Int32) p3  h0 n0 ) (by decide) (by decide) (by decide) (by decide) (g := (mkF m 10 #[.val (.int p0), .val (.int p1), .val (.int p2), .val (.int p3)] [(.int p3), (.int (0 : Int32))])) rfl (by rw [hml]; rfl) (lenOf pd_2 rfl) rfl (by show 2 * 0 + _ ≤ _; exact Nat.le_of_eq rfl) (hb hby d20_10)
      have N3 := Fr.app N0 Nq3
      refine hD _ (T3.setTop (mkF m 17 #[.val (.int p0), .val (.int p1), .val (.int p2), .val (.int p3)] [(.int (own_lab (0 : Int32) p3))])) (fun t k => ?_) ?_
      · show Steps p.tables e below (s₁.setTop (mkF m 5 #[.val (.int p0), .val (.int p1), .val (.int p2), .val (.int p3)] [(.int p0)])) t
        refine XS.ifNo X0.here hx rfl (hb hby d20_5) rfl ((if0 _ _).trans (teq hc2).2) ?_
        show Steps p.tables e below (s₁.setTop (mkF m 8 #[.val (.int p0), .val (.int p1), .val (.int p2), .val (.int p3)] [])) t
        refine XS.iconst X0.here hx rfl (hb hby d20_8) ?_
        show Steps p.tables e below (s₁.setTop (mkF m 9 #[.val (.int p0), .val (.int p1), .val (.int p2), .val (.int p3)] [(.int (0 : Int32))])) t
        refine XS.iloadN X0.here hx rfl (hb hby d20_9) rfl ?_
        show Steps p.tables e below (s₁.setTop (mkF m 10 #[.val (.int p0), .val (.int p1), .val (.int p2), .val (.int p3)] [(.int p3), (.int (0 : Int32))])) t
        refine st3 _ ?_
        show Steps p.tables e below (T3.setTop (mkF m 13 #[.val (.int p0), .val (.int p1), .val (.int p2), .val (.int p3)] [(.int (own_lab (0 : Int32) p3))])) t
        refine XS.goto X3.here hx rfl (pc0 := 13) (pc' := 17) rfl (hb hby d20_13) (by decide) (by decide) ?_
        show Steps p.tables e below (T3.setTop (mkF m 17 #[.val (.int p0), .val (.int p1), .val (.int p2), .val (.int p3)] [(.int (own_lab (0 : Int32) p3))])) t
        exact k
      exact Own.retI hR X3 hx hret (hb hby d20_17) (by decide) (by decide) ⟨by rw [own_ecw, if_pos hc1, if_pos hc2], N3, e3⟩
    · refine hD _ (s₁.setTop (mkF m 17 #[.val (.int p0), .val (.int p1), .val (.int p2), .val (.int p3)] [(.int (0 : Int32))])) (fun t k => ?_) ?_
      · show Steps p.tables e below (s₁.setTop (mkF m 5 #[.val (.int p0), .val (.int p1), .val (.int p2), .val (.int p3)] [(.int p0)])) t
        refine XS.ifYes X0.here hx rfl (pc0 := 5) (pc' := 16) rfl (hb hby d20_5) rfl ((if0 _ _).trans (feq hc2).2) (by decide) (by decide) ?_
        show Steps p.tables e below (s₁.setTop (mkF m 16 #[.val (.int p0), .val (.int p1), .val (.int p2), .val (.int p3)] [])) t
        refine XS.iconst X0.here hx rfl (hb hby d20_16) ?_
        show Steps p.tables e below (s₁.setTop (mkF m 17 #[.val (.int p0), .val (.int p1), .val (.int p2), .val (.int p3)] [(.int (0 : Int32))])) t
        exact k
      exact Own.retI hR X0 hx hret (hb hby d20_17) (by decide) (by decide) ⟨by rw [own_ecw, if_pos hc1, if_neg hc2], N0, e0⟩
  · refine hD _ (s₁.setTop (mkF m 20 #[.val (.int p0), .val (.int p1), .val (.int p2), .val (.int p3)] [(.int p1), (.int p0)])) (fun t k => ?_) ?_
    · show Steps p.tables e below (s₁.setTop (mkF m 1 #[.val (.int p0), .val (.int p1), .val (.int p2), .val (.int p3)] [(.int p1)])) t
      refine XS.ifYes X0.here hx rfl (pc0 := 1) (pc' := 18) rfl (hb hby d20_1) rfl ((if0 _ _).trans (feq hc1).2) (by decide) (by decide) ?_
      show Steps p.tables e below (s₁.setTop (mkF m 18 #[.val (.int p0), .val (.int p1), .val (.int p2), .val (.int p3)] [])) t
      refine XS.iloadN X0.here hx rfl (hb hby d20_18) rfl ?_
      show Steps p.tables e below (s₁.setTop (mkF m 19 #[.val (.int p0), .val (.int p1), .val (.int p2), .val (.int p3)] [(.int p0)])) t
      refine XS.iloadN X0.here hx rfl (hb hby d20_19) rfl ?_
      show Steps p.tables e below (s₁.setTop (mkF m 20 #[.val (.int p0), .val (.int p1), .val (.int p2), .val (.int p3)] [(.int p1), (.int p0)])) t
      exact k
    by_cases hc4 : p1 < p0
    · refine hD _ (s₁.setTop (mkF m 24 #[.val (.int p0), .val (.int p1), .val (.int p2), .val (.int p3)] [(.int (0 : Int32))])) (fun t k => ?_) ?_
      · show Steps p.tables e below (s₁.setTop (mkF m 20 #[.val (.int p0), .val (.int p1), .val (.int p2), .val (.int p3)] [(.int p1), (.int p0)])) t
        refine XS.icmpNo X0.here hx rfl (hb hby d20_20) rfl (tlt hc4).2.2.2 ?_
        show Steps p.tables e below (s₁.setTop (mkF m 23 #[.val (.int p0), .val (.int p1), .val (.int p2), .val (.int p3)] [])) t
        refine XS.iconst X0.here hx rfl (hb hby d20_23) ?_
        show Steps p.tables e below (s₁.setTop (mkF m 24 #[.val (.int p0), .val (.int p1), .val (.int p2), .val (.int p3)] [(.int (0 : Int32))])) t
        exact k
      exact Own.retI hR X0 hx hret (hb hby d20_24) (by decide) (by decide) ⟨by rw [own_ecw, if_neg hc1, if_pos hc4], N0, e0⟩
    · refine hD _ (s₁.setTop (mkF m 27 #[.val (.int p0), .val (.int p1), .val (.int p2), .val (.int p3)] [(.int p1), (.int p0)])) (fun t k => ?_) ?_
      · show Steps p.tables e below (s₁.setTop (mkF m 20 #[.val (.int p0), .val (.int p1), .val (.int p2), .val (.int p3)] [(.int p1), (.int p0)])) t
        refine XS.icmpYes X0.here hx rfl (pc0 := 20) (pc' := 25) rfl (hb hby d20_20) rfl (flt hc4).2.2.2 (by decide) (by decide) ?_
        show Steps p.tables e below (s₁.setTop (mkF m 25 #[.val (.int p0), .val (.int p1), .val (.int p2), .val (.int p3)] [])) t
        refine XS.iloadN X0.here hx rfl (hb hby d20_25) rfl ?_
        show Steps p.tables e below (s₁.setTop (mkF m 26 #[.val (.int p0), .val (.int p1), .val (.int p2), .val (.int p3)] [(.int p0)])) t
        refine XS.iloadN X0.here hx rfl (hb hby d20_26) rfl ?_
        show Steps p.tables e below (s₁.setTop (mkF m 27 #[.val (.int p0), .val (.int p1), .val (.int p2), .val (.int p3)] [(.int p1), (.int p0)])) t
        exact k
      by_cases hc5 : p0 = p1
      · have hnz6 : p1 ≠ 0 := hc1
        obtain ⟨T7, _, L7, X7, ⟨rfl, Nq7, e7⟩, st7⟩ := Own.callS (y := (⟨"com/example/libgriddraw/libgriddraw/core/RotationSystemInsertClockwiseOfPinLaw", "lab", "(II)I"⟩ : MethodName)) (W := 0) (argsL := [(.int ((p2 + (1 : Int32)) % p1)), (.int p3)]) (rest := []) X0 hx hZ hown (hw _ (List.mem_of_getElem? (i := 1) rfl)) (hw _ (List.mem_of_getElem? (i := 2) rfl)) (hw _ (List.mem_of_getElem? (i := 3) rfl)) (hw _ (List.mem_of_getElem? (i := 4) rfl)) (by decide) e0 (rm1 l Z a0 hw [] ((p2 + (1 : Int32)) % p1) p3  h0 n0 ) (by decide) (by decide) (by decide) (by decide) (g := (mkF m 36 #[.val (.int p0), .val (.int p1), .val (.int p2), .val (.int p3)] [(.int p3), (.int ((p2 + (1 : Int32)) % p1))])) rfl (by rw [hml]; rfl) (lenOf pd_2 rfl) rfl (by show 2 * 0 + _ ≤ _; exact Nat.le_of_eq rfl) (hb hby d20_36)
        have N7 := Fr.app N0 Nq7
        refine hD _ (T7.setTop (mkF m 39 #[.val (.int p0), .val (.int p1), .val (.int p2), .val (.int p3)] [(.int (own_lab ((p2 + (1 : Int32)) % p1) p3))])) (fun t k => ?_) ?_
        · show Steps p.tables e below (s₁.setTop (mkF m 27 #[.val (.int p0), .val (.int p1), .val (.int p2), .val (.int p3)] [(.int p1), (.int p0)])) t
          refine XS.icmpNo X0.here hx rfl (hb hby d20_27) rfl (teq hc5).2 ?_
          show Steps p.tables e below (s₁.setTop (mkF m 30 #[.val (.int p0), .val (.int p1), .val (.int p2), .val (.int p3)] [])) t
          refine XS.iloadN X0.here hx rfl (hb hby d20_30) rfl ?_
          show Steps p.tables e below (s₁.setTop (mkF m 31 #[.val (.int p0), .val (.int p1), .val (.int p2), .val (.int p3)] [(.int p2)])) t
          refine XS.iconst X0.here hx rfl (hb hby d20_31) ?_
          show Steps p.tables e below (s₁.setTop (mkF m 32 #[.val (.int p0), .val (.int p1), .val (.int p2), .val (.int p3)] [(.int (1 : Int32)), (.int p2)])) t
          refine XS.iadd X0.here hx rfl (hb hby d20_32) rfl ?_
          show Steps p.tables e below (s₁.setTop (mkF m 33 #[.val (.int p0), .val (.int p1), .val (.int p2), .val (.int p3)] [(.int (p2 + (1 : Int32)))])) t
          refine XS.iloadN X0.here hx rfl (hb hby d20_33) rfl ?_
          show Steps p.tables e below (s₁.setTop (mkF m 34 #[.val (.int p0), .val (.int p1), .val (.int p2), .val (.int p3)] [(.int p1), (.int (p2 + (1 : Int32)))])) t
          refine Jvm.RoadKit.iremM (g := (mkF m 34 #[.val (.int p0), .val (.int p1), .val (.int p2), .val (.int p3)] [(.int p1), (.int (p2 + (1 : Int32)))])) X0 hx rfl (hb hby d20_34) rfl hnz6 ?_
          show Steps p.tables e below (s₁.setTop (mkF m 35 #[.val (.int p0), .val (.int p1), .val (.int p2), .val (.int p3)] [(.int ((p2 + (1 : Int32)) % p1))])) t
          refine XS.iloadN X0.here hx rfl (hb hby d20_35) rfl ?_
          show Steps p.tables e below (s₁.setTop (mkF m 36 #[.val (.int p0), .val (.int p1), .val (.int p2), .val (.int p3)] [(.int p3), (.int ((p2 + (1 : Int32)) % p1))])) t
          refine st7 _ ?_
          show Steps p.tables e below (T7.setTop (mkF m 39 #[.val (.int p0), .val (.int p1), .val (.int p2), .val (.int p3)] [(.int (own_lab ((p2 + (1 : Int32)) % p1) p3))])) t
          exact k
        exact Own.retI hR X7 hx hret (hb hby d20_39) (by decide) (by decide) ⟨by rw [own_ecw, if_neg hc1, if_neg hc4, if_pos hc5], N7, e7⟩
      · refine hD _ (s₁.setTop (mkF m 42 #[.val (.int p0), .val (.int p1), .val (.int p2), .val (.int p3)] [(.int p2), (.int p0)])) (fun t k => ?_) ?_
        · show Steps p.tables e below (s₁.setTop (mkF m 27 #[.val (.int p0), .val (.int p1), .val (.int p2), .val (.int p3)] [(.int p1), (.int p0)])) t
          refine XS.icmpYes X0.here hx rfl (pc0 := 27) (pc' := 40) rfl (hb hby d20_27) rfl (feq hc5).2 (by decide) (by decide) ?_
          show Steps p.tables e below (s₁.setTop (mkF m 40 #[.val (.int p0), .val (.int p1), .val (.int p2), .val (.int p3)] [])) t
          refine XS.iloadN X0.here hx rfl (hb hby d20_40) rfl ?_
          show Steps p.tables e below (s₁.setTop (mkF m 41 #[.val (.int p0), .val (.int p1), .val (.int p2), .val (.int p3)] [(.int p0)])) t
          refine XS.iloadN X0.here hx rfl (hb hby d20_41) rfl ?_
          show Steps p.tables e below (s₁.setTop (mkF m 42 #[.val (.int p0), .val (.int p1), .val (.int p2), .val (.int p3)] [(.int p2), (.int p0)])) t
          exact k
        by_cases hc8 : p0 = p2
        · obtain ⟨T9, _, L9, X9, ⟨rfl, Nq9, e9⟩, st9⟩ := Own.callS (y := (⟨"com/example/libgriddraw/libgriddraw/core/RotationSystemInsertClockwiseOfPinLaw", "lab", "(II)I"⟩ : MethodName)) (W := 0) (argsL := [(.int p1), (.int p3)]) (rest := []) X0 hx hZ hown (hw _ (List.mem_of_getElem? (i := 1) rfl)) (hw _ (List.mem_of_getElem? (i := 2) rfl)) (hw _ (List.mem_of_getElem? (i := 3) rfl)) (hw _ (List.mem_of_getElem? (i := 4) rfl)) (by decide) e0 (rm1 l Z a0 hw [] p1 p3  h0 n0 ) (by decide) (by decide) (by decide) (by decide) (g := (mkF m 47 #[.val (.int p0), .val (.int p1), .val (.int p2), .val (.int p3)] [(.int p3), (.int p1)])) rfl (by rw [hml]; rfl) (lenOf pd_2 rfl) rfl (by show 2 * 0 + _ ≤ _; exact Nat.le_of_eq rfl) (hb hby d20_47)
          have N9 := Fr.app N0 Nq9
          refine hD _ (T9.setTop (mkF m 50 #[.val (.int p0), .val (.int p1), .val (.int p2), .val (.int p3)] [(.int (own_lab p1 p3))])) (fun t k => ?_) ?_
          · show Steps p.tables e below (s₁.setTop (mkF m 42 #[.val (.int p0), .val (.int p1), .val (.int p2), .val (.int p3)] [(.int p2), (.int p0)])) t
            refine XS.icmpNo X0.here hx rfl (hb hby d20_42) rfl (teq hc8).2 ?_
            show Steps p.tables e below (s₁.setTop (mkF m 45 #[.val (.int p0), .val (.int p1), .val (.int p2), .val (.int p3)] [])) t
            refine XS.iloadN X0.here hx rfl (hb hby d20_45) rfl ?_
            show Steps p.tables e below (s₁.setTop (mkF m 46 #[.val (.int p0), .val (.int p1), .val (.int p2), .val (.int p3)] [(.int p1)])) t
            refine XS.iloadN X0.here hx rfl (hb hby d20_46) rfl ?_
            show Steps p.tables e below (s₁.setTop (mkF m 47 #[.val (.int p0), .val (.int p1), .val (.int p2), .val (.int p3)] [(.int p3), (.int p1)])) t
            refine st9 _ ?_
            show Steps p.tables e below (T9.setTop (mkF m 50 #[.val (.int p0), .val (.int p1), .val (.int p2), .val (.int p3)] [(.int (own_lab p1 p3))])) t
            exact k
          exact Own.retI hR X9 hx hret (hb hby d20_50) (by decide) (by decide) ⟨by rw [own_ecw, if_neg hc1, if_neg hc4, if_neg hc5, if_pos hc8], N9, e9⟩
        · have hnz10 : p1 ≠ 0 := hc1
          obtain ⟨T11, _, L11, X11, ⟨rfl, Nq11, e11⟩, st11⟩ := Own.callS (y := (⟨"com/example/libgriddraw/libgriddraw/core/RotationSystemInsertClockwiseOfPinLaw", "lab", "(II)I"⟩ : MethodName)) (W := 0) (argsL := [(.int ((p0 + (1 : Int32)) % p1)), (.int p3)]) (rest := []) X0 hx hZ hown (hw _ (List.mem_of_getElem? (i := 1) rfl)) (hw _ (List.mem_of_getElem? (i := 2) rfl)) (hw _ (List.mem_of_getElem? (i := 3) rfl)) (hw _ (List.mem_of_getElem? (i := 4) rfl)) (by decide) e0 (rm1 l Z a0 hw [] ((p0 + (1 : Int32)) % p1) p3  h0 n0 ) (by decide) (by decide) (by decide) (by decide) (g := (mkF m 57 #[.val (.int p0), .val (.int p1), .val (.int p2), .val (.int p3)] [(.int p3), (.int ((p0 + (1 : Int32)) % p1))])) rfl (by rw [hml]; rfl) (lenOf pd_2 rfl) rfl (by show 2 * 0 + _ ≤ _; exact Nat.le_of_eq rfl) (hb hby d20_57)
          have N11 := Fr.app N0 Nq11
          refine hD _ (T11.setTop (mkF m 60 #[.val (.int p0), .val (.int p1), .val (.int p2), .val (.int p3)] [(.int (own_lab ((p0 + (1 : Int32)) % p1) p3))])) (fun t k => ?_) ?_
          · show Steps p.tables e below (s₁.setTop (mkF m 42 #[.val (.int p0), .val (.int p1), .val (.int p2), .val (.int p3)] [(.int p2), (.int p0)])) t
            refine XS.icmpYes X0.here hx rfl (pc0 := 42) (pc' := 51) rfl (hb hby d20_42) rfl (feq hc8).2 (by decide) (by decide) ?_
            show Steps p.tables e below (s₁.setTop (mkF m 51 #[.val (.int p0), .val (.int p1), .val (.int p2), .val (.int p3)] [])) t
            refine XS.iloadN X0.here hx rfl (hb hby d20_51) rfl ?_
            show Steps p.tables e below (s₁.setTop (mkF m 52 #[.val (.int p0), .val (.int p1), .val (.int p2), .val (.int p3)] [(.int p0)])) t
            refine XS.iconst X0.here hx rfl (hb hby d20_52) ?_
            show Steps p.tables e below (s₁.setTop (mkF m 53 #[.val (.int p0), .val (.int p1), .val (.int p2), .val (.int p3)] [(.int (1 : Int32)), (.int p0)])) t
            refine XS.iadd X0.here hx rfl (hb hby d20_53) rfl ?_
            show Steps p.tables e below (s₁.setTop (mkF m 54 #[.val (.int p0), .val (.int p1), .val (.int p2), .val (.int p3)] [(.int (p0 + (1 : Int32)))])) t
            refine XS.iloadN X0.here hx rfl (hb hby d20_54) rfl ?_
            show Steps p.tables e below (s₁.setTop (mkF m 55 #[.val (.int p0), .val (.int p1), .val (.int p2), .val (.int p3)] [(.int p1), (.int (p0 + (1 : Int32)))])) t
            refine Jvm.RoadKit.iremM (g := (mkF m 55 #[.val (.int p0), .val (.int p1), .val (.int p2), .val (.int p3)] [(.int p1), (.int (p0 + (1 : Int32)))])) X0 hx rfl (hb hby d20_55) rfl hnz10 ?_
            show Steps p.tables e below (s₁.setTop (mkF m 56 #[.val (.int p0), .val (.int p1), .val (.int p2), .val (.int p3)] [(.int ((p0 + (1 : Int32)) % p1))])) t
            refine XS.iloadN X0.here hx rfl (hb hby d20_56) rfl ?_
            show Steps p.tables e below (s₁.setTop (mkF m 57 #[.val (.int p0), .val (.int p1), .val (.int p2), .val (.int p3)] [(.int p3), (.int ((p0 + (1 : Int32)) % p1))])) t
            refine st11 _ ?_
            show Steps p.tables e below (T11.setTop (mkF m 60 #[.val (.int p0), .val (.int p1), .val (.int p2), .val (.int p3)] [(.int (own_lab ((p0 + (1 : Int32)) % p1) p3))])) t
            exact k
          exact Own.retI hR X11 hx hret (hb hby d20_60) (by decide) (by decide) ⟨by rw [own_ecw, if_neg hc1, if_neg hc4, if_neg hc5, if_neg hc8], N11, e11⟩
theorem d21_0 : decode method_4_code 0 = .ok (.iload_n 1, 1) := by decide +kernel
theorem d21_1 : decode method_4_code 1 = .ok (.ifCond .ne 17, 3) := by decide +kernel
theorem d21_4 : decode method_4_code 4 = .ok (.iload_n 0, 1) := by decide +kernel
theorem d21_5 : decode method_4_code 5 = .ok (.ifCond .ne 11, 3) := by decide +kernel
theorem d21_8 : decode method_4_code 8 = .ok (.iconst 0, 1) := by decide +kernel
theorem d21_9 : decode method_4_code 9 = .ok (.iload_n 3, 1) := by decide +kernel
theorem d21_10 : decode method_4_code 10 = .ok (.invokestatic 7, 3) := by decide +kernel
theorem d21_13 : decode method_4_code 13 = .ok (.goto 4, 3) := by decide +kernel
theorem d21_16 : decode method_4_code 16 = .ok (.iconst 0, 1) := by decide +kernel
theorem d21_17 : decode method_4_code 17 = .ok (.ireturn, 1) := by decide +kernel
theorem d21_18 : decode method_4_code 18 = .ok (.iload_n 0, 1) := by decide +kernel
theorem d21_19 : decode method_4_code 19 = .ok (.iload_n 1, 1) := by decide +kernel
theorem d21_20 : decode method_4_code 20 = .ok (.if_icmp .le 5, 3) := by decide +kernel
theorem d21_23 : decode method_4_code 23 = .ok (.iconst 0, 1) := by decide +kernel
theorem d21_24 : decode method_4_code 24 = .ok (.ireturn, 1) := by decide +kernel
theorem d21_25 : decode method_4_code 25 = .ok (.iload_n 0, 1) := by decide +kernel
theorem d21_26 : decode method_4_code 26 = .ok (.iload_n 1, 1) := by decide +kernel
theorem d21_27 : decode method_4_code 27 = .ok (.if_icmp .ne 9, 3) := by decide +kernel
theorem d21_30 : decode method_4_code 30 = .ok (.iload_n 2, 1) := by decide +kernel
theorem d21_31 : decode method_4_code 31 = .ok (.iload_n 3, 1) := by decide +kernel
theorem d21_32 : decode method_4_code 32 = .ok (.invokestatic 7, 3) := by decide +kernel
theorem d21_35 : decode method_4_code 35 = .ok (.ireturn, 1) := by decide +kernel
theorem d21_36 : decode method_4_code 36 = .ok (.iload_n 0, 1) := by decide +kernel
theorem d21_37 : decode method_4_code 37 = .ok (.iload_n 2, 1) := by decide +kernel
theorem d21_38 : decode method_4_code 38 = .ok (.iconst 1, 1) := by decide +kernel
theorem d21_39 : decode method_4_code 39 = .ok (.iadd, 1) := by decide +kernel
theorem d21_40 : decode method_4_code 40 = .ok (.iload_n 1, 1) := by decide +kernel
theorem d21_41 : decode method_4_code 41 = .ok (.irem, 1) := by decide +kernel
theorem d21_42 : decode method_4_code 42 = .ok (.if_icmp .ne 9, 3) := by decide +kernel
theorem d21_45 : decode method_4_code 45 = .ok (.iload_n 1, 1) := by decide +kernel
theorem d21_46 : decode method_4_code 46 = .ok (.iload_n 3, 1) := by decide +kernel
theorem d21_47 : decode method_4_code 47 = .ok (.invokestatic 7, 3) := by decide +kernel
theorem d21_50 : decode method_4_code 50 = .ok (.ireturn, 1) := by decide +kernel
theorem d21_51 : decode method_4_code 51 = .ok (.iload_n 0, 1) := by decide +kernel
theorem d21_52 : decode method_4_code 52 = .ok (.iload_n 1, 1) := by decide +kernel
theorem d21_53 : decode method_4_code 53 = .ok (.iadd, 1) := by decide +kernel
theorem d21_54 : decode method_4_code 54 = .ok (.iconst 1, 1) := by decide +kernel
theorem d21_55 : decode method_4_code 55 = .ok (.isub, 1) := by decide +kernel
theorem d21_56 : decode method_4_code 56 = .ok (.iload_n 1, 1) := by decide +kernel
theorem d21_57 : decode method_4_code 57 = .ok (.irem, 1) := by decide +kernel
theorem d21_58 : decode method_4_code 58 = .ok (.iload_n 3, 1) := by decide +kernel
theorem d21_59 : decode method_4_code 59 = .ok (.invokestatic 7, 3) := by decide +kernel
theorem d21_62 : decode method_4_code 62 = .ok (.ireturn, 1) := by decide +kernel
theorem ef_21 (m : MethodId) (p0 : Int32) (p1 : Int32) (p2 : Int32) (p3 : Int32) : entryFrame m #[(.int p0), (.int p1), (.int p2), (.int p3)] 4 = mkF m 0 #[.val (.int p0), .val (.int p1), .val (.int p2), .val (.int p3)] [] := by first | (simp [entryFrame, mkF, argsToLocals, Value.category]; done) | rfl
def Q21 (Z : State) (p0 : Int32) (p1 : Int32) (p2 : Int32) (p3 : Int32) (h0 : Heap) (n0 : Nat) (v : Option Value) (h : Heap) (L : List Loc) : Prop := v = some (.int (own_eccw p0 p1 p2 p3)) ∧ Fr n0 L ∧ h = h0
set_option maxRecDepth 65536 in
set_option maxHeartbeats 40000000 in
theorem rm21 (l : Launch) (Z : State) (a0 : Array Value) (hw : ∀ d ∈ tables_1, d.before a0 Z = true) (ws : List Jvm.Cond) (p0 : Int32) (p1 : Int32) (p2 : Int32) (p3 : Int32) (h0 : Heap) (n0 : Nat) :
    MetFree l (⟨"com/example/libgriddraw/libgriddraw/core/RotationSystemInsertClockwiseOfPinLaw", "expCcw", "(IIII)I"⟩ : MethodName) (head1 (Jvm.Cond.code (⟨"com/example/libgriddraw/libgriddraw/core/RotationSystemInsertClockwiseOfPinLaw", "expCcw", "(IIII)I"⟩ : MethodName) method_4_code 4 (some .int) :: ws) ({ frames := 1, cells := 0, slots := 0, locals := 13 } : Room)) (fun a U => a = #[(.int p0), (.int p1), (.int p2), (.int p3)] ∧ Z.Warmed39 U.vm ∧ U.heap = h0) (fun _ _ _ _ _ => True) (fun _ U o U' => ∃ v L, o = .returned v ∧ Q21 Z p0 p1 p2 p3 h0 n0 v U'.heap L ∧ FrameEnd U o U' L ({ frames := 1, cells := 0, slots := 0, locals := 13 } : Room).cells ({ frames := 1, cells := 0, slots := 0, locals := 13 } : Room).slots) := by
  refine Own.enter (Q := Q21 Z p0 p1 p2 p3 h0 n0) (plainFor_of_name pn_0) ?_
  intro p e s m below meth c s₁ D hx hby hml hown hnm hret hZ X0 e0 hD hR
  have N0 := Fr.nil n0
  rw [show entryFrame m #[(.int p0), (.int p1), (.int p2), (.int p3)] 4 = mkF m 0 #[.val (.int p0), .val (.int p1), .val (.int p2), .val (.int p3)] [] from ef_21 m p0 p1 p2 p3]
  refine hD _ (s₁.setTop (mkF m 1 #[.val (.int p0), .val (.int p1), .val (.int p2), .val (.int p3)] [(.int p1)])) (fun t k => ?_) ?_
  · show Steps p.tables e below (s₁.setTop (mkF m 0 #[.val (.int p0), .val (.int p1), .val (.int p2), .val (.int p3)] [])) t
    refine XS.iloadN X0.here hx rfl (hb hby d21_0) rfl ?_
    show Steps p.tables e below (s₁.setTop (mkF m 1 #[.val (.int p0), .val (.int p1), .val (.int p2), .val (.int p3)] [(.int p1)])) t
    exact k
  by_cases hc1 : p1 = (0 : Int32)
  · refine hD _ (s₁.setTop (mkF m 5 #[.val (.int p0), .val (.int p1), .val (.int p2), .val (.int p3)] [(.int p0)])) (fun t k => ?_) ?_
    · show Steps p.tables e below (s₁.setTop (mkF m 1 #[.val (.int p0), .val (.int p1), .val (.int p2), .val (.int p3)] [(.int p1)])) t
      refine XS.ifNo X0.here hx rfl (hb hby d21_1) rfl ((if0 _ _).trans (teq hc1).2) ?_
      show Steps p.tables e below (s₁.setTop (mkF m 4 #[.val (.int p0), .val (.int p1), .val (.int p2), .val (.int p3)] [])) t
      refine XS.iloadN X0.here hx rfl (hb hby d21_4) rfl ?_
      show Steps p.tables e below (s₁.setTop (mkF m 5 #[.val (.int p0), .val (.int p1), .val (.int p2), .val (.int p3)] [(.int p0)])) t
      exact k
    by_cases hc2 : p0 = (0 : Int32)
    · obtain ⟨T3, _, L3, X3, ⟨rfl, Nq3, e3⟩, st3⟩ := Own.callS (y := (⟨"com/example/libgriddraw/libgriddraw/core/RotationSystemInsertClockwiseOfPinLaw", "lab", "(II)I"⟩ : MethodName)) (W := 0) (argsL := [(.int (0 : Int32)), (.int p3)]) (rest := []) X0 hx hZ hown (hw _ (List.mem_of_getElem? (i := 1) rfl)) (hw _ (List.mem_of_getElem? (i := 2) rfl)) (hw _ (List.mem_of_getElem? (i := 3) rfl)) (hw _ (List.mem_of_getElem? (i := 4) rfl)) (by decide) e0 (rm1 l Z a0 hw [] (0 : Int32) p3  h0 n0 ) (by decide) (by decide) (by decide) (by decide) (g := (mkF m 10 #[.val (.int p0), .val (.int p1), .val (.int p2), .val (.int p3)] [(.int p3), (.int (0 : Int32))])) rfl (by rw [hml]; rfl) (lenOf pd_2 rfl) rfl (by show 2 * 0 + _ ≤ _; exact Nat.le_of_eq rfl) (hb hby d21_10)
      have N3 := Fr.app N0 Nq3
      refine hD _ (T3.setTop (mkF m 17 #[.val (.int p0), .val (.int p1), .val (.int p2), .val (.int p3)] [(.int (own_lab (0 : Int32) p3))])) (fun t k => ?_) ?_
      · show Steps p.tables e below (s₁.setTop (mkF m 5 #[.val (.int p0), .val (.int p1), .val (.int p2), .val (.int p3)] [(.int p0)])) t
        refine XS.ifNo X0.here hx rfl (hb hby d21_5) rfl ((if0 _ _).trans (teq hc2).2) ?_
        show Steps p.tables e below (s₁.setTop (mkF m 8 #[.val (.int p0), .val (.int p1), .val (.int p2), .val (.int p3)] [])) t
        refine XS.iconst X0.here hx rfl (hb hby d21_8) ?_
        show Steps p.tables e below (s₁.setTop (mkF m 9 #[.val (.int p0), .val (.int p1), .val (.int p2), .val (.int p3)] [(.int (0 : Int32))])) t
        refine XS.iloadN X0.here hx rfl (hb hby d21_9) rfl ?_
        show Steps p.tables e below (s₁.setTop (mkF m 10 #[.val (.int p0), .val (.int p1), .val (.int p2), .val (.int p3)] [(.int p3), (.int (0 : Int32))])) t
        refine st3 _ ?_
        show Steps p.tables e below (T3.setTop (mkF m 13 #[.val (.int p0), .val (.int p1), .val (.int p2), .val (.int p3)] [(.int (own_lab (0 : Int32) p3))])) t
        refine XS.goto X3.here hx rfl (pc0 := 13) (pc' := 17) rfl (hb hby d21_13) (by decide) (by decide) ?_
        show Steps p.tables e below (T3.setTop (mkF m 17 #[.val (.int p0), .val (.int p1), .val (.int p2), .val (.int p3)] [(.int (own_lab (0 : Int32) p3))])) t
        exact k
      exact Own.retI hR X3 hx hret (hb hby d21_17) (by decide) (by decide) ⟨by rw [own_eccw, if_pos hc1, if_pos hc2], N3, e3⟩
    · refine hD _ (s₁.setTop (mkF m 17 #[.val (.int p0), .val (.int p1), .val (.int p2), .val (.int p3)] [(.int (0 : Int32))])) (fun t k => ?_) ?_
      · show Steps p.tables e below (s₁.setTop (mkF m 5 #[.val (.int p0), .val (.int p1), .val (.int p2), .val (.int p3)] [(.int p0)])) t
        refine XS.ifYes X0.here hx rfl (pc0 := 5) (pc' := 16) rfl (hb hby d21_5) rfl ((if0 _ _).trans (feq hc2).2) (by decide) (by decide) ?_
        show Steps p.tables e below (s₁.setTop (mkF m 16 #[.val (.int p0), .val (.int p1), .val (.int p2), .val (.int p3)] [])) t
        refine XS.iconst X0.here hx rfl (hb hby d21_16) ?_
        show Steps p.tables e below (s₁.setTop (mkF m 17 #[.val (.int p0), .val (.int p1), .val (.int p2), .val (.int p3)] [(.int (0 : Int32))])) t
        exact k
      exact Own.retI hR X0 hx hret (hb hby d21_17) (by decide) (by decide) ⟨by rw [own_eccw, if_pos hc1, if_neg hc2], N0, e0⟩
  · refine hD _ (s₁.setTop (mkF m 20 #[.val (.int p0), .val (.int p1), .val (.int p2), .val (.int p3)] [(.int p1), (.int p0)])) (fun t k => ?_) ?_
    · show Steps p.tables e below (s₁.setTop (mkF m 1 #[.val (.int p0), .val (.int p1), .val (.int p2), .val (.int p3)] [(.int p1)])) t
      refine XS.ifYes X0.here hx rfl (pc0 := 1) (pc' := 18) rfl (hb hby d21_1) rfl ((if0 _ _).trans (feq hc1).2) (by decide) (by decide) ?_
      show Steps p.tables e below (s₁.setTop (mkF m 18 #[.val (.int p0), .val (.int p1), .val (.int p2), .val (.int p3)] [])) t
      refine XS.iloadN X0.here hx rfl (hb hby d21_18) rfl ?_
      show Steps p.tables e below (s₁.setTop (mkF m 19 #[.val (.int p0), .val (.int p1), .val (.int p2), .val (.int p3)] [(.int p0)])) t
      refine XS.iloadN X0.here hx rfl (hb hby d21_19) rfl ?_
      show Steps p.tables e below (s₁.setTop (mkF m 20 #[.val (.int p0), .val (.int p1), .val (.int p2), .val (.int p3)] [(.int p1), (.int p0)])) t
      exact k
    by_cases hc4 : p1 < p0
    · refine hD _ (s₁.setTop (mkF m 24 #[.val (.int p0), .val (.int p1), .val (.int p2), .val (.int p3)] [(.int (0 : Int32))])) (fun t k => ?_) ?_
      · show Steps p.tables e below (s₁.setTop (mkF m 20 #[.val (.int p0), .val (.int p1), .val (.int p2), .val (.int p3)] [(.int p1), (.int p0)])) t
        refine XS.icmpNo X0.here hx rfl (hb hby d21_20) rfl (tlt hc4).2.2.2 ?_
        show Steps p.tables e below (s₁.setTop (mkF m 23 #[.val (.int p0), .val (.int p1), .val (.int p2), .val (.int p3)] [])) t
        refine XS.iconst X0.here hx rfl (hb hby d21_23) ?_
        show Steps p.tables e below (s₁.setTop (mkF m 24 #[.val (.int p0), .val (.int p1), .val (.int p2), .val (.int p3)] [(.int (0 : Int32))])) t
        exact k
      exact Own.retI hR X0 hx hret (hb hby d21_24) (by decide) (by decide) ⟨by rw [own_eccw, if_neg hc1, if_pos hc4], N0, e0⟩
    · refine hD _ (s₁.setTop (mkF m 27 #[.val (.int p0), .val (.int p1), .val (.int p2), .val (.int p3)] [(.int p1), (.int p0)])) (fun t k => ?_) ?_
      · show Steps p.tables e below (s₁.setTop (mkF m 20 #[.val (.int p0), .val (.int p1), .val (.int p2), .val (.int p3)] [(.int p1), (.int p0)])) t
        refine XS.icmpYes X0.here hx rfl (pc0 := 20) (pc' := 25) rfl (hb hby d21_20) rfl (flt hc4).2.2.2 (by decide) (by decide) ?_
        show Steps p.tables e below (s₁.setTop (mkF m 25 #[.val (.int p0), .val (.int p1), .val (.int p2), .val (.int p3)] [])) t
        refine XS.iloadN X0.here hx rfl (hb hby d21_25) rfl ?_
        show Steps p.tables e below (s₁.setTop (mkF m 26 #[.val (.int p0), .val (.int p1), .val (.int p2), .val (.int p3)] [(.int p0)])) t
        refine XS.iloadN X0.here hx rfl (hb hby d21_26) rfl ?_
        show Steps p.tables e below (s₁.setTop (mkF m 27 #[.val (.int p0), .val (.int p1), .val (.int p2), .val (.int p3)] [(.int p1), (.int p0)])) t
        exact k
      by_cases hc5 : p0 = p1
      · obtain ⟨T6, _, L6, X6, ⟨rfl, Nq6, e6⟩, st6⟩ := Own.callS (y := (⟨"com/example/libgriddraw/libgriddraw/core/RotationSystemInsertClockwiseOfPinLaw", "lab", "(II)I"⟩ : MethodName)) (W := 0) (argsL := [(.int p2), (.int p3)]) (rest := []) X0 hx hZ hown (hw _ (List.mem_of_getElem? (i := 1) rfl)) (hw _ (List.mem_of_getElem? (i := 2) rfl)) (hw _ (List.mem_of_getElem? (i := 3) rfl)) (hw _ (List.mem_of_getElem? (i := 4) rfl)) (by decide) e0 (rm1 l Z a0 hw [] p2 p3  h0 n0 ) (by decide) (by decide) (by decide) (by decide) (g := (mkF m 32 #[.val (.int p0), .val (.int p1), .val (.int p2), .val (.int p3)] [(.int p3), (.int p2)])) rfl (by rw [hml]; rfl) (lenOf pd_2 rfl) rfl (by show 2 * 0 + _ ≤ _; exact Nat.le_of_eq rfl) (hb hby d21_32)
        have N6 := Fr.app N0 Nq6
        refine hD _ (T6.setTop (mkF m 35 #[.val (.int p0), .val (.int p1), .val (.int p2), .val (.int p3)] [(.int (own_lab p2 p3))])) (fun t k => ?_) ?_
        · show Steps p.tables e below (s₁.setTop (mkF m 27 #[.val (.int p0), .val (.int p1), .val (.int p2), .val (.int p3)] [(.int p1), (.int p0)])) t
          refine XS.icmpNo X0.here hx rfl (hb hby d21_27) rfl (teq hc5).2 ?_
          show Steps p.tables e below (s₁.setTop (mkF m 30 #[.val (.int p0), .val (.int p1), .val (.int p2), .val (.int p3)] [])) t
          refine XS.iloadN X0.here hx rfl (hb hby d21_30) rfl ?_
          show Steps p.tables e below (s₁.setTop (mkF m 31 #[.val (.int p0), .val (.int p1), .val (.int p2), .val (.int p3)] [(.int p2)])) t
          refine XS.iloadN X0.here hx rfl (hb hby d21_31) rfl ?_
          show Steps p.tables e below (s₁.setTop (mkF m 32 #[.val (.int p0), .val (.int p1), .val (.int p2), .val (.int p3)] [(.int p3), (.int p2)])) t
          refine st6 _ ?_
          show Steps p.tables e below (T6.setTop (mkF m 35 #[.val (.int p0), .val (.int p1), .val (.int p2), .val (.int p3)] [(.int (own_lab p2 p3))])) t
          exact k
        exact Own.retI hR X6 hx hret (hb hby d21_35) (by decide) (by decide) ⟨by rw [own_eccw, if_neg hc1, if_neg hc4, if_pos hc5], N6, e6⟩
      · have hnz7 : p1 ≠ 0 := hc1
        refine hD _ (s₁.setTop (mkF m 42 #[.val (.int p0), .val (.int p1), .val (.int p2), .val (.int p3)] [(.int ((p2 + (1 : Int32)) % p1)), (.int p0)])) (fun t k => ?_) ?_
        · show Steps p.tables e below (s₁.setTop (mkF m 27 #[.val (.int p0), .val (.int p1), .val (.int p2), .val (.int p3)] [(.int p1), (.int p0)])) t
          refine XS.icmpYes X0.here hx rfl (pc0 := 27) (pc' := 36) rfl (hb hby d21_27) rfl (feq hc5).2 (by decide) (by decide) ?_
          show Steps p.tables e below (s₁.setTop (mkF m 36 #[.val (.int p0), .val (.int p1), .val (.int p2), .val (.int p3)] [])) t
          refine XS.iloadN X0.here hx rfl (hb hby d21_36) rfl ?_
          show Steps p.tables e below (s₁.setTop (mkF m 37 #[.val (.int p0), .val (.int p1), .val (.int p2), .val (.int p3)] [(.int p0)])) t
          refine XS.iloadN X0.here hx rfl (hb hby d21_37) rfl ?_
          show Steps p.tables e below (s₁.setTop (mkF m 38 #[.val (.int p0), .val (.int p1), .val (.int p2), .val (.int p3)] [(.int p2), (.int p0)])) t
          refine XS.iconst X0.here hx rfl (hb hby d21_38) ?_
          show Steps p.tables e below (s₁.setTop (mkF m 39 #[.val (.int p0), .val (.int p1), .val (.int p2), .val (.int p3)] [(.int (1 : Int32)), (.int p2), (.int p0)])) t
          refine XS.iadd X0.here hx rfl (hb hby d21_39) rfl ?_
          show Steps p.tables e below (s₁.setTop (mkF m 40 #[.val (.int p0), .val (.int p1), .val (.int p2), .val (.int p3)] [(.int (p2 + (1 : Int32))), (.int p0)])) t
          refine XS.iloadN X0.here hx rfl (hb hby d21_40) rfl ?_
          show Steps p.tables e below (s₁.setTop (mkF m 41 #[.val (.int p0), .val (.int p1), .val (.int p2), .val (.int p3)] [(.int p1), (.int (p2 + (1 : Int32))), (.int p0)])) t
          refine Jvm.RoadKit.iremM (g := (mkF m 41 #[.val (.int p0), .val (.int p1), .val (.int p2), .val (.int p3)] [(.int p1), (.int (p2 + (1 : Int32))), (.int p0)])) X0 hx rfl (hb hby d21_41) rfl hnz7 ?_
          show Steps p.tables e below (s₁.setTop (mkF m 42 #[.val (.int p0), .val (.int p1), .val (.int p2), .val (.int p3)] [(.int ((p2 + (1 : Int32)) % p1)), (.int p0)])) t
          exact k
        by_cases hc8 : p0 = ((p2 + (1 : Int32)) % p1)
        · obtain ⟨T9, _, L9, X9, ⟨rfl, Nq9, e9⟩, st9⟩ := Own.callS (y := (⟨"com/example/libgriddraw/libgriddraw/core/RotationSystemInsertClockwiseOfPinLaw", "lab", "(II)I"⟩ : MethodName)) (W := 0) (argsL := [(.int p1), (.int p3)]) (rest := []) X0 hx hZ hown (hw _ (List.mem_of_getElem? (i := 1) rfl)) (hw _ (List.mem_of_getElem? (i := 2) rfl)) (hw _ (List.mem_of_getElem? (i := 3) rfl)) (hw _ (List.mem_of_getElem? (i := 4) rfl)) (by decide) e0 (rm1 l Z a0 hw [] p1 p3  h0 n0 ) (by decide) (by decide) (by decide) (by decide) (g := (mkF m 47 #[.val (.int p0), .val (.int p1), .val (.int p2), .val (.int p3)] [(.int p3), (.int p1)])) rfl (by rw [hml]; rfl) (lenOf pd_2 rfl) rfl (by show 2 * 0 + _ ≤ _; exact Nat.le_of_eq rfl) (hb hby d21_47)
          have N9 := Fr.app N0 Nq9
          refine hD _ (T9.setTop (mkF m 50 #[.val (.int p0), .val (.int p1), .val (.int p2), .val (.int p3)] [(.int (own_lab p1 p3))])) (fun t k => ?_) ?_
          · show Steps p.tables e below (s₁.setTop (mkF m 42 #[.val (.int p0), .val (.int p1), .val (.int p2), .val (.int p3)] [(.int ((p2 + (1 : Int32)) % p1)), (.int p0)])) t
            refine XS.icmpNo X0.here hx rfl (hb hby d21_42) rfl (teq hc8).2 ?_
            show Steps p.tables e below (s₁.setTop (mkF m 45 #[.val (.int p0), .val (.int p1), .val (.int p2), .val (.int p3)] [])) t
            refine XS.iloadN X0.here hx rfl (hb hby d21_45) rfl ?_
            show Steps p.tables e below (s₁.setTop (mkF m 46 #[.val (.int p0), .val (.int p1), .val (.int p2), .val (.int p3)] [(.int p1)])) t
            refine XS.iloadN X0.here hx rfl (hb hby d21_46) rfl ?_
            show Steps p.tables e below (s₁.setTop (mkF m 47 #[.val (.int p0), .val (.int p1), .val (.int p2), .val (.int p3)] [(.int p3), (.int p1)])) t
            refine st9 _ ?_
            show Steps p.tables e below (T9.setTop (mkF m 50 #[.val (.int p0), .val (.int p1), .val (.int p2), .val (.int p3)] [(.int (own_lab p1 p3))])) t
            exact k
          exact Own.retI hR X9 hx hret (hb hby d21_50) (by decide) (by decide) ⟨by rw [own_eccw, if_neg hc1, if_neg hc4, if_neg hc5, if_pos hc8], N9, e9⟩
        · have hnz10 : p1 ≠ 0 := hc1
          obtain ⟨T11, _, L11, X11, ⟨rfl, Nq11, e11⟩, st11⟩ := Own.callS (y := (⟨"com/example/libgriddraw/libgriddraw/core/RotationSystemInsertClockwiseOfPinLaw", "lab", "(II)I"⟩ : MethodName)) (W := 0) (argsL := [(.int (((p0 + p1) - (1 : Int32)) % p1)), (.int p3)]) (rest := []) X0 hx hZ hown (hw _ (List.mem_of_getElem? (i := 1) rfl)) (hw _ (List.mem_of_getElem? (i := 2) rfl)) (hw _ (List.mem_of_getElem? (i := 3) rfl)) (hw _ (List.mem_of_getElem? (i := 4) rfl)) (by decide) e0 (rm1 l Z a0 hw [] (((p0 + p1) - (1 : Int32)) % p1) p3  h0 n0 ) (by decide) (by decide) (by decide) (by decide) (g := (mkF m 59 #[.val (.int p0), .val (.int p1), .val (.int p2), .val (.int p3)] [(.int p3), (.int (((p0 + p1) - (1 : Int32)) % p1))])) rfl (by rw [hml]; rfl) (lenOf pd_2 rfl) rfl (by show 2 * 0 + _ ≤ _; exact Nat.le_of_eq rfl) (hb hby d21_59)
          have N11 := Fr.app N0 Nq11
          refine hD _ (T11.setTop (mkF m 62 #[.val (.int p0), .val (.int p1), .val (.int p2), .val (.int p3)] [(.int (own_lab (((p0 + p1) - (1 : Int32)) % p1) p3))])) (fun t k => ?_) ?_
          · show Steps p.tables e below (s₁.setTop (mkF m 42 #[.val (.int p0), .val (.int p1), .val (.int p2), .val (.int p3)] [(.int ((p2 + (1 : Int32)) % p1)), (.int p0)])) t
            refine XS.icmpYes X0.here hx rfl (pc0 := 42) (pc' := 51) rfl (hb hby d21_42) rfl (feq hc8).2 (by decide) (by decide) ?_
            show Steps p.tables e below (s₁.setTop (mkF m 51 #[.val (.int p0), .val (.int p1), .val (.int p2), .val (.int p3)] [])) t
            refine XS.iloadN X0.here hx rfl (hb hby d21_51) rfl ?_
            show Steps p.tables e below (s₁.setTop (mkF m 52 #[.val (.int p0), .val (.int p1), .val (.int p2), .val (.int p3)] [(.int p0)])) t
            refine XS.iloadN X0.here hx rfl (hb hby d21_52) rfl ?_
            show Steps p.tables e below (s₁.setTop (mkF m 53 #[.val (.int p0), .val (.int p1), .val (.int p2), .val (.int p3)] [(.int p1), (.int p0)])) t
            refine XS.iadd X0.here hx rfl (hb hby d21_53) rfl ?_
            show Steps p.tables e below (s₁.setTop (mkF m 54 #[.val (.int p0), .val (.int p1), .val (.int p2), .val (.int p3)] [(.int (p0 + p1))])) t
            refine XS.iconst X0.here hx rfl (hb hby d21_54) ?_
            show Steps p.tables e below (s₁.setTop (mkF m 55 #[.val (.int p0), .val (.int p1), .val (.int p2), .val (.int p3)] [(.int (1 : Int32)), (.int (p0 + p1))])) t
            refine XS.isub X0.here hx rfl (hb hby d21_55) rfl ?_
            show Steps p.tables e below (s₁.setTop (mkF m 56 #[.val (.int p0), .val (.int p1), .val (.int p2), .val (.int p3)] [(.int ((p0 + p1) - (1 : Int32)))])) t
            refine XS.iloadN X0.here hx rfl (hb hby d21_56) rfl ?_
            show Steps p.tables e below (s₁.setTop (mkF m 57 #[.val (.int p0), .val (.int p1), .val (.int p2), .val (.int p3)] [(.int p1), (.int ((p0 + p1) - (1 : Int32)))])) t
            refine Jvm.RoadKit.iremM (g := (mkF m 57 #[.val (.int p0), .val (.int p1), .val (.int p2), .val (.int p3)] [(.int p1), (.int ((p0 + p1) - (1 : Int32)))])) X0 hx rfl (hb hby d21_57) rfl hnz10 ?_
            show Steps p.tables e below (s₁.setTop (mkF m 58 #[.val (.int p0), .val (.int p1), .val (.int p2), .val (.int p3)] [(.int (((p0 + p1) - (1 : Int32)) % p1))])) t
            refine XS.iloadN X0.here hx rfl (hb hby d21_58) rfl ?_
            show Steps p.tables e below (s₁.setTop (mkF m 59 #[.val (.int p0), .val (.int p1), .val (.int p2), .val (.int p3)] [(.int p3), (.int (((p0 + p1) - (1 : Int32)) % p1))])) t
            refine st11 _ ?_
            show Steps p.tables e below (T11.setTop (mkF m 62 #[.val (.int p0), .val (.int p1), .val (.int p2), .val (.int p3)] [(.int (own_lab (((p0 + p1) - (1 : Int32)) % p1) p3))])) t
            exact k
          exact Own.retI hR X11 hx hret (hb hby d21_62) (by decide) (by decide) ⟨by rw [own_eccw, if_neg hc1, if_neg hc4, if_neg hc5, if_neg hc8], N11, e11⟩
theorem pd_3 : parseMethodDescriptor "(II)V" = some ⟨[.int, .int], none⟩ := by decide +kernel
theorem pd_4 : parseMethodDescriptor "(III)V" = some ⟨[.int, .int, .int], none⟩ := by decide +kernel
theorem pd_5 : parseMethodDescriptor "(I)I" = some ⟨[.int], some .int⟩ := by decide +kernel
theorem pd_6 : parseMethodDescriptor "(IIII)I" = some ⟨[.int, .int, .int, .int], some .int⟩ := by decide +kernel
theorem ef_0 (m : MethodId) (p0 : Int32) (p1 : Int32) (p2 : Int32) (p3 : Int32) : entryFrame m #[(.int p0), (.int p1), (.int p2), (.int p3)] maxLocals = mkF m 0 #[.val (.int p0), .val (.int p1), .val (.int p2), .val (.int p3), .unset, .unset, .unset, .unset, .unset, .unset, .unset, .unset, .unset, .unset, .unset] [] := by first | (simp [entryFrame, mkF, argsToLocals, Value.category, maxLocals]; done) | rfl
def Q0 (Z : State) (p0 : Int32) (p1 : Int32) (p2 : Int32) (p3 : Int32) (h0 : Heap) (n0 : Nat) (v : Option Value) (h : Heap) (L : List Loc) : Prop := v = some (.int 1) ∧ Fr n0 L
set_option maxRecDepth 65536 in
set_option maxHeartbeats 40000000 in
theorem rm0 (l : Launch) (Z : State) (a0 : Array Value) (hw : ∀ d ∈ tables_1, d.before a0 Z = true) (ws : List Jvm.Cond) (p0 : Int32) (p1 : Int32) (p2 : Int32) (p3 : Int32) (h0 : Heap) (n0 : Nat) (Z0 : n0 ≤ h0.size) :
    MetFree l x (head1 (Jvm.Cond.code x code maxLocals ret :: ws) room_1) (fun a U => a = #[(.int p0), (.int p1), (.int p2), (.int p3)] ∧ Z.Warmed39 U.vm ∧ U.heap = h0) (fun _ _ _ _ _ => True) (fun _ U o U' => ∃ v L, o = .returned v ∧ Q0 Z p0 p1 p2 p3 h0 n0 v U'.heap L ∧ FrameEnd U o U' L room_1.cells room_1.slots) := by
  refine Own.enter (Q := Q0 Z p0 p1 p2 p3 h0 n0) (plainFor_of_name pn_0) ?_
  intro p e s m below meth c s₁ D hx hby hml hown hnm hret hZ X0 e0 hD hR
  have N0 := Fr.nil n0
  rw [show entryFrame m #[(.int p0), (.int p1), (.int p2), (.int p3)] maxLocals = mkF m 0 #[.val (.int p0), .val (.int p1), .val (.int p2), .val (.int p3), .unset, .unset, .unset, .unset, .unset, .unset, .unset, .unset, .unset, .unset, .unset] [] from ef_0 m p0 p1 p2 p3]
  obtain ⟨v1, hv1⟩ : ∃ z : Int32, z = (p0 &&& (1 : Int32)) := ⟨_, rfl⟩
  obtain ⟨v2, hv2⟩ : ∃ z : Int32, z = ((1 : Int32) - v1) := ⟨_, rfl⟩
  have hnz3 : (3 : Int32) ≠ 0 := by decide
  obtain ⟨v4, hv4⟩ : ∃ z : Int32, z = ((p1 &&& (2147483647 : Int32)) % (3 : Int32)) := ⟨_, rfl⟩
  obtain ⟨v5, hv5⟩ : ∃ z : Int32, z = (p2 &&& (3 : Int32)) := ⟨_, rfl⟩
  obtain ⟨T6, _, L6, X6, ⟨rfl, Nq6, e6⟩, st6⟩ := Own.callS (y := (⟨"com/example/libgriddraw/libgriddraw/core/RotationSystemInsertClockwiseOfPinLaw", "lab", "(II)I"⟩ : MethodName)) (W := 0) (argsL := [(.int (0 : Int32)), (.int v5)]) (rest := []) X0 hx hZ hown (hw _ (List.mem_of_getElem? (i := 1) rfl)) (hw _ (List.mem_of_getElem? (i := 2) rfl)) (hw _ (List.mem_of_getElem? (i := 3) rfl)) (hw _ (List.mem_of_getElem? (i := 4) rfl)) (by decide) e0 (rm1 l Z a0 hw [] (0 : Int32) v5  h0 n0 ) (by decide) (by decide) (by decide) (by decide) (g := (mkF m 27 #[.val (.int p0), .val (.int p1), .val (.int p2), .val (.int p3), .val (.int v1), .val (.int v2), .val (.int v4), .val (.int v5), .unset, .unset, .unset, .unset, .unset, .unset, .unset] [(.int v5), (.int (0 : Int32))])) rfl (by rw [hml]; rfl) (lenOf pd_2 rfl) rfl (by show 2 * 0 + _ ≤ _; exact Nat.le_of_eq rfl) (hb hby at_27)
  have N6 := Fr.app N0 Nq6
  obtain ⟨v7, hv7⟩ : ∃ z : Int32, z = (own_lab (0 : Int32) v5) := ⟨_, rfl⟩
  obtain ⟨T8, _, L8, X8, ⟨rfl, Nq8, e8⟩, st8⟩ := Own.callS (y := (⟨"com/example/libgriddraw/libgriddraw/core/RotationSystemInsertClockwiseOfPinLaw", "lab", "(II)I"⟩ : MethodName)) (W := 0) (argsL := [(.int (1 : Int32)), (.int v5)]) (rest := []) X6 hx hZ hown (hw _ (List.mem_of_getElem? (i := 1) rfl)) (hw _ (List.mem_of_getElem? (i := 2) rfl)) (hw _ (List.mem_of_getElem? (i := 3) rfl)) (hw _ (List.mem_of_getElem? (i := 4) rfl)) (by decide) e6 (rm1 l Z a0 hw [] (1 : Int32) v5  h0 n0 ) (by decide) (by decide) (by decide) (by decide) (g := (mkF m 35 #[.val (.int p0), .val (.int p1), .val (.int p2), .val (.int p3), .val (.int v1), .val (.int v2), .val (.int v4), .val (.int v5), .val (.int v7), .unset, .unset, .unset, .unset, .unset, .unset] [(.int v5), (.int (1 : Int32))])) rfl (by rw [hml]; rfl) (lenOf pd_2 rfl) rfl (by show 2 * 0 + _ ≤ _; exact Nat.le_of_eq rfl) (hb hby at_35)
  have N8 := Fr.app N6 Nq8
  obtain ⟨v9, hv9⟩ : ∃ z : Int32, z = (own_lab (1 : Int32) v5) := ⟨_, rfl⟩
  obtain ⟨T10, _, L10, X10, ⟨rfl, Nq10, e10⟩, st10⟩ := Own.callS (y := (⟨"com/example/libgriddraw/libgriddraw/core/RotationSystemInsertClockwiseOfPinLaw", "lab", "(II)I"⟩ : MethodName)) (W := 0) (argsL := [(.int (2 : Int32)), (.int v5)]) (rest := []) X8 hx hZ hown (hw _ (List.mem_of_getElem? (i := 1) rfl)) (hw _ (List.mem_of_getElem? (i := 2) rfl)) (hw _ (List.mem_of_getElem? (i := 3) rfl)) (hw _ (List.mem_of_getElem? (i := 4) rfl)) (by decide) e8 (rm1 l Z a0 hw [] (2 : Int32) v5  h0 n0 ) (by decide) (by decide) (by decide) (by decide) (g := (mkF m 43 #[.val (.int p0), .val (.int p1), .val (.int p2), .val (.int p3), .val (.int v1), .val (.int v2), .val (.int v4), .val (.int v5), .val (.int v7), .val (.int v9), .unset, .unset, .unset, .unset, .unset] [(.int v5), (.int (2 : Int32))])) rfl (by rw [hml]; rfl) (lenOf pd_2 rfl) rfl (by show 2 * 0 + _ ≤ _; exact Nat.le_of_eq rfl) (hb hby at_43)
  have N10 := Fr.app N8 Nq10
  obtain ⟨v11, hv11⟩ : ∃ z : Int32, z = (own_lab (2 : Int32) v5) := ⟨_, rfl⟩
  obtain ⟨T12, h12, X12, e12, E12, A12, D12, -, st12⟩ := newO X10 hx hZ hown (hw _ (List.mem_of_getElem? (i := 5) rfl)) (hw _ (List.mem_of_getElem? (i := 6) rfl)) (hw _ (List.mem_of_getElem? (i := 7) rfl)) e10 (g := (mkF m 48 #[.val (.int p0), .val (.int p1), .val (.int p2), .val (.int p3), .val (.int v1), .val (.int v2), .val (.int v4), .val (.int v5), .val (.int v7), .val (.int v9), .val (.int v11), .unset, .unset, .unset, .unset] [])) rfl (hb hby at_48) (by decide) (by decide)
  obtain ⟨b12, g_b12⟩ : ∃ z : Nat, z = h0.size := ⟨_, rfl⟩
  rw [← g_b12] at A12 D12 st12
  have g0_b12 : n0 ≤ b12 := by rw [g_b12]; exact Z0
  have f13 : Fld Z h12 b12 "com/example/libgriddraw/libgriddraw/core/RotationSystem" "ccwNext" "[I" .null := D12 (Or.inr (hw _ (List.mem_of_getElem? (i := 19) rfl))) (ty := (.array .int)) (by decide)
  have f14 : Fld Z h12 b12 "com/example/libgriddraw/libgriddraw/core/RotationSystem" "cwNext" "[I" .null := D12 (Or.inr (hw _ (List.mem_of_getElem? (i := 21) rfl))) (ty := (.array .int)) (by decide)
  have f15 : Fld Z h12 b12 "com/example/libgriddraw/libgriddraw/core/RotationSystem" "firstOut" "[I" .null := D12 (Or.inr (hw _ (List.mem_of_getElem? (i := 23) rfl))) (ty := (.array .int)) (by decide)
  have Z12 : n0 ≤ h12.size := Nat.le_trans Z0 E12.1
  obtain ⟨T16, _, L16, X16, ⟨rc16, rw16, rf16, rfl, Nq16, E16, FccwNext_16, FcwNext_16, FfirstOut_16, Ac_16, Aw_16, Af_16, l1_16, l2_16, l3_16⟩, st16⟩ := Own.callI (y := (⟨"com/example/libgriddraw/libgriddraw/core/RotationSystem", "<init>", "(II)V"⟩ : MethodName)) (W := 1) (argsL := [(.int (2 : Int32)), (.int (4 : Int32))]) (rest := [(.ref b12)]) (a := b12) X12 hx hZ hown rfl (hw _ (List.mem_of_getElem? (i := 8) rfl)) (hw _ (List.mem_of_getElem? (i := 9) rfl)) (hw _ (List.mem_of_getElem? (i := 7) rfl)) (hw _ (List.mem_of_getElem? (i := 10) rfl)) (by decide) e12 (rm3 l Z a0 hw [] b12  h12 n0 Z12 g0_b12 A12 f13 f14 f15) (by decide) (by decide) (by decide) (by decide) (g := (mkF m 54 #[.val (.int p0), .val (.int p1), .val (.int p2), .val (.int p3), .val (.int v1), .val (.int v2), .val (.int v4), .val (.int v5), .val (.int v7), .val (.int v9), .val (.int v11), .unset, .unset, .unset, .unset] [(.int (4 : Int32)), (.int (2 : Int32)), (.ref b12), (.ref b12)])) rfl (by rw [hml]; rfl) (lenOf pd_3 rfl) rfl (by show 2 * 0 + _ ≤ _; exact Nat.le_of_eq rfl) (hb hby at_54)
  have N16 := Fr.app N10 Nq16
  have Z16 : n0 ≤ T16.heap.size := Nat.le_trans g0_b12 (Nat.le_of_lt E16.lt)
  obtain ⟨T17, _, L17, X17, ⟨rfl, Nq17, E17, FccwNext_17, FcwNext_17, FfirstOut_17, Ac_17, Aw_17, Af_17⟩, st17⟩ := Own.callV (y := (⟨"com/example/libgriddraw/libgriddraw/core/RotationSystem", "insertClockwiseOf", "(III)V"⟩ : MethodName)) (W := 0) (argsL := [(.int v7), (.int v1), (.int (-1 : Int32))]) (rest := []) (a := b12) X16 hx hZ hown (hw _ (List.mem_of_getElem? (i := 28) rfl)) (hw _ (List.mem_of_getElem? (i := 29) rfl)) (hw _ (List.mem_of_getElem? (i := 31) rfl)) (hw _ (List.mem_of_getElem? (i := 30) rfl)) (hw _ (List.mem_of_getElem? (i := 7) rfl)) (hw _ (List.mem_of_getElem? (i := 32) rfl)) (by decide) rfl E16 (rm5 l Z a0 hw [] b12 v7 v1 rc16 rw16 rf16 (fun _ => 0) (fun _ => 0) (fun _ => (-1 : Int32)) T16.heap n0 Z16 g0_b12 l1_16 l2_16 l3_16 (by subst hv2 hv7 hv9 hv11; rcases own_s4 hv5 with rfl | rfl | rfl | rfl <;> rcases own_o2 hv1 with rfl | rfl <;> decide +kernel) (by subst hv2 hv7 hv9 hv11; rcases own_s4 hv5 with rfl | rfl | rfl | rfl <;> rcases own_o2 hv1 with rfl | rfl <;> decide +kernel) E16 FccwNext_16 FcwNext_16 FfirstOut_16 Ac_16 Aw_16 Af_16) (by decide) (by decide) (by decide) (by decide) (g := (mkF m 69 #[.val (.int p0), .val (.int p1), .val (.int p2), .val (.int p3), .val (.int v1), .val (.int v2), .val (.int v4), .val (.int v5), .val (.int v7), .val (.int v9), .val (.int v11), .val (.ref b12), .val (.int (0 : Int32)), .unset, .unset] [(.int (-1 : Int32)), (.int v1), (.int v7), (.ref b12)])) rfl (by rw [hml]; rfl) (lenOf pd_4 rfl) rfl (by show 2 * 0 + _ ≤ _; exact Nat.le_of_eq rfl) (hb hby at_69)
  have N17 := Fr.app N16 Nq17
  have Z17 : n0 ≤ T17.heap.size := Nat.le_trans g0_b12 (Nat.le_of_lt E17.lt)
  refine hD _ (T17.setTop (mkF m 75 #[.val (.int p0), .val (.int p1), .val (.int p2), .val (.int p3), .val (.int v1), .val (.int v2), .val (.int v4), .val (.int v5), .val (.int v7), .val (.int v9), .val (.int v11), .val (.ref b12), .val (.int (0 : Int32)), .unset, .unset] [(.int (1 : Int32)), (.int v4)])) (fun t k => ?_) ?_
  · show Steps p.tables e below (s₁.setTop (mkF m 0 #[.val (.int p0), .val (.int p1), .val (.int p2), .val (.int p3), .unset, .unset, .unset, .unset, .unset, .unset, .unset, .unset, .unset, .unset, .unset] [])) t
    refine XS.iloadN X0.here hx rfl (hb hby at_0) rfl ?_
    show Steps p.tables e below (s₁.setTop (mkF m 1 #[.val (.int p0), .val (.int p1), .val (.int p2), .val (.int p3), .unset, .unset, .unset, .unset, .unset, .unset, .unset, .unset, .unset, .unset, .unset] [(.int p0)])) t
    refine XS.iconst X0.here hx rfl (hb hby at_1) ?_
    show Steps p.tables e below (s₁.setTop (mkF m 2 #[.val (.int p0), .val (.int p1), .val (.int p2), .val (.int p3), .unset, .unset, .unset, .unset, .unset, .unset, .unset, .unset, .unset, .unset, .unset] [(.int (1 : Int32)), (.int p0)])) t
    refine XS.iand X0.here hx rfl (hb hby at_2) rfl ?_
    show Steps p.tables e below (s₁.setTop (mkF m 3 #[.val (.int p0), .val (.int p1), .val (.int p2), .val (.int p3), .unset, .unset, .unset, .unset, .unset, .unset, .unset, .unset, .unset, .unset, .unset] [(.int (p0 &&& (1 : Int32)))])) t
    refine Own.nmI hv1 ?_
    show Steps p.tables e below (s₁.setTop (mkF m 3 #[.val (.int p0), .val (.int p1), .val (.int p2), .val (.int p3), .unset, .unset, .unset, .unset, .unset, .unset, .unset, .unset, .unset, .unset, .unset] [(.int v1)])) t
    refine XS.istore X0.here hx rfl (hb hby at_3) rfl (l' := #[.val (.int p0), .val (.int p1), .val (.int p2), .val (.int p3), .val (.int v1), .unset, .unset, .unset, .unset, .unset, .unset, .unset, .unset, .unset, .unset]) rfl ?_
    show Steps p.tables e below (s₁.setTop (mkF m 5 #[.val (.int p0), .val (.int p1), .val (.int p2), .val (.int p3), .val (.int v1), .unset, .unset, .unset, .unset, .unset, .unset, .unset, .unset, .unset, .unset] [])) t
    refine XS.iconst X0.here hx rfl (hb hby at_5) ?_
    show Steps p.tables e below (s₁.setTop (mkF m 6 #[.val (.int p0), .val (.int p1), .val (.int p2), .val (.int p3), .val (.int v1), .unset, .unset, .unset, .unset, .unset, .unset, .unset, .unset, .unset, .unset] [(.int (1 : Int32))])) t
    refine XS.iload X0.here hx rfl (hb hby at_6) rfl ?_
    show Steps p.tables e below (s₁.setTop (mkF m 8 #[.val (.int p0), .val (.int p1), .val (.int p2), .val (.int p3), .val (.int v1), .unset, .unset, .unset, .unset, .unset, .unset, .unset, .unset, .unset, .unset] [(.int v1), (.int (1 : Int32))])) t
    refine XS.isub X0.here hx rfl (hb hby at_8) rfl ?_
    show Steps p.tables e below (s₁.setTop (mkF m 9 #[.val (.int p0), .val (.int p1), .val (.int p2), .val (.int p3), .val (.int v1), .unset, .unset, .unset, .unset, .unset, .unset, .unset, .unset, .unset, .unset] [(.int ((1 : Int32) - v1))])) t
    refine Own.nmI hv2 ?_
    show Steps p.tables e below (s₁.setTop (mkF m 9 #[.val (.int p0), .val (.int p1), .val (.int p2), .val (.int p3), .val (.int v1), .unset, .unset, .unset, .unset, .unset, .unset, .unset, .unset, .unset, .unset] [(.int v2)])) t
    refine XS.istore X0.here hx rfl (hb hby at_9) rfl (l' := #[.val (.int p0), .val (.int p1), .val (.int p2), .val (.int p3), .val (.int v1), .val (.int v2), .unset, .unset, .unset, .unset, .unset, .unset, .unset, .unset, .unset]) rfl ?_
    show Steps p.tables e below (s₁.setTop (mkF m 11 #[.val (.int p0), .val (.int p1), .val (.int p2), .val (.int p3), .val (.int v1), .val (.int v2), .unset, .unset, .unset, .unset, .unset, .unset, .unset, .unset, .unset] [])) t
    refine XS.iloadN X0.here hx rfl (hb hby at_11) rfl ?_
    show Steps p.tables e below (s₁.setTop (mkF m 12 #[.val (.int p0), .val (.int p1), .val (.int p2), .val (.int p3), .val (.int v1), .val (.int v2), .unset, .unset, .unset, .unset, .unset, .unset, .unset, .unset, .unset] [(.int p1)])) t
    refine X0.ldcInt hx hown (mvT hZ (hw _ (List.mem_of_getElem? (i := 0) rfl))) (g := (mkF m 12 #[.val (.int p0), .val (.int p1), .val (.int p2), .val (.int p3), .val (.int v1), .val (.int v2), .unset, .unset, .unset, .unset, .unset, .unset, .unset, .unset, .unset] [(.int p1)])) rfl (hb hby at_12) _ ?_
    show Steps p.tables e below (s₁.setTop (mkF m 14 #[.val (.int p0), .val (.int p1), .val (.int p2), .val (.int p3), .val (.int v1), .val (.int v2), .unset, .unset, .unset, .unset, .unset, .unset, .unset, .unset, .unset] [(.int (2147483647 : Int32)), (.int p1)])) t
    refine XS.iand X0.here hx rfl (hb hby at_14) rfl ?_
    show Steps p.tables e below (s₁.setTop (mkF m 15 #[.val (.int p0), .val (.int p1), .val (.int p2), .val (.int p3), .val (.int v1), .val (.int v2), .unset, .unset, .unset, .unset, .unset, .unset, .unset, .unset, .unset] [(.int (p1 &&& (2147483647 : Int32)))])) t
    refine XS.iconst X0.here hx rfl (hb hby at_15) ?_
    show Steps p.tables e below (s₁.setTop (mkF m 16 #[.val (.int p0), .val (.int p1), .val (.int p2), .val (.int p3), .val (.int v1), .val (.int v2), .unset, .unset, .unset, .unset, .unset, .unset, .unset, .unset, .unset] [(.int (3 : Int32)), (.int (p1 &&& (2147483647 : Int32)))])) t
    refine Jvm.RoadKit.iremM (g := (mkF m 16 #[.val (.int p0), .val (.int p1), .val (.int p2), .val (.int p3), .val (.int v1), .val (.int v2), .unset, .unset, .unset, .unset, .unset, .unset, .unset, .unset, .unset] [(.int (3 : Int32)), (.int (p1 &&& (2147483647 : Int32)))])) X0 hx rfl (hb hby at_16) rfl hnz3 ?_
    show Steps p.tables e below (s₁.setTop (mkF m 17 #[.val (.int p0), .val (.int p1), .val (.int p2), .val (.int p3), .val (.int v1), .val (.int v2), .unset, .unset, .unset, .unset, .unset, .unset, .unset, .unset, .unset] [(.int ((p1 &&& (2147483647 : Int32)) % (3 : Int32)))])) t
    refine Own.nmI hv4 ?_
    show Steps p.tables e below (s₁.setTop (mkF m 17 #[.val (.int p0), .val (.int p1), .val (.int p2), .val (.int p3), .val (.int v1), .val (.int v2), .unset, .unset, .unset, .unset, .unset, .unset, .unset, .unset, .unset] [(.int v4)])) t
    refine XS.istore X0.here hx rfl (hb hby at_17) rfl (l' := #[.val (.int p0), .val (.int p1), .val (.int p2), .val (.int p3), .val (.int v1), .val (.int v2), .val (.int v4), .unset, .unset, .unset, .unset, .unset, .unset, .unset, .unset]) rfl ?_
    show Steps p.tables e below (s₁.setTop (mkF m 19 #[.val (.int p0), .val (.int p1), .val (.int p2), .val (.int p3), .val (.int v1), .val (.int v2), .val (.int v4), .unset, .unset, .unset, .unset, .unset, .unset, .unset, .unset] [])) t
    refine XS.iloadN X0.here hx rfl (hb hby at_19) rfl ?_
    show Steps p.tables e below (s₁.setTop (mkF m 20 #[.val (.int p0), .val (.int p1), .val (.int p2), .val (.int p3), .val (.int v1), .val (.int v2), .val (.int v4), .unset, .unset, .unset, .unset, .unset, .unset, .unset, .unset] [(.int p2)])) t
    refine XS.iconst X0.here hx rfl (hb hby at_20) ?_
    show Steps p.tables e below (s₁.setTop (mkF m 21 #[.val (.int p0), .val (.int p1), .val (.int p2), .val (.int p3), .val (.int v1), .val (.int v2), .val (.int v4), .unset, .unset, .unset, .unset, .unset, .unset, .unset, .unset] [(.int (3 : Int32)), (.int p2)])) t
    refine XS.iand X0.here hx rfl (hb hby at_21) rfl ?_
    show Steps p.tables e below (s₁.setTop (mkF m 22 #[.val (.int p0), .val (.int p1), .val (.int p2), .val (.int p3), .val (.int v1), .val (.int v2), .val (.int v4), .unset, .unset, .unset, .unset, .unset, .unset, .unset, .unset] [(.int (p2 &&& (3 : Int32)))])) t
    refine Own.nmI hv5 ?_
    show Steps p.tables e below (s₁.setTop (mkF m 22 #[.val (.int p0), .val (.int p1), .val (.int p2), .val (.int p3), .val (.int v1), .val (.int v2), .val (.int v4), .unset, .unset, .unset, .unset, .unset, .unset, .unset, .unset] [(.int v5)])) t
    refine XS.istore X0.here hx rfl (hb hby at_22) rfl (l' := #[.val (.int p0), .val (.int p1), .val (.int p2), .val (.int p3), .val (.int v1), .val (.int v2), .val (.int v4), .val (.int v5), .unset, .unset, .unset, .unset, .unset, .unset, .unset]) rfl ?_
    show Steps p.tables e below (s₁.setTop (mkF m 24 #[.val (.int p0), .val (.int p1), .val (.int p2), .val (.int p3), .val (.int v1), .val (.int v2), .val (.int v4), .val (.int v5), .unset, .unset, .unset, .unset, .unset, .unset, .unset] [])) t
    refine XS.iconst X0.here hx rfl (hb hby at_24) ?_
    show Steps p.tables e below (s₁.setTop (mkF m 25 #[.val (.int p0), .val (.int p1), .val (.int p2), .val (.int p3), .val (.int v1), .val (.int v2), .val (.int v4), .val (.int v5), .unset, .unset, .unset, .unset, .unset, .unset, .unset] [(.int (0 : Int32))])) t
    refine XS.iload X0.here hx rfl (hb hby at_25) rfl ?_
    show Steps p.tables e below (s₁.setTop (mkF m 27 #[.val (.int p0), .val (.int p1), .val (.int p2), .val (.int p3), .val (.int v1), .val (.int v2), .val (.int v4), .val (.int v5), .unset, .unset, .unset, .unset, .unset, .unset, .unset] [(.int v5), (.int (0 : Int32))])) t
    refine st6 _ ?_
    show Steps p.tables e below (T6.setTop (mkF m 30 #[.val (.int p0), .val (.int p1), .val (.int p2), .val (.int p3), .val (.int v1), .val (.int v2), .val (.int v4), .val (.int v5), .unset, .unset, .unset, .unset, .unset, .unset, .unset] [(.int (own_lab (0 : Int32) v5))])) t
    refine Own.nmI hv7 ?_
    show Steps p.tables e below (T6.setTop (mkF m 30 #[.val (.int p0), .val (.int p1), .val (.int p2), .val (.int p3), .val (.int v1), .val (.int v2), .val (.int v4), .val (.int v5), .unset, .unset, .unset, .unset, .unset, .unset, .unset] [(.int v7)])) t
    refine XS.istore X6.here hx rfl (hb hby at_30) rfl (l' := #[.val (.int p0), .val (.int p1), .val (.int p2), .val (.int p3), .val (.int v1), .val (.int v2), .val (.int v4), .val (.int v5), .val (.int v7), .unset, .unset, .unset, .unset, .unset, .unset]) rfl ?_
    show Steps p.tables e below (T6.setTop (mkF m 32 #[.val (.int p0), .val (.int p1), .val (.int p2), .val (.int p3), .val (.int v1), .val (.int v2), .val (.int v4), .val (.int v5), .val (.int v7), .unset, .unset, .unset, .unset, .unset, .unset] [])) t
    refine XS.iconst X6.here hx rfl (hb hby at_32) ?_
    show Steps p.tables e below (T6.setTop (mkF m 33 #[.val (.int p0), .val (.int p1), .val (.int p2), .val (.int p3), .val (.int v1), .val (.int v2), .val (.int v4), .val (.int v5), .val (.int v7), .unset, .unset, .unset, .unset, .unset, .unset] [(.int (1 : Int32))])) t
    refine XS.iload X6.here hx rfl (hb hby at_33) rfl ?_
    show Steps p.tables e below (T6.setTop (mkF m 35 #[.val (.int p0), .val (.int p1), .val (.int p2), .val (.int p3), .val (.int v1), .val (.int v2), .val (.int v4), .val (.int v5), .val (.int v7), .unset, .unset, .unset, .unset, .unset, .unset] [(.int v5), (.int (1 : Int32))])) t
    refine st8 _ ?_
    show Steps p.tables e below (T8.setTop (mkF m 38 #[.val (.int p0), .val (.int p1), .val (.int p2), .val (.int p3), .val (.int v1), .val (.int v2), .val (.int v4), .val (.int v5), .val (.int v7), .unset, .unset, .unset, .unset, .unset, .unset] [(.int (own_lab (1 : Int32) v5))])) t
    refine Own.nmI hv9 ?_
    show Steps p.tables e below (T8.setTop (mkF m 38 #[.val (.int p0), .val (.int p1), .val (.int p2), .val (.int p3), .val (.int v1), .val (.int v2), .val (.int v4), .val (.int v5), .val (.int v7), .unset, .unset, .unset, .unset, .unset, .unset] [(.int v9)])) t
    refine XS.istore X8.here hx rfl (hb hby at_38) rfl (l' := #[.val (.int p0), .val (.int p1), .val (.int p2), .val (.int p3), .val (.int v1), .val (.int v2), .val (.int v4), .val (.int v5), .val (.int v7), .val (.int v9), .unset, .unset, .unset, .unset, .unset]) rfl ?_
    show Steps p.tables e below (T8.setTop (mkF m 40 #[.val (.int p0), .val (.int p1), .val (.int p2), .val (.int p3), .val (.int v1), .val (.int v2), .val (.int v4), .val (.int v5), .val (.int v7), .val (.int v9), .unset, .unset, .unset, .unset, .unset] [])) t
    refine XS.iconst X8.here hx rfl (hb hby at_40) ?_
    show Steps p.tables e below (T8.setTop (mkF m 41 #[.val (.int p0), .val (.int p1), .val (.int p2), .val (.int p3), .val (.int v1), .val (.int v2), .val (.int v4), .val (.int v5), .val (.int v7), .val (.int v9), .unset, .unset, .unset, .unset, .unset] [(.int (2 : Int32))])) t
    refine XS.iload X8.here hx rfl (hb hby at_41) rfl ?_
    show Steps p.tables e below (T8.setTop (mkF m 43 #[.val (.int p0), .val (.int p1), .val (.int p2), .val (.int p3), .val (.int v1), .val (.int v2), .val (.int v4), .val (.int v5), .val (.int v7), .val (.int v9), .unset, .unset, .unset, .unset, .unset] [(.int v5), (.int (2 : Int32))])) t
    refine st10 _ ?_
    show Steps p.tables e below (T10.setTop (mkF m 46 #[.val (.int p0), .val (.int p1), .val (.int p2), .val (.int p3), .val (.int v1), .val (.int v2), .val (.int v4), .val (.int v5), .val (.int v7), .val (.int v9), .unset, .unset, .unset, .unset, .unset] [(.int (own_lab (2 : Int32) v5))])) t
    refine Own.nmI hv11 ?_
    show Steps p.tables e below (T10.setTop (mkF m 46 #[.val (.int p0), .val (.int p1), .val (.int p2), .val (.int p3), .val (.int v1), .val (.int v2), .val (.int v4), .val (.int v5), .val (.int v7), .val (.int v9), .unset, .unset, .unset, .unset, .unset] [(.int v11)])) t
    refine XS.istore X10.here hx rfl (hb hby at_46) rfl (l' := #[.val (.int p0), .val (.int p1), .val (.int p2), .val (.int p3), .val (.int v1), .val (.int v2), .val (.int v4), .val (.int v5), .val (.int v7), .val (.int v9), .val (.int v11), .unset, .unset, .unset, .unset]) rfl ?_
    show Steps p.tables e below (T10.setTop (mkF m 48 #[.val (.int p0), .val (.int p1), .val (.int p2), .val (.int p3), .val (.int v1), .val (.int v2), .val (.int v4), .val (.int v5), .val (.int v7), .val (.int v9), .val (.int v11), .unset, .unset, .unset, .unset] [])) t
    refine st12 _ ?_
    show Steps p.tables e below (T12.setTop (mkF m 51 #[.val (.int p0), .val (.int p1), .val (.int p2), .val (.int p3), .val (.int v1), .val (.int v2), .val (.int v4), .val (.int v5), .val (.int v7), .val (.int v9), .val (.int v11), .unset, .unset, .unset, .unset] [(.ref b12)])) t
    refine XS.dup X12.here hx rfl (hb hby at_51) rfl rfl ?_
    show Steps p.tables e below (T12.setTop (mkF m 52 #[.val (.int p0), .val (.int p1), .val (.int p2), .val (.int p3), .val (.int v1), .val (.int v2), .val (.int v4), .val (.int v5), .val (.int v7), .val (.int v9), .val (.int v11), .unset, .unset, .unset, .unset] [(.ref b12), (.ref b12)])) t
    refine XS.iconst X12.here hx rfl (hb hby at_52) ?_
    show Steps p.tables e below (T12.setTop (mkF m 53 #[.val (.int p0), .val (.int p1), .val (.int p2), .val (.int p3), .val (.int v1), .val (.int v2), .val (.int v4), .val (.int v5), .val (.int v7), .val (.int v9), .val (.int v11), .unset, .unset, .unset, .unset] [(.int (2 : Int32)), (.ref b12), (.ref b12)])) t
    refine XS.iconst X12.here hx rfl (hb hby at_53) ?_
    show Steps p.tables e below (T12.setTop (mkF m 54 #[.val (.int p0), .val (.int p1), .val (.int p2), .val (.int p3), .val (.int v1), .val (.int v2), .val (.int v4), .val (.int v5), .val (.int v7), .val (.int v9), .val (.int v11), .unset, .unset, .unset, .unset] [(.int (4 : Int32)), (.int (2 : Int32)), (.ref b12), (.ref b12)])) t
    refine st16 _ ?_
    show Steps p.tables e below (T16.setTop (mkF m 57 #[.val (.int p0), .val (.int p1), .val (.int p2), .val (.int p3), .val (.int v1), .val (.int v2), .val (.int v4), .val (.int v5), .val (.int v7), .val (.int v9), .val (.int v11), .unset, .unset, .unset, .unset] [(.ref b12)])) t
    refine XS.astore X16.here hx rfl (hb hby at_57) rfl rfl (l' := #[.val (.int p0), .val (.int p1), .val (.int p2), .val (.int p3), .val (.int v1), .val (.int v2), .val (.int v4), .val (.int v5), .val (.int v7), .val (.int v9), .val (.int v11), .val (.ref b12), .unset, .unset, .unset]) rfl ?_
    show Steps p.tables e below (T16.setTop (mkF m 59 #[.val (.int p0), .val (.int p1), .val (.int p2), .val (.int p3), .val (.int v1), .val (.int v2), .val (.int v4), .val (.int v5), .val (.int v7), .val (.int v9), .val (.int v11), .val (.ref b12), .unset, .unset, .unset] [])) t
    refine XS.iconst X16.here hx rfl (hb hby at_59) ?_
    show Steps p.tables e below (T16.setTop (mkF m 60 #[.val (.int p0), .val (.int p1), .val (.int p2), .val (.int p3), .val (.int v1), .val (.int v2), .val (.int v4), .val (.int v5), .val (.int v7), .val (.int v9), .val (.int v11), .val (.ref b12), .unset, .unset, .unset] [(.int (0 : Int32))])) t
    refine XS.istore X16.here hx rfl (hb hby at_60) rfl (l' := #[.val (.int p0), .val (.int p1), .val (.int p2), .val (.int p3), .val (.int v1), .val (.int v2), .val (.int v4), .val (.int v5), .val (.int v7), .val (.int v9), .val (.int v11), .val (.ref b12), .val (.int (0 : Int32)), .unset, .unset]) rfl ?_
    show Steps p.tables e below (T16.setTop (mkF m 62 #[.val (.int p0), .val (.int p1), .val (.int p2), .val (.int p3), .val (.int v1), .val (.int v2), .val (.int v4), .val (.int v5), .val (.int v7), .val (.int v9), .val (.int v11), .val (.ref b12), .val (.int (0 : Int32)), .unset, .unset] [])) t
    refine XS.aload X16.here hx rfl (hb hby at_62) rfl rfl ?_
    show Steps p.tables e below (T16.setTop (mkF m 64 #[.val (.int p0), .val (.int p1), .val (.int p2), .val (.int p3), .val (.int v1), .val (.int v2), .val (.int v4), .val (.int v5), .val (.int v7), .val (.int v9), .val (.int v11), .val (.ref b12), .val (.int (0 : Int32)), .unset, .unset] [(.ref b12)])) t
    refine XS.iload X16.here hx rfl (hb hby at_64) rfl ?_
    show Steps p.tables e below (T16.setTop (mkF m 66 #[.val (.int p0), .val (.int p1), .val (.int p2), .val (.int p3), .val (.int v1), .val (.int v2), .val (.int v4), .val (.int v5), .val (.int v7), .val (.int v9), .val (.int v11), .val (.ref b12), .val (.int (0 : Int32)), .unset, .unset] [(.int v7), (.ref b12)])) t
    refine XS.iload X16.here hx rfl (hb hby at_66) rfl ?_
    show Steps p.tables e below (T16.setTop (mkF m 68 #[.val (.int p0), .val (.int p1), .val (.int p2), .val (.int p3), .val (.int v1), .val (.int v2), .val (.int v4), .val (.int v5), .val (.int v7), .val (.int v9), .val (.int v11), .val (.ref b12), .val (.int (0 : Int32)), .unset, .unset] [(.int v1), (.int v7), (.ref b12)])) t
    refine XS.iconst X16.here hx rfl (hb hby at_68) ?_
    show Steps p.tables e below (T16.setTop (mkF m 69 #[.val (.int p0), .val (.int p1), .val (.int p2), .val (.int p3), .val (.int v1), .val (.int v2), .val (.int v4), .val (.int v5), .val (.int v7), .val (.int v9), .val (.int v11), .val (.ref b12), .val (.int (0 : Int32)), .unset, .unset] [(.int (-1 : Int32)), (.int v1), (.int v7), (.ref b12)])) t
    refine st17 _ ?_
    show Steps p.tables e below (T17.setTop (mkF m 72 #[.val (.int p0), .val (.int p1), .val (.int p2), .val (.int p3), .val (.int v1), .val (.int v2), .val (.int v4), .val (.int v5), .val (.int v7), .val (.int v9), .val (.int v11), .val (.ref b12), .val (.int (0 : Int32)), .unset, .unset] [])) t
    refine XS.iload X17.here hx rfl (hb hby at_72) rfl ?_
    show Steps p.tables e below (T17.setTop (mkF m 74 #[.val (.int p0), .val (.int p1), .val (.int p2), .val (.int p3), .val (.int v1), .val (.int v2), .val (.int v4), .val (.int v5), .val (.int v7), .val (.int v9), .val (.int v11), .val (.ref b12), .val (.int (0 : Int32)), .unset, .unset] [(.int v4)])) t
    refine XS.iconst X17.here hx rfl (hb hby at_74) ?_
    show Steps p.tables e below (T17.setTop (mkF m 75 #[.val (.int p0), .val (.int p1), .val (.int p2), .val (.int p3), .val (.int v1), .val (.int v2), .val (.int v4), .val (.int v5), .val (.int v7), .val (.int v9), .val (.int v11), .val (.ref b12), .val (.int (0 : Int32)), .unset, .unset] [(.int (1 : Int32)), (.int v4)])) t
    exact k
  by_cases hc18 : v4 < (1 : Int32)
  · refine hD _ (T17.setTop (mkF m 144 #[.val (.int p0), .val (.int p1), .val (.int p2), .val (.int p3), .val (.int v1), .val (.int v2), .val (.int v4), .val (.int v5), .val (.int v7), .val (.int v9), .val (.int v11), .val (.ref b12), .val (.int (0 : Int32)), .unset, .unset] [])) (fun t k => ?_) ?_
    · show Steps p.tables e below (T17.setTop (mkF m 75 #[.val (.int p0), .val (.int p1), .val (.int p2), .val (.int p3), .val (.int v1), .val (.int v2), .val (.int v4), .val (.int v5), .val (.int v7), .val (.int v9), .val (.int v11), .val (.ref b12), .val (.int (0 : Int32)), .unset, .unset] [(.int (1 : Int32)), (.int v4)])) t
      refine XS.icmpYes X17.here hx rfl (pc0 := 75) (pc' := 144) rfl (hb hby at_75) rfl (tlt hc18).1 (by decide) (by decide) ?_
      show Steps p.tables e below (T17.setTop (mkF m 144 #[.val (.int p0), .val (.int p1), .val (.int p2), .val (.int p3), .val (.int v1), .val (.int v2), .val (.int v4), .val (.int v5), .val (.int v7), .val (.int v9), .val (.int v11), .val (.ref b12), .val (.int (0 : Int32)), .unset, .unset] [])) t
      exact k
    have hl6 : v4 = 0 := own_k0 hv4 hc18
    subst hl6
    obtain ⟨T19, _, L19, X19, ⟨rfl, Nq19, e19⟩, st19⟩ := Own.callV (y := (⟨"com/example/libgriddraw/libgriddraw/core/RotationSystem", "firstOut", "(I)I"⟩ : MethodName)) (W := 0) (argsL := [(.int v1)]) (rest := []) (a := b12) X17 hx hZ hown (hw _ (List.mem_of_getElem? (i := 33) rfl)) (hw _ (List.mem_of_getElem? (i := 34) rfl)) (hw _ (List.mem_of_getElem? (i := 36) rfl)) (hw _ (List.mem_of_getElem? (i := 35) rfl)) (hw _ (List.mem_of_getElem? (i := 7) rfl)) (hw _ (List.mem_of_getElem? (i := 37) rfl)) (by decide) rfl E17 (rm7 l Z a0 hw [] b12 v1 rf16 (own_up (fun _ => (-1 : Int32)) v1 v7) T17.heap n0 (by subst hv2 hv7 hv9 hv11; rcases own_s4 hv5 with rfl | rfl | rfl | rfl <;> rcases own_o2 hv1 with rfl | rfl <;> decide +kernel) FfirstOut_17 Af_17) (by decide) (by decide) (by decide) (by decide) (g := (mkF m 148 #[.val (.int p0), .val (.int p1), .val (.int p2), .val (.int p3), .val (.int v1), .val (.int v2), .val (.int (0 : Int32)), .val (.int v5), .val (.int v7), .val (.int v9), .val (.int v11), .val (.ref b12), .val (.int (0 : Int32)), .unset, .unset] [(.int v1), (.ref b12)])) rfl (by rw [hml]; rfl) (lenOf pd_5 rfl) rfl (by show 2 * 0 + _ ≤ _; exact Nat.le_of_eq rfl) (hb hby at_148)
    have N19 := Fr.app N17 Nq19
    refine hD _ (T19.setTop (mkF m 153 #[.val (.int p0), .val (.int p1), .val (.int p2), .val (.int p3), .val (.int v1), .val (.int v2), .val (.int (0 : Int32)), .val (.int v5), .val (.int v7), .val (.int v9), .val (.int v11), .val (.ref b12), .val (.int (0 : Int32)), .unset, .unset] [(.int v7), (.int ((own_up (fun _ => (-1 : Int32)) v1 v7) v1.toInt.toNat))])) (fun t k => ?_) ?_
    · show Steps p.tables e below (T17.setTop (mkF m 144 #[.val (.int p0), .val (.int p1), .val (.int p2), .val (.int p3), .val (.int v1), .val (.int v2), .val (.int (0 : Int32)), .val (.int v5), .val (.int v7), .val (.int v9), .val (.int v11), .val (.ref b12), .val (.int (0 : Int32)), .unset, .unset] [])) t
      refine XS.aload X17.here hx rfl (hb hby at_144) rfl rfl ?_
      show Steps p.tables e below (T17.setTop (mkF m 146 #[.val (.int p0), .val (.int p1), .val (.int p2), .val (.int p3), .val (.int v1), .val (.int v2), .val (.int (0 : Int32)), .val (.int v5), .val (.int v7), .val (.int v9), .val (.int v11), .val (.ref b12), .val (.int (0 : Int32)), .unset, .unset] [(.ref b12)])) t
      refine XS.iload X17.here hx rfl (hb hby at_146) rfl ?_
      show Steps p.tables e below (T17.setTop (mkF m 148 #[.val (.int p0), .val (.int p1), .val (.int p2), .val (.int p3), .val (.int v1), .val (.int v2), .val (.int (0 : Int32)), .val (.int v5), .val (.int v7), .val (.int v9), .val (.int v11), .val (.ref b12), .val (.int (0 : Int32)), .unset, .unset] [(.int v1), (.ref b12)])) t
      refine st19 _ ?_
      show Steps p.tables e below (T19.setTop (mkF m 151 #[.val (.int p0), .val (.int p1), .val (.int p2), .val (.int p3), .val (.int v1), .val (.int v2), .val (.int (0 : Int32)), .val (.int v5), .val (.int v7), .val (.int v9), .val (.int v11), .val (.ref b12), .val (.int (0 : Int32)), .unset, .unset] [(.int ((own_up (fun _ => (-1 : Int32)) v1 v7) v1.toInt.toNat))])) t
      refine XS.iload X19.here hx rfl (hb hby at_151) rfl ?_
      show Steps p.tables e below (T19.setTop (mkF m 153 #[.val (.int p0), .val (.int p1), .val (.int p2), .val (.int p3), .val (.int v1), .val (.int v2), .val (.int (0 : Int32)), .val (.int v5), .val (.int v7), .val (.int v9), .val (.int v11), .val (.ref b12), .val (.int (0 : Int32)), .unset, .unset] [(.int v7), (.int ((own_up (fun _ => (-1 : Int32)) v1 v7) v1.toInt.toNat))])) t
      exact k
    have hc20 : ((own_up (fun _ => (-1 : Int32)) v1 v7) v1.toInt.toNat) = v7 := by subst hv2 hv7 hv9 hv11; rcases own_s4 hv5 with rfl | rfl | rfl | rfl <;> rcases own_o2 hv1 with rfl | rfl <;> decide +kernel
    obtain ⟨T21, _, L21, X21, ⟨rfl, Nq21, e21⟩, st21⟩ := Own.callV (y := (⟨"com/example/libgriddraw/libgriddraw/core/RotationSystem", "firstOut", "(I)I"⟩ : MethodName)) (W := 0) (argsL := [(.int v2)]) (rest := []) (a := b12) X19 hx hZ hown (hw _ (List.mem_of_getElem? (i := 33) rfl)) (hw _ (List.mem_of_getElem? (i := 34) rfl)) (hw _ (List.mem_of_getElem? (i := 36) rfl)) (hw _ (List.mem_of_getElem? (i := 35) rfl)) (hw _ (List.mem_of_getElem? (i := 7) rfl)) (hw _ (List.mem_of_getElem? (i := 37) rfl)) (by decide) e19 E17 (rm7 l Z a0 hw [] b12 v2 rf16 (own_up (fun _ => (-1 : Int32)) v1 v7) T17.heap n0 (by subst hv2 hv7 hv9 hv11; rcases own_s4 hv5 with rfl | rfl | rfl | rfl <;> rcases own_o2 hv1 with rfl | rfl <;> decide +kernel) FfirstOut_17 Af_17) (by decide) (by decide) (by decide) (by decide) (g := (mkF m 160 #[.val (.int p0), .val (.int p1), .val (.int p2), .val (.int p3), .val (.int v1), .val (.int v2), .val (.int (0 : Int32)), .val (.int v5), .val (.int v7), .val (.int v9), .val (.int v11), .val (.ref b12), .val (.int (0 : Int32)), .unset, .unset] [(.int v2), (.ref b12)])) rfl (by rw [hml]; rfl) (lenOf pd_5 rfl) rfl (by show 2 * 0 + _ ≤ _; exact Nat.le_of_eq rfl) (hb hby at_160)
    have N21 := Fr.app N19 Nq21
    refine hD _ (T21.setTop (mkF m 164 #[.val (.int p0), .val (.int p1), .val (.int p2), .val (.int p3), .val (.int v1), .val (.int v2), .val (.int (0 : Int32)), .val (.int v5), .val (.int v7), .val (.int v9), .val (.int v11), .val (.ref b12), .val (.int (0 : Int32)), .unset, .unset] [(.int (-1 : Int32)), (.int ((own_up (fun _ => (-1 : Int32)) v1 v7) v2.toInt.toNat))])) (fun t k => ?_) ?_
    · show Steps p.tables e below (T19.setTop (mkF m 153 #[.val (.int p0), .val (.int p1), .val (.int p2), .val (.int p3), .val (.int v1), .val (.int v2), .val (.int (0 : Int32)), .val (.int v5), .val (.int v7), .val (.int v9), .val (.int v11), .val (.ref b12), .val (.int (0 : Int32)), .unset, .unset] [(.int v7), (.int ((own_up (fun _ => (-1 : Int32)) v1 v7) v1.toInt.toNat))])) t
      refine XS.icmpNo X19.here hx rfl (hb hby at_153) rfl (teq hc20).2 ?_
      show Steps p.tables e below (T19.setTop (mkF m 156 #[.val (.int p0), .val (.int p1), .val (.int p2), .val (.int p3), .val (.int v1), .val (.int v2), .val (.int (0 : Int32)), .val (.int v5), .val (.int v7), .val (.int v9), .val (.int v11), .val (.ref b12), .val (.int (0 : Int32)), .unset, .unset] [])) t
      refine XS.aload X19.here hx rfl (hb hby at_156) rfl rfl ?_
      show Steps p.tables e below (T19.setTop (mkF m 158 #[.val (.int p0), .val (.int p1), .val (.int p2), .val (.int p3), .val (.int v1), .val (.int v2), .val (.int (0 : Int32)), .val (.int v5), .val (.int v7), .val (.int v9), .val (.int v11), .val (.ref b12), .val (.int (0 : Int32)), .unset, .unset] [(.ref b12)])) t
      refine XS.iload X19.here hx rfl (hb hby at_158) rfl ?_
      show Steps p.tables e below (T19.setTop (mkF m 160 #[.val (.int p0), .val (.int p1), .val (.int p2), .val (.int p3), .val (.int v1), .val (.int v2), .val (.int (0 : Int32)), .val (.int v5), .val (.int v7), .val (.int v9), .val (.int v11), .val (.ref b12), .val (.int (0 : Int32)), .unset, .unset] [(.int v2), (.ref b12)])) t
      refine st21 _ ?_
      show Steps p.tables e below (T21.setTop (mkF m 163 #[.val (.int p0), .val (.int p1), .val (.int p2), .val (.int p3), .val (.int v1), .val (.int v2), .val (.int (0 : Int32)), .val (.int v5), .val (.int v7), .val (.int v9), .val (.int v11), .val (.ref b12), .val (.int (0 : Int32)), .unset, .unset] [(.int ((own_up (fun _ => (-1 : Int32)) v1 v7) v2.toInt.toNat))])) t
      refine XS.iconst X21.here hx rfl (hb hby at_163) ?_
      show Steps p.tables e below (T21.setTop (mkF m 164 #[.val (.int p0), .val (.int p1), .val (.int p2), .val (.int p3), .val (.int v1), .val (.int v2), .val (.int (0 : Int32)), .val (.int v5), .val (.int v7), .val (.int v9), .val (.int v11), .val (.ref b12), .val (.int (0 : Int32)), .unset, .unset] [(.int (-1 : Int32)), (.int ((own_up (fun _ => (-1 : Int32)) v1 v7) v2.toInt.toNat))])) t
      exact k
    have hc22 : ((own_up (fun _ => (-1 : Int32)) v1 v7) v2.toInt.toNat) = (-1 : Int32) := by subst hv2 hv7 hv9 hv11; rcases own_s4 hv5 with rfl | rfl | rfl | rfl <;> rcases own_o2 hv1 with rfl | rfl <;> decide +kernel
    obtain ⟨T23, _, L23, X23, ⟨rfl, Nq23, e23⟩, st23⟩ := Own.callV (y := (⟨"com/example/libgriddraw/libgriddraw/core/RotationSystem", "cwNext", "(I)I"⟩ : MethodName)) (W := 0) (argsL := [(.int v7)]) (rest := []) (a := b12) X21 hx hZ hown (hw _ (List.mem_of_getElem? (i := 38) rfl)) (hw _ (List.mem_of_getElem? (i := 39) rfl)) (hw _ (List.mem_of_getElem? (i := 41) rfl)) (hw _ (List.mem_of_getElem? (i := 40) rfl)) (hw _ (List.mem_of_getElem? (i := 7) rfl)) (hw _ (List.mem_of_getElem? (i := 42) rfl)) (by decide) e21 E17 (rm8 l Z a0 hw [] b12 v7 rw16 (own_up (fun _ => 0) v7 v7) T17.heap n0 (by subst hv2 hv7 hv9 hv11; rcases own_s4 hv5 with rfl | rfl | rfl | rfl <;> rcases own_o2 hv1 with rfl | rfl <;> decide +kernel) FcwNext_17 Aw_17) (by decide) (by decide) (by decide) (by decide) (g := (mkF m 183 #[.val (.int p0), .val (.int p1), .val (.int p2), .val (.int p3), .val (.int v1), .val (.int v2), .val (.int (0 : Int32)), .val (.int v5), .val (.int v7), .val (.int v9), .val (.int v11), .val (.ref b12), .val (.int (0 : Int32)), .val (.int (1 : Int32)), .unset] [(.int v7), (.ref b12)])) rfl (by rw [hml]; rfl) (lenOf pd_5 rfl) rfl (by show 2 * 0 + _ ≤ _; exact Nat.le_of_eq rfl) (hb hby at_183)
    have N23 := Fr.app N21 Nq23
    obtain ⟨T24, _, L24, X24, ⟨rfl, Nq24, e24⟩, st24⟩ := Own.callS (y := (⟨"com/example/libgriddraw/libgriddraw/core/RotationSystemInsertClockwiseOfPinLaw", "expCw", "(IIII)I"⟩ : MethodName)) (W := 1) (argsL := [(.int (0 : Int32)), (.int (0 : Int32)), (.int (0 : Int32)), (.int v5)]) (rest := [(.int ((own_up (fun _ => 0) v7 v7) v7.toInt.toNat))]) X23 hx hZ hown (hw _ (List.mem_of_getElem? (i := 43) rfl)) (hw _ (List.mem_of_getElem? (i := 44) rfl)) (hw _ (List.mem_of_getElem? (i := 3) rfl)) (hw _ (List.mem_of_getElem? (i := 45) rfl)) (by decide) e23 (rm20 l Z a0 hw [] (0 : Int32) (0 : Int32) (0 : Int32) v5  T17.heap n0 ) (by decide) (by decide) (by decide) (by decide) (g := (mkF m 193 #[.val (.int p0), .val (.int p1), .val (.int p2), .val (.int p3), .val (.int v1), .val (.int v2), .val (.int (0 : Int32)), .val (.int v5), .val (.int v7), .val (.int v9), .val (.int v11), .val (.ref b12), .val (.int (0 : Int32)), .val (.int (1 : Int32)), .unset] [(.int v5), (.int (0 : Int32)), (.int (0 : Int32)), (.int (0 : Int32)), (.int ((own_up (fun _ => 0) v7 v7) v7.toInt.toNat))])) rfl (by rw [hml]; rfl) (lenOf pd_6 rfl) rfl (by show 2 * 0 + _ ≤ _; exact Nat.le_of_eq rfl) (hb hby at_193)
    have N24 := Fr.app N23 Nq24
    refine hD _ (T24.setTop (mkF m 196 #[.val (.int p0), .val (.int p1), .val (.int p2), .val (.int p3), .val (.int v1), .val (.int v2), .val (.int (0 : Int32)), .val (.int v5), .val (.int v7), .val (.int v9), .val (.int v11), .val (.ref b12), .val (.int (0 : Int32)), .val (.int (1 : Int32)), .unset] [(.int (own_ecw (0 : Int32) (0 : Int32) (0 : Int32) v5)), (.int ((own_up (fun _ => 0) v7 v7) v7.toInt.toNat))])) (fun t k => ?_) ?_
    · show Steps p.tables e below (T21.setTop (mkF m 164 #[.val (.int p0), .val (.int p1), .val (.int p2), .val (.int p3), .val (.int v1), .val (.int v2), .val (.int (0 : Int32)), .val (.int v5), .val (.int v7), .val (.int v9), .val (.int v11), .val (.ref b12), .val (.int (0 : Int32)), .unset, .unset] [(.int (-1 : Int32)), (.int ((own_up (fun _ => (-1 : Int32)) v1 v7) v2.toInt.toNat))])) t
      refine XS.icmpNo X21.here hx rfl (hb hby at_164) rfl (teq hc22).2 ?_
      show Steps p.tables e below (T21.setTop (mkF m 167 #[.val (.int p0), .val (.int p1), .val (.int p2), .val (.int p3), .val (.int v1), .val (.int v2), .val (.int (0 : Int32)), .val (.int v5), .val (.int v7), .val (.int v9), .val (.int v11), .val (.ref b12), .val (.int (0 : Int32)), .unset, .unset] [])) t
      refine XS.iconst X21.here hx rfl (hb hby at_167) ?_
      show Steps p.tables e below (T21.setTop (mkF m 168 #[.val (.int p0), .val (.int p1), .val (.int p2), .val (.int p3), .val (.int v1), .val (.int v2), .val (.int (0 : Int32)), .val (.int v5), .val (.int v7), .val (.int v9), .val (.int v11), .val (.ref b12), .val (.int (0 : Int32)), .unset, .unset] [(.int (1 : Int32))])) t
      refine XS.goto X21.here hx rfl (pc0 := 168) (pc' := 172) rfl (hb hby at_168) (by decide) (by decide) ?_
      show Steps p.tables e below (T21.setTop (mkF m 172 #[.val (.int p0), .val (.int p1), .val (.int p2), .val (.int p3), .val (.int v1), .val (.int v2), .val (.int (0 : Int32)), .val (.int v5), .val (.int v7), .val (.int v9), .val (.int v11), .val (.ref b12), .val (.int (0 : Int32)), .unset, .unset] [(.int (1 : Int32))])) t
      refine XS.istore X21.here hx rfl (hb hby at_172) rfl (l' := #[.val (.int p0), .val (.int p1), .val (.int p2), .val (.int p3), .val (.int v1), .val (.int v2), .val (.int (0 : Int32)), .val (.int v5), .val (.int v7), .val (.int v9), .val (.int v11), .val (.ref b12), .val (.int (0 : Int32)), .val (.int (1 : Int32)), .unset]) rfl ?_
      show Steps p.tables e below (T21.setTop (mkF m 174 #[.val (.int p0), .val (.int p1), .val (.int p2), .val (.int p3), .val (.int v1), .val (.int v2), .val (.int (0 : Int32)), .val (.int v5), .val (.int v7), .val (.int v9), .val (.int v11), .val (.ref b12), .val (.int (0 : Int32)), .val (.int (1 : Int32)), .unset] [])) t
      refine XS.iload X21.here hx rfl (hb hby at_174) rfl ?_
      show Steps p.tables e below (T21.setTop (mkF m 176 #[.val (.int p0), .val (.int p1), .val (.int p2), .val (.int p3), .val (.int v1), .val (.int v2), .val (.int (0 : Int32)), .val (.int v5), .val (.int v7), .val (.int v9), .val (.int v11), .val (.ref b12), .val (.int (0 : Int32)), .val (.int (1 : Int32)), .unset] [(.int (1 : Int32))])) t
      refine XS.ifNo X21.here hx rfl (hb hby at_176) rfl (by decide) ?_
      show Steps p.tables e below (T21.setTop (mkF m 179 #[.val (.int p0), .val (.int p1), .val (.int p2), .val (.int p3), .val (.int v1), .val (.int v2), .val (.int (0 : Int32)), .val (.int v5), .val (.int v7), .val (.int v9), .val (.int v11), .val (.ref b12), .val (.int (0 : Int32)), .val (.int (1 : Int32)), .unset] [])) t
      refine XS.aload X21.here hx rfl (hb hby at_179) rfl rfl ?_
      show Steps p.tables e below (T21.setTop (mkF m 181 #[.val (.int p0), .val (.int p1), .val (.int p2), .val (.int p3), .val (.int v1), .val (.int v2), .val (.int (0 : Int32)), .val (.int v5), .val (.int v7), .val (.int v9), .val (.int v11), .val (.ref b12), .val (.int (0 : Int32)), .val (.int (1 : Int32)), .unset] [(.ref b12)])) t
      refine XS.iload X21.here hx rfl (hb hby at_181) rfl ?_
      show Steps p.tables e below (T21.setTop (mkF m 183 #[.val (.int p0), .val (.int p1), .val (.int p2), .val (.int p3), .val (.int v1), .val (.int v2), .val (.int (0 : Int32)), .val (.int v5), .val (.int v7), .val (.int v9), .val (.int v11), .val (.ref b12), .val (.int (0 : Int32)), .val (.int (1 : Int32)), .unset] [(.int v7), (.ref b12)])) t
      refine st23 _ ?_
      show Steps p.tables e below (T23.setTop (mkF m 186 #[.val (.int p0), .val (.int p1), .val (.int p2), .val (.int p3), .val (.int v1), .val (.int v2), .val (.int (0 : Int32)), .val (.int v5), .val (.int v7), .val (.int v9), .val (.int v11), .val (.ref b12), .val (.int (0 : Int32)), .val (.int (1 : Int32)), .unset] [(.int ((own_up (fun _ => 0) v7 v7) v7.toInt.toNat))])) t
      refine XS.iconst X23.here hx rfl (hb hby at_186) ?_
      show Steps p.tables e below (T23.setTop (mkF m 187 #[.val (.int p0), .val (.int p1), .val (.int p2), .val (.int p3), .val (.int v1), .val (.int v2), .val (.int (0 : Int32)), .val (.int v5), .val (.int v7), .val (.int v9), .val (.int v11), .val (.ref b12), .val (.int (0 : Int32)), .val (.int (1 : Int32)), .unset] [(.int (0 : Int32)), (.int ((own_up (fun _ => 0) v7 v7) v7.toInt.toNat))])) t
      refine XS.iload X23.here hx rfl (hb hby at_187) rfl ?_
      show Steps p.tables e below (T23.setTop (mkF m 189 #[.val (.int p0), .val (.int p1), .val (.int p2), .val (.int p3), .val (.int v1), .val (.int v2), .val (.int (0 : Int32)), .val (.int v5), .val (.int v7), .val (.int v9), .val (.int v11), .val (.ref b12), .val (.int (0 : Int32)), .val (.int (1 : Int32)), .unset] [(.int (0 : Int32)), (.int (0 : Int32)), (.int ((own_up (fun _ => 0) v7 v7) v7.toInt.toNat))])) t
      refine XS.iload X23.here hx rfl (hb hby at_189) rfl ?_
      show Steps p.tables e below (T23.setTop (mkF m 191 #[.val (.int p0), .val (.int p1), .val (.int p2), .val (.int p3), .val (.int v1), .val (.int v2), .val (.int (0 : Int32)), .val (.int v5), .val (.int v7), .val (.int v9), .val (.int v11), .val (.ref b12), .val (.int (0 : Int32)), .val (.int (1 : Int32)), .unset] [(.int (0 : Int32)), (.int (0 : Int32)), (.int (0 : Int32)), (.int ((own_up (fun _ => 0) v7 v7) v7.toInt.toNat))])) t
      refine XS.iload X23.here hx rfl (hb hby at_191) rfl ?_
      show Steps p.tables e below (T23.setTop (mkF m 193 #[.val (.int p0), .val (.int p1), .val (.int p2), .val (.int p3), .val (.int v1), .val (.int v2), .val (.int (0 : Int32)), .val (.int v5), .val (.int v7), .val (.int v9), .val (.int v11), .val (.ref b12), .val (.int (0 : Int32)), .val (.int (1 : Int32)), .unset] [(.int v5), (.int (0 : Int32)), (.int (0 : Int32)), (.int (0 : Int32)), (.int ((own_up (fun _ => 0) v7 v7) v7.toInt.toNat))])) t
      refine st24 _ ?_
      show Steps p.tables e below (T24.setTop (mkF m 196 #[.val (.int p0), .val (.int p1), .val (.int p2), .val (.int p3), .val (.int v1), .val (.int v2), .val (.int (0 : Int32)), .val (.int v5), .val (.int v7), .val (.int v9), .val (.int v11), .val (.ref b12), .val (.int (0 : Int32)), .val (.int (1 : Int32)), .unset] [(.int (own_ecw (0 : Int32) (0 : Int32) (0 : Int32) v5)), (.int ((own_up (fun _ => 0) v7 v7) v7.toInt.toNat))])) t
      exact k
    have hc25 : ((own_up (fun _ => 0) v7 v7) v7.toInt.toNat) = (own_ecw (0 : Int32) (0 : Int32) (0 : Int32) v5) := by subst hv2 hv7 hv9 hv11; rcases own_s4 hv5 with rfl | rfl | rfl | rfl <;> rcases own_o2 hv1 with rfl | rfl <;> decide +kernel
    obtain ⟨T26, _, L26, X26, ⟨rfl, Nq26, e26⟩, st26⟩ := Own.callV (y := (⟨"com/example/libgriddraw/libgriddraw/core/RotationSystem", "ccwNext", "(I)I"⟩ : MethodName)) (W := 0) (argsL := [(.int v7)]) (rest := []) (a := b12) X24 hx hZ hown (hw _ (List.mem_of_getElem? (i := 46) rfl)) (hw _ (List.mem_of_getElem? (i := 47) rfl)) (hw _ (List.mem_of_getElem? (i := 49) rfl)) (hw _ (List.mem_of_getElem? (i := 48) rfl)) (hw _ (List.mem_of_getElem? (i := 7) rfl)) (hw _ (List.mem_of_getElem? (i := 50) rfl)) (by decide) e24 E17 (rm9 l Z a0 hw [] b12 v7 rc16 (own_up (fun _ => 0) v7 v7) T17.heap n0 (by subst hv2 hv7 hv9 hv11; rcases own_s4 hv5 with rfl | rfl | rfl | rfl <;> rcases own_o2 hv1 with rfl | rfl <;> decide +kernel) FccwNext_17 Ac_17) (by decide) (by decide) (by decide) (by decide) (g := (mkF m 203 #[.val (.int p0), .val (.int p1), .val (.int p2), .val (.int p3), .val (.int v1), .val (.int v2), .val (.int (0 : Int32)), .val (.int v5), .val (.int v7), .val (.int v9), .val (.int v11), .val (.ref b12), .val (.int (0 : Int32)), .val (.int (1 : Int32)), .unset] [(.int v7), (.ref b12)])) rfl (by rw [hml]; rfl) (lenOf pd_5 rfl) rfl (by show 2 * 0 + _ ≤ _; exact Nat.le_of_eq rfl) (hb hby at_203)
    have N26 := Fr.app N24 Nq26
    obtain ⟨T27, _, L27, X27, ⟨rfl, Nq27, e27⟩, st27⟩ := Own.callS (y := (⟨"com/example/libgriddraw/libgriddraw/core/RotationSystemInsertClockwiseOfPinLaw", "expCcw", "(IIII)I"⟩ : MethodName)) (W := 1) (argsL := [(.int (0 : Int32)), (.int (0 : Int32)), (.int (0 : Int32)), (.int v5)]) (rest := [(.int ((own_up (fun _ => 0) v7 v7) v7.toInt.toNat))]) X26 hx hZ hown (hw _ (List.mem_of_getElem? (i := 51) rfl)) (hw _ (List.mem_of_getElem? (i := 52) rfl)) (hw _ (List.mem_of_getElem? (i := 3) rfl)) (hw _ (List.mem_of_getElem? (i := 53) rfl)) (by decide) e26 (rm21 l Z a0 hw [] (0 : Int32) (0 : Int32) (0 : Int32) v5  T17.heap n0 ) (by decide) (by decide) (by decide) (by decide) (g := (mkF m 213 #[.val (.int p0), .val (.int p1), .val (.int p2), .val (.int p3), .val (.int v1), .val (.int v2), .val (.int (0 : Int32)), .val (.int v5), .val (.int v7), .val (.int v9), .val (.int v11), .val (.ref b12), .val (.int (0 : Int32)), .val (.int (1 : Int32)), .unset] [(.int v5), (.int (0 : Int32)), (.int (0 : Int32)), (.int (0 : Int32)), (.int ((own_up (fun _ => 0) v7 v7) v7.toInt.toNat))])) rfl (by rw [hml]; rfl) (lenOf pd_6 rfl) rfl (by show 2 * 0 + _ ≤ _; exact Nat.le_of_eq rfl) (hb hby at_213)
    have N27 := Fr.app N26 Nq27
    refine hD _ (T27.setTop (mkF m 216 #[.val (.int p0), .val (.int p1), .val (.int p2), .val (.int p3), .val (.int v1), .val (.int v2), .val (.int (0 : Int32)), .val (.int v5), .val (.int v7), .val (.int v9), .val (.int v11), .val (.ref b12), .val (.int (0 : Int32)), .val (.int (1 : Int32)), .unset] [(.int (own_eccw (0 : Int32) (0 : Int32) (0 : Int32) v5)), (.int ((own_up (fun _ => 0) v7 v7) v7.toInt.toNat))])) (fun t k => ?_) ?_
    · show Steps p.tables e below (T24.setTop (mkF m 196 #[.val (.int p0), .val (.int p1), .val (.int p2), .val (.int p3), .val (.int v1), .val (.int v2), .val (.int (0 : Int32)), .val (.int v5), .val (.int v7), .val (.int v9), .val (.int v11), .val (.ref b12), .val (.int (0 : Int32)), .val (.int (1 : Int32)), .unset] [(.int (own_ecw (0 : Int32) (0 : Int32) (0 : Int32) v5)), (.int ((own_up (fun _ => 0) v7 v7) v7.toInt.toNat))])) t
      refine XS.icmpNo X24.here hx rfl (hb hby at_196) rfl (teq hc25).2 ?_
      show Steps p.tables e below (T24.setTop (mkF m 199 #[.val (.int p0), .val (.int p1), .val (.int p2), .val (.int p3), .val (.int v1), .val (.int v2), .val (.int (0 : Int32)), .val (.int v5), .val (.int v7), .val (.int v9), .val (.int v11), .val (.ref b12), .val (.int (0 : Int32)), .val (.int (1 : Int32)), .unset] [])) t
      refine XS.aload X24.here hx rfl (hb hby at_199) rfl rfl ?_
      show Steps p.tables e below (T24.setTop (mkF m 201 #[.val (.int p0), .val (.int p1), .val (.int p2), .val (.int p3), .val (.int v1), .val (.int v2), .val (.int (0 : Int32)), .val (.int v5), .val (.int v7), .val (.int v9), .val (.int v11), .val (.ref b12), .val (.int (0 : Int32)), .val (.int (1 : Int32)), .unset] [(.ref b12)])) t
      refine XS.iload X24.here hx rfl (hb hby at_201) rfl ?_
      show Steps p.tables e below (T24.setTop (mkF m 203 #[.val (.int p0), .val (.int p1), .val (.int p2), .val (.int p3), .val (.int v1), .val (.int v2), .val (.int (0 : Int32)), .val (.int v5), .val (.int v7), .val (.int v9), .val (.int v11), .val (.ref b12), .val (.int (0 : Int32)), .val (.int (1 : Int32)), .unset] [(.int v7), (.ref b12)])) t
      refine st26 _ ?_
      show Steps p.tables e below (T26.setTop (mkF m 206 #[.val (.int p0), .val (.int p1), .val (.int p2), .val (.int p3), .val (.int v1), .val (.int v2), .val (.int (0 : Int32)), .val (.int v5), .val (.int v7), .val (.int v9), .val (.int v11), .val (.ref b12), .val (.int (0 : Int32)), .val (.int (1 : Int32)), .unset] [(.int ((own_up (fun _ => 0) v7 v7) v7.toInt.toNat))])) t
      refine XS.iconst X26.here hx rfl (hb hby at_206) ?_
      show Steps p.tables e below (T26.setTop (mkF m 207 #[.val (.int p0), .val (.int p1), .val (.int p2), .val (.int p3), .val (.int v1), .val (.int v2), .val (.int (0 : Int32)), .val (.int v5), .val (.int v7), .val (.int v9), .val (.int v11), .val (.ref b12), .val (.int (0 : Int32)), .val (.int (1 : Int32)), .unset] [(.int (0 : Int32)), (.int ((own_up (fun _ => 0) v7 v7) v7.toInt.toNat))])) t
      refine XS.iload X26.here hx rfl (hb hby at_207) rfl ?_
      show Steps p.tables e below (T26.setTop (mkF m 209 #[.val (.int p0), .val (.int p1), .val (.int p2), .val (.int p3), .val (.int v1), .val (.int v2), .val (.int (0 : Int32)), .val (.int v5), .val (.int v7), .val (.int v9), .val (.int v11), .val (.ref b12), .val (.int (0 : Int32)), .val (.int (1 : Int32)), .unset] [(.int (0 : Int32)), (.int (0 : Int32)), (.int ((own_up (fun _ => 0) v7 v7) v7.toInt.toNat))])) t
      refine XS.iload X26.here hx rfl (hb hby at_209) rfl ?_
      show Steps p.tables e below (T26.setTop (mkF m 211 #[.val (.int p0), .val (.int p1), .val (.int p2), .val (.int p3), .val (.int v1), .val (.int v2), .val (.int (0 : Int32)), .val (.int v5), .val (.int v7), .val (.int v9), .val (.int v11), .val (.ref b12), .val (.int (0 : Int32)), .val (.int (1 : Int32)), .unset] [(.int (0 : Int32)), (.int (0 : Int32)), (.int (0 : Int32)), (.int ((own_up (fun _ => 0) v7 v7) v7.toInt.toNat))])) t
      refine XS.iload X26.here hx rfl (hb hby at_211) rfl ?_
      show Steps p.tables e below (T26.setTop (mkF m 213 #[.val (.int p0), .val (.int p1), .val (.int p2), .val (.int p3), .val (.int v1), .val (.int v2), .val (.int (0 : Int32)), .val (.int v5), .val (.int v7), .val (.int v9), .val (.int v11), .val (.ref b12), .val (.int (0 : Int32)), .val (.int (1 : Int32)), .unset] [(.int v5), (.int (0 : Int32)), (.int (0 : Int32)), (.int (0 : Int32)), (.int ((own_up (fun _ => 0) v7 v7) v7.toInt.toNat))])) t
      refine st27 _ ?_
      show Steps p.tables e below (T27.setTop (mkF m 216 #[.val (.int p0), .val (.int p1), .val (.int p2), .val (.int p3), .val (.int v1), .val (.int v2), .val (.int (0 : Int32)), .val (.int v5), .val (.int v7), .val (.int v9), .val (.int v11), .val (.ref b12), .val (.int (0 : Int32)), .val (.int (1 : Int32)), .unset] [(.int (own_eccw (0 : Int32) (0 : Int32) (0 : Int32) v5)), (.int ((own_up (fun _ => 0) v7 v7) v7.toInt.toNat))])) t
      exact k
    have hc28 : ((own_up (fun _ => 0) v7 v7) v7.toInt.toNat) = (own_eccw (0 : Int32) (0 : Int32) (0 : Int32) v5) := by subst hv2 hv7 hv9 hv11; rcases own_s4 hv5 with rfl | rfl | rfl | rfl <;> rcases own_o2 hv1 with rfl | rfl <;> decide +kernel
    obtain ⟨T29, _, L29, X29, ⟨rfl, Nq29, e29⟩, st29⟩ := Own.callV (y := (⟨"com/example/libgriddraw/libgriddraw/core/RotationSystem", "cwNext", "(I)I"⟩ : MethodName)) (W := 0) (argsL := [(.int v9)]) (rest := []) (a := b12) X27 hx hZ hown (hw _ (List.mem_of_getElem? (i := 38) rfl)) (hw _ (List.mem_of_getElem? (i := 39) rfl)) (hw _ (List.mem_of_getElem? (i := 41) rfl)) (hw _ (List.mem_of_getElem? (i := 40) rfl)) (hw _ (List.mem_of_getElem? (i := 7) rfl)) (hw _ (List.mem_of_getElem? (i := 42) rfl)) (by decide) e27 E17 (rm8 l Z a0 hw [] b12 v9 rw16 (own_up (fun _ => 0) v7 v7) T17.heap n0 (by subst hv2 hv7 hv9 hv11; rcases own_s4 hv5 with rfl | rfl | rfl | rfl <;> rcases own_o2 hv1 with rfl | rfl <;> decide +kernel) FcwNext_17 Aw_17) (by decide) (by decide) (by decide) (by decide) (g := (mkF m 235 #[.val (.int p0), .val (.int p1), .val (.int p2), .val (.int p3), .val (.int v1), .val (.int v2), .val (.int (0 : Int32)), .val (.int v5), .val (.int v7), .val (.int v9), .val (.int v11), .val (.ref b12), .val (.int (0 : Int32)), .val (.int (1 : Int32)), .unset] [(.int v9), (.ref b12)])) rfl (by rw [hml]; rfl) (lenOf pd_5 rfl) rfl (by show 2 * 0 + _ ≤ _; exact Nat.le_of_eq rfl) (hb hby at_235)
    have N29 := Fr.app N27 Nq29
    obtain ⟨T30, _, L30, X30, ⟨rfl, Nq30, e30⟩, st30⟩ := Own.callS (y := (⟨"com/example/libgriddraw/libgriddraw/core/RotationSystemInsertClockwiseOfPinLaw", "expCw", "(IIII)I"⟩ : MethodName)) (W := 1) (argsL := [(.int (1 : Int32)), (.int (0 : Int32)), (.int (0 : Int32)), (.int v5)]) (rest := [(.int ((own_up (fun _ => 0) v7 v7) v9.toInt.toNat))]) X29 hx hZ hown (hw _ (List.mem_of_getElem? (i := 43) rfl)) (hw _ (List.mem_of_getElem? (i := 44) rfl)) (hw _ (List.mem_of_getElem? (i := 3) rfl)) (hw _ (List.mem_of_getElem? (i := 45) rfl)) (by decide) e29 (rm20 l Z a0 hw [] (1 : Int32) (0 : Int32) (0 : Int32) v5  T17.heap n0 ) (by decide) (by decide) (by decide) (by decide) (g := (mkF m 245 #[.val (.int p0), .val (.int p1), .val (.int p2), .val (.int p3), .val (.int v1), .val (.int v2), .val (.int (0 : Int32)), .val (.int v5), .val (.int v7), .val (.int v9), .val (.int v11), .val (.ref b12), .val (.int (0 : Int32)), .val (.int (1 : Int32)), .unset] [(.int v5), (.int (0 : Int32)), (.int (0 : Int32)), (.int (1 : Int32)), (.int ((own_up (fun _ => 0) v7 v7) v9.toInt.toNat))])) rfl (by rw [hml]; rfl) (lenOf pd_6 rfl) rfl (by show 2 * 0 + _ ≤ _; exact Nat.le_of_eq rfl) (hb hby at_245)
    have N30 := Fr.app N29 Nq30
    refine hD _ (T30.setTop (mkF m 248 #[.val (.int p0), .val (.int p1), .val (.int p2), .val (.int p3), .val (.int v1), .val (.int v2), .val (.int (0 : Int32)), .val (.int v5), .val (.int v7), .val (.int v9), .val (.int v11), .val (.ref b12), .val (.int (0 : Int32)), .val (.int (1 : Int32)), .unset] [(.int (own_ecw (1 : Int32) (0 : Int32) (0 : Int32) v5)), (.int ((own_up (fun _ => 0) v7 v7) v9.toInt.toNat))])) (fun t k => ?_) ?_
    · show Steps p.tables e below (T27.setTop (mkF m 216 #[.val (.int p0), .val (.int p1), .val (.int p2), .val (.int p3), .val (.int v1), .val (.int v2), .val (.int (0 : Int32)), .val (.int v5), .val (.int v7), .val (.int v9), .val (.int v11), .val (.ref b12), .val (.int (0 : Int32)), .val (.int (1 : Int32)), .unset] [(.int (own_eccw (0 : Int32) (0 : Int32) (0 : Int32) v5)), (.int ((own_up (fun _ => 0) v7 v7) v7.toInt.toNat))])) t
      refine XS.icmpNo X27.here hx rfl (hb hby at_216) rfl (teq hc28).2 ?_
      show Steps p.tables e below (T27.setTop (mkF m 219 #[.val (.int p0), .val (.int p1), .val (.int p2), .val (.int p3), .val (.int v1), .val (.int v2), .val (.int (0 : Int32)), .val (.int v5), .val (.int v7), .val (.int v9), .val (.int v11), .val (.ref b12), .val (.int (0 : Int32)), .val (.int (1 : Int32)), .unset] [])) t
      refine XS.iconst X27.here hx rfl (hb hby at_219) ?_
      show Steps p.tables e below (T27.setTop (mkF m 220 #[.val (.int p0), .val (.int p1), .val (.int p2), .val (.int p3), .val (.int v1), .val (.int v2), .val (.int (0 : Int32)), .val (.int v5), .val (.int v7), .val (.int v9), .val (.int v11), .val (.ref b12), .val (.int (0 : Int32)), .val (.int (1 : Int32)), .unset] [(.int (1 : Int32))])) t
      refine XS.goto X27.here hx rfl (pc0 := 220) (pc' := 224) rfl (hb hby at_220) (by decide) (by decide) ?_
      show Steps p.tables e below (T27.setTop (mkF m 224 #[.val (.int p0), .val (.int p1), .val (.int p2), .val (.int p3), .val (.int v1), .val (.int v2), .val (.int (0 : Int32)), .val (.int v5), .val (.int v7), .val (.int v9), .val (.int v11), .val (.ref b12), .val (.int (0 : Int32)), .val (.int (1 : Int32)), .unset] [(.int (1 : Int32))])) t
      refine XS.istore X27.here hx rfl (hb hby at_224) rfl (l' := #[.val (.int p0), .val (.int p1), .val (.int p2), .val (.int p3), .val (.int v1), .val (.int v2), .val (.int (0 : Int32)), .val (.int v5), .val (.int v7), .val (.int v9), .val (.int v11), .val (.ref b12), .val (.int (0 : Int32)), .val (.int (1 : Int32)), .unset]) rfl ?_
      show Steps p.tables e below (T27.setTop (mkF m 226 #[.val (.int p0), .val (.int p1), .val (.int p2), .val (.int p3), .val (.int v1), .val (.int v2), .val (.int (0 : Int32)), .val (.int v5), .val (.int v7), .val (.int v9), .val (.int v11), .val (.ref b12), .val (.int (0 : Int32)), .val (.int (1 : Int32)), .unset] [])) t
      refine XS.iload X27.here hx rfl (hb hby at_226) rfl ?_
      show Steps p.tables e below (T27.setTop (mkF m 228 #[.val (.int p0), .val (.int p1), .val (.int p2), .val (.int p3), .val (.int v1), .val (.int v2), .val (.int (0 : Int32)), .val (.int v5), .val (.int v7), .val (.int v9), .val (.int v11), .val (.ref b12), .val (.int (0 : Int32)), .val (.int (1 : Int32)), .unset] [(.int (1 : Int32))])) t
      refine XS.ifNo X27.here hx rfl (hb hby at_228) rfl (by decide) ?_
      show Steps p.tables e below (T27.setTop (mkF m 231 #[.val (.int p0), .val (.int p1), .val (.int p2), .val (.int p3), .val (.int v1), .val (.int v2), .val (.int (0 : Int32)), .val (.int v5), .val (.int v7), .val (.int v9), .val (.int v11), .val (.ref b12), .val (.int (0 : Int32)), .val (.int (1 : Int32)), .unset] [])) t
      refine XS.aload X27.here hx rfl (hb hby at_231) rfl rfl ?_
      show Steps p.tables e below (T27.setTop (mkF m 233 #[.val (.int p0), .val (.int p1), .val (.int p2), .val (.int p3), .val (.int v1), .val (.int v2), .val (.int (0 : Int32)), .val (.int v5), .val (.int v7), .val (.int v9), .val (.int v11), .val (.ref b12), .val (.int (0 : Int32)), .val (.int (1 : Int32)), .unset] [(.ref b12)])) t
      refine XS.iload X27.here hx rfl (hb hby at_233) rfl ?_
      show Steps p.tables e below (T27.setTop (mkF m 235 #[.val (.int p0), .val (.int p1), .val (.int p2), .val (.int p3), .val (.int v1), .val (.int v2), .val (.int (0 : Int32)), .val (.int v5), .val (.int v7), .val (.int v9), .val (.int v11), .val (.ref b12), .val (.int (0 : Int32)), .val (.int (1 : Int32)), .unset] [(.int v9), (.ref b12)])) t
      refine st29 _ ?_
      show Steps p.tables e below (T29.setTop (mkF m 238 #[.val (.int p0), .val (.int p1), .val (.int p2), .val (.int p3), .val (.int v1), .val (.int v2), .val (.int (0 : Int32)), .val (.int v5), .val (.int v7), .val (.int v9), .val (.int v11), .val (.ref b12), .val (.int (0 : Int32)), .val (.int (1 : Int32)), .unset] [(.int ((own_up (fun _ => 0) v7 v7) v9.toInt.toNat))])) t
      refine XS.iconst X29.here hx rfl (hb hby at_238) ?_
      show Steps p.tables e below (T29.setTop (mkF m 239 #[.val (.int p0), .val (.int p1), .val (.int p2), .val (.int p3), .val (.int v1), .val (.int v2), .val (.int (0 : Int32)), .val (.int v5), .val (.int v7), .val (.int v9), .val (.int v11), .val (.ref b12), .val (.int (0 : Int32)), .val (.int (1 : Int32)), .unset] [(.int (1 : Int32)), (.int ((own_up (fun _ => 0) v7 v7) v9.toInt.toNat))])) t
      refine XS.iload X29.here hx rfl (hb hby at_239) rfl ?_
      show Steps p.tables e below (T29.setTop (mkF m 241 #[.val (.int p0), .val (.int p1), .val (.int p2), .val (.int p3), .val (.int v1), .val (.int v2), .val (.int (0 : Int32)), .val (.int v5), .val (.int v7), .val (.int v9), .val (.int v11), .val (.ref b12), .val (.int (0 : Int32)), .val (.int (1 : Int32)), .unset] [(.int (0 : Int32)), (.int (1 : Int32)), (.int ((own_up (fun _ => 0) v7 v7) v9.toInt.toNat))])) t
      refine XS.iload X29.here hx rfl (hb hby at_241) rfl ?_
      show Steps p.tables e below (T29.setTop (mkF m 243 #[.val (.int p0), .val (.int p1), .val (.int p2), .val (.int p3), .val (.int v1), .val (.int v2), .val (.int (0 : Int32)), .val (.int v5), .val (.int v7), .val (.int v9), .val (.int v11), .val (.ref b12), .val (.int (0 : Int32)), .val (.int (1 : Int32)), .unset] [(.int (0 : Int32)), (.int (0 : Int32)), (.int (1 : Int32)), (.int ((own_up (fun _ => 0) v7 v7) v9.toInt.toNat))])) t
      refine XS.iload X29.here hx rfl (hb hby at_243) rfl ?_
      show Steps p.tables e below (T29.setTop (mkF m 245 #[.val (.int p0), .val (.int p1), .val (.int p2), .val (.int p3), .val (.int v1), .val (.int v2), .val (.int (0 : Int32)), .val (.int v5), .val (.int v7), .val (.int v9), .val (.int v11), .val (.ref b12), .val (.int (0 : Int32)), .val (.int (1 : Int32)), .unset] [(.int v5), (.int (0 : Int32)), (.int (0 : Int32)), (.int (1 : Int32)), (.int ((own_up (fun _ => 0) v7 v7) v9.toInt.toNat))])) t
      refine st30 _ ?_
      show Steps p.tables e below (T30.setTop (mkF m 248 #[.val (.int p0), .val (.int p1), .val (.int p2), .val (.int p3), .val (.int v1), .val (.int v2), .val (.int (0 : Int32)), .val (.int v5), .val (.int v7), .val (.int v9), .val (.int v11), .val (.ref b12), .val (.int (0 : Int32)), .val (.int (1 : Int32)), .unset] [(.int (own_ecw (1 : Int32) (0 : Int32) (0 : Int32) v5)), (.int ((own_up (fun _ => 0) v7 v7) v9.toInt.toNat))])) t
      exact k
    have hc31 : ((own_up (fun _ => 0) v7 v7) v9.toInt.toNat) = (own_ecw (1 : Int32) (0 : Int32) (0 : Int32) v5) := by subst hv2 hv7 hv9 hv11; rcases own_s4 hv5 with rfl | rfl | rfl | rfl <;> rcases own_o2 hv1 with rfl | rfl <;> decide +kernel
    obtain ⟨T32, _, L32, X32, ⟨rfl, Nq32, e32⟩, st32⟩ := Own.callV (y := (⟨"com/example/libgriddraw/libgriddraw/core/RotationSystem", "ccwNext", "(I)I"⟩ : MethodName)) (W := 0) (argsL := [(.int v9)]) (rest := []) (a := b12) X30 hx hZ hown (hw _ (List.mem_of_getElem? (i := 46) rfl)) (hw _ (List.mem_of_getElem? (i := 47) rfl)) (hw _ (List.mem_of_getElem? (i := 49) rfl)) (hw _ (List.mem_of_getElem? (i := 48) rfl)) (hw _ (List.mem_of_getElem? (i := 7) rfl)) (hw _ (List.mem_of_getElem? (i := 50) rfl)) (by decide) e30 E17 (rm9 l Z a0 hw [] b12 v9 rc16 (own_up (fun _ => 0) v7 v7) T17.heap n0 (by subst hv2 hv7 hv9 hv11; rcases own_s4 hv5 with rfl | rfl | rfl | rfl <;> rcases own_o2 hv1 with rfl | rfl <;> decide +kernel) FccwNext_17 Ac_17) (by decide) (by decide) (by decide) (by decide) (g := (mkF m 255 #[.val (.int p0), .val (.int p1), .val (.int p2), .val (.int p3), .val (.int v1), .val (.int v2), .val (.int (0 : Int32)), .val (.int v5), .val (.int v7), .val (.int v9), .val (.int v11), .val (.ref b12), .val (.int (0 : Int32)), .val (.int (1 : Int32)), .unset] [(.int v9), (.ref b12)])) rfl (by rw [hml]; rfl) (lenOf pd_5 rfl) rfl (by show 2 * 0 + _ ≤ _; exact Nat.le_of_eq rfl) (hb hby at_255)
    have N32 := Fr.app N30 Nq32
    obtain ⟨T33, _, L33, X33, ⟨rfl, Nq33, e33⟩, st33⟩ := Own.callS (y := (⟨"com/example/libgriddraw/libgriddraw/core/RotationSystemInsertClockwiseOfPinLaw", "expCcw", "(IIII)I"⟩ : MethodName)) (W := 1) (argsL := [(.int (1 : Int32)), (.int (0 : Int32)), (.int (0 : Int32)), (.int v5)]) (rest := [(.int ((own_up (fun _ => 0) v7 v7) v9.toInt.toNat))]) X32 hx hZ hown (hw _ (List.mem_of_getElem? (i := 51) rfl)) (hw _ (List.mem_of_getElem? (i := 52) rfl)) (hw _ (List.mem_of_getElem? (i := 3) rfl)) (hw _ (List.mem_of_getElem? (i := 53) rfl)) (by decide) e32 (rm21 l Z a0 hw [] (1 : Int32) (0 : Int32) (0 : Int32) v5  T17.heap n0 ) (by decide) (by decide) (by decide) (by decide) (g := (mkF m 265 #[.val (.int p0), .val (.int p1), .val (.int p2), .val (.int p3), .val (.int v1), .val (.int v2), .val (.int (0 : Int32)), .val (.int v5), .val (.int v7), .val (.int v9), .val (.int v11), .val (.ref b12), .val (.int (0 : Int32)), .val (.int (1 : Int32)), .unset] [(.int v5), (.int (0 : Int32)), (.int (0 : Int32)), (.int (1 : Int32)), (.int ((own_up (fun _ => 0) v7 v7) v9.toInt.toNat))])) rfl (by rw [hml]; rfl) (lenOf pd_6 rfl) rfl (by show 2 * 0 + _ ≤ _; exact Nat.le_of_eq rfl) (hb hby at_265)
    have N33 := Fr.app N32 Nq33
    refine hD _ (T33.setTop (mkF m 268 #[.val (.int p0), .val (.int p1), .val (.int p2), .val (.int p3), .val (.int v1), .val (.int v2), .val (.int (0 : Int32)), .val (.int v5), .val (.int v7), .val (.int v9), .val (.int v11), .val (.ref b12), .val (.int (0 : Int32)), .val (.int (1 : Int32)), .unset] [(.int (own_eccw (1 : Int32) (0 : Int32) (0 : Int32) v5)), (.int ((own_up (fun _ => 0) v7 v7) v9.toInt.toNat))])) (fun t k => ?_) ?_
    · show Steps p.tables e below (T30.setTop (mkF m 248 #[.val (.int p0), .val (.int p1), .val (.int p2), .val (.int p3), .val (.int v1), .val (.int v2), .val (.int (0 : Int32)), .val (.int v5), .val (.int v7), .val (.int v9), .val (.int v11), .val (.ref b12), .val (.int (0 : Int32)), .val (.int (1 : Int32)), .unset] [(.int (own_ecw (1 : Int32) (0 : Int32) (0 : Int32) v5)), (.int ((own_up (fun _ => 0) v7 v7) v9.toInt.toNat))])) t
      refine XS.icmpNo X30.here hx rfl (hb hby at_248) rfl (teq hc31).2 ?_
      show Steps p.tables e below (T30.setTop (mkF m 251 #[.val (.int p0), .val (.int p1), .val (.int p2), .val (.int p3), .val (.int v1), .val (.int v2), .val (.int (0 : Int32)), .val (.int v5), .val (.int v7), .val (.int v9), .val (.int v11), .val (.ref b12), .val (.int (0 : Int32)), .val (.int (1 : Int32)), .unset] [])) t
      refine XS.aload X30.here hx rfl (hb hby at_251) rfl rfl ?_
      show Steps p.tables e below (T30.setTop (mkF m 253 #[.val (.int p0), .val (.int p1), .val (.int p2), .val (.int p3), .val (.int v1), .val (.int v2), .val (.int (0 : Int32)), .val (.int v5), .val (.int v7), .val (.int v9), .val (.int v11), .val (.ref b12), .val (.int (0 : Int32)), .val (.int (1 : Int32)), .unset] [(.ref b12)])) t
      refine XS.iload X30.here hx rfl (hb hby at_253) rfl ?_
      show Steps p.tables e below (T30.setTop (mkF m 255 #[.val (.int p0), .val (.int p1), .val (.int p2), .val (.int p3), .val (.int v1), .val (.int v2), .val (.int (0 : Int32)), .val (.int v5), .val (.int v7), .val (.int v9), .val (.int v11), .val (.ref b12), .val (.int (0 : Int32)), .val (.int (1 : Int32)), .unset] [(.int v9), (.ref b12)])) t
      refine st32 _ ?_
      show Steps p.tables e below (T32.setTop (mkF m 258 #[.val (.int p0), .val (.int p1), .val (.int p2), .val (.int p3), .val (.int v1), .val (.int v2), .val (.int (0 : Int32)), .val (.int v5), .val (.int v7), .val (.int v9), .val (.int v11), .val (.ref b12), .val (.int (0 : Int32)), .val (.int (1 : Int32)), .unset] [(.int ((own_up (fun _ => 0) v7 v7) v9.toInt.toNat))])) t
      refine XS.iconst X32.here hx rfl (hb hby at_258) ?_
      show Steps p.tables e below (T32.setTop (mkF m 259 #[.val (.int p0), .val (.int p1), .val (.int p2), .val (.int p3), .val (.int v1), .val (.int v2), .val (.int (0 : Int32)), .val (.int v5), .val (.int v7), .val (.int v9), .val (.int v11), .val (.ref b12), .val (.int (0 : Int32)), .val (.int (1 : Int32)), .unset] [(.int (1 : Int32)), (.int ((own_up (fun _ => 0) v7 v7) v9.toInt.toNat))])) t
      refine XS.iload X32.here hx rfl (hb hby at_259) rfl ?_
      show Steps p.tables e below (T32.setTop (mkF m 261 #[.val (.int p0), .val (.int p1), .val (.int p2), .val (.int p3), .val (.int v1), .val (.int v2), .val (.int (0 : Int32)), .val (.int v5), .val (.int v7), .val (.int v9), .val (.int v11), .val (.ref b12), .val (.int (0 : Int32)), .val (.int (1 : Int32)), .unset] [(.int (0 : Int32)), (.int (1 : Int32)), (.int ((own_up (fun _ => 0) v7 v7) v9.toInt.toNat))])) t
      refine XS.iload X32.here hx rfl (hb hby at_261) rfl ?_
      show Steps p.tables e below (T32.setTop (mkF m 263 #[.val (.int p0), .val (.int p1), .val (.int p2), .val (.int p3), .val (.int v1), .val (.int v2), .val (.int (0 : Int32)), .val (.int v5), .val (.int v7), .val (.int v9), .val (.int v11), .val (.ref b12), .val (.int (0 : Int32)), .val (.int (1 : Int32)), .unset] [(.int (0 : Int32)), (.int (0 : Int32)), (.int (1 : Int32)), (.int ((own_up (fun _ => 0) v7 v7) v9.toInt.toNat))])) t
      refine XS.iload X32.here hx rfl (hb hby at_263) rfl ?_
      show Steps p.tables e below (T32.setTop (mkF m 265 #[.val (.int p0), .val (.int p1), .val (.int p2), .val (.int p3), .val (.int v1), .val (.int v2), .val (.int (0 : Int32)), .val (.int v5), .val (.int v7), .val (.int v9), .val (.int v11), .val (.ref b12), .val (.int (0 : Int32)), .val (.int (1 : Int32)), .unset] [(.int v5), (.int (0 : Int32)), (.int (0 : Int32)), (.int (1 : Int32)), (.int ((own_up (fun _ => 0) v7 v7) v9.toInt.toNat))])) t
      refine st33 _ ?_
      show Steps p.tables e below (T33.setTop (mkF m 268 #[.val (.int p0), .val (.int p1), .val (.int p2), .val (.int p3), .val (.int v1), .val (.int v2), .val (.int (0 : Int32)), .val (.int v5), .val (.int v7), .val (.int v9), .val (.int v11), .val (.ref b12), .val (.int (0 : Int32)), .val (.int (1 : Int32)), .unset] [(.int (own_eccw (1 : Int32) (0 : Int32) (0 : Int32) v5)), (.int ((own_up (fun _ => 0) v7 v7) v9.toInt.toNat))])) t
      exact k
    have hc34 : ((own_up (fun _ => 0) v7 v7) v9.toInt.toNat) = (own_eccw (1 : Int32) (0 : Int32) (0 : Int32) v5) := by subst hv2 hv7 hv9 hv11; rcases own_s4 hv5 with rfl | rfl | rfl | rfl <;> rcases own_o2 hv1 with rfl | rfl <;> decide +kernel
    obtain ⟨T35, _, L35, X35, ⟨rfl, Nq35, e35⟩, st35⟩ := Own.callV (y := (⟨"com/example/libgriddraw/libgriddraw/core/RotationSystem", "cwNext", "(I)I"⟩ : MethodName)) (W := 0) (argsL := [(.int v11)]) (rest := []) (a := b12) X33 hx hZ hown (hw _ (List.mem_of_getElem? (i := 38) rfl)) (hw _ (List.mem_of_getElem? (i := 39) rfl)) (hw _ (List.mem_of_getElem? (i := 41) rfl)) (hw _ (List.mem_of_getElem? (i := 40) rfl)) (hw _ (List.mem_of_getElem? (i := 7) rfl)) (hw _ (List.mem_of_getElem? (i := 42) rfl)) (by decide) e33 E17 (rm8 l Z a0 hw [] b12 v11 rw16 (own_up (fun _ => 0) v7 v7) T17.heap n0 (by subst hv2 hv7 hv9 hv11; rcases own_s4 hv5 with rfl | rfl | rfl | rfl <;> rcases own_o2 hv1 with rfl | rfl <;> decide +kernel) FcwNext_17 Aw_17) (by decide) (by decide) (by decide) (by decide) (g := (mkF m 287 #[.val (.int p0), .val (.int p1), .val (.int p2), .val (.int p3), .val (.int v1), .val (.int v2), .val (.int (0 : Int32)), .val (.int v5), .val (.int v7), .val (.int v9), .val (.int v11), .val (.ref b12), .val (.int (0 : Int32)), .val (.int (1 : Int32)), .unset] [(.int v11), (.ref b12)])) rfl (by rw [hml]; rfl) (lenOf pd_5 rfl) rfl (by show 2 * 0 + _ ≤ _; exact Nat.le_of_eq rfl) (hb hby at_287)
    have N35 := Fr.app N33 Nq35
    obtain ⟨T36, _, L36, X36, ⟨rfl, Nq36, e36⟩, st36⟩ := Own.callS (y := (⟨"com/example/libgriddraw/libgriddraw/core/RotationSystemInsertClockwiseOfPinLaw", "expCw", "(IIII)I"⟩ : MethodName)) (W := 1) (argsL := [(.int (2 : Int32)), (.int (0 : Int32)), (.int (0 : Int32)), (.int v5)]) (rest := [(.int ((own_up (fun _ => 0) v7 v7) v11.toInt.toNat))]) X35 hx hZ hown (hw _ (List.mem_of_getElem? (i := 43) rfl)) (hw _ (List.mem_of_getElem? (i := 44) rfl)) (hw _ (List.mem_of_getElem? (i := 3) rfl)) (hw _ (List.mem_of_getElem? (i := 45) rfl)) (by decide) e35 (rm20 l Z a0 hw [] (2 : Int32) (0 : Int32) (0 : Int32) v5  T17.heap n0 ) (by decide) (by decide) (by decide) (by decide) (g := (mkF m 297 #[.val (.int p0), .val (.int p1), .val (.int p2), .val (.int p3), .val (.int v1), .val (.int v2), .val (.int (0 : Int32)), .val (.int v5), .val (.int v7), .val (.int v9), .val (.int v11), .val (.ref b12), .val (.int (0 : Int32)), .val (.int (1 : Int32)), .unset] [(.int v5), (.int (0 : Int32)), (.int (0 : Int32)), (.int (2 : Int32)), (.int ((own_up (fun _ => 0) v7 v7) v11.toInt.toNat))])) rfl (by rw [hml]; rfl) (lenOf pd_6 rfl) rfl (by show 2 * 0 + _ ≤ _; exact Nat.le_of_eq rfl) (hb hby at_297)
    have N36 := Fr.app N35 Nq36
    refine hD _ (T36.setTop (mkF m 300 #[.val (.int p0), .val (.int p1), .val (.int p2), .val (.int p3), .val (.int v1), .val (.int v2), .val (.int (0 : Int32)), .val (.int v5), .val (.int v7), .val (.int v9), .val (.int v11), .val (.ref b12), .val (.int (0 : Int32)), .val (.int (1 : Int32)), .unset] [(.int (own_ecw (2 : Int32) (0 : Int32) (0 : Int32) v5)), (.int ((own_up (fun _ => 0) v7 v7) v11.toInt.toNat))])) (fun t k => ?_) ?_
    · show Steps p.tables e below (T33.setTop (mkF m 268 #[.val (.int p0), .val (.int p1), .val (.int p2), .val (.int p3), .val (.int v1), .val (.int v2), .val (.int (0 : Int32)), .val (.int v5), .val (.int v7), .val (.int v9), .val (.int v11), .val (.ref b12), .val (.int (0 : Int32)), .val (.int (1 : Int32)), .unset] [(.int (own_eccw (1 : Int32) (0 : Int32) (0 : Int32) v5)), (.int ((own_up (fun _ => 0) v7 v7) v9.toInt.toNat))])) t
      refine XS.icmpNo X33.here hx rfl (hb hby at_268) rfl (teq hc34).2 ?_
      show Steps p.tables e below (T33.setTop (mkF m 271 #[.val (.int p0), .val (.int p1), .val (.int p2), .val (.int p3), .val (.int v1), .val (.int v2), .val (.int (0 : Int32)), .val (.int v5), .val (.int v7), .val (.int v9), .val (.int v11), .val (.ref b12), .val (.int (0 : Int32)), .val (.int (1 : Int32)), .unset] [])) t
      refine XS.iconst X33.here hx rfl (hb hby at_271) ?_
      show Steps p.tables e below (T33.setTop (mkF m 272 #[.val (.int p0), .val (.int p1), .val (.int p2), .val (.int p3), .val (.int v1), .val (.int v2), .val (.int (0 : Int32)), .val (.int v5), .val (.int v7), .val (.int v9), .val (.int v11), .val (.ref b12), .val (.int (0 : Int32)), .val (.int (1 : Int32)), .unset] [(.int (1 : Int32))])) t
      refine XS.goto X33.here hx rfl (pc0 := 272) (pc' := 276) rfl (hb hby at_272) (by decide) (by decide) ?_
      show Steps p.tables e below (T33.setTop (mkF m 276 #[.val (.int p0), .val (.int p1), .val (.int p2), .val (.int p3), .val (.int v1), .val (.int v2), .val (.int (0 : Int32)), .val (.int v5), .val (.int v7), .val (.int v9), .val (.int v11), .val (.ref b12), .val (.int (0 : Int32)), .val (.int (1 : Int32)), .unset] [(.int (1 : Int32))])) t
      refine XS.istore X33.here hx rfl (hb hby at_276) rfl (l' := #[.val (.int p0), .val (.int p1), .val (.int p2), .val (.int p3), .val (.int v1), .val (.int v2), .val (.int (0 : Int32)), .val (.int v5), .val (.int v7), .val (.int v9), .val (.int v11), .val (.ref b12), .val (.int (0 : Int32)), .val (.int (1 : Int32)), .unset]) rfl ?_
      show Steps p.tables e below (T33.setTop (mkF m 278 #[.val (.int p0), .val (.int p1), .val (.int p2), .val (.int p3), .val (.int v1), .val (.int v2), .val (.int (0 : Int32)), .val (.int v5), .val (.int v7), .val (.int v9), .val (.int v11), .val (.ref b12), .val (.int (0 : Int32)), .val (.int (1 : Int32)), .unset] [])) t
      refine XS.iload X33.here hx rfl (hb hby at_278) rfl ?_
      show Steps p.tables e below (T33.setTop (mkF m 280 #[.val (.int p0), .val (.int p1), .val (.int p2), .val (.int p3), .val (.int v1), .val (.int v2), .val (.int (0 : Int32)), .val (.int v5), .val (.int v7), .val (.int v9), .val (.int v11), .val (.ref b12), .val (.int (0 : Int32)), .val (.int (1 : Int32)), .unset] [(.int (1 : Int32))])) t
      refine XS.ifNo X33.here hx rfl (hb hby at_280) rfl (by decide) ?_
      show Steps p.tables e below (T33.setTop (mkF m 283 #[.val (.int p0), .val (.int p1), .val (.int p2), .val (.int p3), .val (.int v1), .val (.int v2), .val (.int (0 : Int32)), .val (.int v5), .val (.int v7), .val (.int v9), .val (.int v11), .val (.ref b12), .val (.int (0 : Int32)), .val (.int (1 : Int32)), .unset] [])) t
      refine XS.aload X33.here hx rfl (hb hby at_283) rfl rfl ?_
      show Steps p.tables e below (T33.setTop (mkF m 285 #[.val (.int p0), .val (.int p1), .val (.int p2), .val (.int p3), .val (.int v1), .val (.int v2), .val (.int (0 : Int32)), .val (.int v5), .val (.int v7), .val (.int v9), .val (.int v11), .val (.ref b12), .val (.int (0 : Int32)), .val (.int (1 : Int32)), .unset] [(.ref b12)])) t
      refine XS.iload X33.here hx rfl (hb hby at_285) rfl ?_
      show Steps p.tables e below (T33.setTop (mkF m 287 #[.val (.int p0), .val (.int p1), .val (.int p2), .val (.int p3), .val (.int v1), .val (.int v2), .val (.int (0 : Int32)), .val (.int v5), .val (.int v7), .val (.int v9), .val (.int v11), .val (.ref b12), .val (.int (0 : Int32)), .val (.int (1 : Int32)), .unset] [(.int v11), (.ref b12)])) t
      refine st35 _ ?_
      show Steps p.tables e below (T35.setTop (mkF m 290 #[.val (.int p0), .val (.int p1), .val (.int p2), .val (.int p3), .val (.int v1), .val (.int v2), .val (.int (0 : Int32)), .val (.int v5), .val (.int v7), .val (.int v9), .val (.int v11), .val (.ref b12), .val (.int (0 : Int32)), .val (.int (1 : Int32)), .unset] [(.int ((own_up (fun _ => 0) v7 v7) v11.toInt.toNat))])) t
      refine XS.iconst X35.here hx rfl (hb hby at_290) ?_
      show Steps p.tables e below (T35.setTop (mkF m 291 #[.val (.int p0), .val (.int p1), .val (.int p2), .val (.int p3), .val (.int v1), .val (.int v2), .val (.int (0 : Int32)), .val (.int v5), .val (.int v7), .val (.int v9), .val (.int v11), .val (.ref b12), .val (.int (0 : Int32)), .val (.int (1 : Int32)), .unset] [(.int (2 : Int32)), (.int ((own_up (fun _ => 0) v7 v7) v11.toInt.toNat))])) t
      refine XS.iload X35.here hx rfl (hb hby at_291) rfl ?_
      show Steps p.tables e below (T35.setTop (mkF m 293 #[.val (.int p0), .val (.int p1), .val (.int p2), .val (.int p3), .val (.int v1), .val (.int v2), .val (.int (0 : Int32)), .val (.int v5), .val (.int v7), .val (.int v9), .val (.int v11), .val (.ref b12), .val (.int (0 : Int32)), .val (.int (1 : Int32)), .unset] [(.int (0 : Int32)), (.int (2 : Int32)), (.int ((own_up (fun _ => 0) v7 v7) v11.toInt.toNat))])) t
      refine XS.iload X35.here hx rfl (hb hby at_293) rfl ?_
      show Steps p.tables e below (T35.setTop (mkF m 295 #[.val (.int p0), .val (.int p1), .val (.int p2), .val (.int p3), .val (.int v1), .val (.int v2), .val (.int (0 : Int32)), .val (.int v5), .val (.int v7), .val (.int v9), .val (.int v11), .val (.ref b12), .val (.int (0 : Int32)), .val (.int (1 : Int32)), .unset] [(.int (0 : Int32)), (.int (0 : Int32)), (.int (2 : Int32)), (.int ((own_up (fun _ => 0) v7 v7) v11.toInt.toNat))])) t
      refine XS.iload X35.here hx rfl (hb hby at_295) rfl ?_
      show Steps p.tables e below (T35.setTop (mkF m 297 #[.val (.int p0), .val (.int p1), .val (.int p2), .val (.int p3), .val (.int v1), .val (.int v2), .val (.int (0 : Int32)), .val (.int v5), .val (.int v7), .val (.int v9), .val (.int v11), .val (.ref b12), .val (.int (0 : Int32)), .val (.int (1 : Int32)), .unset] [(.int v5), (.int (0 : Int32)), (.int (0 : Int32)), (.int (2 : Int32)), (.int ((own_up (fun _ => 0) v7 v7) v11.toInt.toNat))])) t
      refine st36 _ ?_
      show Steps p.tables e below (T36.setTop (mkF m 300 #[.val (.int p0), .val (.int p1), .val (.int p2), .val (.int p3), .val (.int v1), .val (.int v2), .val (.int (0 : Int32)), .val (.int v5), .val (.int v7), .val (.int v9), .val (.int v11), .val (.ref b12), .val (.int (0 : Int32)), .val (.int (1 : Int32)), .unset] [(.int (own_ecw (2 : Int32) (0 : Int32) (0 : Int32) v5)), (.int ((own_up (fun _ => 0) v7 v7) v11.toInt.toNat))])) t
      exact k
    have hc37 : ((own_up (fun _ => 0) v7 v7) v11.toInt.toNat) = (own_ecw (2 : Int32) (0 : Int32) (0 : Int32) v5) := by subst hv2 hv7 hv9 hv11; rcases own_s4 hv5 with rfl | rfl | rfl | rfl <;> rcases own_o2 hv1 with rfl | rfl <;> decide +kernel
    obtain ⟨T38, _, L38, X38, ⟨rfl, Nq38, e38⟩, st38⟩ := Own.callV (y := (⟨"com/example/libgriddraw/libgriddraw/core/RotationSystem", "ccwNext", "(I)I"⟩ : MethodName)) (W := 0) (argsL := [(.int v11)]) (rest := []) (a := b12) X36 hx hZ hown (hw _ (List.mem_of_getElem? (i := 46) rfl)) (hw _ (List.mem_of_getElem? (i := 47) rfl)) (hw _ (List.mem_of_getElem? (i := 49) rfl)) (hw _ (List.mem_of_getElem? (i := 48) rfl)) (hw _ (List.mem_of_getElem? (i := 7) rfl)) (hw _ (List.mem_of_getElem? (i := 50) rfl)) (by decide) e36 E17 (rm9 l Z a0 hw [] b12 v11 rc16 (own_up (fun _ => 0) v7 v7) T17.heap n0 (by subst hv2 hv7 hv9 hv11; rcases own_s4 hv5 with rfl | rfl | rfl | rfl <;> rcases own_o2 hv1 with rfl | rfl <;> decide +kernel) FccwNext_17 Ac_17) (by decide) (by decide) (by decide) (by decide) (g := (mkF m 307 #[.val (.int p0), .val (.int p1), .val (.int p2), .val (.int p3), .val (.int v1), .val (.int v2), .val (.int (0 : Int32)), .val (.int v5), .val (.int v7), .val (.int v9), .val (.int v11), .val (.ref b12), .val (.int (0 : Int32)), .val (.int (1 : Int32)), .unset] [(.int v11), (.ref b12)])) rfl (by rw [hml]; rfl) (lenOf pd_5 rfl) rfl (by show 2 * 0 + _ ≤ _; exact Nat.le_of_eq rfl) (hb hby at_307)
    have N38 := Fr.app N36 Nq38
    obtain ⟨T39, _, L39, X39, ⟨rfl, Nq39, e39⟩, st39⟩ := Own.callS (y := (⟨"com/example/libgriddraw/libgriddraw/core/RotationSystemInsertClockwiseOfPinLaw", "expCcw", "(IIII)I"⟩ : MethodName)) (W := 1) (argsL := [(.int (2 : Int32)), (.int (0 : Int32)), (.int (0 : Int32)), (.int v5)]) (rest := [(.int ((own_up (fun _ => 0) v7 v7) v11.toInt.toNat))]) X38 hx hZ hown (hw _ (List.mem_of_getElem? (i := 51) rfl)) (hw _ (List.mem_of_getElem? (i := 52) rfl)) (hw _ (List.mem_of_getElem? (i := 3) rfl)) (hw _ (List.mem_of_getElem? (i := 53) rfl)) (by decide) e38 (rm21 l Z a0 hw [] (2 : Int32) (0 : Int32) (0 : Int32) v5  T17.heap n0 ) (by decide) (by decide) (by decide) (by decide) (g := (mkF m 317 #[.val (.int p0), .val (.int p1), .val (.int p2), .val (.int p3), .val (.int v1), .val (.int v2), .val (.int (0 : Int32)), .val (.int v5), .val (.int v7), .val (.int v9), .val (.int v11), .val (.ref b12), .val (.int (0 : Int32)), .val (.int (1 : Int32)), .unset] [(.int v5), (.int (0 : Int32)), (.int (0 : Int32)), (.int (2 : Int32)), (.int ((own_up (fun _ => 0) v7 v7) v11.toInt.toNat))])) rfl (by rw [hml]; rfl) (lenOf pd_6 rfl) rfl (by show 2 * 0 + _ ≤ _; exact Nat.le_of_eq rfl) (hb hby at_317)
    have N39 := Fr.app N38 Nq39
    refine hD _ (T39.setTop (mkF m 320 #[.val (.int p0), .val (.int p1), .val (.int p2), .val (.int p3), .val (.int v1), .val (.int v2), .val (.int (0 : Int32)), .val (.int v5), .val (.int v7), .val (.int v9), .val (.int v11), .val (.ref b12), .val (.int (0 : Int32)), .val (.int (1 : Int32)), .unset] [(.int (own_eccw (2 : Int32) (0 : Int32) (0 : Int32) v5)), (.int ((own_up (fun _ => 0) v7 v7) v11.toInt.toNat))])) (fun t k => ?_) ?_
    · show Steps p.tables e below (T36.setTop (mkF m 300 #[.val (.int p0), .val (.int p1), .val (.int p2), .val (.int p3), .val (.int v1), .val (.int v2), .val (.int (0 : Int32)), .val (.int v5), .val (.int v7), .val (.int v9), .val (.int v11), .val (.ref b12), .val (.int (0 : Int32)), .val (.int (1 : Int32)), .unset] [(.int (own_ecw (2 : Int32) (0 : Int32) (0 : Int32) v5)), (.int ((own_up (fun _ => 0) v7 v7) v11.toInt.toNat))])) t
      refine XS.icmpNo X36.here hx rfl (hb hby at_300) rfl (teq hc37).2 ?_
      show Steps p.tables e below (T36.setTop (mkF m 303 #[.val (.int p0), .val (.int p1), .val (.int p2), .val (.int p3), .val (.int v1), .val (.int v2), .val (.int (0 : Int32)), .val (.int v5), .val (.int v7), .val (.int v9), .val (.int v11), .val (.ref b12), .val (.int (0 : Int32)), .val (.int (1 : Int32)), .unset] [])) t
      refine XS.aload X36.here hx rfl (hb hby at_303) rfl rfl ?_
      show Steps p.tables e below (T36.setTop (mkF m 305 #[.val (.int p0), .val (.int p1), .val (.int p2), .val (.int p3), .val (.int v1), .val (.int v2), .val (.int (0 : Int32)), .val (.int v5), .val (.int v7), .val (.int v9), .val (.int v11), .val (.ref b12), .val (.int (0 : Int32)), .val (.int (1 : Int32)), .unset] [(.ref b12)])) t
      refine XS.iload X36.here hx rfl (hb hby at_305) rfl ?_
      show Steps p.tables e below (T36.setTop (mkF m 307 #[.val (.int p0), .val (.int p1), .val (.int p2), .val (.int p3), .val (.int v1), .val (.int v2), .val (.int (0 : Int32)), .val (.int v5), .val (.int v7), .val (.int v9), .val (.int v11), .val (.ref b12), .val (.int (0 : Int32)), .val (.int (1 : Int32)), .unset] [(.int v11), (.ref b12)])) t
      refine st38 _ ?_
      show Steps p.tables e below (T38.setTop (mkF m 310 #[.val (.int p0), .val (.int p1), .val (.int p2), .val (.int p3), .val (.int v1), .val (.int v2), .val (.int (0 : Int32)), .val (.int v5), .val (.int v7), .val (.int v9), .val (.int v11), .val (.ref b12), .val (.int (0 : Int32)), .val (.int (1 : Int32)), .unset] [(.int ((own_up (fun _ => 0) v7 v7) v11.toInt.toNat))])) t
      refine XS.iconst X38.here hx rfl (hb hby at_310) ?_
      show Steps p.tables e below (T38.setTop (mkF m 311 #[.val (.int p0), .val (.int p1), .val (.int p2), .val (.int p3), .val (.int v1), .val (.int v2), .val (.int (0 : Int32)), .val (.int v5), .val (.int v7), .val (.int v9), .val (.int v11), .val (.ref b12), .val (.int (0 : Int32)), .val (.int (1 : Int32)), .unset] [(.int (2 : Int32)), (.int ((own_up (fun _ => 0) v7 v7) v11.toInt.toNat))])) t
      refine XS.iload X38.here hx rfl (hb hby at_311) rfl ?_
      show Steps p.tables e below (T38.setTop (mkF m 313 #[.val (.int p0), .val (.int p1), .val (.int p2), .val (.int p3), .val (.int v1), .val (.int v2), .val (.int (0 : Int32)), .val (.int v5), .val (.int v7), .val (.int v9), .val (.int v11), .val (.ref b12), .val (.int (0 : Int32)), .val (.int (1 : Int32)), .unset] [(.int (0 : Int32)), (.int (2 : Int32)), (.int ((own_up (fun _ => 0) v7 v7) v11.toInt.toNat))])) t
      refine XS.iload X38.here hx rfl (hb hby at_313) rfl ?_
      show Steps p.tables e below (T38.setTop (mkF m 315 #[.val (.int p0), .val (.int p1), .val (.int p2), .val (.int p3), .val (.int v1), .val (.int v2), .val (.int (0 : Int32)), .val (.int v5), .val (.int v7), .val (.int v9), .val (.int v11), .val (.ref b12), .val (.int (0 : Int32)), .val (.int (1 : Int32)), .unset] [(.int (0 : Int32)), (.int (0 : Int32)), (.int (2 : Int32)), (.int ((own_up (fun _ => 0) v7 v7) v11.toInt.toNat))])) t
      refine XS.iload X38.here hx rfl (hb hby at_315) rfl ?_
      show Steps p.tables e below (T38.setTop (mkF m 317 #[.val (.int p0), .val (.int p1), .val (.int p2), .val (.int p3), .val (.int v1), .val (.int v2), .val (.int (0 : Int32)), .val (.int v5), .val (.int v7), .val (.int v9), .val (.int v11), .val (.ref b12), .val (.int (0 : Int32)), .val (.int (1 : Int32)), .unset] [(.int v5), (.int (0 : Int32)), (.int (0 : Int32)), (.int (2 : Int32)), (.int ((own_up (fun _ => 0) v7 v7) v11.toInt.toNat))])) t
      refine st39 _ ?_
      show Steps p.tables e below (T39.setTop (mkF m 320 #[.val (.int p0), .val (.int p1), .val (.int p2), .val (.int p3), .val (.int v1), .val (.int v2), .val (.int (0 : Int32)), .val (.int v5), .val (.int v7), .val (.int v9), .val (.int v11), .val (.ref b12), .val (.int (0 : Int32)), .val (.int (1 : Int32)), .unset] [(.int (own_eccw (2 : Int32) (0 : Int32) (0 : Int32) v5)), (.int ((own_up (fun _ => 0) v7 v7) v11.toInt.toNat))])) t
      exact k
    have hc40 : ((own_up (fun _ => 0) v7 v7) v11.toInt.toNat) = (own_eccw (2 : Int32) (0 : Int32) (0 : Int32) v5) := by subst hv2 hv7 hv9 hv11; rcases own_s4 hv5 with rfl | rfl | rfl | rfl <;> rcases own_o2 hv1 with rfl | rfl <;> decide +kernel
    refine hD _ (T39.setTop (mkF m 332 #[.val (.int p0), .val (.int p1), .val (.int p2), .val (.int p3), .val (.int v1), .val (.int v2), .val (.int (0 : Int32)), .val (.int v5), .val (.int v7), .val (.int v9), .val (.int v11), .val (.ref b12), .val (.int (0 : Int32)), .val (.int (1 : Int32)), .unset] [(.int (1 : Int32))])) (fun t k => ?_) ?_
    · show Steps p.tables e below (T39.setTop (mkF m 320 #[.val (.int p0), .val (.int p1), .val (.int p2), .val (.int p3), .val (.int v1), .val (.int v2), .val (.int (0 : Int32)), .val (.int v5), .val (.int v7), .val (.int v9), .val (.int v11), .val (.ref b12), .val (.int (0 : Int32)), .val (.int (1 : Int32)), .unset] [(.int (own_eccw (2 : Int32) (0 : Int32) (0 : Int32) v5)), (.int ((own_up (fun _ => 0) v7 v7) v11.toInt.toNat))])) t
      refine XS.icmpNo X39.here hx rfl (hb hby at_320) rfl (teq hc40).2 ?_
      show Steps p.tables e below (T39.setTop (mkF m 323 #[.val (.int p0), .val (.int p1), .val (.int p2), .val (.int p3), .val (.int v1), .val (.int v2), .val (.int (0 : Int32)), .val (.int v5), .val (.int v7), .val (.int v9), .val (.int v11), .val (.ref b12), .val (.int (0 : Int32)), .val (.int (1 : Int32)), .unset] [])) t
      refine XS.iconst X39.here hx rfl (hb hby at_323) ?_
      show Steps p.tables e below (T39.setTop (mkF m 324 #[.val (.int p0), .val (.int p1), .val (.int p2), .val (.int p3), .val (.int v1), .val (.int v2), .val (.int (0 : Int32)), .val (.int v5), .val (.int v7), .val (.int v9), .val (.int v11), .val (.ref b12), .val (.int (0 : Int32)), .val (.int (1 : Int32)), .unset] [(.int (1 : Int32))])) t
      refine XS.goto X39.here hx rfl (pc0 := 324) (pc' := 328) rfl (hb hby at_324) (by decide) (by decide) ?_
      show Steps p.tables e below (T39.setTop (mkF m 328 #[.val (.int p0), .val (.int p1), .val (.int p2), .val (.int p3), .val (.int v1), .val (.int v2), .val (.int (0 : Int32)), .val (.int v5), .val (.int v7), .val (.int v9), .val (.int v11), .val (.ref b12), .val (.int (0 : Int32)), .val (.int (1 : Int32)), .unset] [(.int (1 : Int32))])) t
      refine XS.istore X39.here hx rfl (hb hby at_328) rfl (l' := #[.val (.int p0), .val (.int p1), .val (.int p2), .val (.int p3), .val (.int v1), .val (.int v2), .val (.int (0 : Int32)), .val (.int v5), .val (.int v7), .val (.int v9), .val (.int v11), .val (.ref b12), .val (.int (0 : Int32)), .val (.int (1 : Int32)), .unset]) rfl ?_
      show Steps p.tables e below (T39.setTop (mkF m 330 #[.val (.int p0), .val (.int p1), .val (.int p2), .val (.int p3), .val (.int v1), .val (.int v2), .val (.int (0 : Int32)), .val (.int v5), .val (.int v7), .val (.int v9), .val (.int v11), .val (.ref b12), .val (.int (0 : Int32)), .val (.int (1 : Int32)), .unset] [])) t
      refine XS.iload X39.here hx rfl (hb hby at_330) rfl ?_
      show Steps p.tables e below (T39.setTop (mkF m 332 #[.val (.int p0), .val (.int p1), .val (.int p2), .val (.int p3), .val (.int v1), .val (.int v2), .val (.int (0 : Int32)), .val (.int v5), .val (.int v7), .val (.int v9), .val (.int v11), .val (.ref b12), .val (.int (0 : Int32)), .val (.int (1 : Int32)), .unset] [(.int (1 : Int32))])) t
      exact k
    exact Own.retN hR X39 hx (t := .boolean) hret (by simp) (hb hby at_332) (by decide) (by decide) (by decide) ⟨rfl, N39⟩
  · refine hD _ (T17.setTop (mkF m 81 #[.val (.int p0), .val (.int p1), .val (.int p2), .val (.int p3), .val (.int v1), .val (.int v2), .val (.int v4), .val (.int v5), .val (.int v7), .val (.int v9), .val (.int v11), .val (.ref b12), .val (.int (0 : Int32)), .unset, .unset] [(.int (2 : Int32)), (.int v4)])) (fun t k => ?_) ?_
    · show Steps p.tables e below (T17.setTop (mkF m 75 #[.val (.int p0), .val (.int p1), .val (.int p2), .val (.int p3), .val (.int v1), .val (.int v2), .val (.int v4), .val (.int v5), .val (.int v7), .val (.int v9), .val (.int v11), .val (.ref b12), .val (.int (0 : Int32)), .unset, .unset] [(.int (1 : Int32)), (.int v4)])) t
      refine XS.icmpNo X17.here hx rfl (hb hby at_75) rfl (flt hc18).1 ?_
      show Steps p.tables e below (T17.setTop (mkF m 78 #[.val (.int p0), .val (.int p1), .val (.int p2), .val (.int p3), .val (.int v1), .val (.int v2), .val (.int v4), .val (.int v5), .val (.int v7), .val (.int v9), .val (.int v11), .val (.ref b12), .val (.int (0 : Int32)), .unset, .unset] [])) t
      refine XS.iload X17.here hx rfl (hb hby at_78) rfl ?_
      show Steps p.tables e below (T17.setTop (mkF m 80 #[.val (.int p0), .val (.int p1), .val (.int p2), .val (.int p3), .val (.int v1), .val (.int v2), .val (.int v4), .val (.int v5), .val (.int v7), .val (.int v9), .val (.int v11), .val (.ref b12), .val (.int (0 : Int32)), .unset, .unset] [(.int v4)])) t
      refine XS.iconst X17.here hx rfl (hb hby at_80) ?_
      show Steps p.tables e below (T17.setTop (mkF m 81 #[.val (.int p0), .val (.int p1), .val (.int p2), .val (.int p3), .val (.int v1), .val (.int v2), .val (.int v4), .val (.int v5), .val (.int v7), .val (.int v9), .val (.int v11), .val (.ref b12), .val (.int (0 : Int32)), .unset, .unset] [(.int (2 : Int32)), (.int v4)])) t
      exact k
    by_cases hc41 : v4 = (2 : Int32)
    · refine hD _ (T17.setTop (mkF m 84 #[.val (.int p0), .val (.int p1), .val (.int p2), .val (.int p3), .val (.int v1), .val (.int v2), .val (.int v4), .val (.int v5), .val (.int v7), .val (.int v9), .val (.int v11), .val (.ref b12), .val (.int (0 : Int32)), .unset, .unset] [])) (fun t k => ?_) ?_
      · show Steps p.tables e below (T17.setTop (mkF m 81 #[.val (.int p0), .val (.int p1), .val (.int p2), .val (.int p3), .val (.int v1), .val (.int v2), .val (.int v4), .val (.int v5), .val (.int v7), .val (.int v9), .val (.int v11), .val (.ref b12), .val (.int (0 : Int32)), .unset, .unset] [(.int (2 : Int32)), (.int v4)])) t
        refine XS.icmpNo X17.here hx rfl (hb hby at_81) rfl (teq hc41).2 ?_
        show Steps p.tables e below (T17.setTop (mkF m 84 #[.val (.int p0), .val (.int p1), .val (.int p2), .val (.int p3), .val (.int v1), .val (.int v2), .val (.int v4), .val (.int v5), .val (.int v7), .val (.int v9), .val (.int v11), .val (.ref b12), .val (.int (0 : Int32)), .unset, .unset] [])) t
        exact k
      have hl6 : v4 = 2 := hc41
      subst hl6
      obtain ⟨T42, _, L42, X42, ⟨rfl, Nq42, E42, FccwNext_42, FcwNext_42, FfirstOut_42, Ac_42, Aw_42, Af_42⟩, st42⟩ := Own.callV (y := (⟨"com/example/libgriddraw/libgriddraw/core/RotationSystem", "insertClockwiseOf", "(III)V"⟩ : MethodName)) (W := 0) (argsL := [(.int v9), (.int v1), (.int v7)]) (rest := []) (a := b12) X17 hx hZ hown (hw _ (List.mem_of_getElem? (i := 28) rfl)) (hw _ (List.mem_of_getElem? (i := 29) rfl)) (hw _ (List.mem_of_getElem? (i := 31) rfl)) (hw _ (List.mem_of_getElem? (i := 30) rfl)) (hw _ (List.mem_of_getElem? (i := 7) rfl)) (hw _ (List.mem_of_getElem? (i := 32) rfl)) (by decide) rfl E17 (rm6 l Z a0 hw [] b12 v9 v1 v7 rc16 rw16 rf16 (own_up (fun _ => 0) v7 v7) (own_up (fun _ => 0) v7 v7) (own_up (fun _ => (-1 : Int32)) v1 v7) T17.heap n0 Z17 g0_b12 l1_16 l2_16 l3_16 (by subst hv2 hv7 hv9 hv11; rcases own_s4 hv5 with rfl | rfl | rfl | rfl <;> rcases own_o2 hv1 with rfl | rfl <;> decide +kernel) (by subst hv2 hv7 hv9 hv11; rcases own_s4 hv5 with rfl | rfl | rfl | rfl <;> rcases own_o2 hv1 with rfl | rfl <;> decide +kernel) (by subst hv2 hv7 hv9 hv11; rcases own_s4 hv5 with rfl | rfl | rfl | rfl <;> rcases own_o2 hv1 with rfl | rfl <;> decide +kernel) (by subst hv2 hv7 hv9 hv11; rcases own_s4 hv5 with rfl | rfl | rfl | rfl <;> rcases own_o2 hv1 with rfl | rfl <;> decide +kernel) E17 FccwNext_17 FcwNext_17 FfirstOut_17 Ac_17 Aw_17 Af_17) (by decide) (by decide) (by decide) (by decide) (g := (mkF m 92 #[.val (.int p0), .val (.int p1), .val (.int p2), .val (.int p3), .val (.int v1), .val (.int v2), .val (.int (2 : Int32)), .val (.int v5), .val (.int v7), .val (.int v9), .val (.int v11), .val (.ref b12), .val (.int (0 : Int32)), .unset, .unset] [(.int v7), (.int v1), (.int v9), (.ref b12)])) rfl (by rw [hml]; rfl) (lenOf pd_4 rfl) rfl (by show 2 * 0 + _ ≤ _; exact Nat.le_of_eq rfl) (hb hby at_92)
      have N42 := Fr.app N17 Nq42
      have Z42 : n0 ≤ T42.heap.size := Nat.le_trans g0_b12 (Nat.le_of_lt E42.lt)
      have hnz43 : (2 : Int32) ≠ 0 := by decide
      obtain ⟨v44, hv44⟩ : ∃ z : Int32, z = ((p3 &&& (2147483647 : Int32)) % (2 : Int32)) := ⟨_, rfl⟩
      refine hD _ (T42.setTop (mkF m 121 #[.val (.int p0), .val (.int p1), .val (.int p2), .val (.int p3), .val (.int v1), .val (.int v2), .val (.int (2 : Int32)), .val (.int v5), .val (.int v7), .val (.int v9), .val (.int v11), .val (.ref b12), .val (.int v44), .val (.int v11), .unset] [(.int v44)])) (fun t k => ?_) ?_
      · show Steps p.tables e below (T17.setTop (mkF m 84 #[.val (.int p0), .val (.int p1), .val (.int p2), .val (.int p3), .val (.int v1), .val (.int v2), .val (.int (2 : Int32)), .val (.int v5), .val (.int v7), .val (.int v9), .val (.int v11), .val (.ref b12), .val (.int (0 : Int32)), .unset, .unset] [])) t
        refine XS.aload X17.here hx rfl (hb hby at_84) rfl rfl ?_
        show Steps p.tables e below (T17.setTop (mkF m 86 #[.val (.int p0), .val (.int p1), .val (.int p2), .val (.int p3), .val (.int v1), .val (.int v2), .val (.int (2 : Int32)), .val (.int v5), .val (.int v7), .val (.int v9), .val (.int v11), .val (.ref b12), .val (.int (0 : Int32)), .unset, .unset] [(.ref b12)])) t
        refine XS.iload X17.here hx rfl (hb hby at_86) rfl ?_
        show Steps p.tables e below (T17.setTop (mkF m 88 #[.val (.int p0), .val (.int p1), .val (.int p2), .val (.int p3), .val (.int v1), .val (.int v2), .val (.int (2 : Int32)), .val (.int v5), .val (.int v7), .val (.int v9), .val (.int v11), .val (.ref b12), .val (.int (0 : Int32)), .unset, .unset] [(.int v9), (.ref b12)])) t
        refine XS.iload X17.here hx rfl (hb hby at_88) rfl ?_
        show Steps p.tables e below (T17.setTop (mkF m 90 #[.val (.int p0), .val (.int p1), .val (.int p2), .val (.int p3), .val (.int v1), .val (.int v2), .val (.int (2 : Int32)), .val (.int v5), .val (.int v7), .val (.int v9), .val (.int v11), .val (.ref b12), .val (.int (0 : Int32)), .unset, .unset] [(.int v1), (.int v9), (.ref b12)])) t
        refine XS.iload X17.here hx rfl (hb hby at_90) rfl ?_
        show Steps p.tables e below (T17.setTop (mkF m 92 #[.val (.int p0), .val (.int p1), .val (.int p2), .val (.int p3), .val (.int v1), .val (.int v2), .val (.int (2 : Int32)), .val (.int v5), .val (.int v7), .val (.int v9), .val (.int v11), .val (.ref b12), .val (.int (0 : Int32)), .unset, .unset] [(.int v7), (.int v1), (.int v9), (.ref b12)])) t
        refine st42 _ ?_
        show Steps p.tables e below (T42.setTop (mkF m 95 #[.val (.int p0), .val (.int p1), .val (.int p2), .val (.int p3), .val (.int v1), .val (.int v2), .val (.int (2 : Int32)), .val (.int v5), .val (.int v7), .val (.int v9), .val (.int v11), .val (.ref b12), .val (.int (0 : Int32)), .unset, .unset] [])) t
        refine XS.iloadN X42.here hx rfl (hb hby at_95) rfl ?_
        show Steps p.tables e below (T42.setTop (mkF m 96 #[.val (.int p0), .val (.int p1), .val (.int p2), .val (.int p3), .val (.int v1), .val (.int v2), .val (.int (2 : Int32)), .val (.int v5), .val (.int v7), .val (.int v9), .val (.int v11), .val (.ref b12), .val (.int (0 : Int32)), .unset, .unset] [(.int p3)])) t
        refine X42.ldcInt hx hown (mvT hZ (hw _ (List.mem_of_getElem? (i := 0) rfl))) (g := (mkF m 96 #[.val (.int p0), .val (.int p1), .val (.int p2), .val (.int p3), .val (.int v1), .val (.int v2), .val (.int (2 : Int32)), .val (.int v5), .val (.int v7), .val (.int v9), .val (.int v11), .val (.ref b12), .val (.int (0 : Int32)), .unset, .unset] [(.int p3)])) rfl (hb hby at_96) _ ?_
        show Steps p.tables e below (T42.setTop (mkF m 98 #[.val (.int p0), .val (.int p1), .val (.int p2), .val (.int p3), .val (.int v1), .val (.int v2), .val (.int (2 : Int32)), .val (.int v5), .val (.int v7), .val (.int v9), .val (.int v11), .val (.ref b12), .val (.int (0 : Int32)), .unset, .unset] [(.int (2147483647 : Int32)), (.int p3)])) t
        refine XS.iand X42.here hx rfl (hb hby at_98) rfl ?_
        show Steps p.tables e below (T42.setTop (mkF m 99 #[.val (.int p0), .val (.int p1), .val (.int p2), .val (.int p3), .val (.int v1), .val (.int v2), .val (.int (2 : Int32)), .val (.int v5), .val (.int v7), .val (.int v9), .val (.int v11), .val (.ref b12), .val (.int (0 : Int32)), .unset, .unset] [(.int (p3 &&& (2147483647 : Int32)))])) t
        refine XS.iload X42.here hx rfl (hb hby at_99) rfl ?_
        show Steps p.tables e below (T42.setTop (mkF m 101 #[.val (.int p0), .val (.int p1), .val (.int p2), .val (.int p3), .val (.int v1), .val (.int v2), .val (.int (2 : Int32)), .val (.int v5), .val (.int v7), .val (.int v9), .val (.int v11), .val (.ref b12), .val (.int (0 : Int32)), .unset, .unset] [(.int (2 : Int32)), (.int (p3 &&& (2147483647 : Int32)))])) t
        refine Jvm.RoadKit.iremM (g := (mkF m 101 #[.val (.int p0), .val (.int p1), .val (.int p2), .val (.int p3), .val (.int v1), .val (.int v2), .val (.int (2 : Int32)), .val (.int v5), .val (.int v7), .val (.int v9), .val (.int v11), .val (.ref b12), .val (.int (0 : Int32)), .unset, .unset] [(.int (2 : Int32)), (.int (p3 &&& (2147483647 : Int32)))])) X42 hx rfl (hb hby at_101) rfl hnz43 ?_
        show Steps p.tables e below (T42.setTop (mkF m 102 #[.val (.int p0), .val (.int p1), .val (.int p2), .val (.int p3), .val (.int v1), .val (.int v2), .val (.int (2 : Int32)), .val (.int v5), .val (.int v7), .val (.int v9), .val (.int v11), .val (.ref b12), .val (.int (0 : Int32)), .unset, .unset] [(.int ((p3 &&& (2147483647 : Int32)) % (2 : Int32)))])) t
        refine Own.nmI hv44 ?_
        show Steps p.tables e below (T42.setTop (mkF m 102 #[.val (.int p0), .val (.int p1), .val (.int p2), .val (.int p3), .val (.int v1), .val (.int v2), .val (.int (2 : Int32)), .val (.int v5), .val (.int v7), .val (.int v9), .val (.int v11), .val (.ref b12), .val (.int (0 : Int32)), .unset, .unset] [(.int v44)])) t
        refine XS.istore X42.here hx rfl (hb hby at_102) rfl (l' := #[.val (.int p0), .val (.int p1), .val (.int p2), .val (.int p3), .val (.int v1), .val (.int v2), .val (.int (2 : Int32)), .val (.int v5), .val (.int v7), .val (.int v9), .val (.int v11), .val (.ref b12), .val (.int v44), .unset, .unset]) rfl ?_
        show Steps p.tables e below (T42.setTop (mkF m 104 #[.val (.int p0), .val (.int p1), .val (.int p2), .val (.int p3), .val (.int v1), .val (.int v2), .val (.int (2 : Int32)), .val (.int v5), .val (.int v7), .val (.int v9), .val (.int v11), .val (.ref b12), .val (.int v44), .unset, .unset] [])) t
        refine XS.iload X42.here hx rfl (hb hby at_104) rfl ?_
        show Steps p.tables e below (T42.setTop (mkF m 106 #[.val (.int p0), .val (.int p1), .val (.int p2), .val (.int p3), .val (.int v1), .val (.int v2), .val (.int (2 : Int32)), .val (.int v5), .val (.int v7), .val (.int v9), .val (.int v11), .val (.ref b12), .val (.int v44), .unset, .unset] [(.int (2 : Int32))])) t
        refine XS.iconst X42.here hx rfl (hb hby at_106) ?_
        show Steps p.tables e below (T42.setTop (mkF m 107 #[.val (.int p0), .val (.int p1), .val (.int p2), .val (.int p3), .val (.int v1), .val (.int v2), .val (.int (2 : Int32)), .val (.int v5), .val (.int v7), .val (.int v9), .val (.int v11), .val (.ref b12), .val (.int v44), .unset, .unset] [(.int (1 : Int32)), (.int (2 : Int32))])) t
        refine XS.icmpYes X42.here hx rfl (pc0 := 107) (pc' := 115) rfl (hb hby at_107) rfl (by decide) (by decide) (by decide) ?_
        show Steps p.tables e below (T42.setTop (mkF m 115 #[.val (.int p0), .val (.int p1), .val (.int p2), .val (.int p3), .val (.int v1), .val (.int v2), .val (.int (2 : Int32)), .val (.int v5), .val (.int v7), .val (.int v9), .val (.int v11), .val (.ref b12), .val (.int v44), .unset, .unset] [])) t
        refine XS.iload X42.here hx rfl (hb hby at_115) rfl ?_
        show Steps p.tables e below (T42.setTop (mkF m 117 #[.val (.int p0), .val (.int p1), .val (.int p2), .val (.int p3), .val (.int v1), .val (.int v2), .val (.int (2 : Int32)), .val (.int v5), .val (.int v7), .val (.int v9), .val (.int v11), .val (.ref b12), .val (.int v44), .unset, .unset] [(.int v11)])) t
        refine XS.istore X42.here hx rfl (hb hby at_117) rfl (l' := #[.val (.int p0), .val (.int p1), .val (.int p2), .val (.int p3), .val (.int v1), .val (.int v2), .val (.int (2 : Int32)), .val (.int v5), .val (.int v7), .val (.int v9), .val (.int v11), .val (.ref b12), .val (.int v44), .val (.int v11), .unset]) rfl ?_
        show Steps p.tables e below (T42.setTop (mkF m 119 #[.val (.int p0), .val (.int p1), .val (.int p2), .val (.int p3), .val (.int v1), .val (.int v2), .val (.int (2 : Int32)), .val (.int v5), .val (.int v7), .val (.int v9), .val (.int v11), .val (.ref b12), .val (.int v44), .val (.int v11), .unset] [])) t
        refine XS.iload X42.here hx rfl (hb hby at_119) rfl ?_
        show Steps p.tables e below (T42.setTop (mkF m 121 #[.val (.int p0), .val (.int p1), .val (.int p2), .val (.int p3), .val (.int v1), .val (.int v2), .val (.int (2 : Int32)), .val (.int v5), .val (.int v7), .val (.int v9), .val (.int v11), .val (.ref b12), .val (.int v44), .val (.int v11), .unset] [(.int v44)])) t
        exact k
      by_cases hc45 : v44 = (0 : Int32)
      · refine hD _ (T42.setTop (mkF m 124 #[.val (.int p0), .val (.int p1), .val (.int p2), .val (.int p3), .val (.int v1), .val (.int v2), .val (.int (2 : Int32)), .val (.int v5), .val (.int v7), .val (.int v9), .val (.int v11), .val (.ref b12), .val (.int v44), .val (.int v11), .unset] [])) (fun t k => ?_) ?_
        · show Steps p.tables e below (T42.setTop (mkF m 121 #[.val (.int p0), .val (.int p1), .val (.int p2), .val (.int p3), .val (.int v1), .val (.int v2), .val (.int (2 : Int32)), .val (.int v5), .val (.int v7), .val (.int v9), .val (.int v11), .val (.ref b12), .val (.int v44), .val (.int v11), .unset] [(.int v44)])) t
          refine XS.ifNo X42.here hx rfl (hb hby at_121) rfl ((if0 _ _).trans (teq hc45).2) ?_
          show Steps p.tables e below (T42.setTop (mkF m 124 #[.val (.int p0), .val (.int p1), .val (.int p2), .val (.int p3), .val (.int v1), .val (.int v2), .val (.int (2 : Int32)), .val (.int v5), .val (.int v7), .val (.int v9), .val (.int v11), .val (.ref b12), .val (.int v44), .val (.int v11), .unset] [])) t
          exact k
        have hl12 : v44 = 0 := hc45
        subst hl12
        obtain ⟨T46, _, L46, X46, ⟨rfl, Nq46, E46, FccwNext_46, FcwNext_46, FfirstOut_46, Ac_46, Aw_46, Af_46⟩, st46⟩ := Own.callV (y := (⟨"com/example/libgriddraw/libgriddraw/core/RotationSystem", "insertClockwiseOf", "(III)V"⟩ : MethodName)) (W := 0) (argsL := [(.int v11), (.int v1), (.int v7)]) (rest := []) (a := b12) X42 hx hZ hown (hw _ (List.mem_of_getElem? (i := 28) rfl)) (hw _ (List.mem_of_getElem? (i := 29) rfl)) (hw _ (List.mem_of_getElem? (i := 31) rfl)) (hw _ (List.mem_of_getElem? (i := 30) rfl)) (hw _ (List.mem_of_getElem? (i := 7) rfl)) (hw _ (List.mem_of_getElem? (i := 32) rfl)) (by decide) rfl E42 (rm6 l Z a0 hw [] b12 v11 v1 v7 rc16 rw16 rf16 (own_up (own_up (own_up (fun _ => 0) v7 v7) ((own_up (fun _ => 0) v7 v7) v7.toInt.toNat) v9) v9 v7) (own_up (own_up (own_up (fun _ => 0) v7 v7) v9 ((own_up (fun _ => 0) v7 v7) v7.toInt.toNat)) v7 v9) (own_up (fun _ => (-1 : Int32)) v1 v7) T42.heap n0 Z42 g0_b12 l1_16 l2_16 l3_16 (by subst hv2 hv7 hv9 hv11; rcases own_s4 hv5 with rfl | rfl | rfl | rfl <;> rcases own_o2 hv1 with rfl | rfl <;> decide +kernel) (by subst hv2 hv7 hv9 hv11; rcases own_s4 hv5 with rfl | rfl | rfl | rfl <;> rcases own_o2 hv1 with rfl | rfl <;> decide +kernel) (by subst hv2 hv7 hv9 hv11; rcases own_s4 hv5 with rfl | rfl | rfl | rfl <;> rcases own_o2 hv1 with rfl | rfl <;> decide +kernel) (by subst hv2 hv7 hv9 hv11; rcases own_s4 hv5 with rfl | rfl | rfl | rfl <;> rcases own_o2 hv1 with rfl | rfl <;> decide +kernel) E42 FccwNext_42 FcwNext_42 FfirstOut_42 Ac_42 Aw_42 Af_42) (by decide) (by decide) (by decide) (by decide) (g := (mkF m 141 #[.val (.int p0), .val (.int p1), .val (.int p2), .val (.int p3), .val (.int v1), .val (.int v2), .val (.int (2 : Int32)), .val (.int v5), .val (.int v7), .val (.int v9), .val (.int v11), .val (.ref b12), .val (.int (0 : Int32)), .val (.int v11), .val (.int v7)] [(.int v7), (.int v1), (.int v11), (.ref b12)])) rfl (by rw [hml]; rfl) (lenOf pd_4 rfl) rfl (by show 2 * 0 + _ ≤ _; exact Nat.le_of_eq rfl) (hb hby at_141)
        have N46 := Fr.app N42 Nq46
        have Z46 : n0 ≤ T46.heap.size := Nat.le_trans g0_b12 (Nat.le_of_lt E46.lt)
        obtain ⟨T47, _, L47, X47, ⟨rfl, Nq47, e47⟩, st47⟩ := Own.callV (y := (⟨"com/example/libgriddraw/libgriddraw/core/RotationSystem", "firstOut", "(I)I"⟩ : MethodName)) (W := 0) (argsL := [(.int v1)]) (rest := []) (a := b12) X46 hx hZ hown (hw _ (List.mem_of_getElem? (i := 33) rfl)) (hw _ (List.mem_of_getElem? (i := 34) rfl)) (hw _ (List.mem_of_getElem? (i := 36) rfl)) (hw _ (List.mem_of_getElem? (i := 35) rfl)) (hw _ (List.mem_of_getElem? (i := 7) rfl)) (hw _ (List.mem_of_getElem? (i := 37) rfl)) (by decide) rfl E46 (rm7 l Z a0 hw [] b12 v1 rf16 (own_up (fun _ => (-1 : Int32)) v1 v7) T46.heap n0 (by subst hv2 hv7 hv9 hv11; rcases own_s4 hv5 with rfl | rfl | rfl | rfl <;> rcases own_o2 hv1 with rfl | rfl <;> decide +kernel) FfirstOut_46 Af_46) (by decide) (by decide) (by decide) (by decide) (g := (mkF m 148 #[.val (.int p0), .val (.int p1), .val (.int p2), .val (.int p3), .val (.int v1), .val (.int v2), .val (.int (2 : Int32)), .val (.int v5), .val (.int v7), .val (.int v9), .val (.int v11), .val (.ref b12), .val (.int (0 : Int32)), .val (.int v11), .val (.int v7)] [(.int v1), (.ref b12)])) rfl (by rw [hml]; rfl) (lenOf pd_5 rfl) rfl (by show 2 * 0 + _ ≤ _; exact Nat.le_of_eq rfl) (hb hby at_148)
        have N47 := Fr.app N46 Nq47
        refine hD _ (T47.setTop (mkF m 153 #[.val (.int p0), .val (.int p1), .val (.int p2), .val (.int p3), .val (.int v1), .val (.int v2), .val (.int (2 : Int32)), .val (.int v5), .val (.int v7), .val (.int v9), .val (.int v11), .val (.ref b12), .val (.int (0 : Int32)), .val (.int v11), .val (.int v7)] [(.int v7), (.int ((own_up (fun _ => (-1 : Int32)) v1 v7) v1.toInt.toNat))])) (fun t k => ?_) ?_
        · show Steps p.tables e below (T42.setTop (mkF m 124 #[.val (.int p0), .val (.int p1), .val (.int p2), .val (.int p3), .val (.int v1), .val (.int v2), .val (.int (2 : Int32)), .val (.int v5), .val (.int v7), .val (.int v9), .val (.int v11), .val (.ref b12), .val (.int (0 : Int32)), .val (.int v11), .unset] [])) t
          refine XS.iload X42.here hx rfl (hb hby at_124) rfl ?_
          show Steps p.tables e below (T42.setTop (mkF m 126 #[.val (.int p0), .val (.int p1), .val (.int p2), .val (.int p3), .val (.int v1), .val (.int v2), .val (.int (2 : Int32)), .val (.int v5), .val (.int v7), .val (.int v9), .val (.int v11), .val (.ref b12), .val (.int (0 : Int32)), .val (.int v11), .unset] [(.int v7)])) t
          refine XS.goto X42.here hx rfl (pc0 := 126) (pc' := 131) rfl (hb hby at_126) (by decide) (by decide) ?_
          show Steps p.tables e below (T42.setTop (mkF m 131 #[.val (.int p0), .val (.int p1), .val (.int p2), .val (.int p3), .val (.int v1), .val (.int v2), .val (.int (2 : Int32)), .val (.int v5), .val (.int v7), .val (.int v9), .val (.int v11), .val (.ref b12), .val (.int (0 : Int32)), .val (.int v11), .unset] [(.int v7)])) t
          refine XS.istore X42.here hx rfl (hb hby at_131) rfl (l' := #[.val (.int p0), .val (.int p1), .val (.int p2), .val (.int p3), .val (.int v1), .val (.int v2), .val (.int (2 : Int32)), .val (.int v5), .val (.int v7), .val (.int v9), .val (.int v11), .val (.ref b12), .val (.int (0 : Int32)), .val (.int v11), .val (.int v7)]) rfl ?_
          show Steps p.tables e below (T42.setTop (mkF m 133 #[.val (.int p0), .val (.int p1), .val (.int p2), .val (.int p3), .val (.int v1), .val (.int v2), .val (.int (2 : Int32)), .val (.int v5), .val (.int v7), .val (.int v9), .val (.int v11), .val (.ref b12), .val (.int (0 : Int32)), .val (.int v11), .val (.int v7)] [])) t
          refine XS.aload X42.here hx rfl (hb hby at_133) rfl rfl ?_
          show Steps p.tables e below (T42.setTop (mkF m 135 #[.val (.int p0), .val (.int p1), .val (.int p2), .val (.int p3), .val (.int v1), .val (.int v2), .val (.int (2 : Int32)), .val (.int v5), .val (.int v7), .val (.int v9), .val (.int v11), .val (.ref b12), .val (.int (0 : Int32)), .val (.int v11), .val (.int v7)] [(.ref b12)])) t
          refine XS.iload X42.here hx rfl (hb hby at_135) rfl ?_
          show Steps p.tables e below (T42.setTop (mkF m 137 #[.val (.int p0), .val (.int p1), .val (.int p2), .val (.int p3), .val (.int v1), .val (.int v2), .val (.int (2 : Int32)), .val (.int v5), .val (.int v7), .val (.int v9), .val (.int v11), .val (.ref b12), .val (.int (0 : Int32)), .val (.int v11), .val (.int v7)] [(.int v11), (.ref b12)])) t
          refine XS.iload X42.here hx rfl (hb hby at_137) rfl ?_
          show Steps p.tables e below (T42.setTop (mkF m 139 #[.val (.int p0), .val (.int p1), .val (.int p2), .val (.int p3), .val (.int v1), .val (.int v2), .val (.int (2 : Int32)), .val (.int v5), .val (.int v7), .val (.int v9), .val (.int v11), .val (.ref b12), .val (.int (0 : Int32)), .val (.int v11), .val (.int v7)] [(.int v1), (.int v11), (.ref b12)])) t
          refine XS.iload X42.here hx rfl (hb hby at_139) rfl ?_
          show Steps p.tables e below (T42.setTop (mkF m 141 #[.val (.int p0), .val (.int p1), .val (.int p2), .val (.int p3), .val (.int v1), .val (.int v2), .val (.int (2 : Int32)), .val (.int v5), .val (.int v7), .val (.int v9), .val (.int v11), .val (.ref b12), .val (.int (0 : Int32)), .val (.int v11), .val (.int v7)] [(.int v7), (.int v1), (.int v11), (.ref b12)])) t
          refine st46 _ ?_
          show Steps p.tables e below (T46.setTop (mkF m 144 #[.val (.int p0), .val (.int p1), .val (.int p2), .val (.int p3), .val (.int v1), .val (.int v2), .val (.int (2 : Int32)), .val (.int v5), .val (.int v7), .val (.int v9), .val (.int v11), .val (.ref b12), .val (.int (0 : Int32)), .val (.int v11), .val (.int v7)] [])) t
          refine XS.aload X46.here hx rfl (hb hby at_144) rfl rfl ?_
          show Steps p.tables e below (T46.setTop (mkF m 146 #[.val (.int p0), .val (.int p1), .val (.int p2), .val (.int p3), .val (.int v1), .val (.int v2), .val (.int (2 : Int32)), .val (.int v5), .val (.int v7), .val (.int v9), .val (.int v11), .val (.ref b12), .val (.int (0 : Int32)), .val (.int v11), .val (.int v7)] [(.ref b12)])) t
          refine XS.iload X46.here hx rfl (hb hby at_146) rfl ?_
          show Steps p.tables e below (T46.setTop (mkF m 148 #[.val (.int p0), .val (.int p1), .val (.int p2), .val (.int p3), .val (.int v1), .val (.int v2), .val (.int (2 : Int32)), .val (.int v5), .val (.int v7), .val (.int v9), .val (.int v11), .val (.ref b12), .val (.int (0 : Int32)), .val (.int v11), .val (.int v7)] [(.int v1), (.ref b12)])) t
          refine st47 _ ?_
          show Steps p.tables e below (T47.setTop (mkF m 151 #[.val (.int p0), .val (.int p1), .val (.int p2), .val (.int p3), .val (.int v1), .val (.int v2), .val (.int (2 : Int32)), .val (.int v5), .val (.int v7), .val (.int v9), .val (.int v11), .val (.ref b12), .val (.int (0 : Int32)), .val (.int v11), .val (.int v7)] [(.int ((own_up (fun _ => (-1 : Int32)) v1 v7) v1.toInt.toNat))])) t
          refine XS.iload X47.here hx rfl (hb hby at_151) rfl ?_
          show Steps p.tables e below (T47.setTop (mkF m 153 #[.val (.int p0), .val (.int p1), .val (.int p2), .val (.int p3), .val (.int v1), .val (.int v2), .val (.int (2 : Int32)), .val (.int v5), .val (.int v7), .val (.int v9), .val (.int v11), .val (.ref b12), .val (.int (0 : Int32)), .val (.int v11), .val (.int v7)] [(.int v7), (.int ((own_up (fun _ => (-1 : Int32)) v1 v7) v1.toInt.toNat))])) t
          exact k
        have hc48 : ((own_up (fun _ => (-1 : Int32)) v1 v7) v1.toInt.toNat) = v7 := by subst hv2 hv7 hv9 hv11; rcases own_s4 hv5 with rfl | rfl | rfl | rfl <;> rcases own_o2 hv1 with rfl | rfl <;> decide +kernel
        obtain ⟨T49, _, L49, X49, ⟨rfl, Nq49, e49⟩, st49⟩ := Own.callV (y := (⟨"com/example/libgriddraw/libgriddraw/core/RotationSystem", "firstOut", "(I)I"⟩ : MethodName)) (W := 0) (argsL := [(.int v2)]) (rest := []) (a := b12) X47 hx hZ hown (hw _ (List.mem_of_getElem? (i := 33) rfl)) (hw _ (List.mem_of_getElem? (i := 34) rfl)) (hw _ (List.mem_of_getElem? (i := 36) rfl)) (hw _ (List.mem_of_getElem? (i := 35) rfl)) (hw _ (List.mem_of_getElem? (i := 7) rfl)) (hw _ (List.mem_of_getElem? (i := 37) rfl)) (by decide) e47 E46 (rm7 l Z a0 hw [] b12 v2 rf16 (own_up (fun _ => (-1 : Int32)) v1 v7) T46.heap n0 (by subst hv2 hv7 hv9 hv11; rcases own_s4 hv5 with rfl | rfl | rfl | rfl <;> rcases own_o2 hv1 with rfl | rfl <;> decide +kernel) FfirstOut_46 Af_46) (by decide) (by decide) (by decide) (by decide) (g := (mkF m 160 #[.val (.int p0), .val (.int p1), .val (.int p2), .val (.int p3), .val (.int v1), .val (.int v2), .val (.int (2 : Int32)), .val (.int v5), .val (.int v7), .val (.int v9), .val (.int v11), .val (.ref b12), .val (.int (0 : Int32)), .val (.int v11), .val (.int v7)] [(.int v2), (.ref b12)])) rfl (by rw [hml]; rfl) (lenOf pd_5 rfl) rfl (by show 2 * 0 + _ ≤ _; exact Nat.le_of_eq rfl) (hb hby at_160)
        have N49 := Fr.app N47 Nq49
        refine hD _ (T49.setTop (mkF m 164 #[.val (.int p0), .val (.int p1), .val (.int p2), .val (.int p3), .val (.int v1), .val (.int v2), .val (.int (2 : Int32)), .val (.int v5), .val (.int v7), .val (.int v9), .val (.int v11), .val (.ref b12), .val (.int (0 : Int32)), .val (.int v11), .val (.int v7)] [(.int (-1 : Int32)), (.int ((own_up (fun _ => (-1 : Int32)) v1 v7) v2.toInt.toNat))])) (fun t k => ?_) ?_
        · show Steps p.tables e below (T47.setTop (mkF m 153 #[.val (.int p0), .val (.int p1), .val (.int p2), .val (.int p3), .val (.int v1), .val (.int v2), .val (.int (2 : Int32)), .val (.int v5), .val (.int v7), .val (.int v9), .val (.int v11), .val (.ref b12), .val (.int (0 : Int32)), .val (.int v11), .val (.int v7)] [(.int v7), (.int ((own_up (fun _ => (-1 : Int32)) v1 v7) v1.toInt.toNat))])) t
          refine XS.icmpNo X47.here hx rfl (hb hby at_153) rfl (teq hc48).2 ?_
          show Steps p.tables e below (T47.setTop (mkF m 156 #[.val (.int p0), .val (.int p1), .val (.int p2), .val (.int p3), .val (.int v1), .val (.int v2), .val (.int (2 : Int32)), .val (.int v5), .val (.int v7), .val (.int v9), .val (.int v11), .val (.ref b12), .val (.int (0 : Int32)), .val (.int v11), .val (.int v7)] [])) t
          refine XS.aload X47.here hx rfl (hb hby at_156) rfl rfl ?_
          show Steps p.tables e below (T47.setTop (mkF m 158 #[.val (.int p0), .val (.int p1), .val (.int p2), .val (.int p3), .val (.int v1), .val (.int v2), .val (.int (2 : Int32)), .val (.int v5), .val (.int v7), .val (.int v9), .val (.int v11), .val (.ref b12), .val (.int (0 : Int32)), .val (.int v11), .val (.int v7)] [(.ref b12)])) t
          refine XS.iload X47.here hx rfl (hb hby at_158) rfl ?_
          show Steps p.tables e below (T47.setTop (mkF m 160 #[.val (.int p0), .val (.int p1), .val (.int p2), .val (.int p3), .val (.int v1), .val (.int v2), .val (.int (2 : Int32)), .val (.int v5), .val (.int v7), .val (.int v9), .val (.int v11), .val (.ref b12), .val (.int (0 : Int32)), .val (.int v11), .val (.int v7)] [(.int v2), (.ref b12)])) t
          refine st49 _ ?_
          show Steps p.tables e below (T49.setTop (mkF m 163 #[.val (.int p0), .val (.int p1), .val (.int p2), .val (.int p3), .val (.int v1), .val (.int v2), .val (.int (2 : Int32)), .val (.int v5), .val (.int v7), .val (.int v9), .val (.int v11), .val (.ref b12), .val (.int (0 : Int32)), .val (.int v11), .val (.int v7)] [(.int ((own_up (fun _ => (-1 : Int32)) v1 v7) v2.toInt.toNat))])) t
          refine XS.iconst X49.here hx rfl (hb hby at_163) ?_
          show Steps p.tables e below (T49.setTop (mkF m 164 #[.val (.int p0), .val (.int p1), .val (.int p2), .val (.int p3), .val (.int v1), .val (.int v2), .val (.int (2 : Int32)), .val (.int v5), .val (.int v7), .val (.int v9), .val (.int v11), .val (.ref b12), .val (.int (0 : Int32)), .val (.int v11), .val (.int v7)] [(.int (-1 : Int32)), (.int ((own_up (fun _ => (-1 : Int32)) v1 v7) v2.toInt.toNat))])) t
          exact k
        have hc50 : ((own_up (fun _ => (-1 : Int32)) v1 v7) v2.toInt.toNat) = (-1 : Int32) := by subst hv2 hv7 hv9 hv11; rcases own_s4 hv5 with rfl | rfl | rfl | rfl <;> rcases own_o2 hv1 with rfl | rfl <;> decide +kernel
        obtain ⟨T51, _, L51, X51, ⟨rfl, Nq51, e51⟩, st51⟩ := Own.callV (y := (⟨"com/example/libgriddraw/libgriddraw/core/RotationSystem", "cwNext", "(I)I"⟩ : MethodName)) (W := 0) (argsL := [(.int v7)]) (rest := []) (a := b12) X49 hx hZ hown (hw _ (List.mem_of_getElem? (i := 38) rfl)) (hw _ (List.mem_of_getElem? (i := 39) rfl)) (hw _ (List.mem_of_getElem? (i := 41) rfl)) (hw _ (List.mem_of_getElem? (i := 40) rfl)) (hw _ (List.mem_of_getElem? (i := 7) rfl)) (hw _ (List.mem_of_getElem? (i := 42) rfl)) (by decide) e49 E46 (rm8 l Z a0 hw [] b12 v7 rw16 (own_up (own_up (own_up (own_up (own_up (fun _ => 0) v7 v7) v9 ((own_up (fun _ => 0) v7 v7) v7.toInt.toNat)) v7 v9) v11 ((own_up (own_up (own_up (fun _ => 0) v7 v7) v9 ((own_up (fun _ => 0) v7 v7) v7.toInt.toNat)) v7 v9) v7.toInt.toNat)) v7 v11) T46.heap n0 (by subst hv2 hv7 hv9 hv11; rcases own_s4 hv5 with rfl | rfl | rfl | rfl <;> rcases own_o2 hv1 with rfl | rfl <;> decide +kernel) FcwNext_46 Aw_46) (by decide) (by decide) (by decide) (by decide) (g := (mkF m 183 #[.val (.int p0), .val (.int p1), .val (.int p2), .val (.int p3), .val (.int v1), .val (.int v2), .val (.int (2 : Int32)), .val (.int v5), .val (.int v7), .val (.int v9), .val (.int v11), .val (.ref b12), .val (.int (0 : Int32)), .val (.int (1 : Int32)), .val (.int v7)] [(.int v7), (.ref b12)])) rfl (by rw [hml]; rfl) (lenOf pd_5 rfl) rfl (by show 2 * 0 + _ ≤ _; exact Nat.le_of_eq rfl) (hb hby at_183)
        have N51 := Fr.app N49 Nq51
        obtain ⟨T52, _, L52, X52, ⟨rfl, Nq52, e52⟩, st52⟩ := Own.callS (y := (⟨"com/example/libgriddraw/libgriddraw/core/RotationSystemInsertClockwiseOfPinLaw", "expCw", "(IIII)I"⟩ : MethodName)) (W := 1) (argsL := [(.int (0 : Int32)), (.int (2 : Int32)), (.int (0 : Int32)), (.int v5)]) (rest := [(.int ((own_up (own_up (own_up (own_up (own_up (fun _ => 0) v7 v7) v9 ((own_up (fun _ => 0) v7 v7) v7.toInt.toNat)) v7 v9) v11 ((own_up (own_up (own_up (fun _ => 0) v7 v7) v9 ((own_up (fun _ => 0) v7 v7) v7.toInt.toNat)) v7 v9) v7.toInt.toNat)) v7 v11) v7.toInt.toNat))]) X51 hx hZ hown (hw _ (List.mem_of_getElem? (i := 43) rfl)) (hw _ (List.mem_of_getElem? (i := 44) rfl)) (hw _ (List.mem_of_getElem? (i := 3) rfl)) (hw _ (List.mem_of_getElem? (i := 45) rfl)) (by decide) e51 (rm20 l Z a0 hw [] (0 : Int32) (2 : Int32) (0 : Int32) v5  T46.heap n0 ) (by decide) (by decide) (by decide) (by decide) (g := (mkF m 193 #[.val (.int p0), .val (.int p1), .val (.int p2), .val (.int p3), .val (.int v1), .val (.int v2), .val (.int (2 : Int32)), .val (.int v5), .val (.int v7), .val (.int v9), .val (.int v11), .val (.ref b12), .val (.int (0 : Int32)), .val (.int (1 : Int32)), .val (.int v7)] [(.int v5), (.int (0 : Int32)), (.int (2 : Int32)), (.int (0 : Int32)), (.int ((own_up (own_up (own_up (own_up (own_up (fun _ => 0) v7 v7) v9 ((own_up (fun _ => 0) v7 v7) v7.toInt.toNat)) v7 v9) v11 ((own_up (own_up (own_up (fun _ => 0) v7 v7) v9 ((own_up (fun _ => 0) v7 v7) v7.toInt.toNat)) v7 v9) v7.toInt.toNat)) v7 v11) v7.toInt.toNat))])) rfl (by rw [hml]; rfl) (lenOf pd_6 rfl) rfl (by show 2 * 0 + _ ≤ _; exact Nat.le_of_eq rfl) (hb hby at_193)
        have N52 := Fr.app N51 Nq52
        refine hD _ (T52.setTop (mkF m 196 #[.val (.int p0), .val (.int p1), .val (.int p2), .val (.int p3), .val (.int v1), .val (.int v2), .val (.int (2 : Int32)), .val (.int v5), .val (.int v7), .val (.int v9), .val (.int v11), .val (.ref b12), .val (.int (0 : Int32)), .val (.int (1 : Int32)), .val (.int v7)] [(.int (own_ecw (0 : Int32) (2 : Int32) (0 : Int32) v5)), (.int ((own_up (own_up (own_up (own_up (own_up (fun _ => 0) v7 v7) v9 ((own_up (fun _ => 0) v7 v7) v7.toInt.toNat)) v7 v9) v11 ((own_up (own_up (own_up (fun _ => 0) v7 v7) v9 ((own_up (fun _ => 0) v7 v7) v7.toInt.toNat)) v7 v9) v7.toInt.toNat)) v7 v11) v7.toInt.toNat))])) (fun t k => ?_) ?_
        · show Steps p.tables e below (T49.setTop (mkF m 164 #[.val (.int p0), .val (.int p1), .val (.int p2), .val (.int p3), .val (.int v1), .val (.int v2), .val (.int (2 : Int32)), .val (.int v5), .val (.int v7), .val (.int v9), .val (.int v11), .val (.ref b12), .val (.int (0 : Int32)), .val (.int v11), .val (.int v7)] [(.int (-1 : Int32)), (.int ((own_up (fun _ => (-1 : Int32)) v1 v7) v2.toInt.toNat))])) t
          refine XS.icmpNo X49.here hx rfl (hb hby at_164) rfl (teq hc50).2 ?_
          show Steps p.tables e below (T49.setTop (mkF m 167 #[.val (.int p0), .val (.int p1), .val (.int p2), .val (.int p3), .val (.int v1), .val (.int v2), .val (.int (2 : Int32)), .val (.int v5), .val (.int v7), .val (.int v9), .val (.int v11), .val (.ref b12), .val (.int (0 : Int32)), .val (.int v11), .val (.int v7)] [])) t
          refine XS.iconst X49.here hx rfl (hb hby at_167) ?_
          show Steps p.tables e below (T49.setTop (mkF m 168 #[.val (.int p0), .val (.int p1), .val (.int p2), .val (.int p3), .val (.int v1), .val (.int v2), .val (.int (2 : Int32)), .val (.int v5), .val (.int v7), .val (.int v9), .val (.int v11), .val (.ref b12), .val (.int (0 : Int32)), .val (.int v11), .val (.int v7)] [(.int (1 : Int32))])) t
          refine XS.goto X49.here hx rfl (pc0 := 168) (pc' := 172) rfl (hb hby at_168) (by decide) (by decide) ?_
          show Steps p.tables e below (T49.setTop (mkF m 172 #[.val (.int p0), .val (.int p1), .val (.int p2), .val (.int p3), .val (.int v1), .val (.int v2), .val (.int (2 : Int32)), .val (.int v5), .val (.int v7), .val (.int v9), .val (.int v11), .val (.ref b12), .val (.int (0 : Int32)), .val (.int v11), .val (.int v7)] [(.int (1 : Int32))])) t
          refine XS.istore X49.here hx rfl (hb hby at_172) rfl (l' := #[.val (.int p0), .val (.int p1), .val (.int p2), .val (.int p3), .val (.int v1), .val (.int v2), .val (.int (2 : Int32)), .val (.int v5), .val (.int v7), .val (.int v9), .val (.int v11), .val (.ref b12), .val (.int (0 : Int32)), .val (.int (1 : Int32)), .val (.int v7)]) rfl ?_
          show Steps p.tables e below (T49.setTop (mkF m 174 #[.val (.int p0), .val (.int p1), .val (.int p2), .val (.int p3), .val (.int v1), .val (.int v2), .val (.int (2 : Int32)), .val (.int v5), .val (.int v7), .val (.int v9), .val (.int v11), .val (.ref b12), .val (.int (0 : Int32)), .val (.int (1 : Int32)), .val (.int v7)] [])) t
          refine XS.iload X49.here hx rfl (hb hby at_174) rfl ?_
          show Steps p.tables e below (T49.setTop (mkF m 176 #[.val (.int p0), .val (.int p1), .val (.int p2), .val (.int p3), .val (.int v1), .val (.int v2), .val (.int (2 : Int32)), .val (.int v5), .val (.int v7), .val (.int v9), .val (.int v11), .val (.ref b12), .val (.int (0 : Int32)), .val (.int (1 : Int32)), .val (.int v7)] [(.int (1 : Int32))])) t
          refine XS.ifNo X49.here hx rfl (hb hby at_176) rfl (by decide) ?_
          show Steps p.tables e below (T49.setTop (mkF m 179 #[.val (.int p0), .val (.int p1), .val (.int p2), .val (.int p3), .val (.int v1), .val (.int v2), .val (.int (2 : Int32)), .val (.int v5), .val (.int v7), .val (.int v9), .val (.int v11), .val (.ref b12), .val (.int (0 : Int32)), .val (.int (1 : Int32)), .val (.int v7)] [])) t
          refine XS.aload X49.here hx rfl (hb hby at_179) rfl rfl ?_
          show Steps p.tables e below (T49.setTop (mkF m 181 #[.val (.int p0), .val (.int p1), .val (.int p2), .val (.int p3), .val (.int v1), .val (.int v2), .val (.int (2 : Int32)), .val (.int v5), .val (.int v7), .val (.int v9), .val (.int v11), .val (.ref b12), .val (.int (0 : Int32)), .val (.int (1 : Int32)), .val (.int v7)] [(.ref b12)])) t
          refine XS.iload X49.here hx rfl (hb hby at_181) rfl ?_
          show Steps p.tables e below (T49.setTop (mkF m 183 #[.val (.int p0), .val (.int p1), .val (.int p2), .val (.int p3), .val (.int v1), .val (.int v2), .val (.int (2 : Int32)), .val (.int v5), .val (.int v7), .val (.int v9), .val (.int v11), .val (.ref b12), .val (.int (0 : Int32)), .val (.int (1 : Int32)), .val (.int v7)] [(.int v7), (.ref b12)])) t
          refine st51 _ ?_
          show Steps p.tables e below (T51.setTop (mkF m 186 #[.val (.int p0), .val (.int p1), .val (.int p2), .val (.int p3), .val (.int v1), .val (.int v2), .val (.int (2 : Int32)), .val (.int v5), .val (.int v7), .val (.int v9), .val (.int v11), .val (.ref b12), .val (.int (0 : Int32)), .val (.int (1 : Int32)), .val (.int v7)] [(.int ((own_up (own_up (own_up (own_up (own_up (fun _ => 0) v7 v7) v9 ((own_up (fun _ => 0) v7 v7) v7.toInt.toNat)) v7 v9) v11 ((own_up (own_up (own_up (fun _ => 0) v7 v7) v9 ((own_up (fun _ => 0) v7 v7) v7.toInt.toNat)) v7 v9) v7.toInt.toNat)) v7 v11) v7.toInt.toNat))])) t
          refine XS.iconst X51.here hx rfl (hb hby at_186) ?_
          show Steps p.tables e below (T51.setTop (mkF m 187 #[.val (.int p0), .val (.int p1), .val (.int p2), .val (.int p3), .val (.int v1), .val (.int v2), .val (.int (2 : Int32)), .val (.int v5), .val (.int v7), .val (.int v9), .val (.int v11), .val (.ref b12), .val (.int (0 : Int32)), .val (.int (1 : Int32)), .val (.int v7)] [(.int (0 : Int32)), (.int ((own_up (own_up (own_up (own_up (own_up (fun _ => 0) v7 v7) v9 ((own_up (fun _ => 0) v7 v7) v7.toInt.toNat)) v7 v9) v11 ((own_up (own_up (own_up (fun _ => 0) v7 v7) v9 ((own_up (fun _ => 0) v7 v7) v7.toInt.toNat)) v7 v9) v7.toInt.toNat)) v7 v11) v7.toInt.toNat))])) t
          refine XS.iload X51.here hx rfl (hb hby at_187) rfl ?_
          show Steps p.tables e below (T51.setTop (mkF m 189 #[.val (.int p0), .val (.int p1), .val (.int p2), .val (.int p3), .val (.int v1), .val (.int v2), .val (.int (2 : Int32)), .val (.int v5), .val (.int v7), .val (.int v9), .val (.int v11), .val (.ref b12), .val (.int (0 : Int32)), .val (.int (1 : Int32)), .val (.int v7)] [(.int (2 : Int32)), (.int (0 : Int32)), (.int ((own_up (own_up (own_up (own_up (own_up (fun _ => 0) v7 v7) v9 ((own_up (fun _ => 0) v7 v7) v7.toInt.toNat)) v7 v9) v11 ((own_up (own_up (own_up (fun _ => 0) v7 v7) v9 ((own_up (fun _ => 0) v7 v7) v7.toInt.toNat)) v7 v9) v7.toInt.toNat)) v7 v11) v7.toInt.toNat))])) t
          refine XS.iload X51.here hx rfl (hb hby at_189) rfl ?_
          show Steps p.tables e below (T51.setTop (mkF m 191 #[.val (.int p0), .val (.int p1), .val (.int p2), .val (.int p3), .val (.int v1), .val (.int v2), .val (.int (2 : Int32)), .val (.int v5), .val (.int v7), .val (.int v9), .val (.int v11), .val (.ref b12), .val (.int (0 : Int32)), .val (.int (1 : Int32)), .val (.int v7)] [(.int (0 : Int32)), (.int (2 : Int32)), (.int (0 : Int32)), (.int ((own_up (own_up (own_up (own_up (own_up (fun _ => 0) v7 v7) v9 ((own_up (fun _ => 0) v7 v7) v7.toInt.toNat)) v7 v9) v11 ((own_up (own_up (own_up (fun _ => 0) v7 v7) v9 ((own_up (fun _ => 0) v7 v7) v7.toInt.toNat)) v7 v9) v7.toInt.toNat)) v7 v11) v7.toInt.toNat))])) t
          refine XS.iload X51.here hx rfl (hb hby at_191) rfl ?_
          show Steps p.tables e below (T51.setTop (mkF m 193 #[.val (.int p0), .val (.int p1), .val (.int p2), .val (.int p3), .val (.int v1), .val (.int v2), .val (.int (2 : Int32)), .val (.int v5), .val (.int v7), .val (.int v9), .val (.int v11), .val (.ref b12), .val (.int (0 : Int32)), .val (.int (1 : Int32)), .val (.int v7)] [(.int v5), (.int (0 : Int32)), (.int (2 : Int32)), (.int (0 : Int32)), (.int ((own_up (own_up (own_up (own_up (own_up (fun _ => 0) v7 v7) v9 ((own_up (fun _ => 0) v7 v7) v7.toInt.toNat)) v7 v9) v11 ((own_up (own_up (own_up (fun _ => 0) v7 v7) v9 ((own_up (fun _ => 0) v7 v7) v7.toInt.toNat)) v7 v9) v7.toInt.toNat)) v7 v11) v7.toInt.toNat))])) t
          refine st52 _ ?_
          show Steps p.tables e below (T52.setTop (mkF m 196 #[.val (.int p0), .val (.int p1), .val (.int p2), .val (.int p3), .val (.int v1), .val (.int v2), .val (.int (2 : Int32)), .val (.int v5), .val (.int v7), .val (.int v9), .val (.int v11), .val (.ref b12), .val (.int (0 : Int32)), .val (.int (1 : Int32)), .val (.int v7)] [(.int (own_ecw (0 : Int32) (2 : Int32) (0 : Int32) v5)), (.int ((own_up (own_up (own_up (own_up (own_up (fun _ => 0) v7 v7) v9 ((own_up (fun _ => 0) v7 v7) v7.toInt.toNat)) v7 v9) v11 ((own_up (own_up (own_up (fun _ => 0) v7 v7) v9 ((own_up (fun _ => 0) v7 v7) v7.toInt.toNat)) v7 v9) v7.toInt.toNat)) v7 v11) v7.toInt.toNat))])) t
          exact k
        have hc53 : ((own_up (own_up (own_up (own_up (own_up (fun _ => 0) v7 v7) v9 ((own_up (fun _ => 0) v7 v7) v7.toInt.toNat)) v7 v9) v11 ((own_up (own_up (own_up (fun _ => 0) v7 v7) v9 ((own_up (fun _ => 0) v7 v7) v7.toInt.toNat)) v7 v9) v7.toInt.toNat)) v7 v11) v7.toInt.toNat) = (own_ecw (0 : Int32) (2 : Int32) (0 : Int32) v5) := by subst hv2 hv7 hv9 hv11; rcases own_s4 hv5 with rfl | rfl | rfl | rfl <;> rcases own_o2 hv1 with rfl | rfl <;> decide +kernel
        obtain ⟨T54, _, L54, X54, ⟨rfl, Nq54, e54⟩, st54⟩ := Own.callV (y := (⟨"com/example/libgriddraw/libgriddraw/core/RotationSystem", "ccwNext", "(I)I"⟩ : MethodName)) (W := 0) (argsL := [(.int v7)]) (rest := []) (a := b12) X52 hx hZ hown (hw _ (List.mem_of_getElem? (i := 46) rfl)) (hw _ (List.mem_of_getElem? (i := 47) rfl)) (hw _ (List.mem_of_getElem? (i := 49) rfl)) (hw _ (List.mem_of_getElem? (i := 48) rfl)) (hw _ (List.mem_of_getElem? (i := 7) rfl)) (hw _ (List.mem_of_getElem? (i := 50) rfl)) (by decide) e52 E46 (rm9 l Z a0 hw [] b12 v7 rc16 (own_up (own_up (own_up (own_up (own_up (fun _ => 0) v7 v7) ((own_up (fun _ => 0) v7 v7) v7.toInt.toNat) v9) v9 v7) ((own_up (own_up (own_up (fun _ => 0) v7 v7) v9 ((own_up (fun _ => 0) v7 v7) v7.toInt.toNat)) v7 v9) v7.toInt.toNat) v11) v11 v7) T46.heap n0 (by subst hv2 hv7 hv9 hv11; rcases own_s4 hv5 with rfl | rfl | rfl | rfl <;> rcases own_o2 hv1 with rfl | rfl <;> decide +kernel) FccwNext_46 Ac_46) (by decide) (by decide) (by decide) (by decide) (g := (mkF m 203 #[.val (.int p0), .val (.int p1), .val (.int p2), .val (.int p3), .val (.int v1), .val (.int v2), .val (.int (2 : Int32)), .val (.int v5), .val (.int v7), .val (.int v9), .val (.int v11), .val (.ref b12), .val (.int (0 : Int32)), .val (.int (1 : Int32)), .val (.int v7)] [(.int v7), (.ref b12)])) rfl (by rw [hml]; rfl) (lenOf pd_5 rfl) rfl (by show 2 * 0 + _ ≤ _; exact Nat.le_of_eq rfl) (hb hby at_203)
        have N54 := Fr.app N52 Nq54
        obtain ⟨T55, _, L55, X55, ⟨rfl, Nq55, e55⟩, st55⟩ := Own.callS (y := (⟨"com/example/libgriddraw/libgriddraw/core/RotationSystemInsertClockwiseOfPinLaw", "expCcw", "(IIII)I"⟩ : MethodName)) (W := 1) (argsL := [(.int (0 : Int32)), (.int (2 : Int32)), (.int (0 : Int32)), (.int v5)]) (rest := [(.int ((own_up (own_up (own_up (own_up (own_up (fun _ => 0) v7 v7) ((own_up (fun _ => 0) v7 v7) v7.toInt.toNat) v9) v9 v7) ((own_up (own_up (own_up (fun _ => 0) v7 v7) v9 ((own_up (fun _ => 0) v7 v7) v7.toInt.toNat)) v7 v9) v7.toInt.toNat) v11) v11 v7) v7.toInt.toNat))]) X54 hx hZ hown (hw _ (List.mem_of_getElem? (i := 51) rfl)) (hw _ (List.mem_of_getElem? (i := 52) rfl)) (hw _ (List.mem_of_getElem? (i := 3) rfl)) (hw _ (List.mem_of_getElem? (i := 53) rfl)) (by decide) e54 (rm21 l Z a0 hw [] (0 : Int32) (2 : Int32) (0 : Int32) v5  T46.heap n0 ) (by decide) (by decide) (by decide) (by decide) (g := (mkF m 213 #[.val (.int p0), .val (.int p1), .val (.int p2), .val (.int p3), .val (.int v1), .val (.int v2), .val (.int (2 : Int32)), .val (.int v5), .val (.int v7), .val (.int v9), .val (.int v11), .val (.ref b12), .val (.int (0 : Int32)), .val (.int (1 : Int32)), .val (.int v7)] [(.int v5), (.int (0 : Int32)), (.int (2 : Int32)), (.int (0 : Int32)), (.int ((own_up (own_up (own_up (own_up (own_up (fun _ => 0) v7 v7) ((own_up (fun _ => 0) v7 v7) v7.toInt.toNat) v9) v9 v7) ((own_up (own_up (own_up (fun _ => 0) v7 v7) v9 ((own_up (fun _ => 0) v7 v7) v7.toInt.toNat)) v7 v9) v7.toInt.toNat) v11) v11 v7) v7.toInt.toNat))])) rfl (by rw [hml]; rfl) (lenOf pd_6 rfl) rfl (by show 2 * 0 + _ ≤ _; exact Nat.le_of_eq rfl) (hb hby at_213)
        have N55 := Fr.app N54 Nq55
        refine hD _ (T55.setTop (mkF m 216 #[.val (.int p0), .val (.int p1), .val (.int p2), .val (.int p3), .val (.int v1), .val (.int v2), .val (.int (2 : Int32)), .val (.int v5), .val (.int v7), .val (.int v9), .val (.int v11), .val (.ref b12), .val (.int (0 : Int32)), .val (.int (1 : Int32)), .val (.int v7)] [(.int (own_eccw (0 : Int32) (2 : Int32) (0 : Int32) v5)), (.int ((own_up (own_up (own_up (own_up (own_up (fun _ => 0) v7 v7) ((own_up (fun _ => 0) v7 v7) v7.toInt.toNat) v9) v9 v7) ((own_up (own_up (own_up (fun _ => 0) v7 v7) v9 ((own_up (fun _ => 0) v7 v7) v7.toInt.toNat)) v7 v9) v7.toInt.toNat) v11) v11 v7) v7.toInt.toNat))])) (fun t k => ?_) ?_
        · show Steps p.tables e below (T52.setTop (mkF m 196 #[.val (.int p0), .val (.int p1), .val (.int p2), .val (.int p3), .val (.int v1), .val (.int v2), .val (.int (2 : Int32)), .val (.int v5), .val (.int v7), .val (.int v9), .val (.int v11), .val (.ref b12), .val (.int (0 : Int32)), .val (.int (1 : Int32)), .val (.int v7)] [(.int (own_ecw (0 : Int32) (2 : Int32) (0 : Int32) v5)), (.int ((own_up (own_up (own_up (own_up (own_up (fun _ => 0) v7 v7) v9 ((own_up (fun _ => 0) v7 v7) v7.toInt.toNat)) v7 v9) v11 ((own_up (own_up (own_up (fun _ => 0) v7 v7) v9 ((own_up (fun _ => 0) v7 v7) v7.toInt.toNat)) v7 v9) v7.toInt.toNat)) v7 v11) v7.toInt.toNat))])) t
          refine XS.icmpNo X52.here hx rfl (hb hby at_196) rfl (teq hc53).2 ?_
          show Steps p.tables e below (T52.setTop (mkF m 199 #[.val (.int p0), .val (.int p1), .val (.int p2), .val (.int p3), .val (.int v1), .val (.int v2), .val (.int (2 : Int32)), .val (.int v5), .val (.int v7), .val (.int v9), .val (.int v11), .val (.ref b12), .val (.int (0 : Int32)), .val (.int (1 : Int32)), .val (.int v7)] [])) t
          refine XS.aload X52.here hx rfl (hb hby at_199) rfl rfl ?_
          show Steps p.tables e below (T52.setTop (mkF m 201 #[.val (.int p0), .val (.int p1), .val (.int p2), .val (.int p3), .val (.int v1), .val (.int v2), .val (.int (2 : Int32)), .val (.int v5), .val (.int v7), .val (.int v9), .val (.int v11), .val (.ref b12), .val (.int (0 : Int32)), .val (.int (1 : Int32)), .val (.int v7)] [(.ref b12)])) t
          refine XS.iload X52.here hx rfl (hb hby at_201) rfl ?_
          show Steps p.tables e below (T52.setTop (mkF m 203 #[.val (.int p0), .val (.int p1), .val (.int p2), .val (.int p3), .val (.int v1), .val (.int v2), .val (.int (2 : Int32)), .val (.int v5), .val (.int v7), .val (.int v9), .val (.int v11), .val (.ref b12), .val (.int (0 : Int32)), .val (.int (1 : Int32)), .val (.int v7)] [(.int v7), (.ref b12)])) t
          refine st54 _ ?_
          show Steps p.tables e below (T54.setTop (mkF m 206 #[.val (.int p0), .val (.int p1), .val (.int p2), .val (.int p3), .val (.int v1), .val (.int v2), .val (.int (2 : Int32)), .val (.int v5), .val (.int v7), .val (.int v9), .val (.int v11), .val (.ref b12), .val (.int (0 : Int32)), .val (.int (1 : Int32)), .val (.int v7)] [(.int ((own_up (own_up (own_up (own_up (own_up (fun _ => 0) v7 v7) ((own_up (fun _ => 0) v7 v7) v7.toInt.toNat) v9) v9 v7) ((own_up (own_up (own_up (fun _ => 0) v7 v7) v9 ((own_up (fun _ => 0) v7 v7) v7.toInt.toNat)) v7 v9) v7.toInt.toNat) v11) v11 v7) v7.toInt.toNat))])) t
          refine XS.iconst X54.here hx rfl (hb hby at_206) ?_
          show Steps p.tables e below (T54.setTop (mkF m 207 #[.val (.int p0), .val (.int p1), .val (.int p2), .val (.int p3), .val (.int v1), .val (.int v2), .val (.int (2 : Int32)), .val (.int v5), .val (.int v7), .val (.int v9), .val (.int v11), .val (.ref b12), .val (.int (0 : Int32)), .val (.int (1 : Int32)), .val (.int v7)] [(.int (0 : Int32)), (.int ((own_up (own_up (own_up (own_up (own_up (fun _ => 0) v7 v7) ((own_up (fun _ => 0) v7 v7) v7.toInt.toNat) v9) v9 v7) ((own_up (own_up (own_up (fun _ => 0) v7 v7) v9 ((own_up (fun _ => 0) v7 v7) v7.toInt.toNat)) v7 v9) v7.toInt.toNat) v11) v11 v7) v7.toInt.toNat))])) t
          refine XS.iload X54.here hx rfl (hb hby at_207) rfl ?_
          show Steps p.tables e below (T54.setTop (mkF m 209 #[.val (.int p0), .val (.int p1), .val (.int p2), .val (.int p3), .val (.int v1), .val (.int v2), .val (.int (2 : Int32)), .val (.int v5), .val (.int v7), .val (.int v9), .val (.int v11), .val (.ref b12), .val (.int (0 : Int32)), .val (.int (1 : Int32)), .val (.int v7)] [(.int (2 : Int32)), (.int (0 : Int32)), (.int ((own_up (own_up (own_up (own_up (own_up (fun _ => 0) v7 v7) ((own_up (fun _ => 0) v7 v7) v7.toInt.toNat) v9) v9 v7) ((own_up (own_up (own_up (fun _ => 0) v7 v7) v9 ((own_up (fun _ => 0) v7 v7) v7.toInt.toNat)) v7 v9) v7.toInt.toNat) v11) v11 v7) v7.toInt.toNat))])) t
          refine XS.iload X54.here hx rfl (hb hby at_209) rfl ?_
          show Steps p.tables e below (T54.setTop (mkF m 211 #[.val (.int p0), .val (.int p1), .val (.int p2), .val (.int p3), .val (.int v1), .val (.int v2), .val (.int (2 : Int32)), .val (.int v5), .val (.int v7), .val (.int v9), .val (.int v11), .val (.ref b12), .val (.int (0 : Int32)), .val (.int (1 : Int32)), .val (.int v7)] [(.int (0 : Int32)), (.int (2 : Int32)), (.int (0 : Int32)), (.int ((own_up (own_up (own_up (own_up (own_up (fun _ => 0) v7 v7) ((own_up (fun _ => 0) v7 v7) v7.toInt.toNat) v9) v9 v7) ((own_up (own_up (own_up (fun _ => 0) v7 v7) v9 ((own_up (fun _ => 0) v7 v7) v7.toInt.toNat)) v7 v9) v7.toInt.toNat) v11) v11 v7) v7.toInt.toNat))])) t
          refine XS.iload X54.here hx rfl (hb hby at_211) rfl ?_
          show Steps p.tables e below (T54.setTop (mkF m 213 #[.val (.int p0), .val (.int p1), .val (.int p2), .val (.int p3), .val (.int v1), .val (.int v2), .val (.int (2 : Int32)), .val (.int v5), .val (.int v7), .val (.int v9), .val (.int v11), .val (.ref b12), .val (.int (0 : Int32)), .val (.int (1 : Int32)), .val (.int v7)] [(.int v5), (.int (0 : Int32)), (.int (2 : Int32)), (.int (0 : Int32)), (.int ((own_up (own_up (own_up (own_up (own_up (fun _ => 0) v7 v7) ((own_up (fun _ => 0) v7 v7) v7.toInt.toNat) v9) v9 v7) ((own_up (own_up (own_up (fun _ => 0) v7 v7) v9 ((own_up (fun _ => 0) v7 v7) v7.toInt.toNat)) v7 v9) v7.toInt.toNat) v11) v11 v7) v7.toInt.toNat))])) t
          refine st55 _ ?_
          show Steps p.tables e below (T55.setTop (mkF m 216 #[.val (.int p0), .val (.int p1), .val (.int p2), .val (.int p3), .val (.int v1), .val (.int v2), .val (.int (2 : Int32)), .val (.int v5), .val (.int v7), .val (.int v9), .val (.int v11), .val (.ref b12), .val (.int (0 : Int32)), .val (.int (1 : Int32)), .val (.int v7)] [(.int (own_eccw (0 : Int32) (2 : Int32) (0 : Int32) v5)), (.int ((own_up (own_up (own_up (own_up (own_up (fun _ => 0) v7 v7) ((own_up (fun _ => 0) v7 v7) v7.toInt.toNat) v9) v9 v7) ((own_up (own_up (own_up (fun _ => 0) v7 v7) v9 ((own_up (fun _ => 0) v7 v7) v7.toInt.toNat)) v7 v9) v7.toInt.toNat) v11) v11 v7) v7.toInt.toNat))])) t
          exact k
        have hc56 : ((own_up (own_up (own_up (own_up (own_up (fun _ => 0) v7 v7) ((own_up (fun _ => 0) v7 v7) v7.toInt.toNat) v9) v9 v7) ((own_up (own_up (own_up (fun _ => 0) v7 v7) v9 ((own_up (fun _ => 0) v7 v7) v7.toInt.toNat)) v7 v9) v7.toInt.toNat) v11) v11 v7) v7.toInt.toNat) = (own_eccw (0 : Int32) (2 : Int32) (0 : Int32) v5) := by subst hv2 hv7 hv9 hv11; rcases own_s4 hv5 with rfl | rfl | rfl | rfl <;> rcases own_o2 hv1 with rfl | rfl <;> decide +kernel
        obtain ⟨T57, _, L57, X57, ⟨rfl, Nq57, e57⟩, st57⟩ := Own.callV (y := (⟨"com/example/libgriddraw/libgriddraw/core/RotationSystem", "cwNext", "(I)I"⟩ : MethodName)) (W := 0) (argsL := [(.int v9)]) (rest := []) (a := b12) X55 hx hZ hown (hw _ (List.mem_of_getElem? (i := 38) rfl)) (hw _ (List.mem_of_getElem? (i := 39) rfl)) (hw _ (List.mem_of_getElem? (i := 41) rfl)) (hw _ (List.mem_of_getElem? (i := 40) rfl)) (hw _ (List.mem_of_getElem? (i := 7) rfl)) (hw _ (List.mem_of_getElem? (i := 42) rfl)) (by decide) e55 E46 (rm8 l Z a0 hw [] b12 v9 rw16 (own_up (own_up (own_up (own_up (own_up (fun _ => 0) v7 v7) v9 ((own_up (fun _ => 0) v7 v7) v7.toInt.toNat)) v7 v9) v11 ((own_up (own_up (own_up (fun _ => 0) v7 v7) v9 ((own_up (fun _ => 0) v7 v7) v7.toInt.toNat)) v7 v9) v7.toInt.toNat)) v7 v11) T46.heap n0 (by subst hv2 hv7 hv9 hv11; rcases own_s4 hv5 with rfl | rfl | rfl | rfl <;> rcases own_o2 hv1 with rfl | rfl <;> decide +kernel) FcwNext_46 Aw_46) (by decide) (by decide) (by decide) (by decide) (g := (mkF m 235 #[.val (.int p0), .val (.int p1), .val (.int p2), .val (.int p3), .val (.int v1), .val (.int v2), .val (.int (2 : Int32)), .val (.int v5), .val (.int v7), .val (.int v9), .val (.int v11), .val (.ref b12), .val (.int (0 : Int32)), .val (.int (1 : Int32)), .val (.int v7)] [(.int v9), (.ref b12)])) rfl (by rw [hml]; rfl) (lenOf pd_5 rfl) rfl (by show 2 * 0 + _ ≤ _; exact Nat.le_of_eq rfl) (hb hby at_235)
        have N57 := Fr.app N55 Nq57
        obtain ⟨T58, _, L58, X58, ⟨rfl, Nq58, e58⟩, st58⟩ := Own.callS (y := (⟨"com/example/libgriddraw/libgriddraw/core/RotationSystemInsertClockwiseOfPinLaw", "expCw", "(IIII)I"⟩ : MethodName)) (W := 1) (argsL := [(.int (1 : Int32)), (.int (2 : Int32)), (.int (0 : Int32)), (.int v5)]) (rest := [(.int ((own_up (own_up (own_up (own_up (own_up (fun _ => 0) v7 v7) v9 ((own_up (fun _ => 0) v7 v7) v7.toInt.toNat)) v7 v9) v11 ((own_up (own_up (own_up (fun _ => 0) v7 v7) v9 ((own_up (fun _ => 0) v7 v7) v7.toInt.toNat)) v7 v9) v7.toInt.toNat)) v7 v11) v9.toInt.toNat))]) X57 hx hZ hown (hw _ (List.mem_of_getElem? (i := 43) rfl)) (hw _ (List.mem_of_getElem? (i := 44) rfl)) (hw _ (List.mem_of_getElem? (i := 3) rfl)) (hw _ (List.mem_of_getElem? (i := 45) rfl)) (by decide) e57 (rm20 l Z a0 hw [] (1 : Int32) (2 : Int32) (0 : Int32) v5  T46.heap n0 ) (by decide) (by decide) (by decide) (by decide) (g := (mkF m 245 #[.val (.int p0), .val (.int p1), .val (.int p2), .val (.int p3), .val (.int v1), .val (.int v2), .val (.int (2 : Int32)), .val (.int v5), .val (.int v7), .val (.int v9), .val (.int v11), .val (.ref b12), .val (.int (0 : Int32)), .val (.int (1 : Int32)), .val (.int v7)] [(.int v5), (.int (0 : Int32)), (.int (2 : Int32)), (.int (1 : Int32)), (.int ((own_up (own_up (own_up (own_up (own_up (fun _ => 0) v7 v7) v9 ((own_up (fun _ => 0) v7 v7) v7.toInt.toNat)) v7 v9) v11 ((own_up (own_up (own_up (fun _ => 0) v7 v7) v9 ((own_up (fun _ => 0) v7 v7) v7.toInt.toNat)) v7 v9) v7.toInt.toNat)) v7 v11) v9.toInt.toNat))])) rfl (by rw [hml]; rfl) (lenOf pd_6 rfl) rfl (by show 2 * 0 + _ ≤ _; exact Nat.le_of_eq rfl) (hb hby at_245)
        have N58 := Fr.app N57 Nq58
        refine hD _ (T58.setTop (mkF m 248 #[.val (.int p0), .val (.int p1), .val (.int p2), .val (.int p3), .val (.int v1), .val (.int v2), .val (.int (2 : Int32)), .val (.int v5), .val (.int v7), .val (.int v9), .val (.int v11), .val (.ref b12), .val (.int (0 : Int32)), .val (.int (1 : Int32)), .val (.int v7)] [(.int (own_ecw (1 : Int32) (2 : Int32) (0 : Int32) v5)), (.int ((own_up (own_up (own_up (own_up (own_up (fun _ => 0) v7 v7) v9 ((own_up (fun _ => 0) v7 v7) v7.toInt.toNat)) v7 v9) v11 ((own_up (own_up (own_up (fun _ => 0) v7 v7) v9 ((own_up (fun _ => 0) v7 v7) v7.toInt.toNat)) v7 v9) v7.toInt.toNat)) v7 v11) v9.toInt.toNat))])) (fun t k => ?_) ?_
        · show Steps p.tables e below (T55.setTop (mkF m 216 #[.val (.int p0), .val (.int p1), .val (.int p2), .val (.int p3), .val (.int v1), .val (.int v2), .val (.int (2 : Int32)), .val (.int v5), .val (.int v7), .val (.int v9), .val (.int v11), .val (.ref b12), .val (.int (0 : Int32)), .val (.int (1 : Int32)), .val (.int v7)] [(.int (own_eccw (0 : Int32) (2 : Int32) (0 : Int32) v5)), (.int ((own_up (own_up (own_up (own_up (own_up (fun _ => 0) v7 v7) ((own_up (fun _ => 0) v7 v7) v7.toInt.toNat) v9) v9 v7) ((own_up (own_up (own_up (fun _ => 0) v7 v7) v9 ((own_up (fun _ => 0) v7 v7) v7.toInt.toNat)) v7 v9) v7.toInt.toNat) v11) v11 v7) v7.toInt.toNat))])) t
          refine XS.icmpNo X55.here hx rfl (hb hby at_216) rfl (teq hc56).2 ?_
          show Steps p.tables e below (T55.setTop (mkF m 219 #[.val (.int p0), .val (.int p1), .val (.int p2), .val (.int p3), .val (.int v1), .val (.int v2), .val (.int (2 : Int32)), .val (.int v5), .val (.int v7), .val (.int v9), .val (.int v11), .val (.ref b12), .val (.int (0 : Int32)), .val (.int (1 : Int32)), .val (.int v7)] [])) t
          refine XS.iconst X55.here hx rfl (hb hby at_219) ?_
          show Steps p.tables e below (T55.setTop (mkF m 220 #[.val (.int p0), .val (.int p1), .val (.int p2), .val (.int p3), .val (.int v1), .val (.int v2), .val (.int (2 : Int32)), .val (.int v5), .val (.int v7), .val (.int v9), .val (.int v11), .val (.ref b12), .val (.int (0 : Int32)), .val (.int (1 : Int32)), .val (.int v7)] [(.int (1 : Int32))])) t
          refine XS.goto X55.here hx rfl (pc0 := 220) (pc' := 224) rfl (hb hby at_220) (by decide) (by decide) ?_
          show Steps p.tables e below (T55.setTop (mkF m 224 #[.val (.int p0), .val (.int p1), .val (.int p2), .val (.int p3), .val (.int v1), .val (.int v2), .val (.int (2 : Int32)), .val (.int v5), .val (.int v7), .val (.int v9), .val (.int v11), .val (.ref b12), .val (.int (0 : Int32)), .val (.int (1 : Int32)), .val (.int v7)] [(.int (1 : Int32))])) t
          refine XS.istore X55.here hx rfl (hb hby at_224) rfl (l' := #[.val (.int p0), .val (.int p1), .val (.int p2), .val (.int p3), .val (.int v1), .val (.int v2), .val (.int (2 : Int32)), .val (.int v5), .val (.int v7), .val (.int v9), .val (.int v11), .val (.ref b12), .val (.int (0 : Int32)), .val (.int (1 : Int32)), .val (.int v7)]) rfl ?_
          show Steps p.tables e below (T55.setTop (mkF m 226 #[.val (.int p0), .val (.int p1), .val (.int p2), .val (.int p3), .val (.int v1), .val (.int v2), .val (.int (2 : Int32)), .val (.int v5), .val (.int v7), .val (.int v9), .val (.int v11), .val (.ref b12), .val (.int (0 : Int32)), .val (.int (1 : Int32)), .val (.int v7)] [])) t
          refine XS.iload X55.here hx rfl (hb hby at_226) rfl ?_
          show Steps p.tables e below (T55.setTop (mkF m 228 #[.val (.int p0), .val (.int p1), .val (.int p2), .val (.int p3), .val (.int v1), .val (.int v2), .val (.int (2 : Int32)), .val (.int v5), .val (.int v7), .val (.int v9), .val (.int v11), .val (.ref b12), .val (.int (0 : Int32)), .val (.int (1 : Int32)), .val (.int v7)] [(.int (1 : Int32))])) t
          refine XS.ifNo X55.here hx rfl (hb hby at_228) rfl (by decide) ?_
          show Steps p.tables e below (T55.setTop (mkF m 231 #[.val (.int p0), .val (.int p1), .val (.int p2), .val (.int p3), .val (.int v1), .val (.int v2), .val (.int (2 : Int32)), .val (.int v5), .val (.int v7), .val (.int v9), .val (.int v11), .val (.ref b12), .val (.int (0 : Int32)), .val (.int (1 : Int32)), .val (.int v7)] [])) t
          refine XS.aload X55.here hx rfl (hb hby at_231) rfl rfl ?_
          show Steps p.tables e below (T55.setTop (mkF m 233 #[.val (.int p0), .val (.int p1), .val (.int p2), .val (.int p3), .val (.int v1), .val (.int v2), .val (.int (2 : Int32)), .val (.int v5), .val (.int v7), .val (.int v9), .val (.int v11), .val (.ref b12), .val (.int (0 : Int32)), .val (.int (1 : Int32)), .val (.int v7)] [(.ref b12)])) t
          refine XS.iload X55.here hx rfl (hb hby at_233) rfl ?_
          show Steps p.tables e below (T55.setTop (mkF m 235 #[.val (.int p0), .val (.int p1), .val (.int p2), .val (.int p3), .val (.int v1), .val (.int v2), .val (.int (2 : Int32)), .val (.int v5), .val (.int v7), .val (.int v9), .val (.int v11), .val (.ref b12), .val (.int (0 : Int32)), .val (.int (1 : Int32)), .val (.int v7)] [(.int v9), (.ref b12)])) t
          refine st57 _ ?_
          show Steps p.tables e below (T57.setTop (mkF m 238 #[.val (.int p0), .val (.int p1), .val (.int p2), .val (.int p3), .val (.int v1), .val (.int v2), .val (.int (2 : Int32)), .val (.int v5), .val (.int v7), .val (.int v9), .val (.int v11), .val (.ref b12), .val (.int (0 : Int32)), .val (.int (1 : Int32)), .val (.int v7)] [(.int ((own_up (own_up (own_up (own_up (own_up (fun _ => 0) v7 v7) v9 ((own_up (fun _ => 0) v7 v7) v7.toInt.toNat)) v7 v9) v11 ((own_up (own_up (own_up (fun _ => 0) v7 v7) v9 ((own_up (fun _ => 0) v7 v7) v7.toInt.toNat)) v7 v9) v7.toInt.toNat)) v7 v11) v9.toInt.toNat))])) t
          refine XS.iconst X57.here hx rfl (hb hby at_238) ?_
          show Steps p.tables e below (T57.setTop (mkF m 239 #[.val (.int p0), .val (.int p1), .val (.int p2), .val (.int p3), .val (.int v1), .val (.int v2), .val (.int (2 : Int32)), .val (.int v5), .val (.int v7), .val (.int v9), .val (.int v11), .val (.ref b12), .val (.int (0 : Int32)), .val (.int (1 : Int32)), .val (.int v7)] [(.int (1 : Int32)), (.int ((own_up (own_up (own_up (own_up (own_up (fun _ => 0) v7 v7) v9 ((own_up (fun _ => 0) v7 v7) v7.toInt.toNat)) v7 v9) v11 ((own_up (own_up (own_up (fun _ => 0) v7 v7) v9 ((own_up (fun _ => 0) v7 v7) v7.toInt.toNat)) v7 v9) v7.toInt.toNat)) v7 v11) v9.toInt.toNat))])) t
          refine XS.iload X57.here hx rfl (hb hby at_239) rfl ?_
          show Steps p.tables e below (T57.setTop (mkF m 241 #[.val (.int p0), .val (.int p1), .val (.int p2), .val (.int p3), .val (.int v1), .val (.int v2), .val (.int (2 : Int32)), .val (.int v5), .val (.int v7), .val (.int v9), .val (.int v11), .val (.ref b12), .val (.int (0 : Int32)), .val (.int (1 : Int32)), .val (.int v7)] [(.int (2 : Int32)), (.int (1 : Int32)), (.int ((own_up (own_up (own_up (own_up (own_up (fun _ => 0) v7 v7) v9 ((own_up (fun _ => 0) v7 v7) v7.toInt.toNat)) v7 v9) v11 ((own_up (own_up (own_up (fun _ => 0) v7 v7) v9 ((own_up (fun _ => 0) v7 v7) v7.toInt.toNat)) v7 v9) v7.toInt.toNat)) v7 v11) v9.toInt.toNat))])) t
          refine XS.iload X57.here hx rfl (hb hby at_241) rfl ?_
          show Steps p.tables e below (T57.setTop (mkF m 243 #[.val (.int p0), .val (.int p1), .val (.int p2), .val (.int p3), .val (.int v1), .val (.int v2), .val (.int (2 : Int32)), .val (.int v5), .val (.int v7), .val (.int v9), .val (.int v11), .val (.ref b12), .val (.int (0 : Int32)), .val (.int (1 : Int32)), .val (.int v7)] [(.int (0 : Int32)), (.int (2 : Int32)), (.int (1 : Int32)), (.int ((own_up (own_up (own_up (own_up (own_up (fun _ => 0) v7 v7) v9 ((own_up (fun _ => 0) v7 v7) v7.toInt.toNat)) v7 v9) v11 ((own_up (own_up (own_up (fun _ => 0) v7 v7) v9 ((own_up (fun _ => 0) v7 v7) v7.toInt.toNat)) v7 v9) v7.toInt.toNat)) v7 v11) v9.toInt.toNat))])) t
          refine XS.iload X57.here hx rfl (hb hby at_243) rfl ?_
          show Steps p.tables e below (T57.setTop (mkF m 245 #[.val (.int p0), .val (.int p1), .val (.int p2), .val (.int p3), .val (.int v1), .val (.int v2), .val (.int (2 : Int32)), .val (.int v5), .val (.int v7), .val (.int v9), .val (.int v11), .val (.ref b12), .val (.int (0 : Int32)), .val (.int (1 : Int32)), .val (.int v7)] [(.int v5), (.int (0 : Int32)), (.int (2 : Int32)), (.int (1 : Int32)), (.int ((own_up (own_up (own_up (own_up (own_up (fun _ => 0) v7 v7) v9 ((own_up (fun _ => 0) v7 v7) v7.toInt.toNat)) v7 v9) v11 ((own_up (own_up (own_up (fun _ => 0) v7 v7) v9 ((own_up (fun _ => 0) v7 v7) v7.toInt.toNat)) v7 v9) v7.toInt.toNat)) v7 v11) v9.toInt.toNat))])) t
          refine st58 _ ?_
          show Steps p.tables e below (T58.setTop (mkF m 248 #[.val (.int p0), .val (.int p1), .val (.int p2), .val (.int p3), .val (.int v1), .val (.int v2), .val (.int (2 : Int32)), .val (.int v5), .val (.int v7), .val (.int v9), .val (.int v11), .val (.ref b12), .val (.int (0 : Int32)), .val (.int (1 : Int32)), .val (.int v7)] [(.int (own_ecw (1 : Int32) (2 : Int32) (0 : Int32) v5)), (.int ((own_up (own_up (own_up (own_up (own_up (fun _ => 0) v7 v7) v9 ((own_up (fun _ => 0) v7 v7) v7.toInt.toNat)) v7 v9) v11 ((own_up (own_up (own_up (fun _ => 0) v7 v7) v9 ((own_up (fun _ => 0) v7 v7) v7.toInt.toNat)) v7 v9) v7.toInt.toNat)) v7 v11) v9.toInt.toNat))])) t
          exact k
        have hc59 : ((own_up (own_up (own_up (own_up (own_up (fun _ => 0) v7 v7) v9 ((own_up (fun _ => 0) v7 v7) v7.toInt.toNat)) v7 v9) v11 ((own_up (own_up (own_up (fun _ => 0) v7 v7) v9 ((own_up (fun _ => 0) v7 v7) v7.toInt.toNat)) v7 v9) v7.toInt.toNat)) v7 v11) v9.toInt.toNat) = (own_ecw (1 : Int32) (2 : Int32) (0 : Int32) v5) := by subst hv2 hv7 hv9 hv11; rcases own_s4 hv5 with rfl | rfl | rfl | rfl <;> rcases own_o2 hv1 with rfl | rfl <;> decide +kernel
        obtain ⟨T60, _, L60, X60, ⟨rfl, Nq60, e60⟩, st60⟩ := Own.callV (y := (⟨"com/example/libgriddraw/libgriddraw/core/RotationSystem", "ccwNext", "(I)I"⟩ : MethodName)) (W := 0) (argsL := [(.int v9)]) (rest := []) (a := b12) X58 hx hZ hown (hw _ (List.mem_of_getElem? (i := 46) rfl)) (hw _ (List.mem_of_getElem? (i := 47) rfl)) (hw _ (List.mem_of_getElem? (i := 49) rfl)) (hw _ (List.mem_of_getElem? (i := 48) rfl)) (hw _ (List.mem_of_getElem? (i := 7) rfl)) (hw _ (List.mem_of_getElem? (i := 50) rfl)) (by decide) e58 E46 (rm9 l Z a0 hw [] b12 v9 rc16 (own_up (own_up (own_up (own_up (own_up (fun _ => 0) v7 v7) ((own_up (fun _ => 0) v7 v7) v7.toInt.toNat) v9) v9 v7) ((own_up (own_up (own_up (fun _ => 0) v7 v7) v9 ((own_up (fun _ => 0) v7 v7) v7.toInt.toNat)) v7 v9) v7.toInt.toNat) v11) v11 v7) T46.heap n0 (by subst hv2 hv7 hv9 hv11; rcases own_s4 hv5 with rfl | rfl | rfl | rfl <;> rcases own_o2 hv1 with rfl | rfl <;> decide +kernel) FccwNext_46 Ac_46) (by decide) (by decide) (by decide) (by decide) (g := (mkF m 255 #[.val (.int p0), .val (.int p1), .val (.int p2), .val (.int p3), .val (.int v1), .val (.int v2), .val (.int (2 : Int32)), .val (.int v5), .val (.int v7), .val (.int v9), .val (.int v11), .val (.ref b12), .val (.int (0 : Int32)), .val (.int (1 : Int32)), .val (.int v7)] [(.int v9), (.ref b12)])) rfl (by rw [hml]; rfl) (lenOf pd_5 rfl) rfl (by show 2 * 0 + _ ≤ _; exact Nat.le_of_eq rfl) (hb hby at_255)
        have N60 := Fr.app N58 Nq60
        obtain ⟨T61, _, L61, X61, ⟨rfl, Nq61, e61⟩, st61⟩ := Own.callS (y := (⟨"com/example/libgriddraw/libgriddraw/core/RotationSystemInsertClockwiseOfPinLaw", "expCcw", "(IIII)I"⟩ : MethodName)) (W := 1) (argsL := [(.int (1 : Int32)), (.int (2 : Int32)), (.int (0 : Int32)), (.int v5)]) (rest := [(.int ((own_up (own_up (own_up (own_up (own_up (fun _ => 0) v7 v7) ((own_up (fun _ => 0) v7 v7) v7.toInt.toNat) v9) v9 v7) ((own_up (own_up (own_up (fun _ => 0) v7 v7) v9 ((own_up (fun _ => 0) v7 v7) v7.toInt.toNat)) v7 v9) v7.toInt.toNat) v11) v11 v7) v9.toInt.toNat))]) X60 hx hZ hown (hw _ (List.mem_of_getElem? (i := 51) rfl)) (hw _ (List.mem_of_getElem? (i := 52) rfl)) (hw _ (List.mem_of_getElem? (i := 3) rfl)) (hw _ (List.mem_of_getElem? (i := 53) rfl)) (by decide) e60 (rm21 l Z a0 hw [] (1 : Int32) (2 : Int32) (0 : Int32) v5  T46.heap n0 ) (by decide) (by decide) (by decide) (by decide) (g := (mkF m 265 #[.val (.int p0), .val (.int p1), .val (.int p2), .val (.int p3), .val (.int v1), .val (.int v2), .val (.int (2 : Int32)), .val (.int v5), .val (.int v7), .val (.int v9), .val (.int v11), .val (.ref b12), .val (.int (0 : Int32)), .val (.int (1 : Int32)), .val (.int v7)] [(.int v5), (.int (0 : Int32)), (.int (2 : Int32)), (.int (1 : Int32)), (.int ((own_up (own_up (own_up (own_up (own_up (fun _ => 0) v7 v7) ((own_up (fun _ => 0) v7 v7) v7.toInt.toNat) v9) v9 v7) ((own_up (own_up (own_up (fun _ => 0) v7 v7) v9 ((own_up (fun _ => 0) v7 v7) v7.toInt.toNat)) v7 v9) v7.toInt.toNat) v11) v11 v7) v9.toInt.toNat))])) rfl (by rw [hml]; rfl) (lenOf pd_6 rfl) rfl (by show 2 * 0 + _ ≤ _; exact Nat.le_of_eq rfl) (hb hby at_265)
        have N61 := Fr.app N60 Nq61
        refine hD _ (T61.setTop (mkF m 268 #[.val (.int p0), .val (.int p1), .val (.int p2), .val (.int p3), .val (.int v1), .val (.int v2), .val (.int (2 : Int32)), .val (.int v5), .val (.int v7), .val (.int v9), .val (.int v11), .val (.ref b12), .val (.int (0 : Int32)), .val (.int (1 : Int32)), .val (.int v7)] [(.int (own_eccw (1 : Int32) (2 : Int32) (0 : Int32) v5)), (.int ((own_up (own_up (own_up (own_up (own_up (fun _ => 0) v7 v7) ((own_up (fun _ => 0) v7 v7) v7.toInt.toNat) v9) v9 v7) ((own_up (own_up (own_up (fun _ => 0) v7 v7) v9 ((own_up (fun _ => 0) v7 v7) v7.toInt.toNat)) v7 v9) v7.toInt.toNat) v11) v11 v7) v9.toInt.toNat))])) (fun t k => ?_) ?_
        · show Steps p.tables e below (T58.setTop (mkF m 248 #[.val (.int p0), .val (.int p1), .val (.int p2), .val (.int p3), .val (.int v1), .val (.int v2), .val (.int (2 : Int32)), .val (.int v5), .val (.int v7), .val (.int v9), .val (.int v11), .val (.ref b12), .val (.int (0 : Int32)), .val (.int (1 : Int32)), .val (.int v7)] [(.int (own_ecw (1 : Int32) (2 : Int32) (0 : Int32) v5)), (.int ((own_up (own_up (own_up (own_up (own_up (fun _ => 0) v7 v7) v9 ((own_up (fun _ => 0) v7 v7) v7.toInt.toNat)) v7 v9) v11 ((own_up (own_up (own_up (fun _ => 0) v7 v7) v9 ((own_up (fun _ => 0) v7 v7) v7.toInt.toNat)) v7 v9) v7.toInt.toNat)) v7 v11) v9.toInt.toNat))])) t
          refine XS.icmpNo X58.here hx rfl (hb hby at_248) rfl (teq hc59).2 ?_
          show Steps p.tables e below (T58.setTop (mkF m 251 #[.val (.int p0), .val (.int p1), .val (.int p2), .val (.int p3), .val (.int v1), .val (.int v2), .val (.int (2 : Int32)), .val (.int v5), .val (.int v7), .val (.int v9), .val (.int v11), .val (.ref b12), .val (.int (0 : Int32)), .val (.int (1 : Int32)), .val (.int v7)] [])) t
          refine XS.aload X58.here hx rfl (hb hby at_251) rfl rfl ?_
          show Steps p.tables e below (T58.setTop (mkF m 253 #[.val (.int p0), .val (.int p1), .val (.int p2), .val (.int p3), .val (.int v1), .val (.int v2), .val (.int (2 : Int32)), .val (.int v5), .val (.int v7), .val (.int v9), .val (.int v11), .val (.ref b12), .val (.int (0 : Int32)), .val (.int (1 : Int32)), .val (.int v7)] [(.ref b12)])) t
          refine XS.iload X58.here hx rfl (hb hby at_253) rfl ?_
          show Steps p.tables e below (T58.setTop (mkF m 255 #[.val (.int p0), .val (.int p1), .val (.int p2), .val (.int p3), .val (.int v1), .val (.int v2), .val (.int (2 : Int32)), .val (.int v5), .val (.int v7), .val (.int v9), .val (.int v11), .val (.ref b12), .val (.int (0 : Int32)), .val (.int (1 : Int32)), .val (.int v7)] [(.int v9), (.ref b12)])) t
          refine st60 _ ?_
          show Steps p.tables e below (T60.setTop (mkF m 258 #[.val (.int p0), .val (.int p1), .val (.int p2), .val (.int p3), .val (.int v1), .val (.int v2), .val (.int (2 : Int32)), .val (.int v5), .val (.int v7), .val (.int v9), .val (.int v11), .val (.ref b12), .val (.int (0 : Int32)), .val (.int (1 : Int32)), .val (.int v7)] [(.int ((own_up (own_up (own_up (own_up (own_up (fun _ => 0) v7 v7) ((own_up (fun _ => 0) v7 v7) v7.toInt.toNat) v9) v9 v7) ((own_up (own_up (own_up (fun _ => 0) v7 v7) v9 ((own_up (fun _ => 0) v7 v7) v7.toInt.toNat)) v7 v9) v7.toInt.toNat) v11) v11 v7) v9.toInt.toNat))])) t
          refine XS.iconst X60.here hx rfl (hb hby at_258) ?_
          show Steps p.tables e below (T60.setTop (mkF m 259 #[.val (.int p0), .val (.int p1), .val (.int p2), .val (.int p3), .val (.int v1), .val (.int v2), .val (.int (2 : Int32)), .val (.int v5), .val (.int v7), .val (.int v9), .val (.int v11), .val (.ref b12), .val (.int (0 : Int32)), .val (.int (1 : Int32)), .val (.int v7)] [(.int (1 : Int32)), (.int ((own_up (own_up (own_up (own_up (own_up (fun _ => 0) v7 v7) ((own_up (fun _ => 0) v7 v7) v7.toInt.toNat) v9) v9 v7) ((own_up (own_up (own_up (fun _ => 0) v7 v7) v9 ((own_up (fun _ => 0) v7 v7) v7.toInt.toNat)) v7 v9) v7.toInt.toNat) v11) v11 v7) v9.toInt.toNat))])) t
          refine XS.iload X60.here hx rfl (hb hby at_259) rfl ?_
          show Steps p.tables e below (T60.setTop (mkF m 261 #[.val (.int p0), .val (.int p1), .val (.int p2), .val (.int p3), .val (.int v1), .val (.int v2), .val (.int (2 : Int32)), .val (.int v5), .val (.int v7), .val (.int v9), .val (.int v11), .val (.ref b12), .val (.int (0 : Int32)), .val (.int (1 : Int32)), .val (.int v7)] [(.int (2 : Int32)), (.int (1 : Int32)), (.int ((own_up (own_up (own_up (own_up (own_up (fun _ => 0) v7 v7) ((own_up (fun _ => 0) v7 v7) v7.toInt.toNat) v9) v9 v7) ((own_up (own_up (own_up (fun _ => 0) v7 v7) v9 ((own_up (fun _ => 0) v7 v7) v7.toInt.toNat)) v7 v9) v7.toInt.toNat) v11) v11 v7) v9.toInt.toNat))])) t
          refine XS.iload X60.here hx rfl (hb hby at_261) rfl ?_
          show Steps p.tables e below (T60.setTop (mkF m 263 #[.val (.int p0), .val (.int p1), .val (.int p2), .val (.int p3), .val (.int v1), .val (.int v2), .val (.int (2 : Int32)), .val (.int v5), .val (.int v7), .val (.int v9), .val (.int v11), .val (.ref b12), .val (.int (0 : Int32)), .val (.int (1 : Int32)), .val (.int v7)] [(.int (0 : Int32)), (.int (2 : Int32)), (.int (1 : Int32)), (.int ((own_up (own_up (own_up (own_up (own_up (fun _ => 0) v7 v7) ((own_up (fun _ => 0) v7 v7) v7.toInt.toNat) v9) v9 v7) ((own_up (own_up (own_up (fun _ => 0) v7 v7) v9 ((own_up (fun _ => 0) v7 v7) v7.toInt.toNat)) v7 v9) v7.toInt.toNat) v11) v11 v7) v9.toInt.toNat))])) t
          refine XS.iload X60.here hx rfl (hb hby at_263) rfl ?_
          show Steps p.tables e below (T60.setTop (mkF m 265 #[.val (.int p0), .val (.int p1), .val (.int p2), .val (.int p3), .val (.int v1), .val (.int v2), .val (.int (2 : Int32)), .val (.int v5), .val (.int v7), .val (.int v9), .val (.int v11), .val (.ref b12), .val (.int (0 : Int32)), .val (.int (1 : Int32)), .val (.int v7)] [(.int v5), (.int (0 : Int32)), (.int (2 : Int32)), (.int (1 : Int32)), (.int ((own_up (own_up (own_up (own_up (own_up (fun _ => 0) v7 v7) ((own_up (fun _ => 0) v7 v7) v7.toInt.toNat) v9) v9 v7) ((own_up (own_up (own_up (fun _ => 0) v7 v7) v9 ((own_up (fun _ => 0) v7 v7) v7.toInt.toNat)) v7 v9) v7.toInt.toNat) v11) v11 v7) v9.toInt.toNat))])) t
          refine st61 _ ?_
          show Steps p.tables e below (T61.setTop (mkF m 268 #[.val (.int p0), .val (.int p1), .val (.int p2), .val (.int p3), .val (.int v1), .val (.int v2), .val (.int (2 : Int32)), .val (.int v5), .val (.int v7), .val (.int v9), .val (.int v11), .val (.ref b12), .val (.int (0 : Int32)), .val (.int (1 : Int32)), .val (.int v7)] [(.int (own_eccw (1 : Int32) (2 : Int32) (0 : Int32) v5)), (.int ((own_up (own_up (own_up (own_up (own_up (fun _ => 0) v7 v7) ((own_up (fun _ => 0) v7 v7) v7.toInt.toNat) v9) v9 v7) ((own_up (own_up (own_up (fun _ => 0) v7 v7) v9 ((own_up (fun _ => 0) v7 v7) v7.toInt.toNat)) v7 v9) v7.toInt.toNat) v11) v11 v7) v9.toInt.toNat))])) t
          exact k
        have hc62 : ((own_up (own_up (own_up (own_up (own_up (fun _ => 0) v7 v7) ((own_up (fun _ => 0) v7 v7) v7.toInt.toNat) v9) v9 v7) ((own_up (own_up (own_up (fun _ => 0) v7 v7) v9 ((own_up (fun _ => 0) v7 v7) v7.toInt.toNat)) v7 v9) v7.toInt.toNat) v11) v11 v7) v9.toInt.toNat) = (own_eccw (1 : Int32) (2 : Int32) (0 : Int32) v5) := by subst hv2 hv7 hv9 hv11; rcases own_s4 hv5 with rfl | rfl | rfl | rfl <;> rcases own_o2 hv1 with rfl | rfl <;> decide +kernel
        obtain ⟨T63, _, L63, X63, ⟨rfl, Nq63, e63⟩, st63⟩ := Own.callV (y := (⟨"com/example/libgriddraw/libgriddraw/core/RotationSystem", "cwNext", "(I)I"⟩ : MethodName)) (W := 0) (argsL := [(.int v11)]) (rest := []) (a := b12) X61 hx hZ hown (hw _ (List.mem_of_getElem? (i := 38) rfl)) (hw _ (List.mem_of_getElem? (i := 39) rfl)) (hw _ (List.mem_of_getElem? (i := 41) rfl)) (hw _ (List.mem_of_getElem? (i := 40) rfl)) (hw _ (List.mem_of_getElem? (i := 7) rfl)) (hw _ (List.mem_of_getElem? (i := 42) rfl)) (by decide) e61 E46 (rm8 l Z a0 hw [] b12 v11 rw16 (own_up (own_up (own_up (own_up (own_up (fun _ => 0) v7 v7) v9 ((own_up (fun _ => 0) v7 v7) v7.toInt.toNat)) v7 v9) v11 ((own_up (own_up (own_up (fun _ => 0) v7 v7) v9 ((own_up (fun _ => 0) v7 v7) v7.toInt.toNat)) v7 v9) v7.toInt.toNat)) v7 v11) T46.heap n0 (by subst hv2 hv7 hv9 hv11; rcases own_s4 hv5 with rfl | rfl | rfl | rfl <;> rcases own_o2 hv1 with rfl | rfl <;> decide +kernel) FcwNext_46 Aw_46) (by decide) (by decide) (by decide) (by decide) (g := (mkF m 287 #[.val (.int p0), .val (.int p1), .val (.int p2), .val (.int p3), .val (.int v1), .val (.int v2), .val (.int (2 : Int32)), .val (.int v5), .val (.int v7), .val (.int v9), .val (.int v11), .val (.ref b12), .val (.int (0 : Int32)), .val (.int (1 : Int32)), .val (.int v7)] [(.int v11), (.ref b12)])) rfl (by rw [hml]; rfl) (lenOf pd_5 rfl) rfl (by show 2 * 0 + _ ≤ _; exact Nat.le_of_eq rfl) (hb hby at_287)
        have N63 := Fr.app N61 Nq63
        obtain ⟨T64, _, L64, X64, ⟨rfl, Nq64, e64⟩, st64⟩ := Own.callS (y := (⟨"com/example/libgriddraw/libgriddraw/core/RotationSystemInsertClockwiseOfPinLaw", "expCw", "(IIII)I"⟩ : MethodName)) (W := 1) (argsL := [(.int (2 : Int32)), (.int (2 : Int32)), (.int (0 : Int32)), (.int v5)]) (rest := [(.int ((own_up (own_up (own_up (own_up (own_up (fun _ => 0) v7 v7) v9 ((own_up (fun _ => 0) v7 v7) v7.toInt.toNat)) v7 v9) v11 ((own_up (own_up (own_up (fun _ => 0) v7 v7) v9 ((own_up (fun _ => 0) v7 v7) v7.toInt.toNat)) v7 v9) v7.toInt.toNat)) v7 v11) v11.toInt.toNat))]) X63 hx hZ hown (hw _ (List.mem_of_getElem? (i := 43) rfl)) (hw _ (List.mem_of_getElem? (i := 44) rfl)) (hw _ (List.mem_of_getElem? (i := 3) rfl)) (hw _ (List.mem_of_getElem? (i := 45) rfl)) (by decide) e63 (rm20 l Z a0 hw [] (2 : Int32) (2 : Int32) (0 : Int32) v5  T46.heap n0 ) (by decide) (by decide) (by decide) (by decide) (g := (mkF m 297 #[.val (.int p0), .val (.int p1), .val (.int p2), .val (.int p3), .val (.int v1), .val (.int v2), .val (.int (2 : Int32)), .val (.int v5), .val (.int v7), .val (.int v9), .val (.int v11), .val (.ref b12), .val (.int (0 : Int32)), .val (.int (1 : Int32)), .val (.int v7)] [(.int v5), (.int (0 : Int32)), (.int (2 : Int32)), (.int (2 : Int32)), (.int ((own_up (own_up (own_up (own_up (own_up (fun _ => 0) v7 v7) v9 ((own_up (fun _ => 0) v7 v7) v7.toInt.toNat)) v7 v9) v11 ((own_up (own_up (own_up (fun _ => 0) v7 v7) v9 ((own_up (fun _ => 0) v7 v7) v7.toInt.toNat)) v7 v9) v7.toInt.toNat)) v7 v11) v11.toInt.toNat))])) rfl (by rw [hml]; rfl) (lenOf pd_6 rfl) rfl (by show 2 * 0 + _ ≤ _; exact Nat.le_of_eq rfl) (hb hby at_297)
        have N64 := Fr.app N63 Nq64
        refine hD _ (T64.setTop (mkF m 300 #[.val (.int p0), .val (.int p1), .val (.int p2), .val (.int p3), .val (.int v1), .val (.int v2), .val (.int (2 : Int32)), .val (.int v5), .val (.int v7), .val (.int v9), .val (.int v11), .val (.ref b12), .val (.int (0 : Int32)), .val (.int (1 : Int32)), .val (.int v7)] [(.int (own_ecw (2 : Int32) (2 : Int32) (0 : Int32) v5)), (.int ((own_up (own_up (own_up (own_up (own_up (fun _ => 0) v7 v7) v9 ((own_up (fun _ => 0) v7 v7) v7.toInt.toNat)) v7 v9) v11 ((own_up (own_up (own_up (fun _ => 0) v7 v7) v9 ((own_up (fun _ => 0) v7 v7) v7.toInt.toNat)) v7 v9) v7.toInt.toNat)) v7 v11) v11.toInt.toNat))])) (fun t k => ?_) ?_
        · show Steps p.tables e below (T61.setTop (mkF m 268 #[.val (.int p0), .val (.int p1), .val (.int p2), .val (.int p3), .val (.int v1), .val (.int v2), .val (.int (2 : Int32)), .val (.int v5), .val (.int v7), .val (.int v9), .val (.int v11), .val (.ref b12), .val (.int (0 : Int32)), .val (.int (1 : Int32)), .val (.int v7)] [(.int (own_eccw (1 : Int32) (2 : Int32) (0 : Int32) v5)), (.int ((own_up (own_up (own_up (own_up (own_up (fun _ => 0) v7 v7) ((own_up (fun _ => 0) v7 v7) v7.toInt.toNat) v9) v9 v7) ((own_up (own_up (own_up (fun _ => 0) v7 v7) v9 ((own_up (fun _ => 0) v7 v7) v7.toInt.toNat)) v7 v9) v7.toInt.toNat) v11) v11 v7) v9.toInt.toNat))])) t
          refine XS.icmpNo X61.here hx rfl (hb hby at_268) rfl (teq hc62).2 ?_
          show Steps p.tables e below (T61.setTop (mkF m 271 #[.val (.int p0), .val (.int p1), .val (.int p2), .val (.int p3), .val (.int v1), .val (.int v2), .val (.int (2 : Int32)), .val (.int v5), .val (.int v7), .val (.int v9), .val (.int v11), .val (.ref b12), .val (.int (0 : Int32)), .val (.int (1 : Int32)), .val (.int v7)] [])) t
          refine XS.iconst X61.here hx rfl (hb hby at_271) ?_
          show Steps p.tables e below (T61.setTop (mkF m 272 #[.val (.int p0), .val (.int p1), .val (.int p2), .val (.int p3), .val (.int v1), .val (.int v2), .val (.int (2 : Int32)), .val (.int v5), .val (.int v7), .val (.int v9), .val (.int v11), .val (.ref b12), .val (.int (0 : Int32)), .val (.int (1 : Int32)), .val (.int v7)] [(.int (1 : Int32))])) t
          refine XS.goto X61.here hx rfl (pc0 := 272) (pc' := 276) rfl (hb hby at_272) (by decide) (by decide) ?_
          show Steps p.tables e below (T61.setTop (mkF m 276 #[.val (.int p0), .val (.int p1), .val (.int p2), .val (.int p3), .val (.int v1), .val (.int v2), .val (.int (2 : Int32)), .val (.int v5), .val (.int v7), .val (.int v9), .val (.int v11), .val (.ref b12), .val (.int (0 : Int32)), .val (.int (1 : Int32)), .val (.int v7)] [(.int (1 : Int32))])) t
          refine XS.istore X61.here hx rfl (hb hby at_276) rfl (l' := #[.val (.int p0), .val (.int p1), .val (.int p2), .val (.int p3), .val (.int v1), .val (.int v2), .val (.int (2 : Int32)), .val (.int v5), .val (.int v7), .val (.int v9), .val (.int v11), .val (.ref b12), .val (.int (0 : Int32)), .val (.int (1 : Int32)), .val (.int v7)]) rfl ?_
          show Steps p.tables e below (T61.setTop (mkF m 278 #[.val (.int p0), .val (.int p1), .val (.int p2), .val (.int p3), .val (.int v1), .val (.int v2), .val (.int (2 : Int32)), .val (.int v5), .val (.int v7), .val (.int v9), .val (.int v11), .val (.ref b12), .val (.int (0 : Int32)), .val (.int (1 : Int32)), .val (.int v7)] [])) t
          refine XS.iload X61.here hx rfl (hb hby at_278) rfl ?_
          show Steps p.tables e below (T61.setTop (mkF m 280 #[.val (.int p0), .val (.int p1), .val (.int p2), .val (.int p3), .val (.int v1), .val (.int v2), .val (.int (2 : Int32)), .val (.int v5), .val (.int v7), .val (.int v9), .val (.int v11), .val (.ref b12), .val (.int (0 : Int32)), .val (.int (1 : Int32)), .val (.int v7)] [(.int (1 : Int32))])) t
          refine XS.ifNo X61.here hx rfl (hb hby at_280) rfl (by decide) ?_
          show Steps p.tables e below (T61.setTop (mkF m 283 #[.val (.int p0), .val (.int p1), .val (.int p2), .val (.int p3), .val (.int v1), .val (.int v2), .val (.int (2 : Int32)), .val (.int v5), .val (.int v7), .val (.int v9), .val (.int v11), .val (.ref b12), .val (.int (0 : Int32)), .val (.int (1 : Int32)), .val (.int v7)] [])) t
          refine XS.aload X61.here hx rfl (hb hby at_283) rfl rfl ?_
          show Steps p.tables e below (T61.setTop (mkF m 285 #[.val (.int p0), .val (.int p1), .val (.int p2), .val (.int p3), .val (.int v1), .val (.int v2), .val (.int (2 : Int32)), .val (.int v5), .val (.int v7), .val (.int v9), .val (.int v11), .val (.ref b12), .val (.int (0 : Int32)), .val (.int (1 : Int32)), .val (.int v7)] [(.ref b12)])) t
          refine XS.iload X61.here hx rfl (hb hby at_285) rfl ?_
          show Steps p.tables e below (T61.setTop (mkF m 287 #[.val (.int p0), .val (.int p1), .val (.int p2), .val (.int p3), .val (.int v1), .val (.int v2), .val (.int (2 : Int32)), .val (.int v5), .val (.int v7), .val (.int v9), .val (.int v11), .val (.ref b12), .val (.int (0 : Int32)), .val (.int (1 : Int32)), .val (.int v7)] [(.int v11), (.ref b12)])) t
          refine st63 _ ?_
          show Steps p.tables e below (T63.setTop (mkF m 290 #[.val (.int p0), .val (.int p1), .val (.int p2), .val (.int p3), .val (.int v1), .val (.int v2), .val (.int (2 : Int32)), .val (.int v5), .val (.int v7), .val (.int v9), .val (.int v11), .val (.ref b12), .val (.int (0 : Int32)), .val (.int (1 : Int32)), .val (.int v7)] [(.int ((own_up (own_up (own_up (own_up (own_up (fun _ => 0) v7 v7) v9 ((own_up (fun _ => 0) v7 v7) v7.toInt.toNat)) v7 v9) v11 ((own_up (own_up (own_up (fun _ => 0) v7 v7) v9 ((own_up (fun _ => 0) v7 v7) v7.toInt.toNat)) v7 v9) v7.toInt.toNat)) v7 v11) v11.toInt.toNat))])) t
          refine XS.iconst X63.here hx rfl (hb hby at_290) ?_
          show Steps p.tables e below (T63.setTop (mkF m 291 #[.val (.int p0), .val (.int p1), .val (.int p2), .val (.int p3), .val (.int v1), .val (.int v2), .val (.int (2 : Int32)), .val (.int v5), .val (.int v7), .val (.int v9), .val (.int v11), .val (.ref b12), .val (.int (0 : Int32)), .val (.int (1 : Int32)), .val (.int v7)] [(.int (2 : Int32)), (.int ((own_up (own_up (own_up (own_up (own_up (fun _ => 0) v7 v7) v9 ((own_up (fun _ => 0) v7 v7) v7.toInt.toNat)) v7 v9) v11 ((own_up (own_up (own_up (fun _ => 0) v7 v7) v9 ((own_up (fun _ => 0) v7 v7) v7.toInt.toNat)) v7 v9) v7.toInt.toNat)) v7 v11) v11.toInt.toNat))])) t
          refine XS.iload X63.here hx rfl (hb hby at_291) rfl ?_
          show Steps p.tables e below (T63.setTop (mkF m 293 #[.val (.int p0), .val (.int p1), .val (.int p2), .val (.int p3), .val (.int v1), .val (.int v2), .val (.int (2 : Int32)), .val (.int v5), .val (.int v7), .val (.int v9), .val (.int v11), .val (.ref b12), .val (.int (0 : Int32)), .val (.int (1 : Int32)), .val (.int v7)] [(.int (2 : Int32)), (.int (2 : Int32)), (.int ((own_up (own_up (own_up (own_up (own_up (fun _ => 0) v7 v7) v9 ((own_up (fun _ => 0) v7 v7) v7.toInt.toNat)) v7 v9) v11 ((own_up (own_up (own_up (fun _ => 0) v7 v7) v9 ((own_up (fun _ => 0) v7 v7) v7.toInt.toNat)) v7 v9) v7.toInt.toNat)) v7 v11) v11.toInt.toNat))])) t
          refine XS.iload X63.here hx rfl (hb hby at_293) rfl ?_
          show Steps p.tables e below (T63.setTop (mkF m 295 #[.val (.int p0), .val (.int p1), .val (.int p2), .val (.int p3), .val (.int v1), .val (.int v2), .val (.int (2 : Int32)), .val (.int v5), .val (.int v7), .val (.int v9), .val (.int v11), .val (.ref b12), .val (.int (0 : Int32)), .val (.int (1 : Int32)), .val (.int v7)] [(.int (0 : Int32)), (.int (2 : Int32)), (.int (2 : Int32)), (.int ((own_up (own_up (own_up (own_up (own_up (fun _ => 0) v7 v7) v9 ((own_up (fun _ => 0) v7 v7) v7.toInt.toNat)) v7 v9) v11 ((own_up (own_up (own_up (fun _ => 0) v7 v7) v9 ((own_up (fun _ => 0) v7 v7) v7.toInt.toNat)) v7 v9) v7.toInt.toNat)) v7 v11) v11.toInt.toNat))])) t
          refine XS.iload X63.here hx rfl (hb hby at_295) rfl ?_
          show Steps p.tables e below (T63.setTop (mkF m 297 #[.val (.int p0), .val (.int p1), .val (.int p2), .val (.int p3), .val (.int v1), .val (.int v2), .val (.int (2 : Int32)), .val (.int v5), .val (.int v7), .val (.int v9), .val (.int v11), .val (.ref b12), .val (.int (0 : Int32)), .val (.int (1 : Int32)), .val (.int v7)] [(.int v5), (.int (0 : Int32)), (.int (2 : Int32)), (.int (2 : Int32)), (.int ((own_up (own_up (own_up (own_up (own_up (fun _ => 0) v7 v7) v9 ((own_up (fun _ => 0) v7 v7) v7.toInt.toNat)) v7 v9) v11 ((own_up (own_up (own_up (fun _ => 0) v7 v7) v9 ((own_up (fun _ => 0) v7 v7) v7.toInt.toNat)) v7 v9) v7.toInt.toNat)) v7 v11) v11.toInt.toNat))])) t
          refine st64 _ ?_
          show Steps p.tables e below (T64.setTop (mkF m 300 #[.val (.int p0), .val (.int p1), .val (.int p2), .val (.int p3), .val (.int v1), .val (.int v2), .val (.int (2 : Int32)), .val (.int v5), .val (.int v7), .val (.int v9), .val (.int v11), .val (.ref b12), .val (.int (0 : Int32)), .val (.int (1 : Int32)), .val (.int v7)] [(.int (own_ecw (2 : Int32) (2 : Int32) (0 : Int32) v5)), (.int ((own_up (own_up (own_up (own_up (own_up (fun _ => 0) v7 v7) v9 ((own_up (fun _ => 0) v7 v7) v7.toInt.toNat)) v7 v9) v11 ((own_up (own_up (own_up (fun _ => 0) v7 v7) v9 ((own_up (fun _ => 0) v7 v7) v7.toInt.toNat)) v7 v9) v7.toInt.toNat)) v7 v11) v11.toInt.toNat))])) t
          exact k
        have hc65 : ((own_up (own_up (own_up (own_up (own_up (fun _ => 0) v7 v7) v9 ((own_up (fun _ => 0) v7 v7) v7.toInt.toNat)) v7 v9) v11 ((own_up (own_up (own_up (fun _ => 0) v7 v7) v9 ((own_up (fun _ => 0) v7 v7) v7.toInt.toNat)) v7 v9) v7.toInt.toNat)) v7 v11) v11.toInt.toNat) = (own_ecw (2 : Int32) (2 : Int32) (0 : Int32) v5) := by subst hv2 hv7 hv9 hv11; rcases own_s4 hv5 with rfl | rfl | rfl | rfl <;> rcases own_o2 hv1 with rfl | rfl <;> decide +kernel
        obtain ⟨T66, _, L66, X66, ⟨rfl, Nq66, e66⟩, st66⟩ := Own.callV (y := (⟨"com/example/libgriddraw/libgriddraw/core/RotationSystem", "ccwNext", "(I)I"⟩ : MethodName)) (W := 0) (argsL := [(.int v11)]) (rest := []) (a := b12) X64 hx hZ hown (hw _ (List.mem_of_getElem? (i := 46) rfl)) (hw _ (List.mem_of_getElem? (i := 47) rfl)) (hw _ (List.mem_of_getElem? (i := 49) rfl)) (hw _ (List.mem_of_getElem? (i := 48) rfl)) (hw _ (List.mem_of_getElem? (i := 7) rfl)) (hw _ (List.mem_of_getElem? (i := 50) rfl)) (by decide) e64 E46 (rm9 l Z a0 hw [] b12 v11 rc16 (own_up (own_up (own_up (own_up (own_up (fun _ => 0) v7 v7) ((own_up (fun _ => 0) v7 v7) v7.toInt.toNat) v9) v9 v7) ((own_up (own_up (own_up (fun _ => 0) v7 v7) v9 ((own_up (fun _ => 0) v7 v7) v7.toInt.toNat)) v7 v9) v7.toInt.toNat) v11) v11 v7) T46.heap n0 (by subst hv2 hv7 hv9 hv11; rcases own_s4 hv5 with rfl | rfl | rfl | rfl <;> rcases own_o2 hv1 with rfl | rfl <;> decide +kernel) FccwNext_46 Ac_46) (by decide) (by decide) (by decide) (by decide) (g := (mkF m 307 #[.val (.int p0), .val (.int p1), .val (.int p2), .val (.int p3), .val (.int v1), .val (.int v2), .val (.int (2 : Int32)), .val (.int v5), .val (.int v7), .val (.int v9), .val (.int v11), .val (.ref b12), .val (.int (0 : Int32)), .val (.int (1 : Int32)), .val (.int v7)] [(.int v11), (.ref b12)])) rfl (by rw [hml]; rfl) (lenOf pd_5 rfl) rfl (by show 2 * 0 + _ ≤ _; exact Nat.le_of_eq rfl) (hb hby at_307)
        have N66 := Fr.app N64 Nq66
        obtain ⟨T67, _, L67, X67, ⟨rfl, Nq67, e67⟩, st67⟩ := Own.callS (y := (⟨"com/example/libgriddraw/libgriddraw/core/RotationSystemInsertClockwiseOfPinLaw", "expCcw", "(IIII)I"⟩ : MethodName)) (W := 1) (argsL := [(.int (2 : Int32)), (.int (2 : Int32)), (.int (0 : Int32)), (.int v5)]) (rest := [(.int ((own_up (own_up (own_up (own_up (own_up (fun _ => 0) v7 v7) ((own_up (fun _ => 0) v7 v7) v7.toInt.toNat) v9) v9 v7) ((own_up (own_up (own_up (fun _ => 0) v7 v7) v9 ((own_up (fun _ => 0) v7 v7) v7.toInt.toNat)) v7 v9) v7.toInt.toNat) v11) v11 v7) v11.toInt.toNat))]) X66 hx hZ hown (hw _ (List.mem_of_getElem? (i := 51) rfl)) (hw _ (List.mem_of_getElem? (i := 52) rfl)) (hw _ (List.mem_of_getElem? (i := 3) rfl)) (hw _ (List.mem_of_getElem? (i := 53) rfl)) (by decide) e66 (rm21 l Z a0 hw [] (2 : Int32) (2 : Int32) (0 : Int32) v5  T46.heap n0 ) (by decide) (by decide) (by decide) (by decide) (g := (mkF m 317 #[.val (.int p0), .val (.int p1), .val (.int p2), .val (.int p3), .val (.int v1), .val (.int v2), .val (.int (2 : Int32)), .val (.int v5), .val (.int v7), .val (.int v9), .val (.int v11), .val (.ref b12), .val (.int (0 : Int32)), .val (.int (1 : Int32)), .val (.int v7)] [(.int v5), (.int (0 : Int32)), (.int (2 : Int32)), (.int (2 : Int32)), (.int ((own_up (own_up (own_up (own_up (own_up (fun _ => 0) v7 v7) ((own_up (fun _ => 0) v7 v7) v7.toInt.toNat) v9) v9 v7) ((own_up (own_up (own_up (fun _ => 0) v7 v7) v9 ((own_up (fun _ => 0) v7 v7) v7.toInt.toNat)) v7 v9) v7.toInt.toNat) v11) v11 v7) v11.toInt.toNat))])) rfl (by rw [hml]; rfl) (lenOf pd_6 rfl) rfl (by show 2 * 0 + _ ≤ _; exact Nat.le_of_eq rfl) (hb hby at_317)
        have N67 := Fr.app N66 Nq67
        refine hD _ (T67.setTop (mkF m 320 #[.val (.int p0), .val (.int p1), .val (.int p2), .val (.int p3), .val (.int v1), .val (.int v2), .val (.int (2 : Int32)), .val (.int v5), .val (.int v7), .val (.int v9), .val (.int v11), .val (.ref b12), .val (.int (0 : Int32)), .val (.int (1 : Int32)), .val (.int v7)] [(.int (own_eccw (2 : Int32) (2 : Int32) (0 : Int32) v5)), (.int ((own_up (own_up (own_up (own_up (own_up (fun _ => 0) v7 v7) ((own_up (fun _ => 0) v7 v7) v7.toInt.toNat) v9) v9 v7) ((own_up (own_up (own_up (fun _ => 0) v7 v7) v9 ((own_up (fun _ => 0) v7 v7) v7.toInt.toNat)) v7 v9) v7.toInt.toNat) v11) v11 v7) v11.toInt.toNat))])) (fun t k => ?_) ?_
        · show Steps p.tables e below (T64.setTop (mkF m 300 #[.val (.int p0), .val (.int p1), .val (.int p2), .val (.int p3), .val (.int v1), .val (.int v2), .val (.int (2 : Int32)), .val (.int v5), .val (.int v7), .val (.int v9), .val (.int v11), .val (.ref b12), .val (.int (0 : Int32)), .val (.int (1 : Int32)), .val (.int v7)] [(.int (own_ecw (2 : Int32) (2 : Int32) (0 : Int32) v5)), (.int ((own_up (own_up (own_up (own_up (own_up (fun _ => 0) v7 v7) v9 ((own_up (fun _ => 0) v7 v7) v7.toInt.toNat)) v7 v9) v11 ((own_up (own_up (own_up (fun _ => 0) v7 v7) v9 ((own_up (fun _ => 0) v7 v7) v7.toInt.toNat)) v7 v9) v7.toInt.toNat)) v7 v11) v11.toInt.toNat))])) t
          refine XS.icmpNo X64.here hx rfl (hb hby at_300) rfl (teq hc65).2 ?_
          show Steps p.tables e below (T64.setTop (mkF m 303 #[.val (.int p0), .val (.int p1), .val (.int p2), .val (.int p3), .val (.int v1), .val (.int v2), .val (.int (2 : Int32)), .val (.int v5), .val (.int v7), .val (.int v9), .val (.int v11), .val (.ref b12), .val (.int (0 : Int32)), .val (.int (1 : Int32)), .val (.int v7)] [])) t
          refine XS.aload X64.here hx rfl (hb hby at_303) rfl rfl ?_
          show Steps p.tables e below (T64.setTop (mkF m 305 #[.val (.int p0), .val (.int p1), .val (.int p2), .val (.int p3), .val (.int v1), .val (.int v2), .val (.int (2 : Int32)), .val (.int v5), .val (.int v7), .val (.int v9), .val (.int v11), .val (.ref b12), .val (.int (0 : Int32)), .val (.int (1 : Int32)), .val (.int v7)] [(.ref b12)])) t
          refine XS.iload X64.here hx rfl (hb hby at_305) rfl ?_
          show Steps p.tables e below (T64.setTop (mkF m 307 #[.val (.int p0), .val (.int p1), .val (.int p2), .val (.int p3), .val (.int v1), .val (.int v2), .val (.int (2 : Int32)), .val (.int v5), .val (.int v7), .val (.int v9), .val (.int v11), .val (.ref b12), .val (.int (0 : Int32)), .val (.int (1 : Int32)), .val (.int v7)] [(.int v11), (.ref b12)])) t
          refine st66 _ ?_
          show Steps p.tables e below (T66.setTop (mkF m 310 #[.val (.int p0), .val (.int p1), .val (.int p2), .val (.int p3), .val (.int v1), .val (.int v2), .val (.int (2 : Int32)), .val (.int v5), .val (.int v7), .val (.int v9), .val (.int v11), .val (.ref b12), .val (.int (0 : Int32)), .val (.int (1 : Int32)), .val (.int v7)] [(.int ((own_up (own_up (own_up (own_up (own_up (fun _ => 0) v7 v7) ((own_up (fun _ => 0) v7 v7) v7.toInt.toNat) v9) v9 v7) ((own_up (own_up (own_up (fun _ => 0) v7 v7) v9 ((own_up (fun _ => 0) v7 v7) v7.toInt.toNat)) v7 v9) v7.toInt.toNat) v11) v11 v7) v11.toInt.toNat))])) t
          refine XS.iconst X66.here hx rfl (hb hby at_310) ?_
          show Steps p.tables e below (T66.setTop (mkF m 311 #[.val (.int p0), .val (.int p1), .val (.int p2), .val (.int p3), .val (.int v1), .val (.int v2), .val (.int (2 : Int32)), .val (.int v5), .val (.int v7), .val (.int v9), .val (.int v11), .val (.ref b12), .val (.int (0 : Int32)), .val (.int (1 : Int32)), .val (.int v7)] [(.int (2 : Int32)), (.int ((own_up (own_up (own_up (own_up (own_up (fun _ => 0) v7 v7) ((own_up (fun _ => 0) v7 v7) v7.toInt.toNat) v9) v9 v7) ((own_up (own_up (own_up (fun _ => 0) v7 v7) v9 ((own_up (fun _ => 0) v7 v7) v7.toInt.toNat)) v7 v9) v7.toInt.toNat) v11) v11 v7) v11.toInt.toNat))])) t
          refine XS.iload X66.here hx rfl (hb hby at_311) rfl ?_
          show Steps p.tables e below (T66.setTop (mkF m 313 #[.val (.int p0), .val (.int p1), .val (.int p2), .val (.int p3), .val (.int v1), .val (.int v2), .val (.int (2 : Int32)), .val (.int v5), .val (.int v7), .val (.int v9), .val (.int v11), .val (.ref b12), .val (.int (0 : Int32)), .val (.int (1 : Int32)), .val (.int v7)] [(.int (2 : Int32)), (.int (2 : Int32)), (.int ((own_up (own_up (own_up (own_up (own_up (fun _ => 0) v7 v7) ((own_up (fun _ => 0) v7 v7) v7.toInt.toNat) v9) v9 v7) ((own_up (own_up (own_up (fun _ => 0) v7 v7) v9 ((own_up (fun _ => 0) v7 v7) v7.toInt.toNat)) v7 v9) v7.toInt.toNat) v11) v11 v7) v11.toInt.toNat))])) t
          refine XS.iload X66.here hx rfl (hb hby at_313) rfl ?_
          show Steps p.tables e below (T66.setTop (mkF m 315 #[.val (.int p0), .val (.int p1), .val (.int p2), .val (.int p3), .val (.int v1), .val (.int v2), .val (.int (2 : Int32)), .val (.int v5), .val (.int v7), .val (.int v9), .val (.int v11), .val (.ref b12), .val (.int (0 : Int32)), .val (.int (1 : Int32)), .val (.int v7)] [(.int (0 : Int32)), (.int (2 : Int32)), (.int (2 : Int32)), (.int ((own_up (own_up (own_up (own_up (own_up (fun _ => 0) v7 v7) ((own_up (fun _ => 0) v7 v7) v7.toInt.toNat) v9) v9 v7) ((own_up (own_up (own_up (fun _ => 0) v7 v7) v9 ((own_up (fun _ => 0) v7 v7) v7.toInt.toNat)) v7 v9) v7.toInt.toNat) v11) v11 v7) v11.toInt.toNat))])) t
          refine XS.iload X66.here hx rfl (hb hby at_315) rfl ?_
          show Steps p.tables e below (T66.setTop (mkF m 317 #[.val (.int p0), .val (.int p1), .val (.int p2), .val (.int p3), .val (.int v1), .val (.int v2), .val (.int (2 : Int32)), .val (.int v5), .val (.int v7), .val (.int v9), .val (.int v11), .val (.ref b12), .val (.int (0 : Int32)), .val (.int (1 : Int32)), .val (.int v7)] [(.int v5), (.int (0 : Int32)), (.int (2 : Int32)), (.int (2 : Int32)), (.int ((own_up (own_up (own_up (own_up (own_up (fun _ => 0) v7 v7) ((own_up (fun _ => 0) v7 v7) v7.toInt.toNat) v9) v9 v7) ((own_up (own_up (own_up (fun _ => 0) v7 v7) v9 ((own_up (fun _ => 0) v7 v7) v7.toInt.toNat)) v7 v9) v7.toInt.toNat) v11) v11 v7) v11.toInt.toNat))])) t
          refine st67 _ ?_
          show Steps p.tables e below (T67.setTop (mkF m 320 #[.val (.int p0), .val (.int p1), .val (.int p2), .val (.int p3), .val (.int v1), .val (.int v2), .val (.int (2 : Int32)), .val (.int v5), .val (.int v7), .val (.int v9), .val (.int v11), .val (.ref b12), .val (.int (0 : Int32)), .val (.int (1 : Int32)), .val (.int v7)] [(.int (own_eccw (2 : Int32) (2 : Int32) (0 : Int32) v5)), (.int ((own_up (own_up (own_up (own_up (own_up (fun _ => 0) v7 v7) ((own_up (fun _ => 0) v7 v7) v7.toInt.toNat) v9) v9 v7) ((own_up (own_up (own_up (fun _ => 0) v7 v7) v9 ((own_up (fun _ => 0) v7 v7) v7.toInt.toNat)) v7 v9) v7.toInt.toNat) v11) v11 v7) v11.toInt.toNat))])) t
          exact k
        have hc68 : ((own_up (own_up (own_up (own_up (own_up (fun _ => 0) v7 v7) ((own_up (fun _ => 0) v7 v7) v7.toInt.toNat) v9) v9 v7) ((own_up (own_up (own_up (fun _ => 0) v7 v7) v9 ((own_up (fun _ => 0) v7 v7) v7.toInt.toNat)) v7 v9) v7.toInt.toNat) v11) v11 v7) v11.toInt.toNat) = (own_eccw (2 : Int32) (2 : Int32) (0 : Int32) v5) := by subst hv2 hv7 hv9 hv11; rcases own_s4 hv5 with rfl | rfl | rfl | rfl <;> rcases own_o2 hv1 with rfl | rfl <;> decide +kernel
        refine hD _ (T67.setTop (mkF m 332 #[.val (.int p0), .val (.int p1), .val (.int p2), .val (.int p3), .val (.int v1), .val (.int v2), .val (.int (2 : Int32)), .val (.int v5), .val (.int v7), .val (.int v9), .val (.int v11), .val (.ref b12), .val (.int (0 : Int32)), .val (.int (1 : Int32)), .val (.int v7)] [(.int (1 : Int32))])) (fun t k => ?_) ?_
        · show Steps p.tables e below (T67.setTop (mkF m 320 #[.val (.int p0), .val (.int p1), .val (.int p2), .val (.int p3), .val (.int v1), .val (.int v2), .val (.int (2 : Int32)), .val (.int v5), .val (.int v7), .val (.int v9), .val (.int v11), .val (.ref b12), .val (.int (0 : Int32)), .val (.int (1 : Int32)), .val (.int v7)] [(.int (own_eccw (2 : Int32) (2 : Int32) (0 : Int32) v5)), (.int ((own_up (own_up (own_up (own_up (own_up (fun _ => 0) v7 v7) ((own_up (fun _ => 0) v7 v7) v7.toInt.toNat) v9) v9 v7) ((own_up (own_up (own_up (fun _ => 0) v7 v7) v9 ((own_up (fun _ => 0) v7 v7) v7.toInt.toNat)) v7 v9) v7.toInt.toNat) v11) v11 v7) v11.toInt.toNat))])) t
          refine XS.icmpNo X67.here hx rfl (hb hby at_320) rfl (teq hc68).2 ?_
          show Steps p.tables e below (T67.setTop (mkF m 323 #[.val (.int p0), .val (.int p1), .val (.int p2), .val (.int p3), .val (.int v1), .val (.int v2), .val (.int (2 : Int32)), .val (.int v5), .val (.int v7), .val (.int v9), .val (.int v11), .val (.ref b12), .val (.int (0 : Int32)), .val (.int (1 : Int32)), .val (.int v7)] [])) t
          refine XS.iconst X67.here hx rfl (hb hby at_323) ?_
          show Steps p.tables e below (T67.setTop (mkF m 324 #[.val (.int p0), .val (.int p1), .val (.int p2), .val (.int p3), .val (.int v1), .val (.int v2), .val (.int (2 : Int32)), .val (.int v5), .val (.int v7), .val (.int v9), .val (.int v11), .val (.ref b12), .val (.int (0 : Int32)), .val (.int (1 : Int32)), .val (.int v7)] [(.int (1 : Int32))])) t
          refine XS.goto X67.here hx rfl (pc0 := 324) (pc' := 328) rfl (hb hby at_324) (by decide) (by decide) ?_
          show Steps p.tables e below (T67.setTop (mkF m 328 #[.val (.int p0), .val (.int p1), .val (.int p2), .val (.int p3), .val (.int v1), .val (.int v2), .val (.int (2 : Int32)), .val (.int v5), .val (.int v7), .val (.int v9), .val (.int v11), .val (.ref b12), .val (.int (0 : Int32)), .val (.int (1 : Int32)), .val (.int v7)] [(.int (1 : Int32))])) t
          refine XS.istore X67.here hx rfl (hb hby at_328) rfl (l' := #[.val (.int p0), .val (.int p1), .val (.int p2), .val (.int p3), .val (.int v1), .val (.int v2), .val (.int (2 : Int32)), .val (.int v5), .val (.int v7), .val (.int v9), .val (.int v11), .val (.ref b12), .val (.int (0 : Int32)), .val (.int (1 : Int32)), .val (.int v7)]) rfl ?_
          show Steps p.tables e below (T67.setTop (mkF m 330 #[.val (.int p0), .val (.int p1), .val (.int p2), .val (.int p3), .val (.int v1), .val (.int v2), .val (.int (2 : Int32)), .val (.int v5), .val (.int v7), .val (.int v9), .val (.int v11), .val (.ref b12), .val (.int (0 : Int32)), .val (.int (1 : Int32)), .val (.int v7)] [])) t
          refine XS.iload X67.here hx rfl (hb hby at_330) rfl ?_
          show Steps p.tables e below (T67.setTop (mkF m 332 #[.val (.int p0), .val (.int p1), .val (.int p2), .val (.int p3), .val (.int v1), .val (.int v2), .val (.int (2 : Int32)), .val (.int v5), .val (.int v7), .val (.int v9), .val (.int v11), .val (.ref b12), .val (.int (0 : Int32)), .val (.int (1 : Int32)), .val (.int v7)] [(.int (1 : Int32))])) t
          exact k
        exact Own.retN hR X67 hx (t := .boolean) hret (by simp) (hb hby at_332) (by decide) (by decide) (by decide) ⟨rfl, N67⟩
      · refine hD _ (T42.setTop (mkF m 129 #[.val (.int p0), .val (.int p1), .val (.int p2), .val (.int p3), .val (.int v1), .val (.int v2), .val (.int (2 : Int32)), .val (.int v5), .val (.int v7), .val (.int v9), .val (.int v11), .val (.ref b12), .val (.int v44), .val (.int v11), .unset] [])) (fun t k => ?_) ?_
        · show Steps p.tables e below (T42.setTop (mkF m 121 #[.val (.int p0), .val (.int p1), .val (.int p2), .val (.int p3), .val (.int v1), .val (.int v2), .val (.int (2 : Int32)), .val (.int v5), .val (.int v7), .val (.int v9), .val (.int v11), .val (.ref b12), .val (.int v44), .val (.int v11), .unset] [(.int v44)])) t
          refine XS.ifYes X42.here hx rfl (pc0 := 121) (pc' := 129) rfl (hb hby at_121) rfl ((if0 _ _).trans (feq hc45).2) (by decide) (by decide) ?_
          show Steps p.tables e below (T42.setTop (mkF m 129 #[.val (.int p0), .val (.int p1), .val (.int p2), .val (.int p3), .val (.int v1), .val (.int v2), .val (.int (2 : Int32)), .val (.int v5), .val (.int v7), .val (.int v9), .val (.int v11), .val (.ref b12), .val (.int v44), .val (.int v11), .unset] [])) t
          exact k
        have hl12 : v44 = 1 := own_j2 hv44 hc45
        subst hl12
        obtain ⟨T69, _, L69, X69, ⟨rfl, Nq69, E69, FccwNext_69, FcwNext_69, FfirstOut_69, Ac_69, Aw_69, Af_69⟩, st69⟩ := Own.callV (y := (⟨"com/example/libgriddraw/libgriddraw/core/RotationSystem", "insertClockwiseOf", "(III)V"⟩ : MethodName)) (W := 0) (argsL := [(.int v11), (.int v1), (.int v9)]) (rest := []) (a := b12) X42 hx hZ hown (hw _ (List.mem_of_getElem? (i := 28) rfl)) (hw _ (List.mem_of_getElem? (i := 29) rfl)) (hw _ (List.mem_of_getElem? (i := 31) rfl)) (hw _ (List.mem_of_getElem? (i := 30) rfl)) (hw _ (List.mem_of_getElem? (i := 7) rfl)) (hw _ (List.mem_of_getElem? (i := 32) rfl)) (by decide) rfl E42 (rm6 l Z a0 hw [] b12 v11 v1 v9 rc16 rw16 rf16 (own_up (own_up (own_up (fun _ => 0) v7 v7) ((own_up (fun _ => 0) v7 v7) v7.toInt.toNat) v9) v9 v7) (own_up (own_up (own_up (fun _ => 0) v7 v7) v9 ((own_up (fun _ => 0) v7 v7) v7.toInt.toNat)) v7 v9) (own_up (fun _ => (-1 : Int32)) v1 v7) T42.heap n0 Z42 g0_b12 l1_16 l2_16 l3_16 (by subst hv2 hv7 hv9 hv11; rcases own_s4 hv5 with rfl | rfl | rfl | rfl <;> rcases own_o2 hv1 with rfl | rfl <;> decide +kernel) (by subst hv2 hv7 hv9 hv11; rcases own_s4 hv5 with rfl | rfl | rfl | rfl <;> rcases own_o2 hv1 with rfl | rfl <;> decide +kernel) (by subst hv2 hv7 hv9 hv11; rcases own_s4 hv5 with rfl | rfl | rfl | rfl <;> rcases own_o2 hv1 with rfl | rfl <;> decide +kernel) (by subst hv2 hv7 hv9 hv11; rcases own_s4 hv5 with rfl | rfl | rfl | rfl <;> rcases own_o2 hv1 with rfl | rfl <;> decide +kernel) E42 FccwNext_42 FcwNext_42 FfirstOut_42 Ac_42 Aw_42 Af_42) (by decide) (by decide) (by decide) (by decide) (g := (mkF m 141 #[.val (.int p0), .val (.int p1), .val (.int p2), .val (.int p3), .val (.int v1), .val (.int v2), .val (.int (2 : Int32)), .val (.int v5), .val (.int v7), .val (.int v9), .val (.int v11), .val (.ref b12), .val (.int (1 : Int32)), .val (.int v11), .val (.int v9)] [(.int v9), (.int v1), (.int v11), (.ref b12)])) rfl (by rw [hml]; rfl) (lenOf pd_4 rfl) rfl (by show 2 * 0 + _ ≤ _; exact Nat.le_of_eq rfl) (hb hby at_141)
        have N69 := Fr.app N42 Nq69
        have Z69 : n0 ≤ T69.heap.size := Nat.le_trans g0_b12 (Nat.le_of_lt E69.lt)
        obtain ⟨T70, _, L70, X70, ⟨rfl, Nq70, e70⟩, st70⟩ := Own.callV (y := (⟨"com/example/libgriddraw/libgriddraw/core/RotationSystem", "firstOut", "(I)I"⟩ : MethodName)) (W := 0) (argsL := [(.int v1)]) (rest := []) (a := b12) X69 hx hZ hown (hw _ (List.mem_of_getElem? (i := 33) rfl)) (hw _ (List.mem_of_getElem? (i := 34) rfl)) (hw _ (List.mem_of_getElem? (i := 36) rfl)) (hw _ (List.mem_of_getElem? (i := 35) rfl)) (hw _ (List.mem_of_getElem? (i := 7) rfl)) (hw _ (List.mem_of_getElem? (i := 37) rfl)) (by decide) rfl E69 (rm7 l Z a0 hw [] b12 v1 rf16 (own_up (fun _ => (-1 : Int32)) v1 v7) T69.heap n0 (by subst hv2 hv7 hv9 hv11; rcases own_s4 hv5 with rfl | rfl | rfl | rfl <;> rcases own_o2 hv1 with rfl | rfl <;> decide +kernel) FfirstOut_69 Af_69) (by decide) (by decide) (by decide) (by decide) (g := (mkF m 148 #[.val (.int p0), .val (.int p1), .val (.int p2), .val (.int p3), .val (.int v1), .val (.int v2), .val (.int (2 : Int32)), .val (.int v5), .val (.int v7), .val (.int v9), .val (.int v11), .val (.ref b12), .val (.int (1 : Int32)), .val (.int v11), .val (.int v9)] [(.int v1), (.ref b12)])) rfl (by rw [hml]; rfl) (lenOf pd_5 rfl) rfl (by show 2 * 0 + _ ≤ _; exact Nat.le_of_eq rfl) (hb hby at_148)
        have N70 := Fr.app N69 Nq70
        refine hD _ (T70.setTop (mkF m 153 #[.val (.int p0), .val (.int p1), .val (.int p2), .val (.int p3), .val (.int v1), .val (.int v2), .val (.int (2 : Int32)), .val (.int v5), .val (.int v7), .val (.int v9), .val (.int v11), .val (.ref b12), .val (.int (1 : Int32)), .val (.int v11), .val (.int v9)] [(.int v7), (.int ((own_up (fun _ => (-1 : Int32)) v1 v7) v1.toInt.toNat))])) (fun t k => ?_) ?_
        · show Steps p.tables e below (T42.setTop (mkF m 129 #[.val (.int p0), .val (.int p1), .val (.int p2), .val (.int p3), .val (.int v1), .val (.int v2), .val (.int (2 : Int32)), .val (.int v5), .val (.int v7), .val (.int v9), .val (.int v11), .val (.ref b12), .val (.int (1 : Int32)), .val (.int v11), .unset] [])) t
          refine XS.iload X42.here hx rfl (hb hby at_129) rfl ?_
          show Steps p.tables e below (T42.setTop (mkF m 131 #[.val (.int p0), .val (.int p1), .val (.int p2), .val (.int p3), .val (.int v1), .val (.int v2), .val (.int (2 : Int32)), .val (.int v5), .val (.int v7), .val (.int v9), .val (.int v11), .val (.ref b12), .val (.int (1 : Int32)), .val (.int v11), .unset] [(.int v9)])) t
          refine XS.istore X42.here hx rfl (hb hby at_131) rfl (l' := #[.val (.int p0), .val (.int p1), .val (.int p2), .val (.int p3), .val (.int v1), .val (.int v2), .val (.int (2 : Int32)), .val (.int v5), .val (.int v7), .val (.int v9), .val (.int v11), .val (.ref b12), .val (.int (1 : Int32)), .val (.int v11), .val (.int v9)]) rfl ?_
          show Steps p.tables e below (T42.setTop (mkF m 133 #[.val (.int p0), .val (.int p1), .val (.int p2), .val (.int p3), .val (.int v1), .val (.int v2), .val (.int (2 : Int32)), .val (.int v5), .val (.int v7), .val (.int v9), .val (.int v11), .val (.ref b12), .val (.int (1 : Int32)), .val (.int v11), .val (.int v9)] [])) t
          refine XS.aload X42.here hx rfl (hb hby at_133) rfl rfl ?_
          show Steps p.tables e below (T42.setTop (mkF m 135 #[.val (.int p0), .val (.int p1), .val (.int p2), .val (.int p3), .val (.int v1), .val (.int v2), .val (.int (2 : Int32)), .val (.int v5), .val (.int v7), .val (.int v9), .val (.int v11), .val (.ref b12), .val (.int (1 : Int32)), .val (.int v11), .val (.int v9)] [(.ref b12)])) t
          refine XS.iload X42.here hx rfl (hb hby at_135) rfl ?_
          show Steps p.tables e below (T42.setTop (mkF m 137 #[.val (.int p0), .val (.int p1), .val (.int p2), .val (.int p3), .val (.int v1), .val (.int v2), .val (.int (2 : Int32)), .val (.int v5), .val (.int v7), .val (.int v9), .val (.int v11), .val (.ref b12), .val (.int (1 : Int32)), .val (.int v11), .val (.int v9)] [(.int v11), (.ref b12)])) t
          refine XS.iload X42.here hx rfl (hb hby at_137) rfl ?_
          show Steps p.tables e below (T42.setTop (mkF m 139 #[.val (.int p0), .val (.int p1), .val (.int p2), .val (.int p3), .val (.int v1), .val (.int v2), .val (.int (2 : Int32)), .val (.int v5), .val (.int v7), .val (.int v9), .val (.int v11), .val (.ref b12), .val (.int (1 : Int32)), .val (.int v11), .val (.int v9)] [(.int v1), (.int v11), (.ref b12)])) t
          refine XS.iload X42.here hx rfl (hb hby at_139) rfl ?_
          show Steps p.tables e below (T42.setTop (mkF m 141 #[.val (.int p0), .val (.int p1), .val (.int p2), .val (.int p3), .val (.int v1), .val (.int v2), .val (.int (2 : Int32)), .val (.int v5), .val (.int v7), .val (.int v9), .val (.int v11), .val (.ref b12), .val (.int (1 : Int32)), .val (.int v11), .val (.int v9)] [(.int v9), (.int v1), (.int v11), (.ref b12)])) t
          refine st69 _ ?_
          show Steps p.tables e below (T69.setTop (mkF m 144 #[.val (.int p0), .val (.int p1), .val (.int p2), .val (.int p3), .val (.int v1), .val (.int v2), .val (.int (2 : Int32)), .val (.int v5), .val (.int v7), .val (.int v9), .val (.int v11), .val (.ref b12), .val (.int (1 : Int32)), .val (.int v11), .val (.int v9)] [])) t
          refine XS.aload X69.here hx rfl (hb hby at_144) rfl rfl ?_
          show Steps p.tables e below (T69.setTop (mkF m 146 #[.val (.int p0), .val (.int p1), .val (.int p2), .val (.int p3), .val (.int v1), .val (.int v2), .val (.int (2 : Int32)), .val (.int v5), .val (.int v7), .val (.int v9), .val (.int v11), .val (.ref b12), .val (.int (1 : Int32)), .val (.int v11), .val (.int v9)] [(.ref b12)])) t
          refine XS.iload X69.here hx rfl (hb hby at_146) rfl ?_
          show Steps p.tables e below (T69.setTop (mkF m 148 #[.val (.int p0), .val (.int p1), .val (.int p2), .val (.int p3), .val (.int v1), .val (.int v2), .val (.int (2 : Int32)), .val (.int v5), .val (.int v7), .val (.int v9), .val (.int v11), .val (.ref b12), .val (.int (1 : Int32)), .val (.int v11), .val (.int v9)] [(.int v1), (.ref b12)])) t
          refine st70 _ ?_
          show Steps p.tables e below (T70.setTop (mkF m 151 #[.val (.int p0), .val (.int p1), .val (.int p2), .val (.int p3), .val (.int v1), .val (.int v2), .val (.int (2 : Int32)), .val (.int v5), .val (.int v7), .val (.int v9), .val (.int v11), .val (.ref b12), .val (.int (1 : Int32)), .val (.int v11), .val (.int v9)] [(.int ((own_up (fun _ => (-1 : Int32)) v1 v7) v1.toInt.toNat))])) t
          refine XS.iload X70.here hx rfl (hb hby at_151) rfl ?_
          show Steps p.tables e below (T70.setTop (mkF m 153 #[.val (.int p0), .val (.int p1), .val (.int p2), .val (.int p3), .val (.int v1), .val (.int v2), .val (.int (2 : Int32)), .val (.int v5), .val (.int v7), .val (.int v9), .val (.int v11), .val (.ref b12), .val (.int (1 : Int32)), .val (.int v11), .val (.int v9)] [(.int v7), (.int ((own_up (fun _ => (-1 : Int32)) v1 v7) v1.toInt.toNat))])) t
          exact k
        have hc71 : ((own_up (fun _ => (-1 : Int32)) v1 v7) v1.toInt.toNat) = v7 := by subst hv2 hv7 hv9 hv11; rcases own_s4 hv5 with rfl | rfl | rfl | rfl <;> rcases own_o2 hv1 with rfl | rfl <;> decide +kernel
        obtain ⟨T72, _, L72, X72, ⟨rfl, Nq72, e72⟩, st72⟩ := Own.callV (y := (⟨"com/example/libgriddraw/libgriddraw/core/RotationSystem", "firstOut", "(I)I"⟩ : MethodName)) (W := 0) (argsL := [(.int v2)]) (rest := []) (a := b12) X70 hx hZ hown (hw _ (List.mem_of_getElem? (i := 33) rfl)) (hw _ (List.mem_of_getElem? (i := 34) rfl)) (hw _ (List.mem_of_getElem? (i := 36) rfl)) (hw _ (List.mem_of_getElem? (i := 35) rfl)) (hw _ (List.mem_of_getElem? (i := 7) rfl)) (hw _ (List.mem_of_getElem? (i := 37) rfl)) (by decide) e70 E69 (rm7 l Z a0 hw [] b12 v2 rf16 (own_up (fun _ => (-1 : Int32)) v1 v7) T69.heap n0 (by subst hv2 hv7 hv9 hv11; rcases own_s4 hv5 with rfl | rfl | rfl | rfl <;> rcases own_o2 hv1 with rfl | rfl <;> decide +kernel) FfirstOut_69 Af_69) (by decide) (by decide) (by decide) (by decide) (g := (mkF m 160 #[.val (.int p0), .val (.int p1), .val (.int p2), .val (.int p3), .val (.int v1), .val (.int v2), .val (.int (2 : Int32)), .val (.int v5), .val (.int v7), .val (.int v9), .val (.int v11), .val (.ref b12), .val (.int (1 : Int32)), .val (.int v11), .val (.int v9)] [(.int v2), (.ref b12)])) rfl (by rw [hml]; rfl) (lenOf pd_5 rfl) rfl (by show 2 * 0 + _ ≤ _; exact Nat.le_of_eq rfl) (hb hby at_160)
        have N72 := Fr.app N70 Nq72
        refine hD _ (T72.setTop (mkF m 164 #[.val (.int p0), .val (.int p1), .val (.int p2), .val (.int p3), .val (.int v1), .val (.int v2), .val (.int (2 : Int32)), .val (.int v5), .val (.int v7), .val (.int v9), .val (.int v11), .val (.ref b12), .val (.int (1 : Int32)), .val (.int v11), .val (.int v9)] [(.int (-1 : Int32)), (.int ((own_up (fun _ => (-1 : Int32)) v1 v7) v2.toInt.toNat))])) (fun t k => ?_) ?_
        · show Steps p.tables e below (T70.setTop (mkF m 153 #[.val (.int p0), .val (.int p1), .val (.int p2), .val (.int p3), .val (.int v1), .val (.int v2), .val (.int (2 : Int32)), .val (.int v5), .val (.int v7), .val (.int v9), .val (.int v11), .val (.ref b12), .val (.int (1 : Int32)), .val (.int v11), .val (.int v9)] [(.int v7), (.int ((own_up (fun _ => (-1 : Int32)) v1 v7) v1.toInt.toNat))])) t
          refine XS.icmpNo X70.here hx rfl (hb hby at_153) rfl (teq hc71).2 ?_
          show Steps p.tables e below (T70.setTop (mkF m 156 #[.val (.int p0), .val (.int p1), .val (.int p2), .val (.int p3), .val (.int v1), .val (.int v2), .val (.int (2 : Int32)), .val (.int v5), .val (.int v7), .val (.int v9), .val (.int v11), .val (.ref b12), .val (.int (1 : Int32)), .val (.int v11), .val (.int v9)] [])) t
          refine XS.aload X70.here hx rfl (hb hby at_156) rfl rfl ?_
          show Steps p.tables e below (T70.setTop (mkF m 158 #[.val (.int p0), .val (.int p1), .val (.int p2), .val (.int p3), .val (.int v1), .val (.int v2), .val (.int (2 : Int32)), .val (.int v5), .val (.int v7), .val (.int v9), .val (.int v11), .val (.ref b12), .val (.int (1 : Int32)), .val (.int v11), .val (.int v9)] [(.ref b12)])) t
          refine XS.iload X70.here hx rfl (hb hby at_158) rfl ?_
          show Steps p.tables e below (T70.setTop (mkF m 160 #[.val (.int p0), .val (.int p1), .val (.int p2), .val (.int p3), .val (.int v1), .val (.int v2), .val (.int (2 : Int32)), .val (.int v5), .val (.int v7), .val (.int v9), .val (.int v11), .val (.ref b12), .val (.int (1 : Int32)), .val (.int v11), .val (.int v9)] [(.int v2), (.ref b12)])) t
          refine st72 _ ?_
          show Steps p.tables e below (T72.setTop (mkF m 163 #[.val (.int p0), .val (.int p1), .val (.int p2), .val (.int p3), .val (.int v1), .val (.int v2), .val (.int (2 : Int32)), .val (.int v5), .val (.int v7), .val (.int v9), .val (.int v11), .val (.ref b12), .val (.int (1 : Int32)), .val (.int v11), .val (.int v9)] [(.int ((own_up (fun _ => (-1 : Int32)) v1 v7) v2.toInt.toNat))])) t
          refine XS.iconst X72.here hx rfl (hb hby at_163) ?_
          show Steps p.tables e below (T72.setTop (mkF m 164 #[.val (.int p0), .val (.int p1), .val (.int p2), .val (.int p3), .val (.int v1), .val (.int v2), .val (.int (2 : Int32)), .val (.int v5), .val (.int v7), .val (.int v9), .val (.int v11), .val (.ref b12), .val (.int (1 : Int32)), .val (.int v11), .val (.int v9)] [(.int (-1 : Int32)), (.int ((own_up (fun _ => (-1 : Int32)) v1 v7) v2.toInt.toNat))])) t
          exact k
        have hc73 : ((own_up (fun _ => (-1 : Int32)) v1 v7) v2.toInt.toNat) = (-1 : Int32) := by subst hv2 hv7 hv9 hv11; rcases own_s4 hv5 with rfl | rfl | rfl | rfl <;> rcases own_o2 hv1 with rfl | rfl <;> decide +kernel
        obtain ⟨T74, _, L74, X74, ⟨rfl, Nq74, e74⟩, st74⟩ := Own.callV (y := (⟨"com/example/libgriddraw/libgriddraw/core/RotationSystem", "cwNext", "(I)I"⟩ : MethodName)) (W := 0) (argsL := [(.int v7)]) (rest := []) (a := b12) X72 hx hZ hown (hw _ (List.mem_of_getElem? (i := 38) rfl)) (hw _ (List.mem_of_getElem? (i := 39) rfl)) (hw _ (List.mem_of_getElem? (i := 41) rfl)) (hw _ (List.mem_of_getElem? (i := 40) rfl)) (hw _ (List.mem_of_getElem? (i := 7) rfl)) (hw _ (List.mem_of_getElem? (i := 42) rfl)) (by decide) e72 E69 (rm8 l Z a0 hw [] b12 v7 rw16 (own_up (own_up (own_up (own_up (own_up (fun _ => 0) v7 v7) v9 ((own_up (fun _ => 0) v7 v7) v7.toInt.toNat)) v7 v9) v11 ((own_up (own_up (own_up (fun _ => 0) v7 v7) v9 ((own_up (fun _ => 0) v7 v7) v7.toInt.toNat)) v7 v9) v9.toInt.toNat)) v9 v11) T69.heap n0 (by subst hv2 hv7 hv9 hv11; rcases own_s4 hv5 with rfl | rfl | rfl | rfl <;> rcases own_o2 hv1 with rfl | rfl <;> decide +kernel) FcwNext_69 Aw_69) (by decide) (by decide) (by decide) (by decide) (g := (mkF m 183 #[.val (.int p0), .val (.int p1), .val (.int p2), .val (.int p3), .val (.int v1), .val (.int v2), .val (.int (2 : Int32)), .val (.int v5), .val (.int v7), .val (.int v9), .val (.int v11), .val (.ref b12), .val (.int (1 : Int32)), .val (.int (1 : Int32)), .val (.int v9)] [(.int v7), (.ref b12)])) rfl (by rw [hml]; rfl) (lenOf pd_5 rfl) rfl (by show 2 * 0 + _ ≤ _; exact Nat.le_of_eq rfl) (hb hby at_183)
        have N74 := Fr.app N72 Nq74
        obtain ⟨T75, _, L75, X75, ⟨rfl, Nq75, e75⟩, st75⟩ := Own.callS (y := (⟨"com/example/libgriddraw/libgriddraw/core/RotationSystemInsertClockwiseOfPinLaw", "expCw", "(IIII)I"⟩ : MethodName)) (W := 1) (argsL := [(.int (0 : Int32)), (.int (2 : Int32)), (.int (1 : Int32)), (.int v5)]) (rest := [(.int ((own_up (own_up (own_up (own_up (own_up (fun _ => 0) v7 v7) v9 ((own_up (fun _ => 0) v7 v7) v7.toInt.toNat)) v7 v9) v11 ((own_up (own_up (own_up (fun _ => 0) v7 v7) v9 ((own_up (fun _ => 0) v7 v7) v7.toInt.toNat)) v7 v9) v9.toInt.toNat)) v9 v11) v7.toInt.toNat))]) X74 hx hZ hown (hw _ (List.mem_of_getElem? (i := 43) rfl)) (hw _ (List.mem_of_getElem? (i := 44) rfl)) (hw _ (List.mem_of_getElem? (i := 3) rfl)) (hw _ (List.mem_of_getElem? (i := 45) rfl)) (by decide) e74 (rm20 l Z a0 hw [] (0 : Int32) (2 : Int32) (1 : Int32) v5  T69.heap n0 ) (by decide) (by decide) (by decide) (by decide) (g := (mkF m 193 #[.val (.int p0), .val (.int p1), .val (.int p2), .val (.int p3), .val (.int v1), .val (.int v2), .val (.int (2 : Int32)), .val (.int v5), .val (.int v7), .val (.int v9), .val (.int v11), .val (.ref b12), .val (.int (1 : Int32)), .val (.int (1 : Int32)), .val (.int v9)] [(.int v5), (.int (1 : Int32)), (.int (2 : Int32)), (.int (0 : Int32)), (.int ((own_up (own_up (own_up (own_up (own_up (fun _ => 0) v7 v7) v9 ((own_up (fun _ => 0) v7 v7) v7.toInt.toNat)) v7 v9) v11 ((own_up (own_up (own_up (fun _ => 0) v7 v7) v9 ((own_up (fun _ => 0) v7 v7) v7.toInt.toNat)) v7 v9) v9.toInt.toNat)) v9 v11) v7.toInt.toNat))])) rfl (by rw [hml]; rfl) (lenOf pd_6 rfl) rfl (by show 2 * 0 + _ ≤ _; exact Nat.le_of_eq rfl) (hb hby at_193)
        have N75 := Fr.app N74 Nq75
        refine hD _ (T75.setTop (mkF m 196 #[.val (.int p0), .val (.int p1), .val (.int p2), .val (.int p3), .val (.int v1), .val (.int v2), .val (.int (2 : Int32)), .val (.int v5), .val (.int v7), .val (.int v9), .val (.int v11), .val (.ref b12), .val (.int (1 : Int32)), .val (.int (1 : Int32)), .val (.int v9)] [(.int (own_ecw (0 : Int32) (2 : Int32) (1 : Int32) v5)), (.int ((own_up (own_up (own_up (own_up (own_up (fun _ => 0) v7 v7) v9 ((own_up (fun _ => 0) v7 v7) v7.toInt.toNat)) v7 v9) v11 ((own_up (own_up (own_up (fun _ => 0) v7 v7) v9 ((own_up (fun _ => 0) v7 v7) v7.toInt.toNat)) v7 v9) v9.toInt.toNat)) v9 v11) v7.toInt.toNat))])) (fun t k => ?_) ?_
        · show Steps p.tables e below (T72.setTop (mkF m 164 #[.val (.int p0), .val (.int p1), .val (.int p2), .val (.int p3), .val (.int v1), .val (.int v2), .val (.int (2 : Int32)), .val (.int v5), .val (.int v7), .val (.int v9), .val (.int v11), .val (.ref b12), .val (.int (1 : Int32)), .val (.int v11), .val (.int v9)] [(.int (-1 : Int32)), (.int ((own_up (fun _ => (-1 : Int32)) v1 v7) v2.toInt.toNat))])) t
          refine XS.icmpNo X72.here hx rfl (hb hby at_164) rfl (teq hc73).2 ?_
          show Steps p.tables e below (T72.setTop (mkF m 167 #[.val (.int p0), .val (.int p1), .val (.int p2), .val (.int p3), .val (.int v1), .val (.int v2), .val (.int (2 : Int32)), .val (.int v5), .val (.int v7), .val (.int v9), .val (.int v11), .val (.ref b12), .val (.int (1 : Int32)), .val (.int v11), .val (.int v9)] [])) t
          refine XS.iconst X72.here hx rfl (hb hby at_167) ?_
          show Steps p.tables e below (T72.setTop (mkF m 168 #[.val (.int p0), .val (.int p1), .val (.int p2), .val (.int p3), .val (.int v1), .val (.int v2), .val (.int (2 : Int32)), .val (.int v5), .val (.int v7), .val (.int v9), .val (.int v11), .val (.ref b12), .val (.int (1 : Int32)), .val (.int v11), .val (.int v9)] [(.int (1 : Int32))])) t
          refine XS.goto X72.here hx rfl (pc0 := 168) (pc' := 172) rfl (hb hby at_168) (by decide) (by decide) ?_
          show Steps p.tables e below (T72.setTop (mkF m 172 #[.val (.int p0), .val (.int p1), .val (.int p2), .val (.int p3), .val (.int v1), .val (.int v2), .val (.int (2 : Int32)), .val (.int v5), .val (.int v7), .val (.int v9), .val (.int v11), .val (.ref b12), .val (.int (1 : Int32)), .val (.int v11), .val (.int v9)] [(.int (1 : Int32))])) t
          refine XS.istore X72.here hx rfl (hb hby at_172) rfl (l' := #[.val (.int p0), .val (.int p1), .val (.int p2), .val (.int p3), .val (.int v1), .val (.int v2), .val (.int (2 : Int32)), .val (.int v5), .val (.int v7), .val (.int v9), .val (.int v11), .val (.ref b12), .val (.int (1 : Int32)), .val (.int (1 : Int32)), .val (.int v9)]) rfl ?_
          show Steps p.tables e below (T72.setTop (mkF m 174 #[.val (.int p0), .val (.int p1), .val (.int p2), .val (.int p3), .val (.int v1), .val (.int v2), .val (.int (2 : Int32)), .val (.int v5), .val (.int v7), .val (.int v9), .val (.int v11), .val (.ref b12), .val (.int (1 : Int32)), .val (.int (1 : Int32)), .val (.int v9)] [])) t
          refine XS.iload X72.here hx rfl (hb hby at_174) rfl ?_
          show Steps p.tables e below (T72.setTop (mkF m 176 #[.val (.int p0), .val (.int p1), .val (.int p2), .val (.int p3), .val (.int v1), .val (.int v2), .val (.int (2 : Int32)), .val (.int v5), .val (.int v7), .val (.int v9), .val (.int v11), .val (.ref b12), .val (.int (1 : Int32)), .val (.int (1 : Int32)), .val (.int v9)] [(.int (1 : Int32))])) t
          refine XS.ifNo X72.here hx rfl (hb hby at_176) rfl (by decide) ?_
          show Steps p.tables e below (T72.setTop (mkF m 179 #[.val (.int p0), .val (.int p1), .val (.int p2), .val (.int p3), .val (.int v1), .val (.int v2), .val (.int (2 : Int32)), .val (.int v5), .val (.int v7), .val (.int v9), .val (.int v11), .val (.ref b12), .val (.int (1 : Int32)), .val (.int (1 : Int32)), .val (.int v9)] [])) t
          refine XS.aload X72.here hx rfl (hb hby at_179) rfl rfl ?_
          show Steps p.tables e below (T72.setTop (mkF m 181 #[.val (.int p0), .val (.int p1), .val (.int p2), .val (.int p3), .val (.int v1), .val (.int v2), .val (.int (2 : Int32)), .val (.int v5), .val (.int v7), .val (.int v9), .val (.int v11), .val (.ref b12), .val (.int (1 : Int32)), .val (.int (1 : Int32)), .val (.int v9)] [(.ref b12)])) t
          refine XS.iload X72.here hx rfl (hb hby at_181) rfl ?_
          show Steps p.tables e below (T72.setTop (mkF m 183 #[.val (.int p0), .val (.int p1), .val (.int p2), .val (.int p3), .val (.int v1), .val (.int v2), .val (.int (2 : Int32)), .val (.int v5), .val (.int v7), .val (.int v9), .val (.int v11), .val (.ref b12), .val (.int (1 : Int32)), .val (.int (1 : Int32)), .val (.int v9)] [(.int v7), (.ref b12)])) t
          refine st74 _ ?_
          show Steps p.tables e below (T74.setTop (mkF m 186 #[.val (.int p0), .val (.int p1), .val (.int p2), .val (.int p3), .val (.int v1), .val (.int v2), .val (.int (2 : Int32)), .val (.int v5), .val (.int v7), .val (.int v9), .val (.int v11), .val (.ref b12), .val (.int (1 : Int32)), .val (.int (1 : Int32)), .val (.int v9)] [(.int ((own_up (own_up (own_up (own_up (own_up (fun _ => 0) v7 v7) v9 ((own_up (fun _ => 0) v7 v7) v7.toInt.toNat)) v7 v9) v11 ((own_up (own_up (own_up (fun _ => 0) v7 v7) v9 ((own_up (fun _ => 0) v7 v7) v7.toInt.toNat)) v7 v9) v9.toInt.toNat)) v9 v11) v7.toInt.toNat))])) t
          refine XS.iconst X74.here hx rfl (hb hby at_186) ?_
          show Steps p.tables e below (T74.setTop (mkF m 187 #[.val (.int p0), .val (.int p1), .val (.int p2), .val (.int p3), .val (.int v1), .val (.int v2), .val (.int (2 : Int32)), .val (.int v5), .val (.int v7), .val (.int v9), .val (.int v11), .val (.ref b12), .val (.int (1 : Int32)), .val (.int (1 : Int32)), .val (.int v9)] [(.int (0 : Int32)), (.int ((own_up (own_up (own_up (own_up (own_up (fun _ => 0) v7 v7) v9 ((own_up (fun _ => 0) v7 v7) v7.toInt.toNat)) v7 v9) v11 ((own_up (own_up (own_up (fun _ => 0) v7 v7) v9 ((own_up (fun _ => 0) v7 v7) v7.toInt.toNat)) v7 v9) v9.toInt.toNat)) v9 v11) v7.toInt.toNat))])) t
          refine XS.iload X74.here hx rfl (hb hby at_187) rfl ?_
          show Steps p.tables e below (T74.setTop (mkF m 189 #[.val (.int p0), .val (.int p1), .val (.int p2), .val (.int p3), .val (.int v1), .val (.int v2), .val (.int (2 : Int32)), .val (.int v5), .val (.int v7), .val (.int v9), .val (.int v11), .val (.ref b12), .val (.int (1 : Int32)), .val (.int (1 : Int32)), .val (.int v9)] [(.int (2 : Int32)), (.int (0 : Int32)), (.int ((own_up (own_up (own_up (own_up (own_up (fun _ => 0) v7 v7) v9 ((own_up (fun _ => 0) v7 v7) v7.toInt.toNat)) v7 v9) v11 ((own_up (own_up (own_up (fun _ => 0) v7 v7) v9 ((own_up (fun _ => 0) v7 v7) v7.toInt.toNat)) v7 v9) v9.toInt.toNat)) v9 v11) v7.toInt.toNat))])) t
          refine XS.iload X74.here hx rfl (hb hby at_189) rfl ?_
          show Steps p.tables e below (T74.setTop (mkF m 191 #[.val (.int p0), .val (.int p1), .val (.int p2), .val (.int p3), .val (.int v1), .val (.int v2), .val (.int (2 : Int32)), .val (.int v5), .val (.int v7), .val (.int v9), .val (.int v11), .val (.ref b12), .val (.int (1 : Int32)), .val (.int (1 : Int32)), .val (.int v9)] [(.int (1 : Int32)), (.int (2 : Int32)), (.int (0 : Int32)), (.int ((own_up (own_up (own_up (own_up (own_up (fun _ => 0) v7 v7) v9 ((own_up (fun _ => 0) v7 v7) v7.toInt.toNat)) v7 v9) v11 ((own_up (own_up (own_up (fun _ => 0) v7 v7) v9 ((own_up (fun _ => 0) v7 v7) v7.toInt.toNat)) v7 v9) v9.toInt.toNat)) v9 v11) v7.toInt.toNat))])) t
          refine XS.iload X74.here hx rfl (hb hby at_191) rfl ?_
          show Steps p.tables e below (T74.setTop (mkF m 193 #[.val (.int p0), .val (.int p1), .val (.int p2), .val (.int p3), .val (.int v1), .val (.int v2), .val (.int (2 : Int32)), .val (.int v5), .val (.int v7), .val (.int v9), .val (.int v11), .val (.ref b12), .val (.int (1 : Int32)), .val (.int (1 : Int32)), .val (.int v9)] [(.int v5), (.int (1 : Int32)), (.int (2 : Int32)), (.int (0 : Int32)), (.int ((own_up (own_up (own_up (own_up (own_up (fun _ => 0) v7 v7) v9 ((own_up (fun _ => 0) v7 v7) v7.toInt.toNat)) v7 v9) v11 ((own_up (own_up (own_up (fun _ => 0) v7 v7) v9 ((own_up (fun _ => 0) v7 v7) v7.toInt.toNat)) v7 v9) v9.toInt.toNat)) v9 v11) v7.toInt.toNat))])) t
          refine st75 _ ?_
          show Steps p.tables e below (T75.setTop (mkF m 196 #[.val (.int p0), .val (.int p1), .val (.int p2), .val (.int p3), .val (.int v1), .val (.int v2), .val (.int (2 : Int32)), .val (.int v5), .val (.int v7), .val (.int v9), .val (.int v11), .val (.ref b12), .val (.int (1 : Int32)), .val (.int (1 : Int32)), .val (.int v9)] [(.int (own_ecw (0 : Int32) (2 : Int32) (1 : Int32) v5)), (.int ((own_up (own_up (own_up (own_up (own_up (fun _ => 0) v7 v7) v9 ((own_up (fun _ => 0) v7 v7) v7.toInt.toNat)) v7 v9) v11 ((own_up (own_up (own_up (fun _ => 0) v7 v7) v9 ((own_up (fun _ => 0) v7 v7) v7.toInt.toNat)) v7 v9) v9.toInt.toNat)) v9 v11) v7.toInt.toNat))])) t
          exact k
        have hc76 : ((own_up (own_up (own_up (own_up (own_up (fun _ => 0) v7 v7) v9 ((own_up (fun _ => 0) v7 v7) v7.toInt.toNat)) v7 v9) v11 ((own_up (own_up (own_up (fun _ => 0) v7 v7) v9 ((own_up (fun _ => 0) v7 v7) v7.toInt.toNat)) v7 v9) v9.toInt.toNat)) v9 v11) v7.toInt.toNat) = (own_ecw (0 : Int32) (2 : Int32) (1 : Int32) v5) := by subst hv2 hv7 hv9 hv11; rcases own_s4 hv5 with rfl | rfl | rfl | rfl <;> rcases own_o2 hv1 with rfl | rfl <;> decide +kernel
        obtain ⟨T77, _, L77, X77, ⟨rfl, Nq77, e77⟩, st77⟩ := Own.callV (y := (⟨"com/example/libgriddraw/libgriddraw/core/RotationSystem", "ccwNext", "(I)I"⟩ : MethodName)) (W := 0) (argsL := [(.int v7)]) (rest := []) (a := b12) X75 hx hZ hown (hw _ (List.mem_of_getElem? (i := 46) rfl)) (hw _ (List.mem_of_getElem? (i := 47) rfl)) (hw _ (List.mem_of_getElem? (i := 49) rfl)) (hw _ (List.mem_of_getElem? (i := 48) rfl)) (hw _ (List.mem_of_getElem? (i := 7) rfl)) (hw _ (List.mem_of_getElem? (i := 50) rfl)) (by decide) e75 E69 (rm9 l Z a0 hw [] b12 v7 rc16 (own_up (own_up (own_up (own_up (own_up (fun _ => 0) v7 v7) ((own_up (fun _ => 0) v7 v7) v7.toInt.toNat) v9) v9 v7) ((own_up (own_up (own_up (fun _ => 0) v7 v7) v9 ((own_up (fun _ => 0) v7 v7) v7.toInt.toNat)) v7 v9) v9.toInt.toNat) v11) v11 v9) T69.heap n0 (by subst hv2 hv7 hv9 hv11; rcases own_s4 hv5 with rfl | rfl | rfl | rfl <;> rcases own_o2 hv1 with rfl | rfl <;> decide +kernel) FccwNext_69 Ac_69) (by decide) (by decide) (by decide) (by decide) (g := (mkF m 203 #[.val (.int p0), .val (.int p1), .val (.int p2), .val (.int p3), .val (.int v1), .val (.int v2), .val (.int (2 : Int32)), .val (.int v5), .val (.int v7), .val (.int v9), .val (.int v11), .val (.ref b12), .val (.int (1 : Int32)), .val (.int (1 : Int32)), .val (.int v9)] [(.int v7), (.ref b12)])) rfl (by rw [hml]; rfl) (lenOf pd_5 rfl) rfl (by show 2 * 0 + _ ≤ _; exact Nat.le_of_eq rfl) (hb hby at_203)
        have N77 := Fr.app N75 Nq77
        obtain ⟨T78, _, L78, X78, ⟨rfl, Nq78, e78⟩, st78⟩ := Own.callS (y := (⟨"com/example/libgriddraw/libgriddraw/core/RotationSystemInsertClockwiseOfPinLaw", "expCcw", "(IIII)I"⟩ : MethodName)) (W := 1) (argsL := [(.int (0 : Int32)), (.int (2 : Int32)), (.int (1 : Int32)), (.int v5)]) (rest := [(.int ((own_up (own_up (own_up (own_up (own_up (fun _ => 0) v7 v7) ((own_up (fun _ => 0) v7 v7) v7.toInt.toNat) v9) v9 v7) ((own_up (own_up (own_up (fun _ => 0) v7 v7) v9 ((own_up (fun _ => 0) v7 v7) v7.toInt.toNat)) v7 v9) v9.toInt.toNat) v11) v11 v9) v7.toInt.toNat))]) X77 hx hZ hown (hw _ (List.mem_of_getElem? (i := 51) rfl)) (hw _ (List.mem_of_getElem? (i := 52) rfl)) (hw _ (List.mem_of_getElem? (i := 3) rfl)) (hw _ (List.mem_of_getElem? (i := 53) rfl)) (by decide) e77 (rm21 l Z a0 hw [] (0 : Int32) (2 : Int32) (1 : Int32) v5  T69.heap n0 ) (by decide) (by decide) (by decide) (by decide) (g := (mkF m 213 #[.val (.int p0), .val (.int p1), .val (.int p2), .val (.int p3), .val (.int v1), .val (.int v2), .val (.int (2 : Int32)), .val (.int v5), .val (.int v7), .val (.int v9), .val (.int v11), .val (.ref b12), .val (.int (1 : Int32)), .val (.int (1 : Int32)), .val (.int v9)] [(.int v5), (.int (1 : Int32)), (.int (2 : Int32)), (.int (0 : Int32)), (.int ((own_up (own_up (own_up (own_up (own_up (fun _ => 0) v7 v7) ((own_up (fun _ => 0) v7 v7) v7.toInt.toNat) v9) v9 v7) ((own_up (own_up (own_up (fun _ => 0) v7 v7) v9 ((own_up (fun _ => 0) v7 v7) v7.toInt.toNat)) v7 v9) v9.toInt.toNat) v11) v11 v9) v7.toInt.toNat))])) rfl (by rw [hml]; rfl) (lenOf pd_6 rfl) rfl (by show 2 * 0 + _ ≤ _; exact Nat.le_of_eq rfl) (hb hby at_213)
        have N78 := Fr.app N77 Nq78
        refine hD _ (T78.setTop (mkF m 216 #[.val (.int p0), .val (.int p1), .val (.int p2), .val (.int p3), .val (.int v1), .val (.int v2), .val (.int (2 : Int32)), .val (.int v5), .val (.int v7), .val (.int v9), .val (.int v11), .val (.ref b12), .val (.int (1 : Int32)), .val (.int (1 : Int32)), .val (.int v9)] [(.int (own_eccw (0 : Int32) (2 : Int32) (1 : Int32) v5)), (.int ((own_up (own_up (own_up (own_up (own_up (fun _ => 0) v7 v7) ((own_up (fun _ => 0) v7 v7) v7.toInt.toNat) v9) v9 v7) ((own_up (own_up (own_up (fun _ => 0) v7 v7) v9 ((own_up (fun _ => 0) v7 v7) v7.toInt.toNat)) v7 v9) v9.toInt.toNat) v11) v11 v9) v7.toInt.toNat))])) (fun t k => ?_) ?_
        · show Steps p.tables e below (T75.setTop (mkF m 196 #[.val (.int p0), .val (.int p1), .val (.int p2), .val (.int p3), .val (.int v1), .val (.int v2), .val (.int (2 : Int32)), .val (.int v5), .val (.int v7), .val (.int v9), .val (.int v11), .val (.ref b12), .val (.int (1 : Int32)), .val (.int (1 : Int32)), .val (.int v9)] [(.int (own_ecw (0 : Int32) (2 : Int32) (1 : Int32) v5)), (.int ((own_up (own_up (own_up (own_up (own_up (fun _ => 0) v7 v7) v9 ((own_up (fun _ => 0) v7 v7) v7.toInt.toNat)) v7 v9) v11 ((own_up (own_up (own_up (fun _ => 0) v7 v7) v9 ((own_up (fun _ => 0) v7 v7) v7.toInt.toNat)) v7 v9) v9.toInt.toNat)) v9 v11) v7.toInt.toNat))])) t
          refine XS.icmpNo X75.here hx rfl (hb hby at_196) rfl (teq hc76).2 ?_
          show Steps p.tables e below (T75.setTop (mkF m 199 #[.val (.int p0), .val (.int p1), .val (.int p2), .val (.int p3), .val (.int v1), .val (.int v2), .val (.int (2 : Int32)), .val (.int v5), .val (.int v7), .val (.int v9), .val (.int v11), .val (.ref b12), .val (.int (1 : Int32)), .val (.int (1 : Int32)), .val (.int v9)] [])) t
          refine XS.aload X75.here hx rfl (hb hby at_199) rfl rfl ?_
          show Steps p.tables e below (T75.setTop (mkF m 201 #[.val (.int p0), .val (.int p1), .val (.int p2), .val (.int p3), .val (.int v1), .val (.int v2), .val (.int (2 : Int32)), .val (.int v5), .val (.int v7), .val (.int v9), .val (.int v11), .val (.ref b12), .val (.int (1 : Int32)), .val (.int (1 : Int32)), .val (.int v9)] [(.ref b12)])) t
          refine XS.iload X75.here hx rfl (hb hby at_201) rfl ?_
          show Steps p.tables e below (T75.setTop (mkF m 203 #[.val (.int p0), .val (.int p1), .val (.int p2), .val (.int p3), .val (.int v1), .val (.int v2), .val (.int (2 : Int32)), .val (.int v5), .val (.int v7), .val (.int v9), .val (.int v11), .val (.ref b12), .val (.int (1 : Int32)), .val (.int (1 : Int32)), .val (.int v9)] [(.int v7), (.ref b12)])) t
          refine st77 _ ?_
          show Steps p.tables e below (T77.setTop (mkF m 206 #[.val (.int p0), .val (.int p1), .val (.int p2), .val (.int p3), .val (.int v1), .val (.int v2), .val (.int (2 : Int32)), .val (.int v5), .val (.int v7), .val (.int v9), .val (.int v11), .val (.ref b12), .val (.int (1 : Int32)), .val (.int (1 : Int32)), .val (.int v9)] [(.int ((own_up (own_up (own_up (own_up (own_up (fun _ => 0) v7 v7) ((own_up (fun _ => 0) v7 v7) v7.toInt.toNat) v9) v9 v7) ((own_up (own_up (own_up (fun _ => 0) v7 v7) v9 ((own_up (fun _ => 0) v7 v7) v7.toInt.toNat)) v7 v9) v9.toInt.toNat) v11) v11 v9) v7.toInt.toNat))])) t
          refine XS.iconst X77.here hx rfl (hb hby at_206) ?_
          show Steps p.tables e below (T77.setTop (mkF m 207 #[.val (.int p0), .val (.int p1), .val (.int p2), .val (.int p3), .val (.int v1), .val (.int v2), .val (.int (2 : Int32)), .val (.int v5), .val (.int v7), .val (.int v9), .val (.int v11), .val (.ref b12), .val (.int (1 : Int32)), .val (.int (1 : Int32)), .val (.int v9)] [(.int (0 : Int32)), (.int ((own_up (own_up (own_up (own_up (own_up (fun _ => 0) v7 v7) ((own_up (fun _ => 0) v7 v7) v7.toInt.toNat) v9) v9 v7) ((own_up (own_up (own_up (fun _ => 0) v7 v7) v9 ((own_up (fun _ => 0) v7 v7) v7.toInt.toNat)) v7 v9) v9.toInt.toNat) v11) v11 v9) v7.toInt.toNat))])) t
          refine XS.iload X77.here hx rfl (hb hby at_207) rfl ?_
          show Steps p.tables e below (T77.setTop (mkF m 209 #[.val (.int p0), .val (.int p1), .val (.int p2), .val (.int p3), .val (.int v1), .val (.int v2), .val (.int (2 : Int32)), .val (.int v5), .val (.int v7), .val (.int v9), .val (.int v11), .val (.ref b12), .val (.int (1 : Int32)), .val (.int (1 : Int32)), .val (.int v9)] [(.int (2 : Int32)), (.int (0 : Int32)), (.int ((own_up (own_up (own_up (own_up (own_up (fun _ => 0) v7 v7) ((own_up (fun _ => 0) v7 v7) v7.toInt.toNat) v9) v9 v7) ((own_up (own_up (own_up (fun _ => 0) v7 v7) v9 ((own_up (fun _ => 0) v7 v7) v7.toInt.toNat)) v7 v9) v9.toInt.toNat) v11) v11 v9) v7.toInt.toNat))])) t
          refine XS.iload X77.here hx rfl (hb hby at_209) rfl ?_
          show Steps p.tables e below (T77.setTop (mkF m 211 #[.val (.int p0), .val (.int p1), .val (.int p2), .val (.int p3), .val (.int v1), .val (.int v2), .val (.int (2 : Int32)), .val (.int v5), .val (.int v7), .val (.int v9), .val (.int v11), .val (.ref b12), .val (.int (1 : Int32)), .val (.int (1 : Int32)), .val (.int v9)] [(.int (1 : Int32)), (.int (2 : Int32)), (.int (0 : Int32)), (.int ((own_up (own_up (own_up (own_up (own_up (fun _ => 0) v7 v7) ((own_up (fun _ => 0) v7 v7) v7.toInt.toNat) v9) v9 v7) ((own_up (own_up (own_up (fun _ => 0) v7 v7) v9 ((own_up (fun _ => 0) v7 v7) v7.toInt.toNat)) v7 v9) v9.toInt.toNat) v11) v11 v9) v7.toInt.toNat))])) t
          refine XS.iload X77.here hx rfl (hb hby at_211) rfl ?_
          show Steps p.tables e below (T77.setTop (mkF m 213 #[.val (.int p0), .val (.int p1), .val (.int p2), .val (.int p3), .val (.int v1), .val (.int v2), .val (.int (2 : Int32)), .val (.int v5), .val (.int v7), .val (.int v9), .val (.int v11), .val (.ref b12), .val (.int (1 : Int32)), .val (.int (1 : Int32)), .val (.int v9)] [(.int v5), (.int (1 : Int32)), (.int (2 : Int32)), (.int (0 : Int32)), (.int ((own_up (own_up (own_up (own_up (own_up (fun _ => 0) v7 v7) ((own_up (fun _ => 0) v7 v7) v7.toInt.toNat) v9) v9 v7) ((own_up (own_up (own_up (fun _ => 0) v7 v7) v9 ((own_up (fun _ => 0) v7 v7) v7.toInt.toNat)) v7 v9) v9.toInt.toNat) v11) v11 v9) v7.toInt.toNat))])) t
          refine st78 _ ?_
          show Steps p.tables e below (T78.setTop (mkF m 216 #[.val (.int p0), .val (.int p1), .val (.int p2), .val (.int p3), .val (.int v1), .val (.int v2), .val (.int (2 : Int32)), .val (.int v5), .val (.int v7), .val (.int v9), .val (.int v11), .val (.ref b12), .val (.int (1 : Int32)), .val (.int (1 : Int32)), .val (.int v9)] [(.int (own_eccw (0 : Int32) (2 : Int32) (1 : Int32) v5)), (.int ((own_up (own_up (own_up (own_up (own_up (fun _ => 0) v7 v7) ((own_up (fun _ => 0) v7 v7) v7.toInt.toNat) v9) v9 v7) ((own_up (own_up (own_up (fun _ => 0) v7 v7) v9 ((own_up (fun _ => 0) v7 v7) v7.toInt.toNat)) v7 v9) v9.toInt.toNat) v11) v11 v9) v7.toInt.toNat))])) t
          exact k
        have hc79 : ((own_up (own_up (own_up (own_up (own_up (fun _ => 0) v7 v7) ((own_up (fun _ => 0) v7 v7) v7.toInt.toNat) v9) v9 v7) ((own_up (own_up (own_up (fun _ => 0) v7 v7) v9 ((own_up (fun _ => 0) v7 v7) v7.toInt.toNat)) v7 v9) v9.toInt.toNat) v11) v11 v9) v7.toInt.toNat) = (own_eccw (0 : Int32) (2 : Int32) (1 : Int32) v5) := by subst hv2 hv7 hv9 hv11; rcases own_s4 hv5 with rfl | rfl | rfl | rfl <;> rcases own_o2 hv1 with rfl | rfl <;> decide +kernel
        obtain ⟨T80, _, L80, X80, ⟨rfl, Nq80, e80⟩, st80⟩ := Own.callV (y := (⟨"com/example/libgriddraw/libgriddraw/core/RotationSystem", "cwNext", "(I)I"⟩ : MethodName)) (W := 0) (argsL := [(.int v9)]) (rest := []) (a := b12) X78 hx hZ hown (hw _ (List.mem_of_getElem? (i := 38) rfl)) (hw _ (List.mem_of_getElem? (i := 39) rfl)) (hw _ (List.mem_of_getElem? (i := 41) rfl)) (hw _ (List.mem_of_getElem? (i := 40) rfl)) (hw _ (List.mem_of_getElem? (i := 7) rfl)) (hw _ (List.mem_of_getElem? (i := 42) rfl)) (by decide) e78 E69 (rm8 l Z a0 hw [] b12 v9 rw16 (own_up (own_up (own_up (own_up (own_up (fun _ => 0) v7 v7) v9 ((own_up (fun _ => 0) v7 v7) v7.toInt.toNat)) v7 v9) v11 ((own_up (own_up (own_up (fun _ => 0) v7 v7) v9 ((own_up (fun _ => 0) v7 v7) v7.toInt.toNat)) v7 v9) v9.toInt.toNat)) v9 v11) T69.heap n0 (by subst hv2 hv7 hv9 hv11; rcases own_s4 hv5 with rfl | rfl | rfl | rfl <;> rcases own_o2 hv1 with rfl | rfl <;> decide +kernel) FcwNext_69 Aw_69) (by decide) (by decide) (by decide) (by decide) (g := (mkF m 235 #[.val (.int p0), .val (.int p1), .val (.int p2), .val (.int p3), .val (.int v1), .val (.int v2), .val (.int (2 : Int32)), .val (.int v5), .val (.int v7), .val (.int v9), .val (.int v11), .val (.ref b12), .val (.int (1 : Int32)), .val (.int (1 : Int32)), .val (.int v9)] [(.int v9), (.ref b12)])) rfl (by rw [hml]; rfl) (lenOf pd_5 rfl) rfl (by show 2 * 0 + _ ≤ _; exact Nat.le_of_eq rfl) (hb hby at_235)
        have N80 := Fr.app N78 Nq80
        obtain ⟨T81, _, L81, X81, ⟨rfl, Nq81, e81⟩, st81⟩ := Own.callS (y := (⟨"com/example/libgriddraw/libgriddraw/core/RotationSystemInsertClockwiseOfPinLaw", "expCw", "(IIII)I"⟩ : MethodName)) (W := 1) (argsL := [(.int (1 : Int32)), (.int (2 : Int32)), (.int (1 : Int32)), (.int v5)]) (rest := [(.int ((own_up (own_up (own_up (own_up (own_up (fun _ => 0) v7 v7) v9 ((own_up (fun _ => 0) v7 v7) v7.toInt.toNat)) v7 v9) v11 ((own_up (own_up (own_up (fun _ => 0) v7 v7) v9 ((own_up (fun _ => 0) v7 v7) v7.toInt.toNat)) v7 v9) v9.toInt.toNat)) v9 v11) v9.toInt.toNat))]) X80 hx hZ hown (hw _ (List.mem_of_getElem? (i := 43) rfl)) (hw _ (List.mem_of_getElem? (i := 44) rfl)) (hw _ (List.mem_of_getElem? (i := 3) rfl)) (hw _ (List.mem_of_getElem? (i := 45) rfl)) (by decide) e80 (rm20 l Z a0 hw [] (1 : Int32) (2 : Int32) (1 : Int32) v5  T69.heap n0 ) (by decide) (by decide) (by decide) (by decide) (g := (mkF m 245 #[.val (.int p0), .val (.int p1), .val (.int p2), .val (.int p3), .val (.int v1), .val (.int v2), .val (.int (2 : Int32)), .val (.int v5), .val (.int v7), .val (.int v9), .val (.int v11), .val (.ref b12), .val (.int (1 : Int32)), .val (.int (1 : Int32)), .val (.int v9)] [(.int v5), (.int (1 : Int32)), (.int (2 : Int32)), (.int (1 : Int32)), (.int ((own_up (own_up (own_up (own_up (own_up (fun _ => 0) v7 v7) v9 ((own_up (fun _ => 0) v7 v7) v7.toInt.toNat)) v7 v9) v11 ((own_up (own_up (own_up (fun _ => 0) v7 v7) v9 ((own_up (fun _ => 0) v7 v7) v7.toInt.toNat)) v7 v9) v9.toInt.toNat)) v9 v11) v9.toInt.toNat))])) rfl (by rw [hml]; rfl) (lenOf pd_6 rfl) rfl (by show 2 * 0 + _ ≤ _; exact Nat.le_of_eq rfl) (hb hby at_245)
        have N81 := Fr.app N80 Nq81
        refine hD _ (T81.setTop (mkF m 248 #[.val (.int p0), .val (.int p1), .val (.int p2), .val (.int p3), .val (.int v1), .val (.int v2), .val (.int (2 : Int32)), .val (.int v5), .val (.int v7), .val (.int v9), .val (.int v11), .val (.ref b12), .val (.int (1 : Int32)), .val (.int (1 : Int32)), .val (.int v9)] [(.int (own_ecw (1 : Int32) (2 : Int32) (1 : Int32) v5)), (.int ((own_up (own_up (own_up (own_up (own_up (fun _ => 0) v7 v7) v9 ((own_up (fun _ => 0) v7 v7) v7.toInt.toNat)) v7 v9) v11 ((own_up (own_up (own_up (fun _ => 0) v7 v7) v9 ((own_up (fun _ => 0) v7 v7) v7.toInt.toNat)) v7 v9) v9.toInt.toNat)) v9 v11) v9.toInt.toNat))])) (fun t k => ?_) ?_
        · show Steps p.tables e below (T78.setTop (mkF m 216 #[.val (.int p0), .val (.int p1), .val (.int p2), .val (.int p3), .val (.int v1), .val (.int v2), .val (.int (2 : Int32)), .val (.int v5), .val (.int v7), .val (.int v9), .val (.int v11), .val (.ref b12), .val (.int (1 : Int32)), .val (.int (1 : Int32)), .val (.int v9)] [(.int (own_eccw (0 : Int32) (2 : Int32) (1 : Int32) v5)), (.int ((own_up (own_up (own_up (own_up (own_up (fun _ => 0) v7 v7) ((own_up (fun _ => 0) v7 v7) v7.toInt.toNat) v9) v9 v7) ((own_up (own_up (own_up (fun _ => 0) v7 v7) v9 ((own_up (fun _ => 0) v7 v7) v7.toInt.toNat)) v7 v9) v9.toInt.toNat) v11) v11 v9) v7.toInt.toNat))])) t
          refine XS.icmpNo X78.here hx rfl (hb hby at_216) rfl (teq hc79).2 ?_
          show Steps p.tables e below (T78.setTop (mkF m 219 #[.val (.int p0), .val (.int p1), .val (.int p2), .val (.int p3), .val (.int v1), .val (.int v2), .val (.int (2 : Int32)), .val (.int v5), .val (.int v7), .val (.int v9), .val (.int v11), .val (.ref b12), .val (.int (1 : Int32)), .val (.int (1 : Int32)), .val (.int v9)] [])) t
          refine XS.iconst X78.here hx rfl (hb hby at_219) ?_
          show Steps p.tables e below (T78.setTop (mkF m 220 #[.val (.int p0), .val (.int p1), .val (.int p2), .val (.int p3), .val (.int v1), .val (.int v2), .val (.int (2 : Int32)), .val (.int v5), .val (.int v7), .val (.int v9), .val (.int v11), .val (.ref b12), .val (.int (1 : Int32)), .val (.int (1 : Int32)), .val (.int v9)] [(.int (1 : Int32))])) t
          refine XS.goto X78.here hx rfl (pc0 := 220) (pc' := 224) rfl (hb hby at_220) (by decide) (by decide) ?_
          show Steps p.tables e below (T78.setTop (mkF m 224 #[.val (.int p0), .val (.int p1), .val (.int p2), .val (.int p3), .val (.int v1), .val (.int v2), .val (.int (2 : Int32)), .val (.int v5), .val (.int v7), .val (.int v9), .val (.int v11), .val (.ref b12), .val (.int (1 : Int32)), .val (.int (1 : Int32)), .val (.int v9)] [(.int (1 : Int32))])) t
          refine XS.istore X78.here hx rfl (hb hby at_224) rfl (l' := #[.val (.int p0), .val (.int p1), .val (.int p2), .val (.int p3), .val (.int v1), .val (.int v2), .val (.int (2 : Int32)), .val (.int v5), .val (.int v7), .val (.int v9), .val (.int v11), .val (.ref b12), .val (.int (1 : Int32)), .val (.int (1 : Int32)), .val (.int v9)]) rfl ?_
          show Steps p.tables e below (T78.setTop (mkF m 226 #[.val (.int p0), .val (.int p1), .val (.int p2), .val (.int p3), .val (.int v1), .val (.int v2), .val (.int (2 : Int32)), .val (.int v5), .val (.int v7), .val (.int v9), .val (.int v11), .val (.ref b12), .val (.int (1 : Int32)), .val (.int (1 : Int32)), .val (.int v9)] [])) t
          refine XS.iload X78.here hx rfl (hb hby at_226) rfl ?_
          show Steps p.tables e below (T78.setTop (mkF m 228 #[.val (.int p0), .val (.int p1), .val (.int p2), .val (.int p3), .val (.int v1), .val (.int v2), .val (.int (2 : Int32)), .val (.int v5), .val (.int v7), .val (.int v9), .val (.int v11), .val (.ref b12), .val (.int (1 : Int32)), .val (.int (1 : Int32)), .val (.int v9)] [(.int (1 : Int32))])) t
          refine XS.ifNo X78.here hx rfl (hb hby at_228) rfl (by decide) ?_
          show Steps p.tables e below (T78.setTop (mkF m 231 #[.val (.int p0), .val (.int p1), .val (.int p2), .val (.int p3), .val (.int v1), .val (.int v2), .val (.int (2 : Int32)), .val (.int v5), .val (.int v7), .val (.int v9), .val (.int v11), .val (.ref b12), .val (.int (1 : Int32)), .val (.int (1 : Int32)), .val (.int v9)] [])) t
          refine XS.aload X78.here hx rfl (hb hby at_231) rfl rfl ?_
          show Steps p.tables e below (T78.setTop (mkF m 233 #[.val (.int p0), .val (.int p1), .val (.int p2), .val (.int p3), .val (.int v1), .val (.int v2), .val (.int (2 : Int32)), .val (.int v5), .val (.int v7), .val (.int v9), .val (.int v11), .val (.ref b12), .val (.int (1 : Int32)), .val (.int (1 : Int32)), .val (.int v9)] [(.ref b12)])) t
          refine XS.iload X78.here hx rfl (hb hby at_233) rfl ?_
          show Steps p.tables e below (T78.setTop (mkF m 235 #[.val (.int p0), .val (.int p1), .val (.int p2), .val (.int p3), .val (.int v1), .val (.int v2), .val (.int (2 : Int32)), .val (.int v5), .val (.int v7), .val (.int v9), .val (.int v11), .val (.ref b12), .val (.int (1 : Int32)), .val (.int (1 : Int32)), .val (.int v9)] [(.int v9), (.ref b12)])) t
          refine st80 _ ?_
          show Steps p.tables e below (T80.setTop (mkF m 238 #[.val (.int p0), .val (.int p1), .val (.int p2), .val (.int p3), .val (.int v1), .val (.int v2), .val (.int (2 : Int32)), .val (.int v5), .val (.int v7), .val (.int v9), .val (.int v11), .val (.ref b12), .val (.int (1 : Int32)), .val (.int (1 : Int32)), .val (.int v9)] [(.int ((own_up (own_up (own_up (own_up (own_up (fun _ => 0) v7 v7) v9 ((own_up (fun _ => 0) v7 v7) v7.toInt.toNat)) v7 v9) v11 ((own_up (own_up (own_up (fun _ => 0) v7 v7) v9 ((own_up (fun _ => 0) v7 v7) v7.toInt.toNat)) v7 v9) v9.toInt.toNat)) v9 v11) v9.toInt.toNat))])) t
          refine XS.iconst X80.here hx rfl (hb hby at_238) ?_
          show Steps p.tables e below (T80.setTop (mkF m 239 #[.val (.int p0), .val (.int p1), .val (.int p2), .val (.int p3), .val (.int v1), .val (.int v2), .val (.int (2 : Int32)), .val (.int v5), .val (.int v7), .val (.int v9), .val (.int v11), .val (.ref b12), .val (.int (1 : Int32)), .val (.int (1 : Int32)), .val (.int v9)] [(.int (1 : Int32)), (.int ((own_up (own_up (own_up (own_up (own_up (fun _ => 0) v7 v7) v9 ((own_up (fun _ => 0) v7 v7) v7.toInt.toNat)) v7 v9) v11 ((own_up (own_up (own_up (fun _ => 0) v7 v7) v9 ((own_up (fun _ => 0) v7 v7) v7.toInt.toNat)) v7 v9) v9.toInt.toNat)) v9 v11) v9.toInt.toNat))])) t
          refine XS.iload X80.here hx rfl (hb hby at_239) rfl ?_
          show Steps p.tables e below (T80.setTop (mkF m 241 #[.val (.int p0), .val (.int p1), .val (.int p2), .val (.int p3), .val (.int v1), .val (.int v2), .val (.int (2 : Int32)), .val (.int v5), .val (.int v7), .val (.int v9), .val (.int v11), .val (.ref b12), .val (.int (1 : Int32)), .val (.int (1 : Int32)), .val (.int v9)] [(.int (2 : Int32)), (.int (1 : Int32)), (.int ((own_up (own_up (own_up (own_up (own_up (fun _ => 0) v7 v7) v9 ((own_up (fun _ => 0) v7 v7) v7.toInt.toNat)) v7 v9) v11 ((own_up (own_up (own_up (fun _ => 0) v7 v7) v9 ((own_up (fun _ => 0) v7 v7) v7.toInt.toNat)) v7 v9) v9.toInt.toNat)) v9 v11) v9.toInt.toNat))])) t
          refine XS.iload X80.here hx rfl (hb hby at_241) rfl ?_
          show Steps p.tables e below (T80.setTop (mkF m 243 #[.val (.int p0), .val (.int p1), .val (.int p2), .val (.int p3), .val (.int v1), .val (.int v2), .val (.int (2 : Int32)), .val (.int v5), .val (.int v7), .val (.int v9), .val (.int v11), .val (.ref b12), .val (.int (1 : Int32)), .val (.int (1 : Int32)), .val (.int v9)] [(.int (1 : Int32)), (.int (2 : Int32)), (.int (1 : Int32)), (.int ((own_up (own_up (own_up (own_up (own_up (fun _ => 0) v7 v7) v9 ((own_up (fun _ => 0) v7 v7) v7.toInt.toNat)) v7 v9) v11 ((own_up (own_up (own_up (fun _ => 0) v7 v7) v9 ((own_up (fun _ => 0) v7 v7) v7.toInt.toNat)) v7 v9) v9.toInt.toNat)) v9 v11) v9.toInt.toNat))])) t
          refine XS.iload X80.here hx rfl (hb hby at_243) rfl ?_
          show Steps p.tables e below (T80.setTop (mkF m 245 #[.val (.int p0), .val (.int p1), .val (.int p2), .val (.int p3), .val (.int v1), .val (.int v2), .val (.int (2 : Int32)), .val (.int v5), .val (.int v7), .val (.int v9), .val (.int v11), .val (.ref b12), .val (.int (1 : Int32)), .val (.int (1 : Int32)), .val (.int v9)] [(.int v5), (.int (1 : Int32)), (.int (2 : Int32)), (.int (1 : Int32)), (.int ((own_up (own_up (own_up (own_up (own_up (fun _ => 0) v7 v7) v9 ((own_up (fun _ => 0) v7 v7) v7.toInt.toNat)) v7 v9) v11 ((own_up (own_up (own_up (fun _ => 0) v7 v7) v9 ((own_up (fun _ => 0) v7 v7) v7.toInt.toNat)) v7 v9) v9.toInt.toNat)) v9 v11) v9.toInt.toNat))])) t
          refine st81 _ ?_
          show Steps p.tables e below (T81.setTop (mkF m 248 #[.val (.int p0), .val (.int p1), .val (.int p2), .val (.int p3), .val (.int v1), .val (.int v2), .val (.int (2 : Int32)), .val (.int v5), .val (.int v7), .val (.int v9), .val (.int v11), .val (.ref b12), .val (.int (1 : Int32)), .val (.int (1 : Int32)), .val (.int v9)] [(.int (own_ecw (1 : Int32) (2 : Int32) (1 : Int32) v5)), (.int ((own_up (own_up (own_up (own_up (own_up (fun _ => 0) v7 v7) v9 ((own_up (fun _ => 0) v7 v7) v7.toInt.toNat)) v7 v9) v11 ((own_up (own_up (own_up (fun _ => 0) v7 v7) v9 ((own_up (fun _ => 0) v7 v7) v7.toInt.toNat)) v7 v9) v9.toInt.toNat)) v9 v11) v9.toInt.toNat))])) t
          exact k
        have hc82 : ((own_up (own_up (own_up (own_up (own_up (fun _ => 0) v7 v7) v9 ((own_up (fun _ => 0) v7 v7) v7.toInt.toNat)) v7 v9) v11 ((own_up (own_up (own_up (fun _ => 0) v7 v7) v9 ((own_up (fun _ => 0) v7 v7) v7.toInt.toNat)) v7 v9) v9.toInt.toNat)) v9 v11) v9.toInt.toNat) = (own_ecw (1 : Int32) (2 : Int32) (1 : Int32) v5) := by subst hv2 hv7 hv9 hv11; rcases own_s4 hv5 with rfl | rfl | rfl | rfl <;> rcases own_o2 hv1 with rfl | rfl <;> decide +kernel
        obtain ⟨T83, _, L83, X83, ⟨rfl, Nq83, e83⟩, st83⟩ := Own.callV (y := (⟨"com/example/libgriddraw/libgriddraw/core/RotationSystem", "ccwNext", "(I)I"⟩ : MethodName)) (W := 0) (argsL := [(.int v9)]) (rest := []) (a := b12) X81 hx hZ hown (hw _ (List.mem_of_getElem? (i := 46) rfl)) (hw _ (List.mem_of_getElem? (i := 47) rfl)) (hw _ (List.mem_of_getElem? (i := 49) rfl)) (hw _ (List.mem_of_getElem? (i := 48) rfl)) (hw _ (List.mem_of_getElem? (i := 7) rfl)) (hw _ (List.mem_of_getElem? (i := 50) rfl)) (by decide) e81 E69 (rm9 l Z a0 hw [] b12 v9 rc16 (own_up (own_up (own_up (own_up (own_up (fun _ => 0) v7 v7) ((own_up (fun _ => 0) v7 v7) v7.toInt.toNat) v9) v9 v7) ((own_up (own_up (own_up (fun _ => 0) v7 v7) v9 ((own_up (fun _ => 0) v7 v7) v7.toInt.toNat)) v7 v9) v9.toInt.toNat) v11) v11 v9) T69.heap n0 (by subst hv2 hv7 hv9 hv11; rcases own_s4 hv5 with rfl | rfl | rfl | rfl <;> rcases own_o2 hv1 with rfl | rfl <;> decide +kernel) FccwNext_69 Ac_69) (by decide) (by decide) (by decide) (by decide) (g := (mkF m 255 #[.val (.int p0), .val (.int p1), .val (.int p2), .val (.int p3), .val (.int v1), .val (.int v2), .val (.int (2 : Int32)), .val (.int v5), .val (.int v7), .val (.int v9), .val (.int v11), .val (.ref b12), .val (.int (1 : Int32)), .val (.int (1 : Int32)), .val (.int v9)] [(.int v9), (.ref b12)])) rfl (by rw [hml]; rfl) (lenOf pd_5 rfl) rfl (by show 2 * 0 + _ ≤ _; exact Nat.le_of_eq rfl) (hb hby at_255)
        have N83 := Fr.app N81 Nq83
        obtain ⟨T84, _, L84, X84, ⟨rfl, Nq84, e84⟩, st84⟩ := Own.callS (y := (⟨"com/example/libgriddraw/libgriddraw/core/RotationSystemInsertClockwiseOfPinLaw", "expCcw", "(IIII)I"⟩ : MethodName)) (W := 1) (argsL := [(.int (1 : Int32)), (.int (2 : Int32)), (.int (1 : Int32)), (.int v5)]) (rest := [(.int ((own_up (own_up (own_up (own_up (own_up (fun _ => 0) v7 v7) ((own_up (fun _ => 0) v7 v7) v7.toInt.toNat) v9) v9 v7) ((own_up (own_up (own_up (fun _ => 0) v7 v7) v9 ((own_up (fun _ => 0) v7 v7) v7.toInt.toNat)) v7 v9) v9.toInt.toNat) v11) v11 v9) v9.toInt.toNat))]) X83 hx hZ hown (hw _ (List.mem_of_getElem? (i := 51) rfl)) (hw _ (List.mem_of_getElem? (i := 52) rfl)) (hw _ (List.mem_of_getElem? (i := 3) rfl)) (hw _ (List.mem_of_getElem? (i := 53) rfl)) (by decide) e83 (rm21 l Z a0 hw [] (1 : Int32) (2 : Int32) (1 : Int32) v5  T69.heap n0 ) (by decide) (by decide) (by decide) (by decide) (g := (mkF m 265 #[.val (.int p0), .val (.int p1), .val (.int p2), .val (.int p3), .val (.int v1), .val (.int v2), .val (.int (2 : Int32)), .val (.int v5), .val (.int v7), .val (.int v9), .val (.int v11), .val (.ref b12), .val (.int (1 : Int32)), .val (.int (1 : Int32)), .val (.int v9)] [(.int v5), (.int (1 : Int32)), (.int (2 : Int32)), (.int (1 : Int32)), (.int ((own_up (own_up (own_up (own_up (own_up (fun _ => 0) v7 v7) ((own_up (fun _ => 0) v7 v7) v7.toInt.toNat) v9) v9 v7) ((own_up (own_up (own_up (fun _ => 0) v7 v7) v9 ((own_up (fun _ => 0) v7 v7) v7.toInt.toNat)) v7 v9) v9.toInt.toNat) v11) v11 v9) v9.toInt.toNat))])) rfl (by rw [hml]; rfl) (lenOf pd_6 rfl) rfl (by show 2 * 0 + _ ≤ _; exact Nat.le_of_eq rfl) (hb hby at_265)
        have N84 := Fr.app N83 Nq84
        refine hD _ (T84.setTop (mkF m 268 #[.val (.int p0), .val (.int p1), .val (.int p2), .val (.int p3), .val (.int v1), .val (.int v2), .val (.int (2 : Int32)), .val (.int v5), .val (.int v7), .val (.int v9), .val (.int v11), .val (.ref b12), .val (.int (1 : Int32)), .val (.int (1 : Int32)), .val (.int v9)] [(.int (own_eccw (1 : Int32) (2 : Int32) (1 : Int32) v5)), (.int ((own_up (own_up (own_up (own_up (own_up (fun _ => 0) v7 v7) ((own_up (fun _ => 0) v7 v7) v7.toInt.toNat) v9) v9 v7) ((own_up (own_up (own_up (fun _ => 0) v7 v7) v9 ((own_up (fun _ => 0) v7 v7) v7.toInt.toNat)) v7 v9) v9.toInt.toNat) v11) v11 v9) v9.toInt.toNat))])) (fun t k => ?_) ?_
        · show Steps p.tables e below (T81.setTop (mkF m 248 #[.val (.int p0), .val (.int p1), .val (.int p2), .val (.int p3), .val (.int v1), .val (.int v2), .val (.int (2 : Int32)), .val (.int v5), .val (.int v7), .val (.int v9), .val (.int v11), .val (.ref b12), .val (.int (1 : Int32)), .val (.int (1 : Int32)), .val (.int v9)] [(.int (own_ecw (1 : Int32) (2 : Int32) (1 : Int32) v5)), (.int ((own_up (own_up (own_up (own_up (own_up (fun _ => 0) v7 v7) v9 ((own_up (fun _ => 0) v7 v7) v7.toInt.toNat)) v7 v9) v11 ((own_up (own_up (own_up (fun _ => 0) v7 v7) v9 ((own_up (fun _ => 0) v7 v7) v7.toInt.toNat)) v7 v9) v9.toInt.toNat)) v9 v11) v9.toInt.toNat))])) t
          refine XS.icmpNo X81.here hx rfl (hb hby at_248) rfl (teq hc82).2 ?_
          show Steps p.tables e below (T81.setTop (mkF m 251 #[.val (.int p0), .val (.int p1), .val (.int p2), .val (.int p3), .val (.int v1), .val (.int v2), .val (.int (2 : Int32)), .val (.int v5), .val (.int v7), .val (.int v9), .val (.int v11), .val (.ref b12), .val (.int (1 : Int32)), .val (.int (1 : Int32)), .val (.int v9)] [])) t
          refine XS.aload X81.here hx rfl (hb hby at_251) rfl rfl ?_
          show Steps p.tables e below (T81.setTop (mkF m 253 #[.val (.int p0), .val (.int p1), .val (.int p2), .val (.int p3), .val (.int v1), .val (.int v2), .val (.int (2 : Int32)), .val (.int v5), .val (.int v7), .val (.int v9), .val (.int v11), .val (.ref b12), .val (.int (1 : Int32)), .val (.int (1 : Int32)), .val (.int v9)] [(.ref b12)])) t
          refine XS.iload X81.here hx rfl (hb hby at_253) rfl ?_
          show Steps p.tables e below (T81.setTop (mkF m 255 #[.val (.int p0), .val (.int p1), .val (.int p2), .val (.int p3), .val (.int v1), .val (.int v2), .val (.int (2 : Int32)), .val (.int v5), .val (.int v7), .val (.int v9), .val (.int v11), .val (.ref b12), .val (.int (1 : Int32)), .val (.int (1 : Int32)), .val (.int v9)] [(.int v9), (.ref b12)])) t
          refine st83 _ ?_
          show Steps p.tables e below (T83.setTop (mkF m 258 #[.val (.int p0), .val (.int p1), .val (.int p2), .val (.int p3), .val (.int v1), .val (.int v2), .val (.int (2 : Int32)), .val (.int v5), .val (.int v7), .val (.int v9), .val (.int v11), .val (.ref b12), .val (.int (1 : Int32)), .val (.int (1 : Int32)), .val (.int v9)] [(.int ((own_up (own_up (own_up (own_up (own_up (fun _ => 0) v7 v7) ((own_up (fun _ => 0) v7 v7) v7.toInt.toNat) v9) v9 v7) ((own_up (own_up (own_up (fun _ => 0) v7 v7) v9 ((own_up (fun _ => 0) v7 v7) v7.toInt.toNat)) v7 v9) v9.toInt.toNat) v11) v11 v9) v9.toInt.toNat))])) t
          refine XS.iconst X83.here hx rfl (hb hby at_258) ?_
          show Steps p.tables e below (T83.setTop (mkF m 259 #[.val (.int p0), .val (.int p1), .val (.int p2), .val (.int p3), .val (.int v1), .val (.int v2), .val (.int (2 : Int32)), .val (.int v5), .val (.int v7), .val (.int v9), .val (.int v11), .val (.ref b12), .val (.int (1 : Int32)), .val (.int (1 : Int32)), .val (.int v9)] [(.int (1 : Int32)), (.int ((own_up (own_up (own_up (own_up (own_up (fun _ => 0) v7 v7) ((own_up (fun _ => 0) v7 v7) v7.toInt.toNat) v9) v9 v7) ((own_up (own_up (own_up (fun _ => 0) v7 v7) v9 ((own_up (fun _ => 0) v7 v7) v7.toInt.toNat)) v7 v9) v9.toInt.toNat) v11) v11 v9) v9.toInt.toNat))])) t
          refine XS.iload X83.here hx rfl (hb hby at_259) rfl ?_
          show Steps p.tables e below (T83.setTop (mkF m 261 #[.val (.int p0), .val (.int p1), .val (.int p2), .val (.int p3), .val (.int v1), .val (.int v2), .val (.int (2 : Int32)), .val (.int v5), .val (.int v7), .val (.int v9), .val (.int v11), .val (.ref b12), .val (.int (1 : Int32)), .val (.int (1 : Int32)), .val (.int v9)] [(.int (2 : Int32)), (.int (1 : Int32)), (.int ((own_up (own_up (own_up (own_up (own_up (fun _ => 0) v7 v7) ((own_up (fun _ => 0) v7 v7) v7.toInt.toNat) v9) v9 v7) ((own_up (own_up (own_up (fun _ => 0) v7 v7) v9 ((own_up (fun _ => 0) v7 v7) v7.toInt.toNat)) v7 v9) v9.toInt.toNat) v11) v11 v9) v9.toInt.toNat))])) t
          refine XS.iload X83.here hx rfl (hb hby at_261) rfl ?_
          show Steps p.tables e below (T83.setTop (mkF m 263 #[.val (.int p0), .val (.int p1), .val (.int p2), .val (.int p3), .val (.int v1), .val (.int v2), .val (.int (2 : Int32)), .val (.int v5), .val (.int v7), .val (.int v9), .val (.int v11), .val (.ref b12), .val (.int (1 : Int32)), .val (.int (1 : Int32)), .val (.int v9)] [(.int (1 : Int32)), (.int (2 : Int32)), (.int (1 : Int32)), (.int ((own_up (own_up (own_up (own_up (own_up (fun _ => 0) v7 v7) ((own_up (fun _ => 0) v7 v7) v7.toInt.toNat) v9) v9 v7) ((own_up (own_up (own_up (fun _ => 0) v7 v7) v9 ((own_up (fun _ => 0) v7 v7) v7.toInt.toNat)) v7 v9) v9.toInt.toNat) v11) v11 v9) v9.toInt.toNat))])) t
          refine XS.iload X83.here hx rfl (hb hby at_263) rfl ?_
          show Steps p.tables e below (T83.setTop (mkF m 265 #[.val (.int p0), .val (.int p1), .val (.int p2), .val (.int p3), .val (.int v1), .val (.int v2), .val (.int (2 : Int32)), .val (.int v5), .val (.int v7), .val (.int v9), .val (.int v11), .val (.ref b12), .val (.int (1 : Int32)), .val (.int (1 : Int32)), .val (.int v9)] [(.int v5), (.int (1 : Int32)), (.int (2 : Int32)), (.int (1 : Int32)), (.int ((own_up (own_up (own_up (own_up (own_up (fun _ => 0) v7 v7) ((own_up (fun _ => 0) v7 v7) v7.toInt.toNat) v9) v9 v7) ((own_up (own_up (own_up (fun _ => 0) v7 v7) v9 ((own_up (fun _ => 0) v7 v7) v7.toInt.toNat)) v7 v9) v9.toInt.toNat) v11) v11 v9) v9.toInt.toNat))])) t
          refine st84 _ ?_
          show Steps p.tables e below (T84.setTop (mkF m 268 #[.val (.int p0), .val (.int p1), .val (.int p2), .val (.int p3), .val (.int v1), .val (.int v2), .val (.int (2 : Int32)), .val (.int v5), .val (.int v7), .val (.int v9), .val (.int v11), .val (.ref b12), .val (.int (1 : Int32)), .val (.int (1 : Int32)), .val (.int v9)] [(.int (own_eccw (1 : Int32) (2 : Int32) (1 : Int32) v5)), (.int ((own_up (own_up (own_up (own_up (own_up (fun _ => 0) v7 v7) ((own_up (fun _ => 0) v7 v7) v7.toInt.toNat) v9) v9 v7) ((own_up (own_up (own_up (fun _ => 0) v7 v7) v9 ((own_up (fun _ => 0) v7 v7) v7.toInt.toNat)) v7 v9) v9.toInt.toNat) v11) v11 v9) v9.toInt.toNat))])) t
          exact k
        have hc85 : ((own_up (own_up (own_up (own_up (own_up (fun _ => 0) v7 v7) ((own_up (fun _ => 0) v7 v7) v7.toInt.toNat) v9) v9 v7) ((own_up (own_up (own_up (fun _ => 0) v7 v7) v9 ((own_up (fun _ => 0) v7 v7) v7.toInt.toNat)) v7 v9) v9.toInt.toNat) v11) v11 v9) v9.toInt.toNat) = (own_eccw (1 : Int32) (2 : Int32) (1 : Int32) v5) := by subst hv2 hv7 hv9 hv11; rcases own_s4 hv5 with rfl | rfl | rfl | rfl <;> rcases own_o2 hv1 with rfl | rfl <;> decide +kernel
        obtain ⟨T86, _, L86, X86, ⟨rfl, Nq86, e86⟩, st86⟩ := Own.callV (y := (⟨"com/example/libgriddraw/libgriddraw/core/RotationSystem", "cwNext", "(I)I"⟩ : MethodName)) (W := 0) (argsL := [(.int v11)]) (rest := []) (a := b12) X84 hx hZ hown (hw _ (List.mem_of_getElem? (i := 38) rfl)) (hw _ (List.mem_of_getElem? (i := 39) rfl)) (hw _ (List.mem_of_getElem? (i := 41) rfl)) (hw _ (List.mem_of_getElem? (i := 40) rfl)) (hw _ (List.mem_of_getElem? (i := 7) rfl)) (hw _ (List.mem_of_getElem? (i := 42) rfl)) (by decide) e84 E69 (rm8 l Z a0 hw [] b12 v11 rw16 (own_up (own_up (own_up (own_up (own_up (fun _ => 0) v7 v7) v9 ((own_up (fun _ => 0) v7 v7) v7.toInt.toNat)) v7 v9) v11 ((own_up (own_up (own_up (fun _ => 0) v7 v7) v9 ((own_up (fun _ => 0) v7 v7) v7.toInt.toNat)) v7 v9) v9.toInt.toNat)) v9 v11) T69.heap n0 (by subst hv2 hv7 hv9 hv11; rcases own_s4 hv5 with rfl | rfl | rfl | rfl <;> rcases own_o2 hv1 with rfl | rfl <;> decide +kernel) FcwNext_69 Aw_69) (by decide) (by decide) (by decide) (by decide) (g := (mkF m 287 #[.val (.int p0), .val (.int p1), .val (.int p2), .val (.int p3), .val (.int v1), .val (.int v2), .val (.int (2 : Int32)), .val (.int v5), .val (.int v7), .val (.int v9), .val (.int v11), .val (.ref b12), .val (.int (1 : Int32)), .val (.int (1 : Int32)), .val (.int v9)] [(.int v11), (.ref b12)])) rfl (by rw [hml]; rfl) (lenOf pd_5 rfl) rfl (by show 2 * 0 + _ ≤ _; exact Nat.le_of_eq rfl) (hb hby at_287)
        have N86 := Fr.app N84 Nq86
        obtain ⟨T87, _, L87, X87, ⟨rfl, Nq87, e87⟩, st87⟩ := Own.callS (y := (⟨"com/example/libgriddraw/libgriddraw/core/RotationSystemInsertClockwiseOfPinLaw", "expCw", "(IIII)I"⟩ : MethodName)) (W := 1) (argsL := [(.int (2 : Int32)), (.int (2 : Int32)), (.int (1 : Int32)), (.int v5)]) (rest := [(.int ((own_up (own_up (own_up (own_up (own_up (fun _ => 0) v7 v7) v9 ((own_up (fun _ => 0) v7 v7) v7.toInt.toNat)) v7 v9) v11 ((own_up (own_up (own_up (fun _ => 0) v7 v7) v9 ((own_up (fun _ => 0) v7 v7) v7.toInt.toNat)) v7 v9) v9.toInt.toNat)) v9 v11) v11.toInt.toNat))]) X86 hx hZ hown (hw _ (List.mem_of_getElem? (i := 43) rfl)) (hw _ (List.mem_of_getElem? (i := 44) rfl)) (hw _ (List.mem_of_getElem? (i := 3) rfl)) (hw _ (List.mem_of_getElem? (i := 45) rfl)) (by decide) e86 (rm20 l Z a0 hw [] (2 : Int32) (2 : Int32) (1 : Int32) v5  T69.heap n0 ) (by decide) (by decide) (by decide) (by decide) (g := (mkF m 297 #[.val (.int p0), .val (.int p1), .val (.int p2), .val (.int p3), .val (.int v1), .val (.int v2), .val (.int (2 : Int32)), .val (.int v5), .val (.int v7), .val (.int v9), .val (.int v11), .val (.ref b12), .val (.int (1 : Int32)), .val (.int (1 : Int32)), .val (.int v9)] [(.int v5), (.int (1 : Int32)), (.int (2 : Int32)), (.int (2 : Int32)), (.int ((own_up (own_up (own_up (own_up (own_up (fun _ => 0) v7 v7) v9 ((own_up (fun _ => 0) v7 v7) v7.toInt.toNat)) v7 v9) v11 ((own_up (own_up (own_up (fun _ => 0) v7 v7) v9 ((own_up (fun _ => 0) v7 v7) v7.toInt.toNat)) v7 v9) v9.toInt.toNat)) v9 v11) v11.toInt.toNat))])) rfl (by rw [hml]; rfl) (lenOf pd_6 rfl) rfl (by show 2 * 0 + _ ≤ _; exact Nat.le_of_eq rfl) (hb hby at_297)
        have N87 := Fr.app N86 Nq87
        refine hD _ (T87.setTop (mkF m 300 #[.val (.int p0), .val (.int p1), .val (.int p2), .val (.int p3), .val (.int v1), .val (.int v2), .val (.int (2 : Int32)), .val (.int v5), .val (.int v7), .val (.int v9), .val (.int v11), .val (.ref b12), .val (.int (1 : Int32)), .val (.int (1 : Int32)), .val (.int v9)] [(.int (own_ecw (2 : Int32) (2 : Int32) (1 : Int32) v5)), (.int ((own_up (own_up (own_up (own_up (own_up (fun _ => 0) v7 v7) v9 ((own_up (fun _ => 0) v7 v7) v7.toInt.toNat)) v7 v9) v11 ((own_up (own_up (own_up (fun _ => 0) v7 v7) v9 ((own_up (fun _ => 0) v7 v7) v7.toInt.toNat)) v7 v9) v9.toInt.toNat)) v9 v11) v11.toInt.toNat))])) (fun t k => ?_) ?_
        · show Steps p.tables e below (T84.setTop (mkF m 268 #[.val (.int p0), .val (.int p1), .val (.int p2), .val (.int p3), .val (.int v1), .val (.int v2), .val (.int (2 : Int32)), .val (.int v5), .val (.int v7), .val (.int v9), .val (.int v11), .val (.ref b12), .val (.int (1 : Int32)), .val (.int (1 : Int32)), .val (.int v9)] [(.int (own_eccw (1 : Int32) (2 : Int32) (1 : Int32) v5)), (.int ((own_up (own_up (own_up (own_up (own_up (fun _ => 0) v7 v7) ((own_up (fun _ => 0) v7 v7) v7.toInt.toNat) v9) v9 v7) ((own_up (own_up (own_up (fun _ => 0) v7 v7) v9 ((own_up (fun _ => 0) v7 v7) v7.toInt.toNat)) v7 v9) v9.toInt.toNat) v11) v11 v9) v9.toInt.toNat))])) t
          refine XS.icmpNo X84.here hx rfl (hb hby at_268) rfl (teq hc85).2 ?_
          show Steps p.tables e below (T84.setTop (mkF m 271 #[.val (.int p0), .val (.int p1), .val (.int p2), .val (.int p3), .val (.int v1), .val (.int v2), .val (.int (2 : Int32)), .val (.int v5), .val (.int v7), .val (.int v9), .val (.int v11), .val (.ref b12), .val (.int (1 : Int32)), .val (.int (1 : Int32)), .val (.int v9)] [])) t
          refine XS.iconst X84.here hx rfl (hb hby at_271) ?_
          show Steps p.tables e below (T84.setTop (mkF m 272 #[.val (.int p0), .val (.int p1), .val (.int p2), .val (.int p3), .val (.int v1), .val (.int v2), .val (.int (2 : Int32)), .val (.int v5), .val (.int v7), .val (.int v9), .val (.int v11), .val (.ref b12), .val (.int (1 : Int32)), .val (.int (1 : Int32)), .val (.int v9)] [(.int (1 : Int32))])) t
          refine XS.goto X84.here hx rfl (pc0 := 272) (pc' := 276) rfl (hb hby at_272) (by decide) (by decide) ?_
          show Steps p.tables e below (T84.setTop (mkF m 276 #[.val (.int p0), .val (.int p1), .val (.int p2), .val (.int p3), .val (.int v1), .val (.int v2), .val (.int (2 : Int32)), .val (.int v5), .val (.int v7), .val (.int v9), .val (.int v11), .val (.ref b12), .val (.int (1 : Int32)), .val (.int (1 : Int32)), .val (.int v9)] [(.int (1 : Int32))])) t
          refine XS.istore X84.here hx rfl (hb hby at_276) rfl (l' := #[.val (.int p0), .val (.int p1), .val (.int p2), .val (.int p3), .val (.int v1), .val (.int v2), .val (.int (2 : Int32)), .val (.int v5), .val (.int v7), .val (.int v9), .val (.int v11), .val (.ref b12), .val (.int (1 : Int32)), .val (.int (1 : Int32)), .val (.int v9)]) rfl ?_
          show Steps p.tables e below (T84.setTop (mkF m 278 #[.val (.int p0), .val (.int p1), .val (.int p2), .val (.int p3), .val (.int v1), .val (.int v2), .val (.int (2 : Int32)), .val (.int v5), .val (.int v7), .val (.int v9), .val (.int v11), .val (.ref b12), .val (.int (1 : Int32)), .val (.int (1 : Int32)), .val (.int v9)] [])) t
          refine XS.iload X84.here hx rfl (hb hby at_278) rfl ?_
          show Steps p.tables e below (T84.setTop (mkF m 280 #[.val (.int p0), .val (.int p1), .val (.int p2), .val (.int p3), .val (.int v1), .val (.int v2), .val (.int (2 : Int32)), .val (.int v5), .val (.int v7), .val (.int v9), .val (.int v11), .val (.ref b12), .val (.int (1 : Int32)), .val (.int (1 : Int32)), .val (.int v9)] [(.int (1 : Int32))])) t
          refine XS.ifNo X84.here hx rfl (hb hby at_280) rfl (by decide) ?_
          show Steps p.tables e below (T84.setTop (mkF m 283 #[.val (.int p0), .val (.int p1), .val (.int p2), .val (.int p3), .val (.int v1), .val (.int v2), .val (.int (2 : Int32)), .val (.int v5), .val (.int v7), .val (.int v9), .val (.int v11), .val (.ref b12), .val (.int (1 : Int32)), .val (.int (1 : Int32)), .val (.int v9)] [])) t
          refine XS.aload X84.here hx rfl (hb hby at_283) rfl rfl ?_
          show Steps p.tables e below (T84.setTop (mkF m 285 #[.val (.int p0), .val (.int p1), .val (.int p2), .val (.int p3), .val (.int v1), .val (.int v2), .val (.int (2 : Int32)), .val (.int v5), .val (.int v7), .val (.int v9), .val (.int v11), .val (.ref b12), .val (.int (1 : Int32)), .val (.int (1 : Int32)), .val (.int v9)] [(.ref b12)])) t
          refine XS.iload X84.here hx rfl (hb hby at_285) rfl ?_
          show Steps p.tables e below (T84.setTop (mkF m 287 #[.val (.int p0), .val (.int p1), .val (.int p2), .val (.int p3), .val (.int v1), .val (.int v2), .val (.int (2 : Int32)), .val (.int v5), .val (.int v7), .val (.int v9), .val (.int v11), .val (.ref b12), .val (.int (1 : Int32)), .val (.int (1 : Int32)), .val (.int v9)] [(.int v11), (.ref b12)])) t
          refine st86 _ ?_
          show Steps p.tables e below (T86.setTop (mkF m 290 #[.val (.int p0), .val (.int p1), .val (.int p2), .val (.int p3), .val (.int v1), .val (.int v2), .val (.int (2 : Int32)), .val (.int v5), .val (.int v7), .val (.int v9), .val (.int v11), .val (.ref b12), .val (.int (1 : Int32)), .val (.int (1 : Int32)), .val (.int v9)] [(.int ((own_up (own_up (own_up (own_up (own_up (fun _ => 0) v7 v7) v9 ((own_up (fun _ => 0) v7 v7) v7.toInt.toNat)) v7 v9) v11 ((own_up (own_up (own_up (fun _ => 0) v7 v7) v9 ((own_up (fun _ => 0) v7 v7) v7.toInt.toNat)) v7 v9) v9.toInt.toNat)) v9 v11) v11.toInt.toNat))])) t
          refine XS.iconst X86.here hx rfl (hb hby at_290) ?_
          show Steps p.tables e below (T86.setTop (mkF m 291 #[.val (.int p0), .val (.int p1), .val (.int p2), .val (.int p3), .val (.int v1), .val (.int v2), .val (.int (2 : Int32)), .val (.int v5), .val (.int v7), .val (.int v9), .val (.int v11), .val (.ref b12), .val (.int (1 : Int32)), .val (.int (1 : Int32)), .val (.int v9)] [(.int (2 : Int32)), (.int ((own_up (own_up (own_up (own_up (own_up (fun _ => 0) v7 v7) v9 ((own_up (fun _ => 0) v7 v7) v7.toInt.toNat)) v7 v9) v11 ((own_up (own_up (own_up (fun _ => 0) v7 v7) v9 ((own_up (fun _ => 0) v7 v7) v7.toInt.toNat)) v7 v9) v9.toInt.toNat)) v9 v11) v11.toInt.toNat))])) t
          refine XS.iload X86.here hx rfl (hb hby at_291) rfl ?_
          show Steps p.tables e below (T86.setTop (mkF m 293 #[.val (.int p0), .val (.int p1), .val (.int p2), .val (.int p3), .val (.int v1), .val (.int v2), .val (.int (2 : Int32)), .val (.int v5), .val (.int v7), .val (.int v9), .val (.int v11), .val (.ref b12), .val (.int (1 : Int32)), .val (.int (1 : Int32)), .val (.int v9)] [(.int (2 : Int32)), (.int (2 : Int32)), (.int ((own_up (own_up (own_up (own_up (own_up (fun _ => 0) v7 v7) v9 ((own_up (fun _ => 0) v7 v7) v7.toInt.toNat)) v7 v9) v11 ((own_up (own_up (own_up (fun _ => 0) v7 v7) v9 ((own_up (fun _ => 0) v7 v7) v7.toInt.toNat)) v7 v9) v9.toInt.toNat)) v9 v11) v11.toInt.toNat))])) t
          refine XS.iload X86.here hx rfl (hb hby at_293) rfl ?_
          show Steps p.tables e below (T86.setTop (mkF m 295 #[.val (.int p0), .val (.int p1), .val (.int p2), .val (.int p3), .val (.int v1), .val (.int v2), .val (.int (2 : Int32)), .val (.int v5), .val (.int v7), .val (.int v9), .val (.int v11), .val (.ref b12), .val (.int (1 : Int32)), .val (.int (1 : Int32)), .val (.int v9)] [(.int (1 : Int32)), (.int (2 : Int32)), (.int (2 : Int32)), (.int ((own_up (own_up (own_up (own_up (own_up (fun _ => 0) v7 v7) v9 ((own_up (fun _ => 0) v7 v7) v7.toInt.toNat)) v7 v9) v11 ((own_up (own_up (own_up (fun _ => 0) v7 v7) v9 ((own_up (fun _ => 0) v7 v7) v7.toInt.toNat)) v7 v9) v9.toInt.toNat)) v9 v11) v11.toInt.toNat))])) t
          refine XS.iload X86.here hx rfl (hb hby at_295) rfl ?_
          show Steps p.tables e below (T86.setTop (mkF m 297 #[.val (.int p0), .val (.int p1), .val (.int p2), .val (.int p3), .val (.int v1), .val (.int v2), .val (.int (2 : Int32)), .val (.int v5), .val (.int v7), .val (.int v9), .val (.int v11), .val (.ref b12), .val (.int (1 : Int32)), .val (.int (1 : Int32)), .val (.int v9)] [(.int v5), (.int (1 : Int32)), (.int (2 : Int32)), (.int (2 : Int32)), (.int ((own_up (own_up (own_up (own_up (own_up (fun _ => 0) v7 v7) v9 ((own_up (fun _ => 0) v7 v7) v7.toInt.toNat)) v7 v9) v11 ((own_up (own_up (own_up (fun _ => 0) v7 v7) v9 ((own_up (fun _ => 0) v7 v7) v7.toInt.toNat)) v7 v9) v9.toInt.toNat)) v9 v11) v11.toInt.toNat))])) t
          refine st87 _ ?_
          show Steps p.tables e below (T87.setTop (mkF m 300 #[.val (.int p0), .val (.int p1), .val (.int p2), .val (.int p3), .val (.int v1), .val (.int v2), .val (.int (2 : Int32)), .val (.int v5), .val (.int v7), .val (.int v9), .val (.int v11), .val (.ref b12), .val (.int (1 : Int32)), .val (.int (1 : Int32)), .val (.int v9)] [(.int (own_ecw (2 : Int32) (2 : Int32) (1 : Int32) v5)), (.int ((own_up (own_up (own_up (own_up (own_up (fun _ => 0) v7 v7) v9 ((own_up (fun _ => 0) v7 v7) v7.toInt.toNat)) v7 v9) v11 ((own_up (own_up (own_up (fun _ => 0) v7 v7) v9 ((own_up (fun _ => 0) v7 v7) v7.toInt.toNat)) v7 v9) v9.toInt.toNat)) v9 v11) v11.toInt.toNat))])) t
          exact k
        have hc88 : ((own_up (own_up (own_up (own_up (own_up (fun _ => 0) v7 v7) v9 ((own_up (fun _ => 0) v7 v7) v7.toInt.toNat)) v7 v9) v11 ((own_up (own_up (own_up (fun _ => 0) v7 v7) v9 ((own_up (fun _ => 0) v7 v7) v7.toInt.toNat)) v7 v9) v9.toInt.toNat)) v9 v11) v11.toInt.toNat) = (own_ecw (2 : Int32) (2 : Int32) (1 : Int32) v5) := by subst hv2 hv7 hv9 hv11; rcases own_s4 hv5 with rfl | rfl | rfl | rfl <;> rcases own_o2 hv1 with rfl | rfl <;> decide +kernel
        obtain ⟨T89, _, L89, X89, ⟨rfl, Nq89, e89⟩, st89⟩ := Own.callV (y := (⟨"com/example/libgriddraw/libgriddraw/core/RotationSystem", "ccwNext", "(I)I"⟩ : MethodName)) (W := 0) (argsL := [(.int v11)]) (rest := []) (a := b12) X87 hx hZ hown (hw _ (List.mem_of_getElem? (i := 46) rfl)) (hw _ (List.mem_of_getElem? (i := 47) rfl)) (hw _ (List.mem_of_getElem? (i := 49) rfl)) (hw _ (List.mem_of_getElem? (i := 48) rfl)) (hw _ (List.mem_of_getElem? (i := 7) rfl)) (hw _ (List.mem_of_getElem? (i := 50) rfl)) (by decide) e87 E69 (rm9 l Z a0 hw [] b12 v11 rc16 (own_up (own_up (own_up (own_up (own_up (fun _ => 0) v7 v7) ((own_up (fun _ => 0) v7 v7) v7.toInt.toNat) v9) v9 v7) ((own_up (own_up (own_up (fun _ => 0) v7 v7) v9 ((own_up (fun _ => 0) v7 v7) v7.toInt.toNat)) v7 v9) v9.toInt.toNat) v11) v11 v9) T69.heap n0 (by subst hv2 hv7 hv9 hv11; rcases own_s4 hv5 with rfl | rfl | rfl | rfl <;> rcases own_o2 hv1 with rfl | rfl <;> decide +kernel) FccwNext_69 Ac_69) (by decide) (by decide) (by decide) (by decide) (g := (mkF m 307 #[.val (.int p0), .val (.int p1), .val (.int p2), .val (.int p3), .val (.int v1), .val (.int v2), .val (.int (2 : Int32)), .val (.int v5), .val (.int v7), .val (.int v9), .val (.int v11), .val (.ref b12), .val (.int (1 : Int32)), .val (.int (1 : Int32)), .val (.int v9)] [(.int v11), (.ref b12)])) rfl (by rw [hml]; rfl) (lenOf pd_5 rfl) rfl (by show 2 * 0 + _ ≤ _; exact Nat.le_of_eq rfl) (hb hby at_307)
        have N89 := Fr.app N87 Nq89
        obtain ⟨T90, _, L90, X90, ⟨rfl, Nq90, e90⟩, st90⟩ := Own.callS (y := (⟨"com/example/libgriddraw/libgriddraw/core/RotationSystemInsertClockwiseOfPinLaw", "expCcw", "(IIII)I"⟩ : MethodName)) (W := 1) (argsL := [(.int (2 : Int32)), (.int (2 : Int32)), (.int (1 : Int32)), (.int v5)]) (rest := [(.int ((own_up (own_up (own_up (own_up (own_up (fun _ => 0) v7 v7) ((own_up (fun _ => 0) v7 v7) v7.toInt.toNat) v9) v9 v7) ((own_up (own_up (own_up (fun _ => 0) v7 v7) v9 ((own_up (fun _ => 0) v7 v7) v7.toInt.toNat)) v7 v9) v9.toInt.toNat) v11) v11 v9) v11.toInt.toNat))]) X89 hx hZ hown (hw _ (List.mem_of_getElem? (i := 51) rfl)) (hw _ (List.mem_of_getElem? (i := 52) rfl)) (hw _ (List.mem_of_getElem? (i := 3) rfl)) (hw _ (List.mem_of_getElem? (i := 53) rfl)) (by decide) e89 (rm21 l Z a0 hw [] (2 : Int32) (2 : Int32) (1 : Int32) v5  T69.heap n0 ) (by decide) (by decide) (by decide) (by decide) (g := (mkF m 317 #[.val (.int p0), .val (.int p1), .val (.int p2), .val (.int p3), .val (.int v1), .val (.int v2), .val (.int (2 : Int32)), .val (.int v5), .val (.int v7), .val (.int v9), .val (.int v11), .val (.ref b12), .val (.int (1 : Int32)), .val (.int (1 : Int32)), .val (.int v9)] [(.int v5), (.int (1 : Int32)), (.int (2 : Int32)), (.int (2 : Int32)), (.int ((own_up (own_up (own_up (own_up (own_up (fun _ => 0) v7 v7) ((own_up (fun _ => 0) v7 v7) v7.toInt.toNat) v9) v9 v7) ((own_up (own_up (own_up (fun _ => 0) v7 v7) v9 ((own_up (fun _ => 0) v7 v7) v7.toInt.toNat)) v7 v9) v9.toInt.toNat) v11) v11 v9) v11.toInt.toNat))])) rfl (by rw [hml]; rfl) (lenOf pd_6 rfl) rfl (by show 2 * 0 + _ ≤ _; exact Nat.le_of_eq rfl) (hb hby at_317)
        have N90 := Fr.app N89 Nq90
        refine hD _ (T90.setTop (mkF m 320 #[.val (.int p0), .val (.int p1), .val (.int p2), .val (.int p3), .val (.int v1), .val (.int v2), .val (.int (2 : Int32)), .val (.int v5), .val (.int v7), .val (.int v9), .val (.int v11), .val (.ref b12), .val (.int (1 : Int32)), .val (.int (1 : Int32)), .val (.int v9)] [(.int (own_eccw (2 : Int32) (2 : Int32) (1 : Int32) v5)), (.int ((own_up (own_up (own_up (own_up (own_up (fun _ => 0) v7 v7) ((own_up (fun _ => 0) v7 v7) v7.toInt.toNat) v9) v9 v7) ((own_up (own_up (own_up (fun _ => 0) v7 v7) v9 ((own_up (fun _ => 0) v7 v7) v7.toInt.toNat)) v7 v9) v9.toInt.toNat) v11) v11 v9) v11.toInt.toNat))])) (fun t k => ?_) ?_
        · show Steps p.tables e below (T87.setTop (mkF m 300 #[.val (.int p0), .val (.int p1), .val (.int p2), .val (.int p3), .val (.int v1), .val (.int v2), .val (.int (2 : Int32)), .val (.int v5), .val (.int v7), .val (.int v9), .val (.int v11), .val (.ref b12), .val (.int (1 : Int32)), .val (.int (1 : Int32)), .val (.int v9)] [(.int (own_ecw (2 : Int32) (2 : Int32) (1 : Int32) v5)), (.int ((own_up (own_up (own_up (own_up (own_up (fun _ => 0) v7 v7) v9 ((own_up (fun _ => 0) v7 v7) v7.toInt.toNat)) v7 v9) v11 ((own_up (own_up (own_up (fun _ => 0) v7 v7) v9 ((own_up (fun _ => 0) v7 v7) v7.toInt.toNat)) v7 v9) v9.toInt.toNat)) v9 v11) v11.toInt.toNat))])) t
          refine XS.icmpNo X87.here hx rfl (hb hby at_300) rfl (teq hc88).2 ?_
          show Steps p.tables e below (T87.setTop (mkF m 303 #[.val (.int p0), .val (.int p1), .val (.int p2), .val (.int p3), .val (.int v1), .val (.int v2), .val (.int (2 : Int32)), .val (.int v5), .val (.int v7), .val (.int v9), .val (.int v11), .val (.ref b12), .val (.int (1 : Int32)), .val (.int (1 : Int32)), .val (.int v9)] [])) t
          refine XS.aload X87.here hx rfl (hb hby at_303) rfl rfl ?_
          show Steps p.tables e below (T87.setTop (mkF m 305 #[.val (.int p0), .val (.int p1), .val (.int p2), .val (.int p3), .val (.int v1), .val (.int v2), .val (.int (2 : Int32)), .val (.int v5), .val (.int v7), .val (.int v9), .val (.int v11), .val (.ref b12), .val (.int (1 : Int32)), .val (.int (1 : Int32)), .val (.int v9)] [(.ref b12)])) t
          refine XS.iload X87.here hx rfl (hb hby at_305) rfl ?_
          show Steps p.tables e below (T87.setTop (mkF m 307 #[.val (.int p0), .val (.int p1), .val (.int p2), .val (.int p3), .val (.int v1), .val (.int v2), .val (.int (2 : Int32)), .val (.int v5), .val (.int v7), .val (.int v9), .val (.int v11), .val (.ref b12), .val (.int (1 : Int32)), .val (.int (1 : Int32)), .val (.int v9)] [(.int v11), (.ref b12)])) t
          refine st89 _ ?_
          show Steps p.tables e below (T89.setTop (mkF m 310 #[.val (.int p0), .val (.int p1), .val (.int p2), .val (.int p3), .val (.int v1), .val (.int v2), .val (.int (2 : Int32)), .val (.int v5), .val (.int v7), .val (.int v9), .val (.int v11), .val (.ref b12), .val (.int (1 : Int32)), .val (.int (1 : Int32)), .val (.int v9)] [(.int ((own_up (own_up (own_up (own_up (own_up (fun _ => 0) v7 v7) ((own_up (fun _ => 0) v7 v7) v7.toInt.toNat) v9) v9 v7) ((own_up (own_up (own_up (fun _ => 0) v7 v7) v9 ((own_up (fun _ => 0) v7 v7) v7.toInt.toNat)) v7 v9) v9.toInt.toNat) v11) v11 v9) v11.toInt.toNat))])) t
          refine XS.iconst X89.here hx rfl (hb hby at_310) ?_
          show Steps p.tables e below (T89.setTop (mkF m 311 #[.val (.int p0), .val (.int p1), .val (.int p2), .val (.int p3), .val (.int v1), .val (.int v2), .val (.int (2 : Int32)), .val (.int v5), .val (.int v7), .val (.int v9), .val (.int v11), .val (.ref b12), .val (.int (1 : Int32)), .val (.int (1 : Int32)), .val (.int v9)] [(.int (2 : Int32)), (.int ((own_up (own_up (own_up (own_up (own_up (fun _ => 0) v7 v7) ((own_up (fun _ => 0) v7 v7) v7.toInt.toNat) v9) v9 v7) ((own_up (own_up (own_up (fun _ => 0) v7 v7) v9 ((own_up (fun _ => 0) v7 v7) v7.toInt.toNat)) v7 v9) v9.toInt.toNat) v11) v11 v9) v11.toInt.toNat))])) t
          refine XS.iload X89.here hx rfl (hb hby at_311) rfl ?_
          show Steps p.tables e below (T89.setTop (mkF m 313 #[.val (.int p0), .val (.int p1), .val (.int p2), .val (.int p3), .val (.int v1), .val (.int v2), .val (.int (2 : Int32)), .val (.int v5), .val (.int v7), .val (.int v9), .val (.int v11), .val (.ref b12), .val (.int (1 : Int32)), .val (.int (1 : Int32)), .val (.int v9)] [(.int (2 : Int32)), (.int (2 : Int32)), (.int ((own_up (own_up (own_up (own_up (own_up (fun _ => 0) v7 v7) ((own_up (fun _ => 0) v7 v7) v7.toInt.toNat) v9) v9 v7) ((own_up (own_up (own_up (fun _ => 0) v7 v7) v9 ((own_up (fun _ => 0) v7 v7) v7.toInt.toNat)) v7 v9) v9.toInt.toNat) v11) v11 v9) v11.toInt.toNat))])) t
          refine XS.iload X89.here hx rfl (hb hby at_313) rfl ?_
          show Steps p.tables e below (T89.setTop (mkF m 315 #[.val (.int p0), .val (.int p1), .val (.int p2), .val (.int p3), .val (.int v1), .val (.int v2), .val (.int (2 : Int32)), .val (.int v5), .val (.int v7), .val (.int v9), .val (.int v11), .val (.ref b12), .val (.int (1 : Int32)), .val (.int (1 : Int32)), .val (.int v9)] [(.int (1 : Int32)), (.int (2 : Int32)), (.int (2 : Int32)), (.int ((own_up (own_up (own_up (own_up (own_up (fun _ => 0) v7 v7) ((own_up (fun _ => 0) v7 v7) v7.toInt.toNat) v9) v9 v7) ((own_up (own_up (own_up (fun _ => 0) v7 v7) v9 ((own_up (fun _ => 0) v7 v7) v7.toInt.toNat)) v7 v9) v9.toInt.toNat) v11) v11 v9) v11.toInt.toNat))])) t
          refine XS.iload X89.here hx rfl (hb hby at_315) rfl ?_
          show Steps p.tables e below (T89.setTop (mkF m 317 #[.val (.int p0), .val (.int p1), .val (.int p2), .val (.int p3), .val (.int v1), .val (.int v2), .val (.int (2 : Int32)), .val (.int v5), .val (.int v7), .val (.int v9), .val (.int v11), .val (.ref b12), .val (.int (1 : Int32)), .val (.int (1 : Int32)), .val (.int v9)] [(.int v5), (.int (1 : Int32)), (.int (2 : Int32)), (.int (2 : Int32)), (.int ((own_up (own_up (own_up (own_up (own_up (fun _ => 0) v7 v7) ((own_up (fun _ => 0) v7 v7) v7.toInt.toNat) v9) v9 v7) ((own_up (own_up (own_up (fun _ => 0) v7 v7) v9 ((own_up (fun _ => 0) v7 v7) v7.toInt.toNat)) v7 v9) v9.toInt.toNat) v11) v11 v9) v11.toInt.toNat))])) t
          refine st90 _ ?_
          show Steps p.tables e below (T90.setTop (mkF m 320 #[.val (.int p0), .val (.int p1), .val (.int p2), .val (.int p3), .val (.int v1), .val (.int v2), .val (.int (2 : Int32)), .val (.int v5), .val (.int v7), .val (.int v9), .val (.int v11), .val (.ref b12), .val (.int (1 : Int32)), .val (.int (1 : Int32)), .val (.int v9)] [(.int (own_eccw (2 : Int32) (2 : Int32) (1 : Int32) v5)), (.int ((own_up (own_up (own_up (own_up (own_up (fun _ => 0) v7 v7) ((own_up (fun _ => 0) v7 v7) v7.toInt.toNat) v9) v9 v7) ((own_up (own_up (own_up (fun _ => 0) v7 v7) v9 ((own_up (fun _ => 0) v7 v7) v7.toInt.toNat)) v7 v9) v9.toInt.toNat) v11) v11 v9) v11.toInt.toNat))])) t
          exact k
        have hc91 : ((own_up (own_up (own_up (own_up (own_up (fun _ => 0) v7 v7) ((own_up (fun _ => 0) v7 v7) v7.toInt.toNat) v9) v9 v7) ((own_up (own_up (own_up (fun _ => 0) v7 v7) v9 ((own_up (fun _ => 0) v7 v7) v7.toInt.toNat)) v7 v9) v9.toInt.toNat) v11) v11 v9) v11.toInt.toNat) = (own_eccw (2 : Int32) (2 : Int32) (1 : Int32) v5) := by subst hv2 hv7 hv9 hv11; rcases own_s4 hv5 with rfl | rfl | rfl | rfl <;> rcases own_o2 hv1 with rfl | rfl <;> decide +kernel
        refine hD _ (T90.setTop (mkF m 332 #[.val (.int p0), .val (.int p1), .val (.int p2), .val (.int p3), .val (.int v1), .val (.int v2), .val (.int (2 : Int32)), .val (.int v5), .val (.int v7), .val (.int v9), .val (.int v11), .val (.ref b12), .val (.int (1 : Int32)), .val (.int (1 : Int32)), .val (.int v9)] [(.int (1 : Int32))])) (fun t k => ?_) ?_
        · show Steps p.tables e below (T90.setTop (mkF m 320 #[.val (.int p0), .val (.int p1), .val (.int p2), .val (.int p3), .val (.int v1), .val (.int v2), .val (.int (2 : Int32)), .val (.int v5), .val (.int v7), .val (.int v9), .val (.int v11), .val (.ref b12), .val (.int (1 : Int32)), .val (.int (1 : Int32)), .val (.int v9)] [(.int (own_eccw (2 : Int32) (2 : Int32) (1 : Int32) v5)), (.int ((own_up (own_up (own_up (own_up (own_up (fun _ => 0) v7 v7) ((own_up (fun _ => 0) v7 v7) v7.toInt.toNat) v9) v9 v7) ((own_up (own_up (own_up (fun _ => 0) v7 v7) v9 ((own_up (fun _ => 0) v7 v7) v7.toInt.toNat)) v7 v9) v9.toInt.toNat) v11) v11 v9) v11.toInt.toNat))])) t
          refine XS.icmpNo X90.here hx rfl (hb hby at_320) rfl (teq hc91).2 ?_
          show Steps p.tables e below (T90.setTop (mkF m 323 #[.val (.int p0), .val (.int p1), .val (.int p2), .val (.int p3), .val (.int v1), .val (.int v2), .val (.int (2 : Int32)), .val (.int v5), .val (.int v7), .val (.int v9), .val (.int v11), .val (.ref b12), .val (.int (1 : Int32)), .val (.int (1 : Int32)), .val (.int v9)] [])) t
          refine XS.iconst X90.here hx rfl (hb hby at_323) ?_
          show Steps p.tables e below (T90.setTop (mkF m 324 #[.val (.int p0), .val (.int p1), .val (.int p2), .val (.int p3), .val (.int v1), .val (.int v2), .val (.int (2 : Int32)), .val (.int v5), .val (.int v7), .val (.int v9), .val (.int v11), .val (.ref b12), .val (.int (1 : Int32)), .val (.int (1 : Int32)), .val (.int v9)] [(.int (1 : Int32))])) t
          refine XS.goto X90.here hx rfl (pc0 := 324) (pc' := 328) rfl (hb hby at_324) (by decide) (by decide) ?_
          show Steps p.tables e below (T90.setTop (mkF m 328 #[.val (.int p0), .val (.int p1), .val (.int p2), .val (.int p3), .val (.int v1), .val (.int v2), .val (.int (2 : Int32)), .val (.int v5), .val (.int v7), .val (.int v9), .val (.int v11), .val (.ref b12), .val (.int (1 : Int32)), .val (.int (1 : Int32)), .val (.int v9)] [(.int (1 : Int32))])) t
          refine XS.istore X90.here hx rfl (hb hby at_328) rfl (l' := #[.val (.int p0), .val (.int p1), .val (.int p2), .val (.int p3), .val (.int v1), .val (.int v2), .val (.int (2 : Int32)), .val (.int v5), .val (.int v7), .val (.int v9), .val (.int v11), .val (.ref b12), .val (.int (1 : Int32)), .val (.int (1 : Int32)), .val (.int v9)]) rfl ?_
          show Steps p.tables e below (T90.setTop (mkF m 330 #[.val (.int p0), .val (.int p1), .val (.int p2), .val (.int p3), .val (.int v1), .val (.int v2), .val (.int (2 : Int32)), .val (.int v5), .val (.int v7), .val (.int v9), .val (.int v11), .val (.ref b12), .val (.int (1 : Int32)), .val (.int (1 : Int32)), .val (.int v9)] [])) t
          refine XS.iload X90.here hx rfl (hb hby at_330) rfl ?_
          show Steps p.tables e below (T90.setTop (mkF m 332 #[.val (.int p0), .val (.int p1), .val (.int p2), .val (.int p3), .val (.int v1), .val (.int v2), .val (.int (2 : Int32)), .val (.int v5), .val (.int v7), .val (.int v9), .val (.int v11), .val (.ref b12), .val (.int (1 : Int32)), .val (.int (1 : Int32)), .val (.int v9)] [(.int (1 : Int32))])) t
          exact k
        exact Own.retN hR X90 hx (t := .boolean) hret (by simp) (hb hby at_332) (by decide) (by decide) (by decide) ⟨rfl, N90⟩
    · refine hD _ (T17.setTop (mkF m 95 #[.val (.int p0), .val (.int p1), .val (.int p2), .val (.int p3), .val (.int v1), .val (.int v2), .val (.int v4), .val (.int v5), .val (.int v7), .val (.int v9), .val (.int v11), .val (.ref b12), .val (.int (0 : Int32)), .unset, .unset] [])) (fun t k => ?_) ?_
      · show Steps p.tables e below (T17.setTop (mkF m 81 #[.val (.int p0), .val (.int p1), .val (.int p2), .val (.int p3), .val (.int v1), .val (.int v2), .val (.int v4), .val (.int v5), .val (.int v7), .val (.int v9), .val (.int v11), .val (.ref b12), .val (.int (0 : Int32)), .unset, .unset] [(.int (2 : Int32)), (.int v4)])) t
        refine XS.icmpYes X17.here hx rfl (pc0 := 81) (pc' := 95) rfl (hb hby at_81) rfl (feq hc41).2 (by decide) (by decide) ?_
        show Steps p.tables e below (T17.setTop (mkF m 95 #[.val (.int p0), .val (.int p1), .val (.int p2), .val (.int p3), .val (.int v1), .val (.int v2), .val (.int v4), .val (.int v5), .val (.int v7), .val (.int v9), .val (.int v11), .val (.ref b12), .val (.int (0 : Int32)), .unset, .unset] [])) t
        exact k
      have hl6 : v4 = 1 := own_k1 hv4 hc18 hc41
      subst hl6
      have hnz92 : (1 : Int32) ≠ 0 := by decide
      obtain ⟨v93, hv93⟩ : ∃ z : Int32, z = ((p3 &&& (2147483647 : Int32)) % (1 : Int32)) := ⟨_, rfl⟩
      refine hD _ (T17.setTop (mkF m 104 #[.val (.int p0), .val (.int p1), .val (.int p2), .val (.int p3), .val (.int v1), .val (.int v2), .val (.int (1 : Int32)), .val (.int v5), .val (.int v7), .val (.int v9), .val (.int v11), .val (.ref b12), .val (.int v93), .unset, .unset] [])) (fun t k => ?_) ?_
      · show Steps p.tables e below (T17.setTop (mkF m 95 #[.val (.int p0), .val (.int p1), .val (.int p2), .val (.int p3), .val (.int v1), .val (.int v2), .val (.int (1 : Int32)), .val (.int v5), .val (.int v7), .val (.int v9), .val (.int v11), .val (.ref b12), .val (.int (0 : Int32)), .unset, .unset] [])) t
        refine XS.iloadN X17.here hx rfl (hb hby at_95) rfl ?_
        show Steps p.tables e below (T17.setTop (mkF m 96 #[.val (.int p0), .val (.int p1), .val (.int p2), .val (.int p3), .val (.int v1), .val (.int v2), .val (.int (1 : Int32)), .val (.int v5), .val (.int v7), .val (.int v9), .val (.int v11), .val (.ref b12), .val (.int (0 : Int32)), .unset, .unset] [(.int p3)])) t
        refine X17.ldcInt hx hown (mvT hZ (hw _ (List.mem_of_getElem? (i := 0) rfl))) (g := (mkF m 96 #[.val (.int p0), .val (.int p1), .val (.int p2), .val (.int p3), .val (.int v1), .val (.int v2), .val (.int (1 : Int32)), .val (.int v5), .val (.int v7), .val (.int v9), .val (.int v11), .val (.ref b12), .val (.int (0 : Int32)), .unset, .unset] [(.int p3)])) rfl (hb hby at_96) _ ?_
        show Steps p.tables e below (T17.setTop (mkF m 98 #[.val (.int p0), .val (.int p1), .val (.int p2), .val (.int p3), .val (.int v1), .val (.int v2), .val (.int (1 : Int32)), .val (.int v5), .val (.int v7), .val (.int v9), .val (.int v11), .val (.ref b12), .val (.int (0 : Int32)), .unset, .unset] [(.int (2147483647 : Int32)), (.int p3)])) t
        refine XS.iand X17.here hx rfl (hb hby at_98) rfl ?_
        show Steps p.tables e below (T17.setTop (mkF m 99 #[.val (.int p0), .val (.int p1), .val (.int p2), .val (.int p3), .val (.int v1), .val (.int v2), .val (.int (1 : Int32)), .val (.int v5), .val (.int v7), .val (.int v9), .val (.int v11), .val (.ref b12), .val (.int (0 : Int32)), .unset, .unset] [(.int (p3 &&& (2147483647 : Int32)))])) t
        refine XS.iload X17.here hx rfl (hb hby at_99) rfl ?_
        show Steps p.tables e below (T17.setTop (mkF m 101 #[.val (.int p0), .val (.int p1), .val (.int p2), .val (.int p3), .val (.int v1), .val (.int v2), .val (.int (1 : Int32)), .val (.int v5), .val (.int v7), .val (.int v9), .val (.int v11), .val (.ref b12), .val (.int (0 : Int32)), .unset, .unset] [(.int (1 : Int32)), (.int (p3 &&& (2147483647 : Int32)))])) t
        refine Jvm.RoadKit.iremM (g := (mkF m 101 #[.val (.int p0), .val (.int p1), .val (.int p2), .val (.int p3), .val (.int v1), .val (.int v2), .val (.int (1 : Int32)), .val (.int v5), .val (.int v7), .val (.int v9), .val (.int v11), .val (.ref b12), .val (.int (0 : Int32)), .unset, .unset] [(.int (1 : Int32)), (.int (p3 &&& (2147483647 : Int32)))])) X17 hx rfl (hb hby at_101) rfl hnz92 ?_
        show Steps p.tables e below (T17.setTop (mkF m 102 #[.val (.int p0), .val (.int p1), .val (.int p2), .val (.int p3), .val (.int v1), .val (.int v2), .val (.int (1 : Int32)), .val (.int v5), .val (.int v7), .val (.int v9), .val (.int v11), .val (.ref b12), .val (.int (0 : Int32)), .unset, .unset] [(.int ((p3 &&& (2147483647 : Int32)) % (1 : Int32)))])) t
        refine Own.nmI hv93 ?_
        show Steps p.tables e below (T17.setTop (mkF m 102 #[.val (.int p0), .val (.int p1), .val (.int p2), .val (.int p3), .val (.int v1), .val (.int v2), .val (.int (1 : Int32)), .val (.int v5), .val (.int v7), .val (.int v9), .val (.int v11), .val (.ref b12), .val (.int (0 : Int32)), .unset, .unset] [(.int v93)])) t
        refine XS.istore X17.here hx rfl (hb hby at_102) rfl (l' := #[.val (.int p0), .val (.int p1), .val (.int p2), .val (.int p3), .val (.int v1), .val (.int v2), .val (.int (1 : Int32)), .val (.int v5), .val (.int v7), .val (.int v9), .val (.int v11), .val (.ref b12), .val (.int v93), .unset, .unset]) rfl ?_
        show Steps p.tables e below (T17.setTop (mkF m 104 #[.val (.int p0), .val (.int p1), .val (.int p2), .val (.int p3), .val (.int v1), .val (.int v2), .val (.int (1 : Int32)), .val (.int v5), .val (.int v7), .val (.int v9), .val (.int v11), .val (.ref b12), .val (.int v93), .unset, .unset] [])) t
        exact k
      have hl12 : v93 = 0 := own_j1 hv93
      subst hl12
      obtain ⟨T94, _, L94, X94, ⟨rfl, Nq94, E94, FccwNext_94, FcwNext_94, FfirstOut_94, Ac_94, Aw_94, Af_94⟩, st94⟩ := Own.callV (y := (⟨"com/example/libgriddraw/libgriddraw/core/RotationSystem", "insertClockwiseOf", "(III)V"⟩ : MethodName)) (W := 0) (argsL := [(.int v9), (.int v1), (.int v7)]) (rest := []) (a := b12) X17 hx hZ hown (hw _ (List.mem_of_getElem? (i := 28) rfl)) (hw _ (List.mem_of_getElem? (i := 29) rfl)) (hw _ (List.mem_of_getElem? (i := 31) rfl)) (hw _ (List.mem_of_getElem? (i := 30) rfl)) (hw _ (List.mem_of_getElem? (i := 7) rfl)) (hw _ (List.mem_of_getElem? (i := 32) rfl)) (by decide) rfl E17 (rm6 l Z a0 hw [] b12 v9 v1 v7 rc16 rw16 rf16 (own_up (fun _ => 0) v7 v7) (own_up (fun _ => 0) v7 v7) (own_up (fun _ => (-1 : Int32)) v1 v7) T17.heap n0 Z17 g0_b12 l1_16 l2_16 l3_16 (by subst hv2 hv7 hv9 hv11; rcases own_s4 hv5 with rfl | rfl | rfl | rfl <;> rcases own_o2 hv1 with rfl | rfl <;> decide +kernel) (by subst hv2 hv7 hv9 hv11; rcases own_s4 hv5 with rfl | rfl | rfl | rfl <;> rcases own_o2 hv1 with rfl | rfl <;> decide +kernel) (by subst hv2 hv7 hv9 hv11; rcases own_s4 hv5 with rfl | rfl | rfl | rfl <;> rcases own_o2 hv1 with rfl | rfl <;> decide +kernel) (by subst hv2 hv7 hv9 hv11; rcases own_s4 hv5 with rfl | rfl | rfl | rfl <;> rcases own_o2 hv1 with rfl | rfl <;> decide +kernel) E17 FccwNext_17 FcwNext_17 FfirstOut_17 Ac_17 Aw_17 Af_17) (by decide) (by decide) (by decide) (by decide) (g := (mkF m 141 #[.val (.int p0), .val (.int p1), .val (.int p2), .val (.int p3), .val (.int v1), .val (.int v2), .val (.int (1 : Int32)), .val (.int v5), .val (.int v7), .val (.int v9), .val (.int v11), .val (.ref b12), .val (.int (0 : Int32)), .val (.int v9), .val (.int v7)] [(.int v7), (.int v1), (.int v9), (.ref b12)])) rfl (by rw [hml]; rfl) (lenOf pd_4 rfl) rfl (by show 2 * 0 + _ ≤ _; exact Nat.le_of_eq rfl) (hb hby at_141)
      have N94 := Fr.app N17 Nq94
      have Z94 : n0 ≤ T94.heap.size := Nat.le_trans g0_b12 (Nat.le_of_lt E94.lt)
      obtain ⟨T95, _, L95, X95, ⟨rfl, Nq95, e95⟩, st95⟩ := Own.callV (y := (⟨"com/example/libgriddraw/libgriddraw/core/RotationSystem", "firstOut", "(I)I"⟩ : MethodName)) (W := 0) (argsL := [(.int v1)]) (rest := []) (a := b12) X94 hx hZ hown (hw _ (List.mem_of_getElem? (i := 33) rfl)) (hw _ (List.mem_of_getElem? (i := 34) rfl)) (hw _ (List.mem_of_getElem? (i := 36) rfl)) (hw _ (List.mem_of_getElem? (i := 35) rfl)) (hw _ (List.mem_of_getElem? (i := 7) rfl)) (hw _ (List.mem_of_getElem? (i := 37) rfl)) (by decide) rfl E94 (rm7 l Z a0 hw [] b12 v1 rf16 (own_up (fun _ => (-1 : Int32)) v1 v7) T94.heap n0 (by subst hv2 hv7 hv9 hv11; rcases own_s4 hv5 with rfl | rfl | rfl | rfl <;> rcases own_o2 hv1 with rfl | rfl <;> decide +kernel) FfirstOut_94 Af_94) (by decide) (by decide) (by decide) (by decide) (g := (mkF m 148 #[.val (.int p0), .val (.int p1), .val (.int p2), .val (.int p3), .val (.int v1), .val (.int v2), .val (.int (1 : Int32)), .val (.int v5), .val (.int v7), .val (.int v9), .val (.int v11), .val (.ref b12), .val (.int (0 : Int32)), .val (.int v9), .val (.int v7)] [(.int v1), (.ref b12)])) rfl (by rw [hml]; rfl) (lenOf pd_5 rfl) rfl (by show 2 * 0 + _ ≤ _; exact Nat.le_of_eq rfl) (hb hby at_148)
      have N95 := Fr.app N94 Nq95
      refine hD _ (T95.setTop (mkF m 153 #[.val (.int p0), .val (.int p1), .val (.int p2), .val (.int p3), .val (.int v1), .val (.int v2), .val (.int (1 : Int32)), .val (.int v5), .val (.int v7), .val (.int v9), .val (.int v11), .val (.ref b12), .val (.int (0 : Int32)), .val (.int v9), .val (.int v7)] [(.int v7), (.int ((own_up (fun _ => (-1 : Int32)) v1 v7) v1.toInt.toNat))])) (fun t k => ?_) ?_
      · show Steps p.tables e below (T17.setTop (mkF m 104 #[.val (.int p0), .val (.int p1), .val (.int p2), .val (.int p3), .val (.int v1), .val (.int v2), .val (.int (1 : Int32)), .val (.int v5), .val (.int v7), .val (.int v9), .val (.int v11), .val (.ref b12), .val (.int (0 : Int32)), .unset, .unset] [])) t
        refine XS.iload X17.here hx rfl (hb hby at_104) rfl ?_
        show Steps p.tables e below (T17.setTop (mkF m 106 #[.val (.int p0), .val (.int p1), .val (.int p2), .val (.int p3), .val (.int v1), .val (.int v2), .val (.int (1 : Int32)), .val (.int v5), .val (.int v7), .val (.int v9), .val (.int v11), .val (.ref b12), .val (.int (0 : Int32)), .unset, .unset] [(.int (1 : Int32))])) t
        refine XS.iconst X17.here hx rfl (hb hby at_106) ?_
        show Steps p.tables e below (T17.setTop (mkF m 107 #[.val (.int p0), .val (.int p1), .val (.int p2), .val (.int p3), .val (.int v1), .val (.int v2), .val (.int (1 : Int32)), .val (.int v5), .val (.int v7), .val (.int v9), .val (.int v11), .val (.ref b12), .val (.int (0 : Int32)), .unset, .unset] [(.int (1 : Int32)), (.int (1 : Int32))])) t
        refine XS.icmpNo X17.here hx rfl (hb hby at_107) rfl (by decide) ?_
        show Steps p.tables e below (T17.setTop (mkF m 110 #[.val (.int p0), .val (.int p1), .val (.int p2), .val (.int p3), .val (.int v1), .val (.int v2), .val (.int (1 : Int32)), .val (.int v5), .val (.int v7), .val (.int v9), .val (.int v11), .val (.ref b12), .val (.int (0 : Int32)), .unset, .unset] [])) t
        refine XS.iload X17.here hx rfl (hb hby at_110) rfl ?_
        show Steps p.tables e below (T17.setTop (mkF m 112 #[.val (.int p0), .val (.int p1), .val (.int p2), .val (.int p3), .val (.int v1), .val (.int v2), .val (.int (1 : Int32)), .val (.int v5), .val (.int v7), .val (.int v9), .val (.int v11), .val (.ref b12), .val (.int (0 : Int32)), .unset, .unset] [(.int v9)])) t
        refine XS.goto X17.here hx rfl (pc0 := 112) (pc' := 117) rfl (hb hby at_112) (by decide) (by decide) ?_
        show Steps p.tables e below (T17.setTop (mkF m 117 #[.val (.int p0), .val (.int p1), .val (.int p2), .val (.int p3), .val (.int v1), .val (.int v2), .val (.int (1 : Int32)), .val (.int v5), .val (.int v7), .val (.int v9), .val (.int v11), .val (.ref b12), .val (.int (0 : Int32)), .unset, .unset] [(.int v9)])) t
        refine XS.istore X17.here hx rfl (hb hby at_117) rfl (l' := #[.val (.int p0), .val (.int p1), .val (.int p2), .val (.int p3), .val (.int v1), .val (.int v2), .val (.int (1 : Int32)), .val (.int v5), .val (.int v7), .val (.int v9), .val (.int v11), .val (.ref b12), .val (.int (0 : Int32)), .val (.int v9), .unset]) rfl ?_
        show Steps p.tables e below (T17.setTop (mkF m 119 #[.val (.int p0), .val (.int p1), .val (.int p2), .val (.int p3), .val (.int v1), .val (.int v2), .val (.int (1 : Int32)), .val (.int v5), .val (.int v7), .val (.int v9), .val (.int v11), .val (.ref b12), .val (.int (0 : Int32)), .val (.int v9), .unset] [])) t
        refine XS.iload X17.here hx rfl (hb hby at_119) rfl ?_
        show Steps p.tables e below (T17.setTop (mkF m 121 #[.val (.int p0), .val (.int p1), .val (.int p2), .val (.int p3), .val (.int v1), .val (.int v2), .val (.int (1 : Int32)), .val (.int v5), .val (.int v7), .val (.int v9), .val (.int v11), .val (.ref b12), .val (.int (0 : Int32)), .val (.int v9), .unset] [(.int (0 : Int32))])) t
        refine XS.ifNo X17.here hx rfl (hb hby at_121) rfl (by decide) ?_
        show Steps p.tables e below (T17.setTop (mkF m 124 #[.val (.int p0), .val (.int p1), .val (.int p2), .val (.int p3), .val (.int v1), .val (.int v2), .val (.int (1 : Int32)), .val (.int v5), .val (.int v7), .val (.int v9), .val (.int v11), .val (.ref b12), .val (.int (0 : Int32)), .val (.int v9), .unset] [])) t
        refine XS.iload X17.here hx rfl (hb hby at_124) rfl ?_
        show Steps p.tables e below (T17.setTop (mkF m 126 #[.val (.int p0), .val (.int p1), .val (.int p2), .val (.int p3), .val (.int v1), .val (.int v2), .val (.int (1 : Int32)), .val (.int v5), .val (.int v7), .val (.int v9), .val (.int v11), .val (.ref b12), .val (.int (0 : Int32)), .val (.int v9), .unset] [(.int v7)])) t
        refine XS.goto X17.here hx rfl (pc0 := 126) (pc' := 131) rfl (hb hby at_126) (by decide) (by decide) ?_
        show Steps p.tables e below (T17.setTop (mkF m 131 #[.val (.int p0), .val (.int p1), .val (.int p2), .val (.int p3), .val (.int v1), .val (.int v2), .val (.int (1 : Int32)), .val (.int v5), .val (.int v7), .val (.int v9), .val (.int v11), .val (.ref b12), .val (.int (0 : Int32)), .val (.int v9), .unset] [(.int v7)])) t
        refine XS.istore X17.here hx rfl (hb hby at_131) rfl (l' := #[.val (.int p0), .val (.int p1), .val (.int p2), .val (.int p3), .val (.int v1), .val (.int v2), .val (.int (1 : Int32)), .val (.int v5), .val (.int v7), .val (.int v9), .val (.int v11), .val (.ref b12), .val (.int (0 : Int32)), .val (.int v9), .val (.int v7)]) rfl ?_
        show Steps p.tables e below (T17.setTop (mkF m 133 #[.val (.int p0), .val (.int p1), .val (.int p2), .val (.int p3), .val (.int v1), .val (.int v2), .val (.int (1 : Int32)), .val (.int v5), .val (.int v7), .val (.int v9), .val (.int v11), .val (.ref b12), .val (.int (0 : Int32)), .val (.int v9), .val (.int v7)] [])) t
        refine XS.aload X17.here hx rfl (hb hby at_133) rfl rfl ?_
        show Steps p.tables e below (T17.setTop (mkF m 135 #[.val (.int p0), .val (.int p1), .val (.int p2), .val (.int p3), .val (.int v1), .val (.int v2), .val (.int (1 : Int32)), .val (.int v5), .val (.int v7), .val (.int v9), .val (.int v11), .val (.ref b12), .val (.int (0 : Int32)), .val (.int v9), .val (.int v7)] [(.ref b12)])) t
        refine XS.iload X17.here hx rfl (hb hby at_135) rfl ?_
        show Steps p.tables e below (T17.setTop (mkF m 137 #[.val (.int p0), .val (.int p1), .val (.int p2), .val (.int p3), .val (.int v1), .val (.int v2), .val (.int (1 : Int32)), .val (.int v5), .val (.int v7), .val (.int v9), .val (.int v11), .val (.ref b12), .val (.int (0 : Int32)), .val (.int v9), .val (.int v7)] [(.int v9), (.ref b12)])) t
        refine XS.iload X17.here hx rfl (hb hby at_137) rfl ?_
        show Steps p.tables e below (T17.setTop (mkF m 139 #[.val (.int p0), .val (.int p1), .val (.int p2), .val (.int p3), .val (.int v1), .val (.int v2), .val (.int (1 : Int32)), .val (.int v5), .val (.int v7), .val (.int v9), .val (.int v11), .val (.ref b12), .val (.int (0 : Int32)), .val (.int v9), .val (.int v7)] [(.int v1), (.int v9), (.ref b12)])) t
        refine XS.iload X17.here hx rfl (hb hby at_139) rfl ?_
        show Steps p.tables e below (T17.setTop (mkF m 141 #[.val (.int p0), .val (.int p1), .val (.int p2), .val (.int p3), .val (.int v1), .val (.int v2), .val (.int (1 : Int32)), .val (.int v5), .val (.int v7), .val (.int v9), .val (.int v11), .val (.ref b12), .val (.int (0 : Int32)), .val (.int v9), .val (.int v7)] [(.int v7), (.int v1), (.int v9), (.ref b12)])) t
        refine st94 _ ?_
        show Steps p.tables e below (T94.setTop (mkF m 144 #[.val (.int p0), .val (.int p1), .val (.int p2), .val (.int p3), .val (.int v1), .val (.int v2), .val (.int (1 : Int32)), .val (.int v5), .val (.int v7), .val (.int v9), .val (.int v11), .val (.ref b12), .val (.int (0 : Int32)), .val (.int v9), .val (.int v7)] [])) t
        refine XS.aload X94.here hx rfl (hb hby at_144) rfl rfl ?_
        show Steps p.tables e below (T94.setTop (mkF m 146 #[.val (.int p0), .val (.int p1), .val (.int p2), .val (.int p3), .val (.int v1), .val (.int v2), .val (.int (1 : Int32)), .val (.int v5), .val (.int v7), .val (.int v9), .val (.int v11), .val (.ref b12), .val (.int (0 : Int32)), .val (.int v9), .val (.int v7)] [(.ref b12)])) t
        refine XS.iload X94.here hx rfl (hb hby at_146) rfl ?_
        show Steps p.tables e below (T94.setTop (mkF m 148 #[.val (.int p0), .val (.int p1), .val (.int p2), .val (.int p3), .val (.int v1), .val (.int v2), .val (.int (1 : Int32)), .val (.int v5), .val (.int v7), .val (.int v9), .val (.int v11), .val (.ref b12), .val (.int (0 : Int32)), .val (.int v9), .val (.int v7)] [(.int v1), (.ref b12)])) t
        refine st95 _ ?_
        show Steps p.tables e below (T95.setTop (mkF m 151 #[.val (.int p0), .val (.int p1), .val (.int p2), .val (.int p3), .val (.int v1), .val (.int v2), .val (.int (1 : Int32)), .val (.int v5), .val (.int v7), .val (.int v9), .val (.int v11), .val (.ref b12), .val (.int (0 : Int32)), .val (.int v9), .val (.int v7)] [(.int ((own_up (fun _ => (-1 : Int32)) v1 v7) v1.toInt.toNat))])) t
        refine XS.iload X95.here hx rfl (hb hby at_151) rfl ?_
        show Steps p.tables e below (T95.setTop (mkF m 153 #[.val (.int p0), .val (.int p1), .val (.int p2), .val (.int p3), .val (.int v1), .val (.int v2), .val (.int (1 : Int32)), .val (.int v5), .val (.int v7), .val (.int v9), .val (.int v11), .val (.ref b12), .val (.int (0 : Int32)), .val (.int v9), .val (.int v7)] [(.int v7), (.int ((own_up (fun _ => (-1 : Int32)) v1 v7) v1.toInt.toNat))])) t
        exact k
      have hc96 : ((own_up (fun _ => (-1 : Int32)) v1 v7) v1.toInt.toNat) = v7 := by subst hv2 hv7 hv9 hv11; rcases own_s4 hv5 with rfl | rfl | rfl | rfl <;> rcases own_o2 hv1 with rfl | rfl <;> decide +kernel
      obtain ⟨T97, _, L97, X97, ⟨rfl, Nq97, e97⟩, st97⟩ := Own.callV (y := (⟨"com/example/libgriddraw/libgriddraw/core/RotationSystem", "firstOut", "(I)I"⟩ : MethodName)) (W := 0) (argsL := [(.int v2)]) (rest := []) (a := b12) X95 hx hZ hown (hw _ (List.mem_of_getElem? (i := 33) rfl)) (hw _ (List.mem_of_getElem? (i := 34) rfl)) (hw _ (List.mem_of_getElem? (i := 36) rfl)) (hw _ (List.mem_of_getElem? (i := 35) rfl)) (hw _ (List.mem_of_getElem? (i := 7) rfl)) (hw _ (List.mem_of_getElem? (i := 37) rfl)) (by decide) e95 E94 (rm7 l Z a0 hw [] b12 v2 rf16 (own_up (fun _ => (-1 : Int32)) v1 v7) T94.heap n0 (by subst hv2 hv7 hv9 hv11; rcases own_s4 hv5 with rfl | rfl | rfl | rfl <;> rcases own_o2 hv1 with rfl | rfl <;> decide +kernel) FfirstOut_94 Af_94) (by decide) (by decide) (by decide) (by decide) (g := (mkF m 160 #[.val (.int p0), .val (.int p1), .val (.int p2), .val (.int p3), .val (.int v1), .val (.int v2), .val (.int (1 : Int32)), .val (.int v5), .val (.int v7), .val (.int v9), .val (.int v11), .val (.ref b12), .val (.int (0 : Int32)), .val (.int v9), .val (.int v7)] [(.int v2), (.ref b12)])) rfl (by rw [hml]; rfl) (lenOf pd_5 rfl) rfl (by show 2 * 0 + _ ≤ _; exact Nat.le_of_eq rfl) (hb hby at_160)
      have N97 := Fr.app N95 Nq97
      refine hD _ (T97.setTop (mkF m 164 #[.val (.int p0), .val (.int p1), .val (.int p2), .val (.int p3), .val (.int v1), .val (.int v2), .val (.int (1 : Int32)), .val (.int v5), .val (.int v7), .val (.int v9), .val (.int v11), .val (.ref b12), .val (.int (0 : Int32)), .val (.int v9), .val (.int v7)] [(.int (-1 : Int32)), (.int ((own_up (fun _ => (-1 : Int32)) v1 v7) v2.toInt.toNat))])) (fun t k => ?_) ?_
      · show Steps p.tables e below (T95.setTop (mkF m 153 #[.val (.int p0), .val (.int p1), .val (.int p2), .val (.int p3), .val (.int v1), .val (.int v2), .val (.int (1 : Int32)), .val (.int v5), .val (.int v7), .val (.int v9), .val (.int v11), .val (.ref b12), .val (.int (0 : Int32)), .val (.int v9), .val (.int v7)] [(.int v7), (.int ((own_up (fun _ => (-1 : Int32)) v1 v7) v1.toInt.toNat))])) t
        refine XS.icmpNo X95.here hx rfl (hb hby at_153) rfl (teq hc96).2 ?_
        show Steps p.tables e below (T95.setTop (mkF m 156 #[.val (.int p0), .val (.int p1), .val (.int p2), .val (.int p3), .val (.int v1), .val (.int v2), .val (.int (1 : Int32)), .val (.int v5), .val (.int v7), .val (.int v9), .val (.int v11), .val (.ref b12), .val (.int (0 : Int32)), .val (.int v9), .val (.int v7)] [])) t
        refine XS.aload X95.here hx rfl (hb hby at_156) rfl rfl ?_
        show Steps p.tables e below (T95.setTop (mkF m 158 #[.val (.int p0), .val (.int p1), .val (.int p2), .val (.int p3), .val (.int v1), .val (.int v2), .val (.int (1 : Int32)), .val (.int v5), .val (.int v7), .val (.int v9), .val (.int v11), .val (.ref b12), .val (.int (0 : Int32)), .val (.int v9), .val (.int v7)] [(.ref b12)])) t
        refine XS.iload X95.here hx rfl (hb hby at_158) rfl ?_
        show Steps p.tables e below (T95.setTop (mkF m 160 #[.val (.int p0), .val (.int p1), .val (.int p2), .val (.int p3), .val (.int v1), .val (.int v2), .val (.int (1 : Int32)), .val (.int v5), .val (.int v7), .val (.int v9), .val (.int v11), .val (.ref b12), .val (.int (0 : Int32)), .val (.int v9), .val (.int v7)] [(.int v2), (.ref b12)])) t
        refine st97 _ ?_
        show Steps p.tables e below (T97.setTop (mkF m 163 #[.val (.int p0), .val (.int p1), .val (.int p2), .val (.int p3), .val (.int v1), .val (.int v2), .val (.int (1 : Int32)), .val (.int v5), .val (.int v7), .val (.int v9), .val (.int v11), .val (.ref b12), .val (.int (0 : Int32)), .val (.int v9), .val (.int v7)] [(.int ((own_up (fun _ => (-1 : Int32)) v1 v7) v2.toInt.toNat))])) t
        refine XS.iconst X97.here hx rfl (hb hby at_163) ?_
        show Steps p.tables e below (T97.setTop (mkF m 164 #[.val (.int p0), .val (.int p1), .val (.int p2), .val (.int p3), .val (.int v1), .val (.int v2), .val (.int (1 : Int32)), .val (.int v5), .val (.int v7), .val (.int v9), .val (.int v11), .val (.ref b12), .val (.int (0 : Int32)), .val (.int v9), .val (.int v7)] [(.int (-1 : Int32)), (.int ((own_up (fun _ => (-1 : Int32)) v1 v7) v2.toInt.toNat))])) t
        exact k
      have hc98 : ((own_up (fun _ => (-1 : Int32)) v1 v7) v2.toInt.toNat) = (-1 : Int32) := by subst hv2 hv7 hv9 hv11; rcases own_s4 hv5 with rfl | rfl | rfl | rfl <;> rcases own_o2 hv1 with rfl | rfl <;> decide +kernel
      obtain ⟨T99, _, L99, X99, ⟨rfl, Nq99, e99⟩, st99⟩ := Own.callV (y := (⟨"com/example/libgriddraw/libgriddraw/core/RotationSystem", "cwNext", "(I)I"⟩ : MethodName)) (W := 0) (argsL := [(.int v7)]) (rest := []) (a := b12) X97 hx hZ hown (hw _ (List.mem_of_getElem? (i := 38) rfl)) (hw _ (List.mem_of_getElem? (i := 39) rfl)) (hw _ (List.mem_of_getElem? (i := 41) rfl)) (hw _ (List.mem_of_getElem? (i := 40) rfl)) (hw _ (List.mem_of_getElem? (i := 7) rfl)) (hw _ (List.mem_of_getElem? (i := 42) rfl)) (by decide) e97 E94 (rm8 l Z a0 hw [] b12 v7 rw16 (own_up (own_up (own_up (fun _ => 0) v7 v7) v9 ((own_up (fun _ => 0) v7 v7) v7.toInt.toNat)) v7 v9) T94.heap n0 (by subst hv2 hv7 hv9 hv11; rcases own_s4 hv5 with rfl | rfl | rfl | rfl <;> rcases own_o2 hv1 with rfl | rfl <;> decide +kernel) FcwNext_94 Aw_94) (by decide) (by decide) (by decide) (by decide) (g := (mkF m 183 #[.val (.int p0), .val (.int p1), .val (.int p2), .val (.int p3), .val (.int v1), .val (.int v2), .val (.int (1 : Int32)), .val (.int v5), .val (.int v7), .val (.int v9), .val (.int v11), .val (.ref b12), .val (.int (0 : Int32)), .val (.int (1 : Int32)), .val (.int v7)] [(.int v7), (.ref b12)])) rfl (by rw [hml]; rfl) (lenOf pd_5 rfl) rfl (by show 2 * 0 + _ ≤ _; exact Nat.le_of_eq rfl) (hb hby at_183)
      have N99 := Fr.app N97 Nq99
      obtain ⟨T100, _, L100, X100, ⟨rfl, Nq100, e100⟩, st100⟩ := Own.callS (y := (⟨"com/example/libgriddraw/libgriddraw/core/RotationSystemInsertClockwiseOfPinLaw", "expCw", "(IIII)I"⟩ : MethodName)) (W := 1) (argsL := [(.int (0 : Int32)), (.int (1 : Int32)), (.int (0 : Int32)), (.int v5)]) (rest := [(.int ((own_up (own_up (own_up (fun _ => 0) v7 v7) v9 ((own_up (fun _ => 0) v7 v7) v7.toInt.toNat)) v7 v9) v7.toInt.toNat))]) X99 hx hZ hown (hw _ (List.mem_of_getElem? (i := 43) rfl)) (hw _ (List.mem_of_getElem? (i := 44) rfl)) (hw _ (List.mem_of_getElem? (i := 3) rfl)) (hw _ (List.mem_of_getElem? (i := 45) rfl)) (by decide) e99 (rm20 l Z a0 hw [] (0 : Int32) (1 : Int32) (0 : Int32) v5  T94.heap n0 ) (by decide) (by decide) (by decide) (by decide) (g := (mkF m 193 #[.val (.int p0), .val (.int p1), .val (.int p2), .val (.int p3), .val (.int v1), .val (.int v2), .val (.int (1 : Int32)), .val (.int v5), .val (.int v7), .val (.int v9), .val (.int v11), .val (.ref b12), .val (.int (0 : Int32)), .val (.int (1 : Int32)), .val (.int v7)] [(.int v5), (.int (0 : Int32)), (.int (1 : Int32)), (.int (0 : Int32)), (.int ((own_up (own_up (own_up (fun _ => 0) v7 v7) v9 ((own_up (fun _ => 0) v7 v7) v7.toInt.toNat)) v7 v9) v7.toInt.toNat))])) rfl (by rw [hml]; rfl) (lenOf pd_6 rfl) rfl (by show 2 * 0 + _ ≤ _; exact Nat.le_of_eq rfl) (hb hby at_193)
      have N100 := Fr.app N99 Nq100
      refine hD _ (T100.setTop (mkF m 196 #[.val (.int p0), .val (.int p1), .val (.int p2), .val (.int p3), .val (.int v1), .val (.int v2), .val (.int (1 : Int32)), .val (.int v5), .val (.int v7), .val (.int v9), .val (.int v11), .val (.ref b12), .val (.int (0 : Int32)), .val (.int (1 : Int32)), .val (.int v7)] [(.int (own_ecw (0 : Int32) (1 : Int32) (0 : Int32) v5)), (.int ((own_up (own_up (own_up (fun _ => 0) v7 v7) v9 ((own_up (fun _ => 0) v7 v7) v7.toInt.toNat)) v7 v9) v7.toInt.toNat))])) (fun t k => ?_) ?_
      · show Steps p.tables e below (T97.setTop (mkF m 164 #[.val (.int p0), .val (.int p1), .val (.int p2), .val (.int p3), .val (.int v1), .val (.int v2), .val (.int (1 : Int32)), .val (.int v5), .val (.int v7), .val (.int v9), .val (.int v11), .val (.ref b12), .val (.int (0 : Int32)), .val (.int v9), .val (.int v7)] [(.int (-1 : Int32)), (.int ((own_up (fun _ => (-1 : Int32)) v1 v7) v2.toInt.toNat))])) t
        refine XS.icmpNo X97.here hx rfl (hb hby at_164) rfl (teq hc98).2 ?_
        show Steps p.tables e below (T97.setTop (mkF m 167 #[.val (.int p0), .val (.int p1), .val (.int p2), .val (.int p3), .val (.int v1), .val (.int v2), .val (.int (1 : Int32)), .val (.int v5), .val (.int v7), .val (.int v9), .val (.int v11), .val (.ref b12), .val (.int (0 : Int32)), .val (.int v9), .val (.int v7)] [])) t
        refine XS.iconst X97.here hx rfl (hb hby at_167) ?_
        show Steps p.tables e below (T97.setTop (mkF m 168 #[.val (.int p0), .val (.int p1), .val (.int p2), .val (.int p3), .val (.int v1), .val (.int v2), .val (.int (1 : Int32)), .val (.int v5), .val (.int v7), .val (.int v9), .val (.int v11), .val (.ref b12), .val (.int (0 : Int32)), .val (.int v9), .val (.int v7)] [(.int (1 : Int32))])) t
        refine XS.goto X97.here hx rfl (pc0 := 168) (pc' := 172) rfl (hb hby at_168) (by decide) (by decide) ?_
        show Steps p.tables e below (T97.setTop (mkF m 172 #[.val (.int p0), .val (.int p1), .val (.int p2), .val (.int p3), .val (.int v1), .val (.int v2), .val (.int (1 : Int32)), .val (.int v5), .val (.int v7), .val (.int v9), .val (.int v11), .val (.ref b12), .val (.int (0 : Int32)), .val (.int v9), .val (.int v7)] [(.int (1 : Int32))])) t
        refine XS.istore X97.here hx rfl (hb hby at_172) rfl (l' := #[.val (.int p0), .val (.int p1), .val (.int p2), .val (.int p3), .val (.int v1), .val (.int v2), .val (.int (1 : Int32)), .val (.int v5), .val (.int v7), .val (.int v9), .val (.int v11), .val (.ref b12), .val (.int (0 : Int32)), .val (.int (1 : Int32)), .val (.int v7)]) rfl ?_
        show Steps p.tables e below (T97.setTop (mkF m 174 #[.val (.int p0), .val (.int p1), .val (.int p2), .val (.int p3), .val (.int v1), .val (.int v2), .val (.int (1 : Int32)), .val (.int v5), .val (.int v7), .val (.int v9), .val (.int v11), .val (.ref b12), .val (.int (0 : Int32)), .val (.int (1 : Int32)), .val (.int v7)] [])) t
        refine XS.iload X97.here hx rfl (hb hby at_174) rfl ?_
        show Steps p.tables e below (T97.setTop (mkF m 176 #[.val (.int p0), .val (.int p1), .val (.int p2), .val (.int p3), .val (.int v1), .val (.int v2), .val (.int (1 : Int32)), .val (.int v5), .val (.int v7), .val (.int v9), .val (.int v11), .val (.ref b12), .val (.int (0 : Int32)), .val (.int (1 : Int32)), .val (.int v7)] [(.int (1 : Int32))])) t
        refine XS.ifNo X97.here hx rfl (hb hby at_176) rfl (by decide) ?_
        show Steps p.tables e below (T97.setTop (mkF m 179 #[.val (.int p0), .val (.int p1), .val (.int p2), .val (.int p3), .val (.int v1), .val (.int v2), .val (.int (1 : Int32)), .val (.int v5), .val (.int v7), .val (.int v9), .val (.int v11), .val (.ref b12), .val (.int (0 : Int32)), .val (.int (1 : Int32)), .val (.int v7)] [])) t
        refine XS.aload X97.here hx rfl (hb hby at_179) rfl rfl ?_
        show Steps p.tables e below (T97.setTop (mkF m 181 #[.val (.int p0), .val (.int p1), .val (.int p2), .val (.int p3), .val (.int v1), .val (.int v2), .val (.int (1 : Int32)), .val (.int v5), .val (.int v7), .val (.int v9), .val (.int v11), .val (.ref b12), .val (.int (0 : Int32)), .val (.int (1 : Int32)), .val (.int v7)] [(.ref b12)])) t
        refine XS.iload X97.here hx rfl (hb hby at_181) rfl ?_
        show Steps p.tables e below (T97.setTop (mkF m 183 #[.val (.int p0), .val (.int p1), .val (.int p2), .val (.int p3), .val (.int v1), .val (.int v2), .val (.int (1 : Int32)), .val (.int v5), .val (.int v7), .val (.int v9), .val (.int v11), .val (.ref b12), .val (.int (0 : Int32)), .val (.int (1 : Int32)), .val (.int v7)] [(.int v7), (.ref b12)])) t
        refine st99 _ ?_
        show Steps p.tables e below (T99.setTop (mkF m 186 #[.val (.int p0), .val (.int p1), .val (.int p2), .val (.int p3), .val (.int v1), .val (.int v2), .val (.int (1 : Int32)), .val (.int v5), .val (.int v7), .val (.int v9), .val (.int v11), .val (.ref b12), .val (.int (0 : Int32)), .val (.int (1 : Int32)), .val (.int v7)] [(.int ((own_up (own_up (own_up (fun _ => 0) v7 v7) v9 ((own_up (fun _ => 0) v7 v7) v7.toInt.toNat)) v7 v9) v7.toInt.toNat))])) t
        refine XS.iconst X99.here hx rfl (hb hby at_186) ?_
        show Steps p.tables e below (T99.setTop (mkF m 187 #[.val (.int p0), .val (.int p1), .val (.int p2), .val (.int p3), .val (.int v1), .val (.int v2), .val (.int (1 : Int32)), .val (.int v5), .val (.int v7), .val (.int v9), .val (.int v11), .val (.ref b12), .val (.int (0 : Int32)), .val (.int (1 : Int32)), .val (.int v7)] [(.int (0 : Int32)), (.int ((own_up (own_up (own_up (fun _ => 0) v7 v7) v9 ((own_up (fun _ => 0) v7 v7) v7.toInt.toNat)) v7 v9) v7.toInt.toNat))])) t
        refine XS.iload X99.here hx rfl (hb hby at_187) rfl ?_
        show Steps p.tables e below (T99.setTop (mkF m 189 #[.val (.int p0), .val (.int p1), .val (.int p2), .val (.int p3), .val (.int v1), .val (.int v2), .val (.int (1 : Int32)), .val (.int v5), .val (.int v7), .val (.int v9), .val (.int v11), .val (.ref b12), .val (.int (0 : Int32)), .val (.int (1 : Int32)), .val (.int v7)] [(.int (1 : Int32)), (.int (0 : Int32)), (.int ((own_up (own_up (own_up (fun _ => 0) v7 v7) v9 ((own_up (fun _ => 0) v7 v7) v7.toInt.toNat)) v7 v9) v7.toInt.toNat))])) t
        refine XS.iload X99.here hx rfl (hb hby at_189) rfl ?_
        show Steps p.tables e below (T99.setTop (mkF m 191 #[.val (.int p0), .val (.int p1), .val (.int p2), .val (.int p3), .val (.int v1), .val (.int v2), .val (.int (1 : Int32)), .val (.int v5), .val (.int v7), .val (.int v9), .val (.int v11), .val (.ref b12), .val (.int (0 : Int32)), .val (.int (1 : Int32)), .val (.int v7)] [(.int (0 : Int32)), (.int (1 : Int32)), (.int (0 : Int32)), (.int ((own_up (own_up (own_up (fun _ => 0) v7 v7) v9 ((own_up (fun _ => 0) v7 v7) v7.toInt.toNat)) v7 v9) v7.toInt.toNat))])) t
        refine XS.iload X99.here hx rfl (hb hby at_191) rfl ?_
        show Steps p.tables e below (T99.setTop (mkF m 193 #[.val (.int p0), .val (.int p1), .val (.int p2), .val (.int p3), .val (.int v1), .val (.int v2), .val (.int (1 : Int32)), .val (.int v5), .val (.int v7), .val (.int v9), .val (.int v11), .val (.ref b12), .val (.int (0 : Int32)), .val (.int (1 : Int32)), .val (.int v7)] [(.int v5), (.int (0 : Int32)), (.int (1 : Int32)), (.int (0 : Int32)), (.int ((own_up (own_up (own_up (fun _ => 0) v7 v7) v9 ((own_up (fun _ => 0) v7 v7) v7.toInt.toNat)) v7 v9) v7.toInt.toNat))])) t
        refine st100 _ ?_
        show Steps p.tables e below (T100.setTop (mkF m 196 #[.val (.int p0), .val (.int p1), .val (.int p2), .val (.int p3), .val (.int v1), .val (.int v2), .val (.int (1 : Int32)), .val (.int v5), .val (.int v7), .val (.int v9), .val (.int v11), .val (.ref b12), .val (.int (0 : Int32)), .val (.int (1 : Int32)), .val (.int v7)] [(.int (own_ecw (0 : Int32) (1 : Int32) (0 : Int32) v5)), (.int ((own_up (own_up (own_up (fun _ => 0) v7 v7) v9 ((own_up (fun _ => 0) v7 v7) v7.toInt.toNat)) v7 v9) v7.toInt.toNat))])) t
        exact k
      have hc101 : ((own_up (own_up (own_up (fun _ => 0) v7 v7) v9 ((own_up (fun _ => 0) v7 v7) v7.toInt.toNat)) v7 v9) v7.toInt.toNat) = (own_ecw (0 : Int32) (1 : Int32) (0 : Int32) v5) := by subst hv2 hv7 hv9 hv11; rcases own_s4 hv5 with rfl | rfl | rfl | rfl <;> rcases own_o2 hv1 with rfl | rfl <;> decide +kernel
      obtain ⟨T102, _, L102, X102, ⟨rfl, Nq102, e102⟩, st102⟩ := Own.callV (y := (⟨"com/example/libgriddraw/libgriddraw/core/RotationSystem", "ccwNext", "(I)I"⟩ : MethodName)) (W := 0) (argsL := [(.int v7)]) (rest := []) (a := b12) X100 hx hZ hown (hw _ (List.mem_of_getElem? (i := 46) rfl)) (hw _ (List.mem_of_getElem? (i := 47) rfl)) (hw _ (List.mem_of_getElem? (i := 49) rfl)) (hw _ (List.mem_of_getElem? (i := 48) rfl)) (hw _ (List.mem_of_getElem? (i := 7) rfl)) (hw _ (List.mem_of_getElem? (i := 50) rfl)) (by decide) e100 E94 (rm9 l Z a0 hw [] b12 v7 rc16 (own_up (own_up (own_up (fun _ => 0) v7 v7) ((own_up (fun _ => 0) v7 v7) v7.toInt.toNat) v9) v9 v7) T94.heap n0 (by subst hv2 hv7 hv9 hv11; rcases own_s4 hv5 with rfl | rfl | rfl | rfl <;> rcases own_o2 hv1 with rfl | rfl <;> decide +kernel) FccwNext_94 Ac_94) (by decide) (by decide) (by decide) (by decide) (g := (mkF m 203 #[.val (.int p0), .val (.int p1), .val (.int p2), .val (.int p3), .val (.int v1), .val (.int v2), .val (.int (1 : Int32)), .val (.int v5), .val (.int v7), .val (.int v9), .val (.int v11), .val (.ref b12), .val (.int (0 : Int32)), .val (.int (1 : Int32)), .val (.int v7)] [(.int v7), (.ref b12)])) rfl (by rw [hml]; rfl) (lenOf pd_5 rfl) rfl (by show 2 * 0 + _ ≤ _; exact Nat.le_of_eq rfl) (hb hby at_203)
      have N102 := Fr.app N100 Nq102
      obtain ⟨T103, _, L103, X103, ⟨rfl, Nq103, e103⟩, st103⟩ := Own.callS (y := (⟨"com/example/libgriddraw/libgriddraw/core/RotationSystemInsertClockwiseOfPinLaw", "expCcw", "(IIII)I"⟩ : MethodName)) (W := 1) (argsL := [(.int (0 : Int32)), (.int (1 : Int32)), (.int (0 : Int32)), (.int v5)]) (rest := [(.int ((own_up (own_up (own_up (fun _ => 0) v7 v7) ((own_up (fun _ => 0) v7 v7) v7.toInt.toNat) v9) v9 v7) v7.toInt.toNat))]) X102 hx hZ hown (hw _ (List.mem_of_getElem? (i := 51) rfl)) (hw _ (List.mem_of_getElem? (i := 52) rfl)) (hw _ (List.mem_of_getElem? (i := 3) rfl)) (hw _ (List.mem_of_getElem? (i := 53) rfl)) (by decide) e102 (rm21 l Z a0 hw [] (0 : Int32) (1 : Int32) (0 : Int32) v5  T94.heap n0 ) (by decide) (by decide) (by decide) (by decide) (g := (mkF m 213 #[.val (.int p0), .val (.int p1), .val (.int p2), .val (.int p3), .val (.int v1), .val (.int v2), .val (.int (1 : Int32)), .val (.int v5), .val (.int v7), .val (.int v9), .val (.int v11), .val (.ref b12), .val (.int (0 : Int32)), .val (.int (1 : Int32)), .val (.int v7)] [(.int v5), (.int (0 : Int32)), (.int (1 : Int32)), (.int (0 : Int32)), (.int ((own_up (own_up (own_up (fun _ => 0) v7 v7) ((own_up (fun _ => 0) v7 v7) v7.toInt.toNat) v9) v9 v7) v7.toInt.toNat))])) rfl (by rw [hml]; rfl) (lenOf pd_6 rfl) rfl (by show 2 * 0 + _ ≤ _; exact Nat.le_of_eq rfl) (hb hby at_213)
      have N103 := Fr.app N102 Nq103
      refine hD _ (T103.setTop (mkF m 216 #[.val (.int p0), .val (.int p1), .val (.int p2), .val (.int p3), .val (.int v1), .val (.int v2), .val (.int (1 : Int32)), .val (.int v5), .val (.int v7), .val (.int v9), .val (.int v11), .val (.ref b12), .val (.int (0 : Int32)), .val (.int (1 : Int32)), .val (.int v7)] [(.int (own_eccw (0 : Int32) (1 : Int32) (0 : Int32) v5)), (.int ((own_up (own_up (own_up (fun _ => 0) v7 v7) ((own_up (fun _ => 0) v7 v7) v7.toInt.toNat) v9) v9 v7) v7.toInt.toNat))])) (fun t k => ?_) ?_
      · show Steps p.tables e below (T100.setTop (mkF m 196 #[.val (.int p0), .val (.int p1), .val (.int p2), .val (.int p3), .val (.int v1), .val (.int v2), .val (.int (1 : Int32)), .val (.int v5), .val (.int v7), .val (.int v9), .val (.int v11), .val (.ref b12), .val (.int (0 : Int32)), .val (.int (1 : Int32)), .val (.int v7)] [(.int (own_ecw (0 : Int32) (1 : Int32) (0 : Int32) v5)), (.int ((own_up (own_up (own_up (fun _ => 0) v7 v7) v9 ((own_up (fun _ => 0) v7 v7) v7.toInt.toNat)) v7 v9) v7.toInt.toNat))])) t
        refine XS.icmpNo X100.here hx rfl (hb hby at_196) rfl (teq hc101).2 ?_
        show Steps p.tables e below (T100.setTop (mkF m 199 #[.val (.int p0), .val (.int p1), .val (.int p2), .val (.int p3), .val (.int v1), .val (.int v2), .val (.int (1 : Int32)), .val (.int v5), .val (.int v7), .val (.int v9), .val (.int v11), .val (.ref b12), .val (.int (0 : Int32)), .val (.int (1 : Int32)), .val (.int v7)] [])) t
        refine XS.aload X100.here hx rfl (hb hby at_199) rfl rfl ?_
        show Steps p.tables e below (T100.setTop (mkF m 201 #[.val (.int p0), .val (.int p1), .val (.int p2), .val (.int p3), .val (.int v1), .val (.int v2), .val (.int (1 : Int32)), .val (.int v5), .val (.int v7), .val (.int v9), .val (.int v11), .val (.ref b12), .val (.int (0 : Int32)), .val (.int (1 : Int32)), .val (.int v7)] [(.ref b12)])) t
        refine XS.iload X100.here hx rfl (hb hby at_201) rfl ?_
        show Steps p.tables e below (T100.setTop (mkF m 203 #[.val (.int p0), .val (.int p1), .val (.int p2), .val (.int p3), .val (.int v1), .val (.int v2), .val (.int (1 : Int32)), .val (.int v5), .val (.int v7), .val (.int v9), .val (.int v11), .val (.ref b12), .val (.int (0 : Int32)), .val (.int (1 : Int32)), .val (.int v7)] [(.int v7), (.ref b12)])) t
        refine st102 _ ?_
        show Steps p.tables e below (T102.setTop (mkF m 206 #[.val (.int p0), .val (.int p1), .val (.int p2), .val (.int p3), .val (.int v1), .val (.int v2), .val (.int (1 : Int32)), .val (.int v5), .val (.int v7), .val (.int v9), .val (.int v11), .val (.ref b12), .val (.int (0 : Int32)), .val (.int (1 : Int32)), .val (.int v7)] [(.int ((own_up (own_up (own_up (fun _ => 0) v7 v7) ((own_up (fun _ => 0) v7 v7) v7.toInt.toNat) v9) v9 v7) v7.toInt.toNat))])) t
        refine XS.iconst X102.here hx rfl (hb hby at_206) ?_
        show Steps p.tables e below (T102.setTop (mkF m 207 #[.val (.int p0), .val (.int p1), .val (.int p2), .val (.int p3), .val (.int v1), .val (.int v2), .val (.int (1 : Int32)), .val (.int v5), .val (.int v7), .val (.int v9), .val (.int v11), .val (.ref b12), .val (.int (0 : Int32)), .val (.int (1 : Int32)), .val (.int v7)] [(.int (0 : Int32)), (.int ((own_up (own_up (own_up (fun _ => 0) v7 v7) ((own_up (fun _ => 0) v7 v7) v7.toInt.toNat) v9) v9 v7) v7.toInt.toNat))])) t
        refine XS.iload X102.here hx rfl (hb hby at_207) rfl ?_
        show Steps p.tables e below (T102.setTop (mkF m 209 #[.val (.int p0), .val (.int p1), .val (.int p2), .val (.int p3), .val (.int v1), .val (.int v2), .val (.int (1 : Int32)), .val (.int v5), .val (.int v7), .val (.int v9), .val (.int v11), .val (.ref b12), .val (.int (0 : Int32)), .val (.int (1 : Int32)), .val (.int v7)] [(.int (1 : Int32)), (.int (0 : Int32)), (.int ((own_up (own_up (own_up (fun _ => 0) v7 v7) ((own_up (fun _ => 0) v7 v7) v7.toInt.toNat) v9) v9 v7) v7.toInt.toNat))])) t
        refine XS.iload X102.here hx rfl (hb hby at_209) rfl ?_
        show Steps p.tables e below (T102.setTop (mkF m 211 #[.val (.int p0), .val (.int p1), .val (.int p2), .val (.int p3), .val (.int v1), .val (.int v2), .val (.int (1 : Int32)), .val (.int v5), .val (.int v7), .val (.int v9), .val (.int v11), .val (.ref b12), .val (.int (0 : Int32)), .val (.int (1 : Int32)), .val (.int v7)] [(.int (0 : Int32)), (.int (1 : Int32)), (.int (0 : Int32)), (.int ((own_up (own_up (own_up (fun _ => 0) v7 v7) ((own_up (fun _ => 0) v7 v7) v7.toInt.toNat) v9) v9 v7) v7.toInt.toNat))])) t
        refine XS.iload X102.here hx rfl (hb hby at_211) rfl ?_
        show Steps p.tables e below (T102.setTop (mkF m 213 #[.val (.int p0), .val (.int p1), .val (.int p2), .val (.int p3), .val (.int v1), .val (.int v2), .val (.int (1 : Int32)), .val (.int v5), .val (.int v7), .val (.int v9), .val (.int v11), .val (.ref b12), .val (.int (0 : Int32)), .val (.int (1 : Int32)), .val (.int v7)] [(.int v5), (.int (0 : Int32)), (.int (1 : Int32)), (.int (0 : Int32)), (.int ((own_up (own_up (own_up (fun _ => 0) v7 v7) ((own_up (fun _ => 0) v7 v7) v7.toInt.toNat) v9) v9 v7) v7.toInt.toNat))])) t
        refine st103 _ ?_
        show Steps p.tables e below (T103.setTop (mkF m 216 #[.val (.int p0), .val (.int p1), .val (.int p2), .val (.int p3), .val (.int v1), .val (.int v2), .val (.int (1 : Int32)), .val (.int v5), .val (.int v7), .val (.int v9), .val (.int v11), .val (.ref b12), .val (.int (0 : Int32)), .val (.int (1 : Int32)), .val (.int v7)] [(.int (own_eccw (0 : Int32) (1 : Int32) (0 : Int32) v5)), (.int ((own_up (own_up (own_up (fun _ => 0) v7 v7) ((own_up (fun _ => 0) v7 v7) v7.toInt.toNat) v9) v9 v7) v7.toInt.toNat))])) t
        exact k
      have hc104 : ((own_up (own_up (own_up (fun _ => 0) v7 v7) ((own_up (fun _ => 0) v7 v7) v7.toInt.toNat) v9) v9 v7) v7.toInt.toNat) = (own_eccw (0 : Int32) (1 : Int32) (0 : Int32) v5) := by subst hv2 hv7 hv9 hv11; rcases own_s4 hv5 with rfl | rfl | rfl | rfl <;> rcases own_o2 hv1 with rfl | rfl <;> decide +kernel
      obtain ⟨T105, _, L105, X105, ⟨rfl, Nq105, e105⟩, st105⟩ := Own.callV (y := (⟨"com/example/libgriddraw/libgriddraw/core/RotationSystem", "cwNext", "(I)I"⟩ : MethodName)) (W := 0) (argsL := [(.int v9)]) (rest := []) (a := b12) X103 hx hZ hown (hw _ (List.mem_of_getElem? (i := 38) rfl)) (hw _ (List.mem_of_getElem? (i := 39) rfl)) (hw _ (List.mem_of_getElem? (i := 41) rfl)) (hw _ (List.mem_of_getElem? (i := 40) rfl)) (hw _ (List.mem_of_getElem? (i := 7) rfl)) (hw _ (List.mem_of_getElem? (i := 42) rfl)) (by decide) e103 E94 (rm8 l Z a0 hw [] b12 v9 rw16 (own_up (own_up (own_up (fun _ => 0) v7 v7) v9 ((own_up (fun _ => 0) v7 v7) v7.toInt.toNat)) v7 v9) T94.heap n0 (by subst hv2 hv7 hv9 hv11; rcases own_s4 hv5 with rfl | rfl | rfl | rfl <;> rcases own_o2 hv1 with rfl | rfl <;> decide +kernel) FcwNext_94 Aw_94) (by decide) (by decide) (by decide) (by decide) (g := (mkF m 235 #[.val (.int p0), .val (.int p1), .val (.int p2), .val (.int p3), .val (.int v1), .val (.int v2), .val (.int (1 : Int32)), .val (.int v5), .val (.int v7), .val (.int v9), .val (.int v11), .val (.ref b12), .val (.int (0 : Int32)), .val (.int (1 : Int32)), .val (.int v7)] [(.int v9), (.ref b12)])) rfl (by rw [hml]; rfl) (lenOf pd_5 rfl) rfl (by show 2 * 0 + _ ≤ _; exact Nat.le_of_eq rfl) (hb hby at_235)
      have N105 := Fr.app N103 Nq105
      obtain ⟨T106, _, L106, X106, ⟨rfl, Nq106, e106⟩, st106⟩ := Own.callS (y := (⟨"com/example/libgriddraw/libgriddraw/core/RotationSystemInsertClockwiseOfPinLaw", "expCw", "(IIII)I"⟩ : MethodName)) (W := 1) (argsL := [(.int (1 : Int32)), (.int (1 : Int32)), (.int (0 : Int32)), (.int v5)]) (rest := [(.int ((own_up (own_up (own_up (fun _ => 0) v7 v7) v9 ((own_up (fun _ => 0) v7 v7) v7.toInt.toNat)) v7 v9) v9.toInt.toNat))]) X105 hx hZ hown (hw _ (List.mem_of_getElem? (i := 43) rfl)) (hw _ (List.mem_of_getElem? (i := 44) rfl)) (hw _ (List.mem_of_getElem? (i := 3) rfl)) (hw _ (List.mem_of_getElem? (i := 45) rfl)) (by decide) e105 (rm20 l Z a0 hw [] (1 : Int32) (1 : Int32) (0 : Int32) v5  T94.heap n0 ) (by decide) (by decide) (by decide) (by decide) (g := (mkF m 245 #[.val (.int p0), .val (.int p1), .val (.int p2), .val (.int p3), .val (.int v1), .val (.int v2), .val (.int (1 : Int32)), .val (.int v5), .val (.int v7), .val (.int v9), .val (.int v11), .val (.ref b12), .val (.int (0 : Int32)), .val (.int (1 : Int32)), .val (.int v7)] [(.int v5), (.int (0 : Int32)), (.int (1 : Int32)), (.int (1 : Int32)), (.int ((own_up (own_up (own_up (fun _ => 0) v7 v7) v9 ((own_up (fun _ => 0) v7 v7) v7.toInt.toNat)) v7 v9) v9.toInt.toNat))])) rfl (by rw [hml]; rfl) (lenOf pd_6 rfl) rfl (by show 2 * 0 + _ ≤ _; exact Nat.le_of_eq rfl) (hb hby at_245)
      have N106 := Fr.app N105 Nq106
      refine hD _ (T106.setTop (mkF m 248 #[.val (.int p0), .val (.int p1), .val (.int p2), .val (.int p3), .val (.int v1), .val (.int v2), .val (.int (1 : Int32)), .val (.int v5), .val (.int v7), .val (.int v9), .val (.int v11), .val (.ref b12), .val (.int (0 : Int32)), .val (.int (1 : Int32)), .val (.int v7)] [(.int (own_ecw (1 : Int32) (1 : Int32) (0 : Int32) v5)), (.int ((own_up (own_up (own_up (fun _ => 0) v7 v7) v9 ((own_up (fun _ => 0) v7 v7) v7.toInt.toNat)) v7 v9) v9.toInt.toNat))])) (fun t k => ?_) ?_
      · show Steps p.tables e below (T103.setTop (mkF m 216 #[.val (.int p0), .val (.int p1), .val (.int p2), .val (.int p3), .val (.int v1), .val (.int v2), .val (.int (1 : Int32)), .val (.int v5), .val (.int v7), .val (.int v9), .val (.int v11), .val (.ref b12), .val (.int (0 : Int32)), .val (.int (1 : Int32)), .val (.int v7)] [(.int (own_eccw (0 : Int32) (1 : Int32) (0 : Int32) v5)), (.int ((own_up (own_up (own_up (fun _ => 0) v7 v7) ((own_up (fun _ => 0) v7 v7) v7.toInt.toNat) v9) v9 v7) v7.toInt.toNat))])) t
        refine XS.icmpNo X103.here hx rfl (hb hby at_216) rfl (teq hc104).2 ?_
        show Steps p.tables e below (T103.setTop (mkF m 219 #[.val (.int p0), .val (.int p1), .val (.int p2), .val (.int p3), .val (.int v1), .val (.int v2), .val (.int (1 : Int32)), .val (.int v5), .val (.int v7), .val (.int v9), .val (.int v11), .val (.ref b12), .val (.int (0 : Int32)), .val (.int (1 : Int32)), .val (.int v7)] [])) t
        refine XS.iconst X103.here hx rfl (hb hby at_219) ?_
        show Steps p.tables e below (T103.setTop (mkF m 220 #[.val (.int p0), .val (.int p1), .val (.int p2), .val (.int p3), .val (.int v1), .val (.int v2), .val (.int (1 : Int32)), .val (.int v5), .val (.int v7), .val (.int v9), .val (.int v11), .val (.ref b12), .val (.int (0 : Int32)), .val (.int (1 : Int32)), .val (.int v7)] [(.int (1 : Int32))])) t
        refine XS.goto X103.here hx rfl (pc0 := 220) (pc' := 224) rfl (hb hby at_220) (by decide) (by decide) ?_
        show Steps p.tables e below (T103.setTop (mkF m 224 #[.val (.int p0), .val (.int p1), .val (.int p2), .val (.int p3), .val (.int v1), .val (.int v2), .val (.int (1 : Int32)), .val (.int v5), .val (.int v7), .val (.int v9), .val (.int v11), .val (.ref b12), .val (.int (0 : Int32)), .val (.int (1 : Int32)), .val (.int v7)] [(.int (1 : Int32))])) t
        refine XS.istore X103.here hx rfl (hb hby at_224) rfl (l' := #[.val (.int p0), .val (.int p1), .val (.int p2), .val (.int p3), .val (.int v1), .val (.int v2), .val (.int (1 : Int32)), .val (.int v5), .val (.int v7), .val (.int v9), .val (.int v11), .val (.ref b12), .val (.int (0 : Int32)), .val (.int (1 : Int32)), .val (.int v7)]) rfl ?_
        show Steps p.tables e below (T103.setTop (mkF m 226 #[.val (.int p0), .val (.int p1), .val (.int p2), .val (.int p3), .val (.int v1), .val (.int v2), .val (.int (1 : Int32)), .val (.int v5), .val (.int v7), .val (.int v9), .val (.int v11), .val (.ref b12), .val (.int (0 : Int32)), .val (.int (1 : Int32)), .val (.int v7)] [])) t
        refine XS.iload X103.here hx rfl (hb hby at_226) rfl ?_
        show Steps p.tables e below (T103.setTop (mkF m 228 #[.val (.int p0), .val (.int p1), .val (.int p2), .val (.int p3), .val (.int v1), .val (.int v2), .val (.int (1 : Int32)), .val (.int v5), .val (.int v7), .val (.int v9), .val (.int v11), .val (.ref b12), .val (.int (0 : Int32)), .val (.int (1 : Int32)), .val (.int v7)] [(.int (1 : Int32))])) t
        refine XS.ifNo X103.here hx rfl (hb hby at_228) rfl (by decide) ?_
        show Steps p.tables e below (T103.setTop (mkF m 231 #[.val (.int p0), .val (.int p1), .val (.int p2), .val (.int p3), .val (.int v1), .val (.int v2), .val (.int (1 : Int32)), .val (.int v5), .val (.int v7), .val (.int v9), .val (.int v11), .val (.ref b12), .val (.int (0 : Int32)), .val (.int (1 : Int32)), .val (.int v7)] [])) t
        refine XS.aload X103.here hx rfl (hb hby at_231) rfl rfl ?_
        show Steps p.tables e below (T103.setTop (mkF m 233 #[.val (.int p0), .val (.int p1), .val (.int p2), .val (.int p3), .val (.int v1), .val (.int v2), .val (.int (1 : Int32)), .val (.int v5), .val (.int v7), .val (.int v9), .val (.int v11), .val (.ref b12), .val (.int (0 : Int32)), .val (.int (1 : Int32)), .val (.int v7)] [(.ref b12)])) t
        refine XS.iload X103.here hx rfl (hb hby at_233) rfl ?_
        show Steps p.tables e below (T103.setTop (mkF m 235 #[.val (.int p0), .val (.int p1), .val (.int p2), .val (.int p3), .val (.int v1), .val (.int v2), .val (.int (1 : Int32)), .val (.int v5), .val (.int v7), .val (.int v9), .val (.int v11), .val (.ref b12), .val (.int (0 : Int32)), .val (.int (1 : Int32)), .val (.int v7)] [(.int v9), (.ref b12)])) t
        refine st105 _ ?_
        show Steps p.tables e below (T105.setTop (mkF m 238 #[.val (.int p0), .val (.int p1), .val (.int p2), .val (.int p3), .val (.int v1), .val (.int v2), .val (.int (1 : Int32)), .val (.int v5), .val (.int v7), .val (.int v9), .val (.int v11), .val (.ref b12), .val (.int (0 : Int32)), .val (.int (1 : Int32)), .val (.int v7)] [(.int ((own_up (own_up (own_up (fun _ => 0) v7 v7) v9 ((own_up (fun _ => 0) v7 v7) v7.toInt.toNat)) v7 v9) v9.toInt.toNat))])) t
        refine XS.iconst X105.here hx rfl (hb hby at_238) ?_
        show Steps p.tables e below (T105.setTop (mkF m 239 #[.val (.int p0), .val (.int p1), .val (.int p2), .val (.int p3), .val (.int v1), .val (.int v2), .val (.int (1 : Int32)), .val (.int v5), .val (.int v7), .val (.int v9), .val (.int v11), .val (.ref b12), .val (.int (0 : Int32)), .val (.int (1 : Int32)), .val (.int v7)] [(.int (1 : Int32)), (.int ((own_up (own_up (own_up (fun _ => 0) v7 v7) v9 ((own_up (fun _ => 0) v7 v7) v7.toInt.toNat)) v7 v9) v9.toInt.toNat))])) t
        refine XS.iload X105.here hx rfl (hb hby at_239) rfl ?_
        show Steps p.tables e below (T105.setTop (mkF m 241 #[.val (.int p0), .val (.int p1), .val (.int p2), .val (.int p3), .val (.int v1), .val (.int v2), .val (.int (1 : Int32)), .val (.int v5), .val (.int v7), .val (.int v9), .val (.int v11), .val (.ref b12), .val (.int (0 : Int32)), .val (.int (1 : Int32)), .val (.int v7)] [(.int (1 : Int32)), (.int (1 : Int32)), (.int ((own_up (own_up (own_up (fun _ => 0) v7 v7) v9 ((own_up (fun _ => 0) v7 v7) v7.toInt.toNat)) v7 v9) v9.toInt.toNat))])) t
        refine XS.iload X105.here hx rfl (hb hby at_241) rfl ?_
        show Steps p.tables e below (T105.setTop (mkF m 243 #[.val (.int p0), .val (.int p1), .val (.int p2), .val (.int p3), .val (.int v1), .val (.int v2), .val (.int (1 : Int32)), .val (.int v5), .val (.int v7), .val (.int v9), .val (.int v11), .val (.ref b12), .val (.int (0 : Int32)), .val (.int (1 : Int32)), .val (.int v7)] [(.int (0 : Int32)), (.int (1 : Int32)), (.int (1 : Int32)), (.int ((own_up (own_up (own_up (fun _ => 0) v7 v7) v9 ((own_up (fun _ => 0) v7 v7) v7.toInt.toNat)) v7 v9) v9.toInt.toNat))])) t
        refine XS.iload X105.here hx rfl (hb hby at_243) rfl ?_
        show Steps p.tables e below (T105.setTop (mkF m 245 #[.val (.int p0), .val (.int p1), .val (.int p2), .val (.int p3), .val (.int v1), .val (.int v2), .val (.int (1 : Int32)), .val (.int v5), .val (.int v7), .val (.int v9), .val (.int v11), .val (.ref b12), .val (.int (0 : Int32)), .val (.int (1 : Int32)), .val (.int v7)] [(.int v5), (.int (0 : Int32)), (.int (1 : Int32)), (.int (1 : Int32)), (.int ((own_up (own_up (own_up (fun _ => 0) v7 v7) v9 ((own_up (fun _ => 0) v7 v7) v7.toInt.toNat)) v7 v9) v9.toInt.toNat))])) t
        refine st106 _ ?_
        show Steps p.tables e below (T106.setTop (mkF m 248 #[.val (.int p0), .val (.int p1), .val (.int p2), .val (.int p3), .val (.int v1), .val (.int v2), .val (.int (1 : Int32)), .val (.int v5), .val (.int v7), .val (.int v9), .val (.int v11), .val (.ref b12), .val (.int (0 : Int32)), .val (.int (1 : Int32)), .val (.int v7)] [(.int (own_ecw (1 : Int32) (1 : Int32) (0 : Int32) v5)), (.int ((own_up (own_up (own_up (fun _ => 0) v7 v7) v9 ((own_up (fun _ => 0) v7 v7) v7.toInt.toNat)) v7 v9) v9.toInt.toNat))])) t
        exact k
      have hc107 : ((own_up (own_up (own_up (fun _ => 0) v7 v7) v9 ((own_up (fun _ => 0) v7 v7) v7.toInt.toNat)) v7 v9) v9.toInt.toNat) = (own_ecw (1 : Int32) (1 : Int32) (0 : Int32) v5) := by subst hv2 hv7 hv9 hv11; rcases own_s4 hv5 with rfl | rfl | rfl | rfl <;> rcases own_o2 hv1 with rfl | rfl <;> decide +kernel
      obtain ⟨T108, _, L108, X108, ⟨rfl, Nq108, e108⟩, st108⟩ := Own.callV (y := (⟨"com/example/libgriddraw/libgriddraw/core/RotationSystem", "ccwNext", "(I)I"⟩ : MethodName)) (W := 0) (argsL := [(.int v9)]) (rest := []) (a := b12) X106 hx hZ hown (hw _ (List.mem_of_getElem? (i := 46) rfl)) (hw _ (List.mem_of_getElem? (i := 47) rfl)) (hw _ (List.mem_of_getElem? (i := 49) rfl)) (hw _ (List.mem_of_getElem? (i := 48) rfl)) (hw _ (List.mem_of_getElem? (i := 7) rfl)) (hw _ (List.mem_of_getElem? (i := 50) rfl)) (by decide) e106 E94 (rm9 l Z a0 hw [] b12 v9 rc16 (own_up (own_up (own_up (fun _ => 0) v7 v7) ((own_up (fun _ => 0) v7 v7) v7.toInt.toNat) v9) v9 v7) T94.heap n0 (by subst hv2 hv7 hv9 hv11; rcases own_s4 hv5 with rfl | rfl | rfl | rfl <;> rcases own_o2 hv1 with rfl | rfl <;> decide +kernel) FccwNext_94 Ac_94) (by decide) (by decide) (by decide) (by decide) (g := (mkF m 255 #[.val (.int p0), .val (.int p1), .val (.int p2), .val (.int p3), .val (.int v1), .val (.int v2), .val (.int (1 : Int32)), .val (.int v5), .val (.int v7), .val (.int v9), .val (.int v11), .val (.ref b12), .val (.int (0 : Int32)), .val (.int (1 : Int32)), .val (.int v7)] [(.int v9), (.ref b12)])) rfl (by rw [hml]; rfl) (lenOf pd_5 rfl) rfl (by show 2 * 0 + _ ≤ _; exact Nat.le_of_eq rfl) (hb hby at_255)
      have N108 := Fr.app N106 Nq108
      obtain ⟨T109, _, L109, X109, ⟨rfl, Nq109, e109⟩, st109⟩ := Own.callS (y := (⟨"com/example/libgriddraw/libgriddraw/core/RotationSystemInsertClockwiseOfPinLaw", "expCcw", "(IIII)I"⟩ : MethodName)) (W := 1) (argsL := [(.int (1 : Int32)), (.int (1 : Int32)), (.int (0 : Int32)), (.int v5)]) (rest := [(.int ((own_up (own_up (own_up (fun _ => 0) v7 v7) ((own_up (fun _ => 0) v7 v7) v7.toInt.toNat) v9) v9 v7) v9.toInt.toNat))]) X108 hx hZ hown (hw _ (List.mem_of_getElem? (i := 51) rfl)) (hw _ (List.mem_of_getElem? (i := 52) rfl)) (hw _ (List.mem_of_getElem? (i := 3) rfl)) (hw _ (List.mem_of_getElem? (i := 53) rfl)) (by decide) e108 (rm21 l Z a0 hw [] (1 : Int32) (1 : Int32) (0 : Int32) v5  T94.heap n0 ) (by decide) (by decide) (by decide) (by decide) (g := (mkF m 265 #[.val (.int p0), .val (.int p1), .val (.int p2), .val (.int p3), .val (.int v1), .val (.int v2), .val (.int (1 : Int32)), .val (.int v5), .val (.int v7), .val (.int v9), .val (.int v11), .val (.ref b12), .val (.int (0 : Int32)), .val (.int (1 : Int32)), .val (.int v7)] [(.int v5), (.int (0 : Int32)), (.int (1 : Int32)), (.int (1 : Int32)), (.int ((own_up (own_up (own_up (fun _ => 0) v7 v7) ((own_up (fun _ => 0) v7 v7) v7.toInt.toNat) v9) v9 v7) v9.toInt.toNat))])) rfl (by rw [hml]; rfl) (lenOf pd_6 rfl) rfl (by show 2 * 0 + _ ≤ _; exact Nat.le_of_eq rfl) (hb hby at_265)
      have N109 := Fr.app N108 Nq109
      refine hD _ (T109.setTop (mkF m 268 #[.val (.int p0), .val (.int p1), .val (.int p2), .val (.int p3), .val (.int v1), .val (.int v2), .val (.int (1 : Int32)), .val (.int v5), .val (.int v7), .val (.int v9), .val (.int v11), .val (.ref b12), .val (.int (0 : Int32)), .val (.int (1 : Int32)), .val (.int v7)] [(.int (own_eccw (1 : Int32) (1 : Int32) (0 : Int32) v5)), (.int ((own_up (own_up (own_up (fun _ => 0) v7 v7) ((own_up (fun _ => 0) v7 v7) v7.toInt.toNat) v9) v9 v7) v9.toInt.toNat))])) (fun t k => ?_) ?_
      · show Steps p.tables e below (T106.setTop (mkF m 248 #[.val (.int p0), .val (.int p1), .val (.int p2), .val (.int p3), .val (.int v1), .val (.int v2), .val (.int (1 : Int32)), .val (.int v5), .val (.int v7), .val (.int v9), .val (.int v11), .val (.ref b12), .val (.int (0 : Int32)), .val (.int (1 : Int32)), .val (.int v7)] [(.int (own_ecw (1 : Int32) (1 : Int32) (0 : Int32) v5)), (.int ((own_up (own_up (own_up (fun _ => 0) v7 v7) v9 ((own_up (fun _ => 0) v7 v7) v7.toInt.toNat)) v7 v9) v9.toInt.toNat))])) t
        refine XS.icmpNo X106.here hx rfl (hb hby at_248) rfl (teq hc107).2 ?_
        show Steps p.tables e below (T106.setTop (mkF m 251 #[.val (.int p0), .val (.int p1), .val (.int p2), .val (.int p3), .val (.int v1), .val (.int v2), .val (.int (1 : Int32)), .val (.int v5), .val (.int v7), .val (.int v9), .val (.int v11), .val (.ref b12), .val (.int (0 : Int32)), .val (.int (1 : Int32)), .val (.int v7)] [])) t
        refine XS.aload X106.here hx rfl (hb hby at_251) rfl rfl ?_
        show Steps p.tables e below (T106.setTop (mkF m 253 #[.val (.int p0), .val (.int p1), .val (.int p2), .val (.int p3), .val (.int v1), .val (.int v2), .val (.int (1 : Int32)), .val (.int v5), .val (.int v7), .val (.int v9), .val (.int v11), .val (.ref b12), .val (.int (0 : Int32)), .val (.int (1 : Int32)), .val (.int v7)] [(.ref b12)])) t
        refine XS.iload X106.here hx rfl (hb hby at_253) rfl ?_
        show Steps p.tables e below (T106.setTop (mkF m 255 #[.val (.int p0), .val (.int p1), .val (.int p2), .val (.int p3), .val (.int v1), .val (.int v2), .val (.int (1 : Int32)), .val (.int v5), .val (.int v7), .val (.int v9), .val (.int v11), .val (.ref b12), .val (.int (0 : Int32)), .val (.int (1 : Int32)), .val (.int v7)] [(.int v9), (.ref b12)])) t
        refine st108 _ ?_
        show Steps p.tables e below (T108.setTop (mkF m 258 #[.val (.int p0), .val (.int p1), .val (.int p2), .val (.int p3), .val (.int v1), .val (.int v2), .val (.int (1 : Int32)), .val (.int v5), .val (.int v7), .val (.int v9), .val (.int v11), .val (.ref b12), .val (.int (0 : Int32)), .val (.int (1 : Int32)), .val (.int v7)] [(.int ((own_up (own_up (own_up (fun _ => 0) v7 v7) ((own_up (fun _ => 0) v7 v7) v7.toInt.toNat) v9) v9 v7) v9.toInt.toNat))])) t
        refine XS.iconst X108.here hx rfl (hb hby at_258) ?_
        show Steps p.tables e below (T108.setTop (mkF m 259 #[.val (.int p0), .val (.int p1), .val (.int p2), .val (.int p3), .val (.int v1), .val (.int v2), .val (.int (1 : Int32)), .val (.int v5), .val (.int v7), .val (.int v9), .val (.int v11), .val (.ref b12), .val (.int (0 : Int32)), .val (.int (1 : Int32)), .val (.int v7)] [(.int (1 : Int32)), (.int ((own_up (own_up (own_up (fun _ => 0) v7 v7) ((own_up (fun _ => 0) v7 v7) v7.toInt.toNat) v9) v9 v7) v9.toInt.toNat))])) t
        refine XS.iload X108.here hx rfl (hb hby at_259) rfl ?_
        show Steps p.tables e below (T108.setTop (mkF m 261 #[.val (.int p0), .val (.int p1), .val (.int p2), .val (.int p3), .val (.int v1), .val (.int v2), .val (.int (1 : Int32)), .val (.int v5), .val (.int v7), .val (.int v9), .val (.int v11), .val (.ref b12), .val (.int (0 : Int32)), .val (.int (1 : Int32)), .val (.int v7)] [(.int (1 : Int32)), (.int (1 : Int32)), (.int ((own_up (own_up (own_up (fun _ => 0) v7 v7) ((own_up (fun _ => 0) v7 v7) v7.toInt.toNat) v9) v9 v7) v9.toInt.toNat))])) t
        refine XS.iload X108.here hx rfl (hb hby at_261) rfl ?_
        show Steps p.tables e below (T108.setTop (mkF m 263 #[.val (.int p0), .val (.int p1), .val (.int p2), .val (.int p3), .val (.int v1), .val (.int v2), .val (.int (1 : Int32)), .val (.int v5), .val (.int v7), .val (.int v9), .val (.int v11), .val (.ref b12), .val (.int (0 : Int32)), .val (.int (1 : Int32)), .val (.int v7)] [(.int (0 : Int32)), (.int (1 : Int32)), (.int (1 : Int32)), (.int ((own_up (own_up (own_up (fun _ => 0) v7 v7) ((own_up (fun _ => 0) v7 v7) v7.toInt.toNat) v9) v9 v7) v9.toInt.toNat))])) t
        refine XS.iload X108.here hx rfl (hb hby at_263) rfl ?_
        show Steps p.tables e below (T108.setTop (mkF m 265 #[.val (.int p0), .val (.int p1), .val (.int p2), .val (.int p3), .val (.int v1), .val (.int v2), .val (.int (1 : Int32)), .val (.int v5), .val (.int v7), .val (.int v9), .val (.int v11), .val (.ref b12), .val (.int (0 : Int32)), .val (.int (1 : Int32)), .val (.int v7)] [(.int v5), (.int (0 : Int32)), (.int (1 : Int32)), (.int (1 : Int32)), (.int ((own_up (own_up (own_up (fun _ => 0) v7 v7) ((own_up (fun _ => 0) v7 v7) v7.toInt.toNat) v9) v9 v7) v9.toInt.toNat))])) t
        refine st109 _ ?_
        show Steps p.tables e below (T109.setTop (mkF m 268 #[.val (.int p0), .val (.int p1), .val (.int p2), .val (.int p3), .val (.int v1), .val (.int v2), .val (.int (1 : Int32)), .val (.int v5), .val (.int v7), .val (.int v9), .val (.int v11), .val (.ref b12), .val (.int (0 : Int32)), .val (.int (1 : Int32)), .val (.int v7)] [(.int (own_eccw (1 : Int32) (1 : Int32) (0 : Int32) v5)), (.int ((own_up (own_up (own_up (fun _ => 0) v7 v7) ((own_up (fun _ => 0) v7 v7) v7.toInt.toNat) v9) v9 v7) v9.toInt.toNat))])) t
        exact k
      have hc110 : ((own_up (own_up (own_up (fun _ => 0) v7 v7) ((own_up (fun _ => 0) v7 v7) v7.toInt.toNat) v9) v9 v7) v9.toInt.toNat) = (own_eccw (1 : Int32) (1 : Int32) (0 : Int32) v5) := by subst hv2 hv7 hv9 hv11; rcases own_s4 hv5 with rfl | rfl | rfl | rfl <;> rcases own_o2 hv1 with rfl | rfl <;> decide +kernel
      obtain ⟨T111, _, L111, X111, ⟨rfl, Nq111, e111⟩, st111⟩ := Own.callV (y := (⟨"com/example/libgriddraw/libgriddraw/core/RotationSystem", "cwNext", "(I)I"⟩ : MethodName)) (W := 0) (argsL := [(.int v11)]) (rest := []) (a := b12) X109 hx hZ hown (hw _ (List.mem_of_getElem? (i := 38) rfl)) (hw _ (List.mem_of_getElem? (i := 39) rfl)) (hw _ (List.mem_of_getElem? (i := 41) rfl)) (hw _ (List.mem_of_getElem? (i := 40) rfl)) (hw _ (List.mem_of_getElem? (i := 7) rfl)) (hw _ (List.mem_of_getElem? (i := 42) rfl)) (by decide) e109 E94 (rm8 l Z a0 hw [] b12 v11 rw16 (own_up (own_up (own_up (fun _ => 0) v7 v7) v9 ((own_up (fun _ => 0) v7 v7) v7.toInt.toNat)) v7 v9) T94.heap n0 (by subst hv2 hv7 hv9 hv11; rcases own_s4 hv5 with rfl | rfl | rfl | rfl <;> rcases own_o2 hv1 with rfl | rfl <;> decide +kernel) FcwNext_94 Aw_94) (by decide) (by decide) (by decide) (by decide) (g := (mkF m 287 #[.val (.int p0), .val (.int p1), .val (.int p2), .val (.int p3), .val (.int v1), .val (.int v2), .val (.int (1 : Int32)), .val (.int v5), .val (.int v7), .val (.int v9), .val (.int v11), .val (.ref b12), .val (.int (0 : Int32)), .val (.int (1 : Int32)), .val (.int v7)] [(.int v11), (.ref b12)])) rfl (by rw [hml]; rfl) (lenOf pd_5 rfl) rfl (by show 2 * 0 + _ ≤ _; exact Nat.le_of_eq rfl) (hb hby at_287)
      have N111 := Fr.app N109 Nq111
      obtain ⟨T112, _, L112, X112, ⟨rfl, Nq112, e112⟩, st112⟩ := Own.callS (y := (⟨"com/example/libgriddraw/libgriddraw/core/RotationSystemInsertClockwiseOfPinLaw", "expCw", "(IIII)I"⟩ : MethodName)) (W := 1) (argsL := [(.int (2 : Int32)), (.int (1 : Int32)), (.int (0 : Int32)), (.int v5)]) (rest := [(.int ((own_up (own_up (own_up (fun _ => 0) v7 v7) v9 ((own_up (fun _ => 0) v7 v7) v7.toInt.toNat)) v7 v9) v11.toInt.toNat))]) X111 hx hZ hown (hw _ (List.mem_of_getElem? (i := 43) rfl)) (hw _ (List.mem_of_getElem? (i := 44) rfl)) (hw _ (List.mem_of_getElem? (i := 3) rfl)) (hw _ (List.mem_of_getElem? (i := 45) rfl)) (by decide) e111 (rm20 l Z a0 hw [] (2 : Int32) (1 : Int32) (0 : Int32) v5  T94.heap n0 ) (by decide) (by decide) (by decide) (by decide) (g := (mkF m 297 #[.val (.int p0), .val (.int p1), .val (.int p2), .val (.int p3), .val (.int v1), .val (.int v2), .val (.int (1 : Int32)), .val (.int v5), .val (.int v7), .val (.int v9), .val (.int v11), .val (.ref b12), .val (.int (0 : Int32)), .val (.int (1 : Int32)), .val (.int v7)] [(.int v5), (.int (0 : Int32)), (.int (1 : Int32)), (.int (2 : Int32)), (.int ((own_up (own_up (own_up (fun _ => 0) v7 v7) v9 ((own_up (fun _ => 0) v7 v7) v7.toInt.toNat)) v7 v9) v11.toInt.toNat))])) rfl (by rw [hml]; rfl) (lenOf pd_6 rfl) rfl (by show 2 * 0 + _ ≤ _; exact Nat.le_of_eq rfl) (hb hby at_297)
      have N112 := Fr.app N111 Nq112
      refine hD _ (T112.setTop (mkF m 300 #[.val (.int p0), .val (.int p1), .val (.int p2), .val (.int p3), .val (.int v1), .val (.int v2), .val (.int (1 : Int32)), .val (.int v5), .val (.int v7), .val (.int v9), .val (.int v11), .val (.ref b12), .val (.int (0 : Int32)), .val (.int (1 : Int32)), .val (.int v7)] [(.int (own_ecw (2 : Int32) (1 : Int32) (0 : Int32) v5)), (.int ((own_up (own_up (own_up (fun _ => 0) v7 v7) v9 ((own_up (fun _ => 0) v7 v7) v7.toInt.toNat)) v7 v9) v11.toInt.toNat))])) (fun t k => ?_) ?_
      · show Steps p.tables e below (T109.setTop (mkF m 268 #[.val (.int p0), .val (.int p1), .val (.int p2), .val (.int p3), .val (.int v1), .val (.int v2), .val (.int (1 : Int32)), .val (.int v5), .val (.int v7), .val (.int v9), .val (.int v11), .val (.ref b12), .val (.int (0 : Int32)), .val (.int (1 : Int32)), .val (.int v7)] [(.int (own_eccw (1 : Int32) (1 : Int32) (0 : Int32) v5)), (.int ((own_up (own_up (own_up (fun _ => 0) v7 v7) ((own_up (fun _ => 0) v7 v7) v7.toInt.toNat) v9) v9 v7) v9.toInt.toNat))])) t
        refine XS.icmpNo X109.here hx rfl (hb hby at_268) rfl (teq hc110).2 ?_
        show Steps p.tables e below (T109.setTop (mkF m 271 #[.val (.int p0), .val (.int p1), .val (.int p2), .val (.int p3), .val (.int v1), .val (.int v2), .val (.int (1 : Int32)), .val (.int v5), .val (.int v7), .val (.int v9), .val (.int v11), .val (.ref b12), .val (.int (0 : Int32)), .val (.int (1 : Int32)), .val (.int v7)] [])) t
        refine XS.iconst X109.here hx rfl (hb hby at_271) ?_
        show Steps p.tables e below (T109.setTop (mkF m 272 #[.val (.int p0), .val (.int p1), .val (.int p2), .val (.int p3), .val (.int v1), .val (.int v2), .val (.int (1 : Int32)), .val (.int v5), .val (.int v7), .val (.int v9), .val (.int v11), .val (.ref b12), .val (.int (0 : Int32)), .val (.int (1 : Int32)), .val (.int v7)] [(.int (1 : Int32))])) t
        refine XS.goto X109.here hx rfl (pc0 := 272) (pc' := 276) rfl (hb hby at_272) (by decide) (by decide) ?_
        show Steps p.tables e below (T109.setTop (mkF m 276 #[.val (.int p0), .val (.int p1), .val (.int p2), .val (.int p3), .val (.int v1), .val (.int v2), .val (.int (1 : Int32)), .val (.int v5), .val (.int v7), .val (.int v9), .val (.int v11), .val (.ref b12), .val (.int (0 : Int32)), .val (.int (1 : Int32)), .val (.int v7)] [(.int (1 : Int32))])) t
        refine XS.istore X109.here hx rfl (hb hby at_276) rfl (l' := #[.val (.int p0), .val (.int p1), .val (.int p2), .val (.int p3), .val (.int v1), .val (.int v2), .val (.int (1 : Int32)), .val (.int v5), .val (.int v7), .val (.int v9), .val (.int v11), .val (.ref b12), .val (.int (0 : Int32)), .val (.int (1 : Int32)), .val (.int v7)]) rfl ?_
        show Steps p.tables e below (T109.setTop (mkF m 278 #[.val (.int p0), .val (.int p1), .val (.int p2), .val (.int p3), .val (.int v1), .val (.int v2), .val (.int (1 : Int32)), .val (.int v5), .val (.int v7), .val (.int v9), .val (.int v11), .val (.ref b12), .val (.int (0 : Int32)), .val (.int (1 : Int32)), .val (.int v7)] [])) t
        refine XS.iload X109.here hx rfl (hb hby at_278) rfl ?_
        show Steps p.tables e below (T109.setTop (mkF m 280 #[.val (.int p0), .val (.int p1), .val (.int p2), .val (.int p3), .val (.int v1), .val (.int v2), .val (.int (1 : Int32)), .val (.int v5), .val (.int v7), .val (.int v9), .val (.int v11), .val (.ref b12), .val (.int (0 : Int32)), .val (.int (1 : Int32)), .val (.int v7)] [(.int (1 : Int32))])) t
        refine XS.ifNo X109.here hx rfl (hb hby at_280) rfl (by decide) ?_
        show Steps p.tables e below (T109.setTop (mkF m 283 #[.val (.int p0), .val (.int p1), .val (.int p2), .val (.int p3), .val (.int v1), .val (.int v2), .val (.int (1 : Int32)), .val (.int v5), .val (.int v7), .val (.int v9), .val (.int v11), .val (.ref b12), .val (.int (0 : Int32)), .val (.int (1 : Int32)), .val (.int v7)] [])) t
        refine XS.aload X109.here hx rfl (hb hby at_283) rfl rfl ?_
        show Steps p.tables e below (T109.setTop (mkF m 285 #[.val (.int p0), .val (.int p1), .val (.int p2), .val (.int p3), .val (.int v1), .val (.int v2), .val (.int (1 : Int32)), .val (.int v5), .val (.int v7), .val (.int v9), .val (.int v11), .val (.ref b12), .val (.int (0 : Int32)), .val (.int (1 : Int32)), .val (.int v7)] [(.ref b12)])) t
        refine XS.iload X109.here hx rfl (hb hby at_285) rfl ?_
        show Steps p.tables e below (T109.setTop (mkF m 287 #[.val (.int p0), .val (.int p1), .val (.int p2), .val (.int p3), .val (.int v1), .val (.int v2), .val (.int (1 : Int32)), .val (.int v5), .val (.int v7), .val (.int v9), .val (.int v11), .val (.ref b12), .val (.int (0 : Int32)), .val (.int (1 : Int32)), .val (.int v7)] [(.int v11), (.ref b12)])) t
        refine st111 _ ?_
        show Steps p.tables e below (T111.setTop (mkF m 290 #[.val (.int p0), .val (.int p1), .val (.int p2), .val (.int p3), .val (.int v1), .val (.int v2), .val (.int (1 : Int32)), .val (.int v5), .val (.int v7), .val (.int v9), .val (.int v11), .val (.ref b12), .val (.int (0 : Int32)), .val (.int (1 : Int32)), .val (.int v7)] [(.int ((own_up (own_up (own_up (fun _ => 0) v7 v7) v9 ((own_up (fun _ => 0) v7 v7) v7.toInt.toNat)) v7 v9) v11.toInt.toNat))])) t
        refine XS.iconst X111.here hx rfl (hb hby at_290) ?_
        show Steps p.tables e below (T111.setTop (mkF m 291 #[.val (.int p0), .val (.int p1), .val (.int p2), .val (.int p3), .val (.int v1), .val (.int v2), .val (.int (1 : Int32)), .val (.int v5), .val (.int v7), .val (.int v9), .val (.int v11), .val (.ref b12), .val (.int (0 : Int32)), .val (.int (1 : Int32)), .val (.int v7)] [(.int (2 : Int32)), (.int ((own_up (own_up (own_up (fun _ => 0) v7 v7) v9 ((own_up (fun _ => 0) v7 v7) v7.toInt.toNat)) v7 v9) v11.toInt.toNat))])) t
        refine XS.iload X111.here hx rfl (hb hby at_291) rfl ?_
        show Steps p.tables e below (T111.setTop (mkF m 293 #[.val (.int p0), .val (.int p1), .val (.int p2), .val (.int p3), .val (.int v1), .val (.int v2), .val (.int (1 : Int32)), .val (.int v5), .val (.int v7), .val (.int v9), .val (.int v11), .val (.ref b12), .val (.int (0 : Int32)), .val (.int (1 : Int32)), .val (.int v7)] [(.int (1 : Int32)), (.int (2 : Int32)), (.int ((own_up (own_up (own_up (fun _ => 0) v7 v7) v9 ((own_up (fun _ => 0) v7 v7) v7.toInt.toNat)) v7 v9) v11.toInt.toNat))])) t
        refine XS.iload X111.here hx rfl (hb hby at_293) rfl ?_
        show Steps p.tables e below (T111.setTop (mkF m 295 #[.val (.int p0), .val (.int p1), .val (.int p2), .val (.int p3), .val (.int v1), .val (.int v2), .val (.int (1 : Int32)), .val (.int v5), .val (.int v7), .val (.int v9), .val (.int v11), .val (.ref b12), .val (.int (0 : Int32)), .val (.int (1 : Int32)), .val (.int v7)] [(.int (0 : Int32)), (.int (1 : Int32)), (.int (2 : Int32)), (.int ((own_up (own_up (own_up (fun _ => 0) v7 v7) v9 ((own_up (fun _ => 0) v7 v7) v7.toInt.toNat)) v7 v9) v11.toInt.toNat))])) t
        refine XS.iload X111.here hx rfl (hb hby at_295) rfl ?_
        show Steps p.tables e below (T111.setTop (mkF m 297 #[.val (.int p0), .val (.int p1), .val (.int p2), .val (.int p3), .val (.int v1), .val (.int v2), .val (.int (1 : Int32)), .val (.int v5), .val (.int v7), .val (.int v9), .val (.int v11), .val (.ref b12), .val (.int (0 : Int32)), .val (.int (1 : Int32)), .val (.int v7)] [(.int v5), (.int (0 : Int32)), (.int (1 : Int32)), (.int (2 : Int32)), (.int ((own_up (own_up (own_up (fun _ => 0) v7 v7) v9 ((own_up (fun _ => 0) v7 v7) v7.toInt.toNat)) v7 v9) v11.toInt.toNat))])) t
        refine st112 _ ?_
        show Steps p.tables e below (T112.setTop (mkF m 300 #[.val (.int p0), .val (.int p1), .val (.int p2), .val (.int p3), .val (.int v1), .val (.int v2), .val (.int (1 : Int32)), .val (.int v5), .val (.int v7), .val (.int v9), .val (.int v11), .val (.ref b12), .val (.int (0 : Int32)), .val (.int (1 : Int32)), .val (.int v7)] [(.int (own_ecw (2 : Int32) (1 : Int32) (0 : Int32) v5)), (.int ((own_up (own_up (own_up (fun _ => 0) v7 v7) v9 ((own_up (fun _ => 0) v7 v7) v7.toInt.toNat)) v7 v9) v11.toInt.toNat))])) t
        exact k
      have hc113 : ((own_up (own_up (own_up (fun _ => 0) v7 v7) v9 ((own_up (fun _ => 0) v7 v7) v7.toInt.toNat)) v7 v9) v11.toInt.toNat) = (own_ecw (2 : Int32) (1 : Int32) (0 : Int32) v5) := by subst hv2 hv7 hv9 hv11; rcases own_s4 hv5 with rfl | rfl | rfl | rfl <;> rcases own_o2 hv1 with rfl | rfl <;> decide +kernel
      obtain ⟨T114, _, L114, X114, ⟨rfl, Nq114, e114⟩, st114⟩ := Own.callV (y := (⟨"com/example/libgriddraw/libgriddraw/core/RotationSystem", "ccwNext", "(I)I"⟩ : MethodName)) (W := 0) (argsL := [(.int v11)]) (rest := []) (a := b12) X112 hx hZ hown (hw _ (List.mem_of_getElem? (i := 46) rfl)) (hw _ (List.mem_of_getElem? (i := 47) rfl)) (hw _ (List.mem_of_getElem? (i := 49) rfl)) (hw _ (List.mem_of_getElem? (i := 48) rfl)) (hw _ (List.mem_of_getElem? (i := 7) rfl)) (hw _ (List.mem_of_getElem? (i := 50) rfl)) (by decide) e112 E94 (rm9 l Z a0 hw [] b12 v11 rc16 (own_up (own_up (own_up (fun _ => 0) v7 v7) ((own_up (fun _ => 0) v7 v7) v7.toInt.toNat) v9) v9 v7) T94.heap n0 (by subst hv2 hv7 hv9 hv11; rcases own_s4 hv5 with rfl | rfl | rfl | rfl <;> rcases own_o2 hv1 with rfl | rfl <;> decide +kernel) FccwNext_94 Ac_94) (by decide) (by decide) (by decide) (by decide) (g := (mkF m 307 #[.val (.int p0), .val (.int p1), .val (.int p2), .val (.int p3), .val (.int v1), .val (.int v2), .val (.int (1 : Int32)), .val (.int v5), .val (.int v7), .val (.int v9), .val (.int v11), .val (.ref b12), .val (.int (0 : Int32)), .val (.int (1 : Int32)), .val (.int v7)] [(.int v11), (.ref b12)])) rfl (by rw [hml]; rfl) (lenOf pd_5 rfl) rfl (by show 2 * 0 + _ ≤ _; exact Nat.le_of_eq rfl) (hb hby at_307)
      have N114 := Fr.app N112 Nq114
      obtain ⟨T115, _, L115, X115, ⟨rfl, Nq115, e115⟩, st115⟩ := Own.callS (y := (⟨"com/example/libgriddraw/libgriddraw/core/RotationSystemInsertClockwiseOfPinLaw", "expCcw", "(IIII)I"⟩ : MethodName)) (W := 1) (argsL := [(.int (2 : Int32)), (.int (1 : Int32)), (.int (0 : Int32)), (.int v5)]) (rest := [(.int ((own_up (own_up (own_up (fun _ => 0) v7 v7) ((own_up (fun _ => 0) v7 v7) v7.toInt.toNat) v9) v9 v7) v11.toInt.toNat))]) X114 hx hZ hown (hw _ (List.mem_of_getElem? (i := 51) rfl)) (hw _ (List.mem_of_getElem? (i := 52) rfl)) (hw _ (List.mem_of_getElem? (i := 3) rfl)) (hw _ (List.mem_of_getElem? (i := 53) rfl)) (by decide) e114 (rm21 l Z a0 hw [] (2 : Int32) (1 : Int32) (0 : Int32) v5  T94.heap n0 ) (by decide) (by decide) (by decide) (by decide) (g := (mkF m 317 #[.val (.int p0), .val (.int p1), .val (.int p2), .val (.int p3), .val (.int v1), .val (.int v2), .val (.int (1 : Int32)), .val (.int v5), .val (.int v7), .val (.int v9), .val (.int v11), .val (.ref b12), .val (.int (0 : Int32)), .val (.int (1 : Int32)), .val (.int v7)] [(.int v5), (.int (0 : Int32)), (.int (1 : Int32)), (.int (2 : Int32)), (.int ((own_up (own_up (own_up (fun _ => 0) v7 v7) ((own_up (fun _ => 0) v7 v7) v7.toInt.toNat) v9) v9 v7) v11.toInt.toNat))])) rfl (by rw [hml]; rfl) (lenOf pd_6 rfl) rfl (by show 2 * 0 + _ ≤ _; exact Nat.le_of_eq rfl) (hb hby at_317)
      have N115 := Fr.app N114 Nq115
      refine hD _ (T115.setTop (mkF m 320 #[.val (.int p0), .val (.int p1), .val (.int p2), .val (.int p3), .val (.int v1), .val (.int v2), .val (.int (1 : Int32)), .val (.int v5), .val (.int v7), .val (.int v9), .val (.int v11), .val (.ref b12), .val (.int (0 : Int32)), .val (.int (1 : Int32)), .val (.int v7)] [(.int (own_eccw (2 : Int32) (1 : Int32) (0 : Int32) v5)), (.int ((own_up (own_up (own_up (fun _ => 0) v7 v7) ((own_up (fun _ => 0) v7 v7) v7.toInt.toNat) v9) v9 v7) v11.toInt.toNat))])) (fun t k => ?_) ?_
      · show Steps p.tables e below (T112.setTop (mkF m 300 #[.val (.int p0), .val (.int p1), .val (.int p2), .val (.int p3), .val (.int v1), .val (.int v2), .val (.int (1 : Int32)), .val (.int v5), .val (.int v7), .val (.int v9), .val (.int v11), .val (.ref b12), .val (.int (0 : Int32)), .val (.int (1 : Int32)), .val (.int v7)] [(.int (own_ecw (2 : Int32) (1 : Int32) (0 : Int32) v5)), (.int ((own_up (own_up (own_up (fun _ => 0) v7 v7) v9 ((own_up (fun _ => 0) v7 v7) v7.toInt.toNat)) v7 v9) v11.toInt.toNat))])) t
        refine XS.icmpNo X112.here hx rfl (hb hby at_300) rfl (teq hc113).2 ?_
        show Steps p.tables e below (T112.setTop (mkF m 303 #[.val (.int p0), .val (.int p1), .val (.int p2), .val (.int p3), .val (.int v1), .val (.int v2), .val (.int (1 : Int32)), .val (.int v5), .val (.int v7), .val (.int v9), .val (.int v11), .val (.ref b12), .val (.int (0 : Int32)), .val (.int (1 : Int32)), .val (.int v7)] [])) t
        refine XS.aload X112.here hx rfl (hb hby at_303) rfl rfl ?_
        show Steps p.tables e below (T112.setTop (mkF m 305 #[.val (.int p0), .val (.int p1), .val (.int p2), .val (.int p3), .val (.int v1), .val (.int v2), .val (.int (1 : Int32)), .val (.int v5), .val (.int v7), .val (.int v9), .val (.int v11), .val (.ref b12), .val (.int (0 : Int32)), .val (.int (1 : Int32)), .val (.int v7)] [(.ref b12)])) t
        refine XS.iload X112.here hx rfl (hb hby at_305) rfl ?_
        show Steps p.tables e below (T112.setTop (mkF m 307 #[.val (.int p0), .val (.int p1), .val (.int p2), .val (.int p3), .val (.int v1), .val (.int v2), .val (.int (1 : Int32)), .val (.int v5), .val (.int v7), .val (.int v9), .val (.int v11), .val (.ref b12), .val (.int (0 : Int32)), .val (.int (1 : Int32)), .val (.int v7)] [(.int v11), (.ref b12)])) t
        refine st114 _ ?_
        show Steps p.tables e below (T114.setTop (mkF m 310 #[.val (.int p0), .val (.int p1), .val (.int p2), .val (.int p3), .val (.int v1), .val (.int v2), .val (.int (1 : Int32)), .val (.int v5), .val (.int v7), .val (.int v9), .val (.int v11), .val (.ref b12), .val (.int (0 : Int32)), .val (.int (1 : Int32)), .val (.int v7)] [(.int ((own_up (own_up (own_up (fun _ => 0) v7 v7) ((own_up (fun _ => 0) v7 v7) v7.toInt.toNat) v9) v9 v7) v11.toInt.toNat))])) t
        refine XS.iconst X114.here hx rfl (hb hby at_310) ?_
        show Steps p.tables e below (T114.setTop (mkF m 311 #[.val (.int p0), .val (.int p1), .val (.int p2), .val (.int p3), .val (.int v1), .val (.int v2), .val (.int (1 : Int32)), .val (.int v5), .val (.int v7), .val (.int v9), .val (.int v11), .val (.ref b12), .val (.int (0 : Int32)), .val (.int (1 : Int32)), .val (.int v7)] [(.int (2 : Int32)), (.int ((own_up (own_up (own_up (fun _ => 0) v7 v7) ((own_up (fun _ => 0) v7 v7) v7.toInt.toNat) v9) v9 v7) v11.toInt.toNat))])) t
        refine XS.iload X114.here hx rfl (hb hby at_311) rfl ?_
        show Steps p.tables e below (T114.setTop (mkF m 313 #[.val (.int p0), .val (.int p1), .val (.int p2), .val (.int p3), .val (.int v1), .val (.int v2), .val (.int (1 : Int32)), .val (.int v5), .val (.int v7), .val (.int v9), .val (.int v11), .val (.ref b12), .val (.int (0 : Int32)), .val (.int (1 : Int32)), .val (.int v7)] [(.int (1 : Int32)), (.int (2 : Int32)), (.int ((own_up (own_up (own_up (fun _ => 0) v7 v7) ((own_up (fun _ => 0) v7 v7) v7.toInt.toNat) v9) v9 v7) v11.toInt.toNat))])) t
        refine XS.iload X114.here hx rfl (hb hby at_313) rfl ?_
        show Steps p.tables e below (T114.setTop (mkF m 315 #[.val (.int p0), .val (.int p1), .val (.int p2), .val (.int p3), .val (.int v1), .val (.int v2), .val (.int (1 : Int32)), .val (.int v5), .val (.int v7), .val (.int v9), .val (.int v11), .val (.ref b12), .val (.int (0 : Int32)), .val (.int (1 : Int32)), .val (.int v7)] [(.int (0 : Int32)), (.int (1 : Int32)), (.int (2 : Int32)), (.int ((own_up (own_up (own_up (fun _ => 0) v7 v7) ((own_up (fun _ => 0) v7 v7) v7.toInt.toNat) v9) v9 v7) v11.toInt.toNat))])) t
        refine XS.iload X114.here hx rfl (hb hby at_315) rfl ?_
        show Steps p.tables e below (T114.setTop (mkF m 317 #[.val (.int p0), .val (.int p1), .val (.int p2), .val (.int p3), .val (.int v1), .val (.int v2), .val (.int (1 : Int32)), .val (.int v5), .val (.int v7), .val (.int v9), .val (.int v11), .val (.ref b12), .val (.int (0 : Int32)), .val (.int (1 : Int32)), .val (.int v7)] [(.int v5), (.int (0 : Int32)), (.int (1 : Int32)), (.int (2 : Int32)), (.int ((own_up (own_up (own_up (fun _ => 0) v7 v7) ((own_up (fun _ => 0) v7 v7) v7.toInt.toNat) v9) v9 v7) v11.toInt.toNat))])) t
        refine st115 _ ?_
        show Steps p.tables e below (T115.setTop (mkF m 320 #[.val (.int p0), .val (.int p1), .val (.int p2), .val (.int p3), .val (.int v1), .val (.int v2), .val (.int (1 : Int32)), .val (.int v5), .val (.int v7), .val (.int v9), .val (.int v11), .val (.ref b12), .val (.int (0 : Int32)), .val (.int (1 : Int32)), .val (.int v7)] [(.int (own_eccw (2 : Int32) (1 : Int32) (0 : Int32) v5)), (.int ((own_up (own_up (own_up (fun _ => 0) v7 v7) ((own_up (fun _ => 0) v7 v7) v7.toInt.toNat) v9) v9 v7) v11.toInt.toNat))])) t
        exact k
      have hc116 : ((own_up (own_up (own_up (fun _ => 0) v7 v7) ((own_up (fun _ => 0) v7 v7) v7.toInt.toNat) v9) v9 v7) v11.toInt.toNat) = (own_eccw (2 : Int32) (1 : Int32) (0 : Int32) v5) := by subst hv2 hv7 hv9 hv11; rcases own_s4 hv5 with rfl | rfl | rfl | rfl <;> rcases own_o2 hv1 with rfl | rfl <;> decide +kernel
      refine hD _ (T115.setTop (mkF m 332 #[.val (.int p0), .val (.int p1), .val (.int p2), .val (.int p3), .val (.int v1), .val (.int v2), .val (.int (1 : Int32)), .val (.int v5), .val (.int v7), .val (.int v9), .val (.int v11), .val (.ref b12), .val (.int (0 : Int32)), .val (.int (1 : Int32)), .val (.int v7)] [(.int (1 : Int32))])) (fun t k => ?_) ?_
      · show Steps p.tables e below (T115.setTop (mkF m 320 #[.val (.int p0), .val (.int p1), .val (.int p2), .val (.int p3), .val (.int v1), .val (.int v2), .val (.int (1 : Int32)), .val (.int v5), .val (.int v7), .val (.int v9), .val (.int v11), .val (.ref b12), .val (.int (0 : Int32)), .val (.int (1 : Int32)), .val (.int v7)] [(.int (own_eccw (2 : Int32) (1 : Int32) (0 : Int32) v5)), (.int ((own_up (own_up (own_up (fun _ => 0) v7 v7) ((own_up (fun _ => 0) v7 v7) v7.toInt.toNat) v9) v9 v7) v11.toInt.toNat))])) t
        refine XS.icmpNo X115.here hx rfl (hb hby at_320) rfl (teq hc116).2 ?_
        show Steps p.tables e below (T115.setTop (mkF m 323 #[.val (.int p0), .val (.int p1), .val (.int p2), .val (.int p3), .val (.int v1), .val (.int v2), .val (.int (1 : Int32)), .val (.int v5), .val (.int v7), .val (.int v9), .val (.int v11), .val (.ref b12), .val (.int (0 : Int32)), .val (.int (1 : Int32)), .val (.int v7)] [])) t
        refine XS.iconst X115.here hx rfl (hb hby at_323) ?_
        show Steps p.tables e below (T115.setTop (mkF m 324 #[.val (.int p0), .val (.int p1), .val (.int p2), .val (.int p3), .val (.int v1), .val (.int v2), .val (.int (1 : Int32)), .val (.int v5), .val (.int v7), .val (.int v9), .val (.int v11), .val (.ref b12), .val (.int (0 : Int32)), .val (.int (1 : Int32)), .val (.int v7)] [(.int (1 : Int32))])) t
        refine XS.goto X115.here hx rfl (pc0 := 324) (pc' := 328) rfl (hb hby at_324) (by decide) (by decide) ?_
        show Steps p.tables e below (T115.setTop (mkF m 328 #[.val (.int p0), .val (.int p1), .val (.int p2), .val (.int p3), .val (.int v1), .val (.int v2), .val (.int (1 : Int32)), .val (.int v5), .val (.int v7), .val (.int v9), .val (.int v11), .val (.ref b12), .val (.int (0 : Int32)), .val (.int (1 : Int32)), .val (.int v7)] [(.int (1 : Int32))])) t
        refine XS.istore X115.here hx rfl (hb hby at_328) rfl (l' := #[.val (.int p0), .val (.int p1), .val (.int p2), .val (.int p3), .val (.int v1), .val (.int v2), .val (.int (1 : Int32)), .val (.int v5), .val (.int v7), .val (.int v9), .val (.int v11), .val (.ref b12), .val (.int (0 : Int32)), .val (.int (1 : Int32)), .val (.int v7)]) rfl ?_
        show Steps p.tables e below (T115.setTop (mkF m 330 #[.val (.int p0), .val (.int p1), .val (.int p2), .val (.int p3), .val (.int v1), .val (.int v2), .val (.int (1 : Int32)), .val (.int v5), .val (.int v7), .val (.int v9), .val (.int v11), .val (.ref b12), .val (.int (0 : Int32)), .val (.int (1 : Int32)), .val (.int v7)] [])) t
        refine XS.iload X115.here hx rfl (hb hby at_330) rfl ?_
        show Steps p.tables e below (T115.setTop (mkF m 332 #[.val (.int p0), .val (.int p1), .val (.int p2), .val (.int p3), .val (.int v1), .val (.int v2), .val (.int (1 : Int32)), .val (.int v5), .val (.int v7), .val (.int v9), .val (.int v11), .val (.ref b12), .val (.int (0 : Int32)), .val (.int (1 : Int32)), .val (.int v7)] [(.int (1 : Int32))])) t
        exact k
      exact Own.retN hR X115 hx (t := .boolean) hret (by simp) (hb hby at_332) (by decide) (by decide) (by decide) ⟨rfl, N115⟩
set_option maxRecDepth 65536 in
set_option maxHeartbeats 40000000 in
theorem comes_1 {Post : Tables → Env → Array Value → State → Outcome → State → Prop} (hpost : ∀ tb e args s v u, (limb_1_1.after args s (.returned v) u = true ∧ limb_1_2.after args s (.returned v) u = true ∧ True) → FrameEnd s (.returned v) u (Jvm.fieldLocs frame_1_writes args s ++ Jvm.arrayLocs frame_1_arrays args s ++ Jvm.staticLocs frame_1_statics s) 16 128 → Post tb e args s (.returned v) u) :
    ArmFor flags0 classFile x code maxLocals ret World_1 tables_1 room_1 Calls_1 rest_1 Pre_1 Post := by
  intro l hfl _ _ p e ha hc hk s m args below hf hA hF happ hP
  obtain ⟨hcalls, hrest, hpre⟩ := hP
  obtain ⟨-, -, -, hnamed, -, -, -, hat⟩ := (Spec.applies_iff hf).mp happ
  obtain ⟨hg, hn⟩ := and_e (Cond.before_iff.mp (show (Jvm.Cond.and given_1 narrow_1).before args s = true from hpre))
  obtain ⟨hcnt, hg0⟩ := and_e hg
  obtain ⟨ga0, hg1⟩ := and_e hg0
  obtain ⟨ga1, hg2⟩ := and_e hg1
  obtain ⟨ga2, hg3⟩ := and_e hg2
  obtain ⟨w0, w1, w2, w3, rfl⟩ : ∃ w0 w1 w2 w3 : Value, args = #[w0, w1, w2, w3] := by
    have hs : args.size = 4 := by simpa [Cond.value, given_1] using hcnt
    obtain ⟨L⟩ := args
    match L, hs with
    | [w0, w1, w2, w3], _ => exact ⟨w0, w1, w2, w3, rfl⟩
  have hw := fun d (hd : d ∈ tables_1) => atoms_spec (ws := Jvm.Cond.code x code maxLocals ret :: tables_1) hat d (List.mem_cons_of_mem _ hd)
  obtain ⟨i0, ei0⟩ := is_v ga0
  obtain rfl : w0 = (.int i0) := Option.some.inj ei0
  obtain ⟨i1, ei1⟩ := is_v ga1
  obtain rfl : w1 = (.int i1) := Option.some.inj ei1
  obtain ⟨i2, ei2⟩ := is_v ga2
  obtain rfl : w2 = (.int i2) := Option.some.inj ei2
  obtain ⟨i3, ei3⟩ := is_v hg3
  obtain rfl : w3 = (.int i3) := Option.some.inj ei3
  obtain ⟨n, o, h1, h2, h3, _, L, rfl, ⟨rfl, N⟩, hq⟩ := rm0 l s _ hw tables_1 i0 i1 i2 i3 s.heap s.heap.size (Nat.le_refl _) p e ha hc hk s m _ below hf ((Spec.applies_iff_loose hf).mp happ).1 ⟨rfl, State.Warmed39.refl s, rfl⟩ trivial
  refine ⟨n, _, h1, h2, h3, hpost _ _ _ _ _ _ ⟨Cond.after_iff.mpr rfl, Cond.after_iff.mpr (eq_i res_at (Term.int_eval (1)) rfl), trivial⟩ ⟨hq.1, hq.2.1, (hq.2.2.sift fun y hy => Or.inr (N y hy)).mono (by decide) (by decide)⟩⟩
theorem main_1_1 : Claimed_1_1 := comes_1 fun _ _ _ _ _ _ h hF => ⟨h.1, hF⟩
theorem main_1_2 : Claimed_1_2 := comes_1 fun _ _ _ _ _ _ h hF => ⟨h.2.1, hF⟩
end Jvm.Pilot.@@N@@
namespace Jvm.Pilot.@@N@@
open Jvm Jvm.ClassFile Sem Op Lib Jvm.Free Jvm.Stand Jvm.Pilot.@@N@@.Jvm.D
/-! MADE BY PROGRAM (witnessworld.py) out of the Statement's table words and the real class files: 10 classes; the members and pool entries that the words name. The judged class is class 1, her method 4. -/
namespace start1
open Jvm.ClassFile
def u (s : String) : CpInfo := .utf8 (stringToUtf16 s)
/-- a pool by its gaps: so many unusable entries, then the entry; so many at the end -/
def gap : Nat → List CpInfo → List CpInfo
  | 0, r => r
  | n + 1, r => .unusable :: gap n r
def poolList (es : List (Nat × CpInfo)) (last : Nat) : List CpInfo := es.foldr (fun e r => gap e.1 (e.2 :: r)) (gap last [])
def pool (es : List (Nat × CpInfo)) (last : Nat) : Array CpInfo := ⟨poolList es last⟩
def fileOf (pool : Array CpInfo) (this : Nat) (attrs : Array Attribute := #[]) (ms : Array MethodInfo := #[]) (fl : Nat := 33) (sup : Nat := 0) (ifs : Array Nat := #[]) (fds : Array FieldInfo := #[]) : ClassFile where
  minorVersion := 0
  majorVersion := 65
  constantPool := pool
  accessFlags := fl
  thisClass := this
  superClass := sup
  interfaces := ifs
  fields := fds
  methods := ms
  attributes := attrs
def plain (name : String) (sup : Option ClassId) : Class where
  name := name
  kind := .ordinary
  loader := none
  accessFlags := 33
  super := sup
  interfaces := #[]
  cf := none
  fields := #[]
  methods := #[]
  instanceTypes := #[]
  staticTypes := #[]
  resolved := #[]
  callSites := []
  init := .initialized
  statics := none
  mirror := none

def pool0 : Array CpInfo := pool [(5, u "<init>"), (0, u "()V"), (1, .class_ 10), (1, u "java/lang/Object")] 113

def k0c0 : Code := { maxStack := 0, maxLocals := 1, code := object_method_1_code, exceptionTable := #[], attributes := #[] }
def k0m0 : Method := { name := "<init>", desc := "()V", sig := { parameters := [], returnType := none }, accessFlags := 1, code := some k0c0 }
/-- java/lang/Object -/
def k0 : Class := { plain "java/lang/Object" none with
  accessFlags := 33
  interfaces := #[]
  cf := some (fileOf pool0 8 #[] #[{ accessFlags := 1, nameIndex := 5, descriptorIndex := 6, attributes := #[] }] 33 0 #[] #[])
  fields := #[]
  methods := #[k0m0]
  instanceTypes := #[]
  staticTypes := #[]
  resolved := Array.replicate 124 none
  statics := none }

def pool1 : Array CpInfo := pool [(2, .class_ 4), (1, u "java/lang/Object"), (0, u "<init>"), (0, u "()V"), (0, .methodref 8 9), (0, .class_ 10), (0, .nameAndType 11 12), (0, u "com/example/libgriddraw/libgriddraw/core/RotationSystemInsertClockwiseOfPinLaw"), (0, u "lab"), (0, u "(II)I"), (0, .integer 2147483647), (0, .class_ 15), (0, u "com/example/libgriddraw/libgriddraw/core/RotationSystem"), (0, .methodref 14 17), (0, .nameAndType 5 18), (0, u "(II)V"), (0, .methodref 14 20), (0, .nameAndType 21 22), (0, u "insertClockwiseOf"), (0, u "(III)V"), (0, .methodref 14 24), (0, .nameAndType 25 26), (0, u "firstOut"), (0, u "(I)I"), (0, .methodref 14 28), (0, .nameAndType 29 26), (0, u "cwNext"), (0, .methodref 8 31), (0, .nameAndType 32 33), (0, u "expCw"), (0, u "(IIII)I"), (0, .methodref 14 35), (0, .nameAndType 36 26), (0, u "ccwNext"), (0, .methodref 8 38), (0, .nameAndType 39 33), (0, u "expCcw"), (3, u "law"), (0, u "(IIII)Z")] 2

def k1m0 : Method := { name := "<init>", desc := "()V", sig := { parameters := [], returnType := none }, accessFlags := 1, code := none }
def k1c1 : Code := { maxStack := 2, maxLocals := 2, code := method_2_code, exceptionTable := #[], attributes := #[] }
def k1m1 : Method := { name := "lab", desc := "(II)I", sig := { parameters := [.int, .int], returnType := some .int }, accessFlags := 10, code := some k1c1 }
def k1c2 : Code := { maxStack := 2, maxLocals := 4, code := method_3_code, exceptionTable := #[], attributes := #[] }
def k1m2 : Method := { name := "expCw", desc := "(IIII)I", sig := { parameters := [.int, .int, .int, .int], returnType := some .int }, accessFlags := 10, code := some k1c2 }
def k1c3 : Code := { maxStack := 3, maxLocals := 4, code := method_4_code, exceptionTable := #[], attributes := #[] }
def k1m3 : Method := { name := "expCcw", desc := "(IIII)I", sig := { parameters := [.int, .int, .int, .int], returnType := some .int }, accessFlags := 10, code := some k1c3 }
def k1c4 : Code := { maxStack := 5, maxLocals := 15, code := code, exceptionTable := #[], attributes := #[] }
def k1m4 : Method := { name := "law", desc := "(IIII)Z", sig := { parameters := [.int, .int, .int, .int], returnType := some .boolean }, accessFlags := 9, code := some k1c4 }
/-- com/example/libgriddraw/libgriddraw/core/RotationSystemInsertClockwiseOfPinLaw -/
def k1 : Class := { plain "com/example/libgriddraw/libgriddraw/core/RotationSystemInsertClockwiseOfPinLaw" (some 0) with
  accessFlags := 49
  interfaces := #[]
  cf := some (fileOf pool1 8 #[] #[{ accessFlags := 1, nameIndex := 5, descriptorIndex := 6, attributes := #[] }, { accessFlags := 10, nameIndex := 11, descriptorIndex := 12, attributes := #[] }, { accessFlags := 10, nameIndex := 32, descriptorIndex := 33, attributes := #[] }, { accessFlags := 10, nameIndex := 39, descriptorIndex := 33, attributes := #[] }, { accessFlags := 9, nameIndex := 43, descriptorIndex := 44, attributes := #[] }] 49 2 #[] #[])
  fields := #[]
  methods := #[k1m0, k1m1, k1m2, k1m3, k1m4]
  instanceTypes := #[]
  staticTypes := #[]
  resolved := Array.replicate 47 none
  statics := none }

def pool2 : Array CpInfo := pool [(1, .methodref 2 3), (0, .class_ 4), (0, .nameAndType 5 6), (0, u "com/example/libgriddraw/libgriddraw/core/RotationSystem"), (0, u "<init>"), (0, u "([I[I[I)V"), (0, .fieldref 2 8), (0, .nameAndType 9 10), (0, u "firstOut"), (0, u "[I"), (0, .methodref 12 13), (0, .class_ 14), (0, .nameAndType 15 16), (0, u "java/util/Arrays"), (0, u "fill"), (0, u "([II)V"), (0, .methodref 18 19), (0, .class_ 20), (0, .nameAndType 5 21), (0, u "java/lang/Object"), (0, u "()V"), (0, .fieldref 2 23), (0, .nameAndType 24 10), (0, u "ccwNext"), (0, .fieldref 2 26), (0, .nameAndType 27 10), (0, u "cwNext"), (10, u "(I)I"), (2, u "insertClockwiseOf"), (0, u "(III)V"), (0, u "NONE"), (0, u "I"), (2, u "(II)V")] 12

def k2c0 : Code := { maxStack := 4, maxLocals := 3, code := prog_39_method_1_code, exceptionTable := #[], attributes := #[] }
def k2m0 : Method := { name := "<init>", desc := "(II)V", sig := { parameters := [.int, .int], returnType := none }, accessFlags := 0, code := some k2c0 }
def k2c1 : Code := { maxStack := 2, maxLocals := 4, code := prog_39_method_2_code, exceptionTable := #[], attributes := #[] }
def k2m1 : Method := { name := "<init>", desc := "([I[I[I)V", sig := { parameters := [(.array .int), (.array .int), (.array .int)], returnType := none }, accessFlags := 2, code := some k2c1 }
def k2c2 : Code := { maxStack := 2, maxLocals := 2, code := prog_39_method_5_code, exceptionTable := #[], attributes := #[] }
def k2m2 : Method := { name := "firstOut", desc := "(I)I", sig := { parameters := [.int], returnType := some .int }, accessFlags := 0, code := some k2c2 }
def k2c3 : Code := { maxStack := 2, maxLocals := 2, code := prog_39_method_6_code, exceptionTable := #[], attributes := #[] }
def k2m3 : Method := { name := "ccwNext", desc := "(I)I", sig := { parameters := [.int], returnType := some .int }, accessFlags := 0, code := some k2c3 }
def k2c4 : Code := { maxStack := 2, maxLocals := 2, code := prog_39_method_7_code, exceptionTable := #[], attributes := #[] }
def k2m4 : Method := { name := "cwNext", desc := "(I)I", sig := { parameters := [.int], returnType := some .int }, accessFlags := 0, code := some k2c4 }
def k2c5 : Code := { maxStack := 3, maxLocals := 5, code := prog_39_method_10_code, exceptionTable := #[], attributes := #[] }
def k2m5 : Method := { name := "insertClockwiseOf", desc := "(III)V", sig := { parameters := [.int, .int, .int], returnType := none }, accessFlags := 0, code := some k2c5 }
/-- com/example/libgriddraw/libgriddraw/core/RotationSystem -/
def k2 : Class := { plain "com/example/libgriddraw/libgriddraw/core/RotationSystem" (some 0) with
  accessFlags := 48
  interfaces := #[]
  cf := some (fileOf pool2 2 #[] #[{ accessFlags := 0, nameIndex := 5, descriptorIndex := 47, attributes := #[] }, { accessFlags := 2, nameIndex := 5, descriptorIndex := 6, attributes := #[] }, { accessFlags := 0, nameIndex := 9, descriptorIndex := 38, attributes := #[] }, { accessFlags := 0, nameIndex := 24, descriptorIndex := 38, attributes := #[] }, { accessFlags := 0, nameIndex := 27, descriptorIndex := 38, attributes := #[] }, { accessFlags := 0, nameIndex := 41, descriptorIndex := 42, attributes := #[] }] 48 18 #[] #[{ accessFlags := 26, nameIndex := 43, descriptorIndex := 44, attributes := #[] }, { accessFlags := 18, nameIndex := 24, descriptorIndex := 10, attributes := #[] }, { accessFlags := 18, nameIndex := 27, descriptorIndex := 10, attributes := #[] }, { accessFlags := 18, nameIndex := 9, descriptorIndex := 10, attributes := #[] }])
  fields := #[{ name := "NONE", type := .int, accessFlags := 26, slot := 0, constantValue := 0 }, { name := "ccwNext", type := (.array .int), accessFlags := 18, slot := 0, constantValue := 0 }, { name := "cwNext", type := (.array .int), accessFlags := 18, slot := 1, constantValue := 0 }, { name := "firstOut", type := (.array .int), accessFlags := 18, slot := 2, constantValue := 0 }]
  methods := #[k2m0, k2m1, k2m2, k2m3, k2m4, k2m5]
  instanceTypes := #[(.array .int), (.array .int), (.array .int)]
  staticTypes := #[.int]
  resolved := Array.replicate 60 none
  statics := none }

def pool3 : Array CpInfo := pool [(2, .class_ 4), (1, u "java/lang/Object"), (0, u "<init>"), (0, u "()V"), (7, .class_ 16), (1, u "java/util/Arrays"), (57, .class_ 76), (1, u "java/util/Arrays$NaturalOrder"), (36, .class_ 115), (1, u "java/util/Arrays$LegacyMergeSort"), (1, u "Z"), (257, .class_ 376), (0, u "java/util/Arrays$ArrayList"), (68, u "$assertionsDisabled"), (269, u "MIN_ARRAY_SORT_GRAN"), (0, u "I"), (2, u "INSERTIONSORT_THRESHOLD"), (120, u "fill"), (4, u "([II)V"), (129, .class_ 976), (0, u "java/util/Arrays$ArrayItr")] 52

def k3m0 : Method := { name := "<init>", desc := "()V", sig := { parameters := [], returnType := none }, accessFlags := 2, code := none }
def k3c1 : Code := { maxStack := 3, maxLocals := 4, code := jdk_65_method_103_code, exceptionTable := #[], attributes := #[] }
def k3m1 : Method := { name := "fill", desc := "([II)V", sig := { parameters := [(.array .int), .int], returnType := none }, accessFlags := 9, code := some k3c1 }
/-- java/util/Arrays -/
def k3 : Class := { plain "java/util/Arrays" (some 0) with
  accessFlags := 49
  interfaces := #[]
  cf := some (fileOf pool3 14 #[.nestMembers #[975, 375, 113, 74]] #[{ accessFlags := 2, nameIndex := 5, descriptorIndex := 6, attributes := #[] }, { accessFlags := 9, nameIndex := 840, descriptorIndex := 845, attributes := #[] }] 49 2 #[] #[{ accessFlags := 26, nameIndex := 715, descriptorIndex := 716, attributes := #[] }, { accessFlags := 26, nameIndex := 719, descriptorIndex := 716, attributes := #[] }, { accessFlags := 4120, nameIndex := 445, descriptorIndex := 117, attributes := #[] }])
  fields := #[{ name := "MIN_ARRAY_SORT_GRAN", type := .int, accessFlags := 26, slot := 0, constantValue := 0 }, { name := "INSERTIONSORT_THRESHOLD", type := .int, accessFlags := 26, slot := 1, constantValue := 0 }, { name := "$assertionsDisabled", type := .boolean, accessFlags := 4120, slot := 2, constantValue := 0 }]
  methods := #[k3m0, k3m1]
  instanceTypes := #[]
  staticTypes := #[.int, .int, .boolean]
  resolved := Array.replicate 1029 none
  statics := none }

def pool4 : Array CpInfo := pool [(1, u "java/lang/Cloneable"), (0, .class_ 1), (0, u "java/lang/Object"), (0, .class_ 3)] 3

/-- java/lang/Cloneable -/
def k4 : Class := { plain "java/lang/Cloneable" (some 0) with
  accessFlags := 1537
  interfaces := #[]
  cf := some (fileOf pool4 2 #[] #[] 1537 4 #[] #[])
  fields := #[]
  methods := #[]
  instanceTypes := #[]
  staticTypes := #[]
  resolved := Array.replicate 8 none
  statics := none }

def pool5 : Array CpInfo := pool [(1, u "java/io/Serializable"), (0, .class_ 1), (0, u "java/lang/Object"), (0, .class_ 3)] 3

/-- java/io/Serializable -/
def k5 : Class := { plain "java/io/Serializable" (some 0) with
  accessFlags := 1537
  interfaces := #[]
  cf := some (fileOf pool5 2 #[] #[] 1537 4 #[] #[])
  fields := #[]
  methods := #[]
  instanceTypes := #[]
  staticTypes := #[]
  resolved := Array.replicate 8 none
  statics := none }

/-- the primitive byte -/
def k6 : Class := { plain "byte" none with kind := .primitive 'B', accessFlags := 0x411 }
/-- [B -/
def k7 : Class := { plain "[B" (some 0) with kind := .array 6 .byte, interfaces := #[4, 5], accessFlags := 1041 }

/-- the primitive int -/
def k8 : Class := { plain "int" none with kind := .primitive 'I', accessFlags := 0x411 }
/-- [I -/
def k9 : Class := { plain "[I" (some 0) with kind := .array 8 .int, interfaces := #[4, 5], accessFlags := 1041 }

def heap : Heap := #[]
def classes : Array Class := #[k0, k1, k2, k3, k4, k5, k6, k7, k8, k9]
def interned : List (Array UInt16 × Addr) := []
def slotsUsed : Nat := 0
def theMethod : MethodId := ⟨1, 4⟩
def args0 : Array Value := #[.int 7, .int 7, .int 7, .int 7]
def aboutOver (below : List Frame) : State where
  vm := { classes := classes, interned := interned.toArray }
  heap := heap
  slotsUsed := slotsUsed
  threads := #[{ frames := .invoking theMethod args0 :: below }]
def below0 : List Frame := [.native { method := ⟨0, 0⟩, args := #[] }]
def about1 : State := aboutOver below0
def p0 : Program := .bare "" "" ""
def e0 : Env := launch0.env 0 0 0
theorem w_frames : about1.frames = Frame.invoking theMethod args0 :: below0 := rfl
set_option maxRecDepth 65536 in
theorem w_args : argsFit about1.vm theMethod args0 = true := by decide +kernel
set_option maxRecDepth 65536 in
theorem w_heap : heapFits about1 = true := by decide +kernel
set_option maxRecDepth 65536 in
theorem w_runnable : about1.curStatus? = some .runnable := by decide +kernel
set_option maxRecDepth 65536 in
theorem w_alone : about1.alone = true := by decide +kernel
set_option maxRecDepth 65536 in
theorem w_named : about1.methodNamed? x = some theMethod := by decide +kernel
set_option maxRecDepth 65536 in
theorem w_hears : about1.hears theMethod below0 = true := by decide +kernel
set_option maxRecDepth 65536 in
theorem w_ripe : about1.ripe theMethod args0 below0 = true := by decide +kernel
theorem w_running : about1.status = .running := rfl
set_option maxRecDepth 65536 in
theorem w_room : about1.hasRoom e0.platform room_1 = true :=
  launch0.hasRoom_least _ room_1 (by decide +kernel) (by decide +kernel) (by decide +kernel) (by decide +kernel) (by decide +kernel) (by decide +kernel)
theorem allAtoms_all (ts : List Jvm.Cond) (a : Array Jvm.Value) (st : Jvm.State) : (allAtoms ts).before a st = ts.all (fun c => c.before a st) := by
  induction ts with
  | nil => rfl
  | cons c t ih =>
    show (Jvm.Cond.and c (allAtoms t)).before a st = _
    rw [Jvm.Cond.before_and, ih, List.all_cons]
def words1 : List Jvm.Cond := Jvm.Cond.code x code maxLocals ret :: tables_1
/-- a 'code' word, met by the world's own term for the bytes: nothing is compared byte by byte -/
theorem code_word {y : MethodName} {bytes : ByteArray} {mx : Nat} {rt : Option FieldType} {a : Array Value} {s : State} {m : MethodId} {meth : Method} {c : Code} (h1 : s.methodNamed? y = some m) (h2 : s.vm.method? m = some meth) (h3 : meth.code = some c) (h4 : c.code = bytes)
    (h5 : (c.maxLocals == mx && c.exceptionTable.isEmpty && decide (c.maxStack ≤ mostOperands) && decide (meth.sig.returnType = rt) && !meth.locks && decide (parseMethodDescriptor y.desc = some meth.sig)) = true) : (Jvm.Cond.code y bytes mx rt).before a s = true := by
  simp only [Bool.and_eq_true, beq_iff_eq, Bool.not_eq_true', decide_eq_true_eq] at h5
  obtain ⟨⟨⟨⟨⟨g1, g2⟩, g3⟩, g4⟩, g5⟩, g6⟩ := h5
  simp [Cond.before, Cond.holds, Cond.value, h1, h2, h3, h4, g1, g2, g3, g4, g5, g6]
def isCode : Jvm.Cond → Bool
  | .code _ _ _ _ => true
  | _ => false
theorem all_split {L : List Jvm.Cond} {P : Jvm.Cond → Bool} (h1 : L.all (fun c => isCode c || P c) = true) (h2 : ∀ c ∈ L.filter isCode, P c = true) : L.all P = true := by
  refine List.all_eq_true.mpr fun c hc => ?_
  have h := List.all_eq_true.mp h1 c hc
  rcases Bool.eq_false_or_eq_true (isCode c) with hi | hi
  · exact h2 c (List.mem_filter.mpr ⟨hc, hi⟩)
  · simpa [hi] using h
set_option maxRecDepth 65536 in
theorem w_c0 : (Jvm.Cond.code x code maxLocals ret).before args0 about1 = true := code_word (m := ⟨1, 4⟩) (meth := k1m4) (c := k1c4) (by decide +kernel) rfl rfl rfl (by decide +kernel)
set_option maxRecDepth 65536 in
theorem w_c1 : (Jvm.Cond.code ({ cls := "com/example/libgriddraw/libgriddraw/core/RotationSystemInsertClockwiseOfPinLaw", name := "lab", desc := "(II)I" } : Jvm.MethodName) method_2_code (2 : Nat) (Option.some Jvm.ClassFile.FieldType.int)).before args0 about1 = true := code_word (m := ⟨1, 1⟩) (meth := k1m1) (c := k1c1) (by decide +kernel) rfl rfl rfl (by decide +kernel)
set_option maxRecDepth 65536 in
theorem w_c2 : (Jvm.Cond.code ({ cls := "com/example/libgriddraw/libgriddraw/core/RotationSystem", name := "<init>", desc := "(II)V" } : Jvm.MethodName) prog_39_method_1_code (3 : Nat) (Option.none : Option Jvm.ClassFile.FieldType)).before args0 about1 = true := code_word (m := ⟨2, 0⟩) (meth := k2m0) (c := k2c0) (by decide +kernel) rfl rfl rfl (by decide +kernel)
set_option maxRecDepth 65536 in
theorem w_c3 : (Jvm.Cond.code ({ cls := "com/example/libgriddraw/libgriddraw/core/RotationSystem", name := "<init>", desc := "([I[I[I)V" } : Jvm.MethodName) prog_39_method_2_code (4 : Nat) (Option.none : Option Jvm.ClassFile.FieldType)).before args0 about1 = true := code_word (m := ⟨2, 1⟩) (meth := k2m1) (c := k2c1) (by decide +kernel) rfl rfl rfl (by decide +kernel)
set_option maxRecDepth 65536 in
theorem w_c4 : (Jvm.Cond.code ({ cls := "java/lang/Object", name := "<init>", desc := "()V" } : Jvm.MethodName) object_method_1_code (1 : Nat) (Option.none : Option Jvm.ClassFile.FieldType)).before args0 about1 = true := code_word (m := ⟨0, 0⟩) (meth := k0m0) (c := k0c0) (by decide +kernel) rfl rfl rfl (by decide +kernel)
set_option maxRecDepth 65536 in
theorem w_c5 : (Jvm.Cond.code ({ cls := "java/util/Arrays", name := "fill", desc := "([II)V" } : Jvm.MethodName) jdk_65_method_103_code (4 : Nat) (Option.none : Option Jvm.ClassFile.FieldType)).before args0 about1 = true := code_word (m := ⟨3, 1⟩) (meth := k3m1) (c := k3c1) (by decide +kernel) rfl rfl rfl (by decide +kernel)
set_option maxRecDepth 65536 in
theorem w_c6 : (Jvm.Cond.code ({ cls := "com/example/libgriddraw/libgriddraw/core/RotationSystem", name := "insertClockwiseOf", desc := "(III)V" } : Jvm.MethodName) prog_39_method_10_code (5 : Nat) (Option.none : Option Jvm.ClassFile.FieldType)).before args0 about1 = true := code_word (m := ⟨2, 5⟩) (meth := k2m5) (c := k2c5) (by decide +kernel) rfl rfl rfl (by decide +kernel)
set_option maxRecDepth 65536 in
theorem w_c7 : (Jvm.Cond.code ({ cls := "com/example/libgriddraw/libgriddraw/core/RotationSystem", name := "firstOut", desc := "(I)I" } : Jvm.MethodName) prog_39_method_5_code (2 : Nat) (Option.some Jvm.ClassFile.FieldType.int)).before args0 about1 = true := code_word (m := ⟨2, 2⟩) (meth := k2m2) (c := k2c2) (by decide +kernel) rfl rfl rfl (by decide +kernel)
set_option maxRecDepth 65536 in
theorem w_c8 : (Jvm.Cond.code ({ cls := "com/example/libgriddraw/libgriddraw/core/RotationSystem", name := "cwNext", desc := "(I)I" } : Jvm.MethodName) prog_39_method_7_code (2 : Nat) (Option.some Jvm.ClassFile.FieldType.int)).before args0 about1 = true := code_word (m := ⟨2, 4⟩) (meth := k2m4) (c := k2c4) (by decide +kernel) rfl rfl rfl (by decide +kernel)
set_option maxRecDepth 65536 in
theorem w_c9 : (Jvm.Cond.code ({ cls := "com/example/libgriddraw/libgriddraw/core/RotationSystemInsertClockwiseOfPinLaw", name := "expCw", desc := "(IIII)I" } : Jvm.MethodName) method_3_code (4 : Nat) (Option.some Jvm.ClassFile.FieldType.int)).before args0 about1 = true := code_word (m := ⟨1, 2⟩) (meth := k1m2) (c := k1c2) (by decide +kernel) rfl rfl rfl (by decide +kernel)
set_option maxRecDepth 65536 in
theorem w_c10 : (Jvm.Cond.code ({ cls := "com/example/libgriddraw/libgriddraw/core/RotationSystem", name := "ccwNext", desc := "(I)I" } : Jvm.MethodName) prog_39_method_6_code (2 : Nat) (Option.some Jvm.ClassFile.FieldType.int)).before args0 about1 = true := code_word (m := ⟨2, 3⟩) (meth := k2m3) (c := k2c3) (by decide +kernel) rfl rfl rfl (by decide +kernel)
set_option maxRecDepth 65536 in
theorem w_c11 : (Jvm.Cond.code ({ cls := "com/example/libgriddraw/libgriddraw/core/RotationSystemInsertClockwiseOfPinLaw", name := "expCcw", desc := "(IIII)I" } : Jvm.MethodName) method_4_code (4 : Nat) (Option.some Jvm.ClassFile.FieldType.int)).before args0 about1 = true := code_word (m := ⟨1, 3⟩) (meth := k1m3) (c := k1c3) (by decide +kernel) rfl rfl rfl (by decide +kernel)
def codes1 : List Jvm.Cond := [Jvm.Cond.code x code maxLocals ret, Jvm.Cond.code ({ cls := "com/example/libgriddraw/libgriddraw/core/RotationSystemInsertClockwiseOfPinLaw", name := "lab", desc := "(II)I" } : Jvm.MethodName) method_2_code (2 : Nat) (Option.some Jvm.ClassFile.FieldType.int), Jvm.Cond.code ({ cls := "com/example/libgriddraw/libgriddraw/core/RotationSystem", name := "<init>", desc := "(II)V" } : Jvm.MethodName) prog_39_method_1_code (3 : Nat) (Option.none : Option Jvm.ClassFile.FieldType), Jvm.Cond.code ({ cls := "com/example/libgriddraw/libgriddraw/core/RotationSystem", name := "<init>", desc := "([I[I[I)V" } : Jvm.MethodName) prog_39_method_2_code (4 : Nat) (Option.none : Option Jvm.ClassFile.FieldType), Jvm.Cond.code ({ cls := "java/lang/Object", name := "<init>", desc := "()V" } : Jvm.MethodName) object_method_1_code (1 : Nat) (Option.none : Option Jvm.ClassFile.FieldType), Jvm.Cond.code ({ cls := "java/util/Arrays", name := "fill", desc := "([II)V" } : Jvm.MethodName) jdk_65_method_103_code (4 : Nat) (Option.none : Option Jvm.ClassFile.FieldType), Jvm.Cond.code ({ cls := "com/example/libgriddraw/libgriddraw/core/RotationSystem", name := "insertClockwiseOf", desc := "(III)V" } : Jvm.MethodName) prog_39_method_10_code (5 : Nat) (Option.none : Option Jvm.ClassFile.FieldType), Jvm.Cond.code ({ cls := "com/example/libgriddraw/libgriddraw/core/RotationSystem", name := "firstOut", desc := "(I)I" } : Jvm.MethodName) prog_39_method_5_code (2 : Nat) (Option.some Jvm.ClassFile.FieldType.int), Jvm.Cond.code ({ cls := "com/example/libgriddraw/libgriddraw/core/RotationSystem", name := "cwNext", desc := "(I)I" } : Jvm.MethodName) prog_39_method_7_code (2 : Nat) (Option.some Jvm.ClassFile.FieldType.int), Jvm.Cond.code ({ cls := "com/example/libgriddraw/libgriddraw/core/RotationSystemInsertClockwiseOfPinLaw", name := "expCw", desc := "(IIII)I" } : Jvm.MethodName) method_3_code (4 : Nat) (Option.some Jvm.ClassFile.FieldType.int), Jvm.Cond.code ({ cls := "com/example/libgriddraw/libgriddraw/core/RotationSystem", name := "ccwNext", desc := "(I)I" } : Jvm.MethodName) prog_39_method_6_code (2 : Nat) (Option.some Jvm.ClassFile.FieldType.int), Jvm.Cond.code ({ cls := "com/example/libgriddraw/libgriddraw/core/RotationSystemInsertClockwiseOfPinLaw", name := "expCcw", desc := "(IIII)I" } : Jvm.MethodName) method_4_code (4 : Nat) (Option.some Jvm.ClassFile.FieldType.int)]
set_option maxRecDepth 65536 in
theorem codes_eq : words1.filter isCode = codes1 := rfl
theorem w_codes : ∀ c ∈ words1.filter isCode, c.before args0 about1 = true := by
  rw [codes_eq]
  intro c hc
  simp only [codes1, List.mem_cons, List.not_mem_nil, or_false] at hc
  rcases hc with rfl | rfl | rfl | rfl | rfl | rfl | rfl | rfl | rfl | rfl | rfl | rfl
  · exact w_c0
  · exact w_c1
  · exact w_c2
  · exact w_c3
  · exact w_c4
  · exact w_c5
  · exact w_c6
  · exact w_c7
  · exact w_c8
  · exact w_c9
  · exact w_c10
  · exact w_c11
set_option maxRecDepth 65536 in
theorem w_t1 : (words1.take 24).all (fun c => isCode c || c.before args0 about1) = true := by decide +kernel
set_option maxRecDepth 65536 in
theorem w_t2 : ((words1.drop 24).take 24).all (fun c => isCode c || c.before args0 about1) = true := by decide +kernel
set_option maxRecDepth 65536 in
theorem w_t3 : ((words1.drop 24).drop 24).all (fun c => isCode c || c.before args0 about1) = true := by decide +kernel
theorem w_tables : (allAtoms (Jvm.Cond.code x code maxLocals ret :: tables_1)).before args0 about1 = true := by
  rw [allAtoms_all]
  show words1.all (fun c => c.before args0 about1) = true
  refine all_split ?_ w_codes
  rw [← List.take_append_drop 24 words1, List.all_append, w_t1, ← List.take_append_drop 24 (words1.drop 24), List.all_append, w_t2, w_t3]
  rfl
set_option maxRecDepth 65536 in
theorem w_case : (Jvm.Cond.and given_1 narrow_1).before args0 about1 = true := by decide +kernel
theorem w_applies : (headSpec (Jvm.Cond.code x code maxLocals ret :: tables_1) room_1).applies x e0.platform about1 = true :=
  (Spec.applies_iff w_frames).mpr ⟨w_running, w_runnable, w_alone, w_named, w_hears, w_ripe, w_room, w_tables⟩
theorem atStart : AtStart classFile x code maxLocals ret World_1 tables_1 room_1 Calls_1 rest_1 Pre_1 launch0 p0 e0 about1 theMethod args0 below0 :=
  ⟨lists_1, trivial, launch0.admits_env _ _ _, launch0.least_env, fairChoices_fair.cas, fairChoices_fair.clock, w_frames, w_args, w_heap, w_applies, trivial, trivial, w_case⟩
end start1
theorem witness_1 : WitnessClaimed_1 := ⟨start1.p0, start1.e0, start1.about1, start1.theMethod, start1.args0, start1.below0, start1.atStart⟩
end Jvm.Pilot.@@N@@
