import JvmDerived
import JvmDerived.Pilot.@@N@@Statement
import JvmDerived.Pilot.@@N@@Code
set_option linter.unusedVariables false
set_option linter.unusedSimpArgs false
@@BLOCK:NumsL.lean.txt@@
namespace Jvm.Own
open Sem ClassFile Op Lib Jvm.Stand Jvm.Free Jvm.LawKit Jvm.RoadKit
section Kit
variable {p : Program} {l : Launch} {e : Env} {R : Room} {s : State} {m : MethodId} {args : Array Value} {below : List Frame} {meth : Method} {c : Code} {T : State} {locs : List Loc} {cells slots : Nat} {Z : State} {a0 : Array Value} {h : Heap}
/-- D is closed under going back over steps -/
def Clo (p : Program) (e : Env) (below : List Frame) (D : State → Prop) : Prop := ∀ (U U' : State), (∀ t, Steps p.tables e below U' t → Steps p.tables e below U t) → D U' → D U
/-- D holds wherever the body returns with what Q says -/
def Ret (p : Program) (l : Launch) (e : Env) (R : Room) (s : State) (m : MethodId) (args : Array Value) (below : List Frame) (meth : Method) (c : Code) (Q : Option Value → Heap → List Loc → Prop) (C N : Nat) (D : State → Prop) : Prop :=
  ∀ (T : State) (locs : List Loc) (cells slots : Nat) (v : Option Value) (U : State), Stand p l e R s m args below meth c T locs cells slots → (meth.sig.returnType = none → v = none) → cells ≤ C → slots ≤ N → Q v T.heap locs →
    (∀ fs, (∀ (f : JFrame) (acts : List Action), f.method = m → f.locked = none → f.entered = [] → (doReturn e (T.setTop f) acts v).1 = T.setFrames fs) → Steps p.tables e below U (T.setFrames fs)) → D U
theorem enter {y : MethodName} {code : ByteArray} {maxL : Nat} {ret : Option FieldType} {ws : List Cond} {rm : Room} {as' : Array Value} {h0 : Heap} {Q : Option Value → Heap → List Loc → Prop} {C N : Nat} (hpl : plainFor y = true)
    (body : ∀ (p : Program) (e : Env) (s : State) (m : MethodId) (below : List Frame) (meth : Method) (c : Code) (s₁ : State) (D : State → Prop),
      p.tables.exec = Jvm.exec → c.code = code → c.maxLocals = maxL → s.vm.findClass y.cls = some m.cls → meth.name = y.name → meth.sig.returnType = ret → Z.Warmed39 s.vm → Stand p l e rm s m as' below meth c s₁ [] 0 0 → s₁.heap = h0 →
      Clo p e below D → Ret p l e rm s m as' below meth c Q C N D → D (s₁.setTop (entryFrame m as' maxL))) :
    MetFree l y (head1 (Jvm.Cond.code y code maxL ret :: ws) rm) (fun a U => a = as' ∧ Z.Warmed39 U.vm ∧ U.heap = h0) (fun _ _ _ _ _ => True) (fun _ U o U' => ∃ v L, o = .returned v ∧ Q v U'.heap L ∧ FrameEnd U o U' L C N) := by
  refine MetFree.of_bodySF hpl hisR ?_
  intro p e s m args below meth c s₁ Bd hml hP hK
  obtain ⟨rfl, hZ, hh⟩ := hP
  have X0 : Stand p l e rm s m args below meth c s₁ [] 0 0 := Stand.of_body Bd
  refine body p e s m below meth c s₁ (fun U => ∃ s₂ o, Steps p.tables e below U s₂ ∧ s₂.status = .running ∧ Ended s₂ below o ∧ ∃ v L, o = .returned v ∧ Q v s₂.heap L ∧ FrameEnd s o s₂ L C N) Bd.exec Bd.bytes hml (findClass_of_methodNamed Bd.named) (name_of_methodNamed Bd.named Bd.method).1 Bd.returns hZ X0 (by rw [← hh, Bd.state]; rfl) ?_ ?_
  · rintro U U' k ⟨s₂, o, st, r⟩
    exact ⟨s₂, o, k _ st, r⟩
  · intro T locs cells slots v U X hv hc hn hQ k
    obtain ⟨fs, hr, hrun, hended, hW, hsame⟩ := X.leave (v := v) hv
    exact ⟨_, _, k fs hr, hrun, hended, v, locs, rfl, hQ, ⟨_, rfl⟩, hW, hsame.mono hc hn⟩
theorem mono {c' n' : Nat} (X : Stand p l e R s m args below meth c T locs cells slots) (hc : cells ≤ c') (hn : slots ≤ n') : Stand p l e R s m args below meth c T locs c' n' :=
  { X with same := X.same.weaken (fun _ hy _ => hy) hc hn }
theorem forget {k : Nat} (X : Stand p l e R s m args below meth c T locs cells slots) (N : Fr k locs) (hk : s.heap.size ≤ k) : Stand p l e R s m args below meth c T [] cells slots :=
  { X with same := X.same.weaken (fun y hy hlt => absurd hlt (Nat.not_lt.mpr (Nat.le_trans hk (N y hy)))) (Nat.le_refl _) (Nat.le_refl _) }
variable {Q : Option Value → Heap → List Loc → Prop} {C N : Nat} {D : State → Prop}
theorem retI (hR : Ret p l e R s m args below meth c Q C N D) (X : Stand p l e R s m args below meth c T locs cells slots) (hx : p.tables.exec = Jvm.exec) {pc : Nat} {Ls : Array Slot} {z : Int32} {rest : List Value} (hret : meth.sig.returnType = some .int) (hd : decode c.code pc = .ok (.ireturn, 1)) (hc : cells ≤ C) (hn : slots ≤ N) (hQ : Q (some (.int z)) T.heap locs) : D (T.setTop (mkF m pc Ls (.int z :: rest))) := by
  refine hR T locs cells slots (some (.int z)) _ X (fun h => by rw [hret] at h; cases h) hc hn hQ fun fs hl => ?_
  have hm' : T.vm.method? m = some meth := X.method'
  have hn : narrow .int (.int z) = .int z := rfl
  show Steps p.tables e below (T.setTop { method := m, pc := pc, locals := Ls, stack := _ :: rest, locked := none }) _
  jvm_step X.here [X.here.top, hx, hd, hm', hret, hn]
  first | (intro acts; rw [hl _ acts rfl rfl rfl]) | rw [hl _ _ rfl rfl rfl]
  exact Steps.refl _
theorem retN (hR : Ret p l e R s m args below meth c Q C N D) (X : Stand p l e R s m args below meth c T locs cells slots) (hx : p.tables.exec = Jvm.exec) {pc : Nat} {Ls : Array Slot} {z : Int32} {t : FieldType} {rest : List Value} (hret : meth.sig.returnType = some t) (ht : t = .boolean ∨ t = .byte ∨ t = .char ∨ t = .short) (hd : decode c.code pc = .ok (.ireturn, 1)) (hc : cells ≤ C) (hn : slots ≤ N) (hz : nar t z = z) (hQ : Q (some (.int z)) T.heap locs) : D (T.setTop (mkF m pc Ls (.int z :: rest))) := by
  refine hR T locs cells slots (some (.int z)) _ X (fun h => by rw [hret] at h; cases h) hc hn hQ fun fs hl => ?_
  exact Jvm.RoadKit.retN X hx hret ht hd (by rw [hz]; exact hl)
theorem retJ (hR : Ret p l e R s m args below meth c Q C N D) (X : Stand p l e R s m args below meth c T locs cells slots) (hx : p.tables.exec = Jvm.exec) {pc : Nat} {Ls : Array Slot} {z : Int64} (hret : meth.sig.returnType = some .long) (hd : decode c.code pc = .ok (.lreturn, 1)) (hc : cells ≤ C) (hn : slots ≤ N) (hQ : Q (some (.long z)) T.heap locs) : D (T.setTop (mkF m pc Ls [.long z])) :=
  hR T locs cells slots (some (.long z)) _ X (fun h => by rw [hret] at h; cases h) hc hn hQ fun fs hl => X.lreturnOut hx hret hd hl
theorem retA (hR : Ret p l e R s m args below meth c Q C N D) (X : Stand p l e R s m args below meth c T locs cells slots) (hx : p.tables.exec = Jvm.exec) {pc : Nat} {Ls : Array Slot} {w : Value} {t : FieldType} (hw : w.isRef = true) (hret : meth.sig.returnType = some t) (ht : t.isReference = true) (hd : decode c.code pc = .ok (.areturn, 1)) (hc : cells ≤ C) (hn : slots ≤ N) (hQ : Q (some w) T.heap locs) : D (T.setTop (mkF m pc Ls [w])) :=
  hR T locs cells slots (some w) _ X (fun h => by rw [hret] at h; cases h) hc hn hQ fun fs hl => X.areturnOut hx hw hret ht hd hl
theorem retV (hR : Ret p l e R s m args below meth c Q C N D) (X : Stand p l e R s m args below meth c T locs cells slots) (hx : p.tables.exec = Jvm.exec) {pc : Nat} {Ls : Array Slot} (hret : meth.sig.returnType = none) (hd : decode c.code pc = .ok (.return_, 1)) (hc : cells ≤ C) (hn : slots ≤ N) (hQ : Q none T.heap locs) : D (T.setTop (mkF m pc Ls [])) :=
  hR T locs cells slots none _ X (fun _ => rfl) hc hn hQ fun fs hl => X.returnOut hx hret hd hl
/-! calls -/
variable {y z : MethodName} {bytes : ByteArray} {maxL : Nat} {ret : Option FieldType} {rm : Room} {W : Nat} {Qc : Option Value → Heap → List Loc → Prop} {own Cn : String} {index : Nat} {g : JFrame} {argsL rest : List Value} {a : Addr}
theorem callS (X : Stand p l e R s m args below meth c T locs cells slots) (hx : p.tables.exec = Jvm.exec) (hZ : Z.Warmed39 s.vm) (hown : s.vm.findClass own = some m.cls)
    (w1 : (Cond.methodLink own index y).before a0 Z = true) (w2 : (Cond.static y).before a0 Z = true) (w3 : (Cond.initialized y.cls).before a0 Z = true) (w4 : (Cond.code y bytes maxL ret).before a0 Z = true)
    (hy : y.cls ≠ "java/lang/invoke/MethodHandle" ∧ y.cls ≠ "java/lang/invoke/VarHandle") (e0 : T.heap = h)
    (hM : MetFree l y (head1 [Cond.code y bytes maxL ret] rm) (fun a U => a = argsL.toArray ∧ Z.Warmed39 U.vm ∧ U.heap = h) (fun _ _ _ _ _ => True) (fun _ U o U' => ∃ v L, o = .returned v ∧ Qc v U'.heap L ∧ FrameEnd U o U' L rm.cells rm.slots))
    (hf : rm.frames + 1 ≤ R.frames) (hl : W + (maxL + 11) + rm.locals ≤ R.locals) (hcells : cells + rm.cells ≤ R.cells) (hslots : slots + rm.slots ≤ R.slots)
    (hg : g.method = m) (hsize : g.locals.size = c.maxLocals) (hlen : ∀ sig, parseMethodDescriptor y.desc = some sig → argsL.length = sig.parameters.length)
    (hstack : g.stack = argsL.reverse ++ rest) (hW : 2 * g.monitorRoom + (rest.map fun v => v.category).sum ≤ W) (hdg : decode c.code g.pc = .ok (.invokestatic index, 3)) :
    ∃ (T' : State) (v : Option Value) (L : List Loc), Stand p l e R s m args below meth c T' (locs ++ L) (cells + rm.cells) (slots + rm.slots) ∧ Qc v T'.heap L ∧
      ∀ t, Steps p.tables e below (T'.setTop { g with pc := g.pc + 3, stack := v.toList ++ rest }) t → Steps p.tables e below (T.setTop g) t := by
  obtain ⟨v, _, ⟨T', L', k', n'⟩, -, X', ⟨Lc, hQ, l1, y1, z1⟩, st⟩ := Jvm.LawKit.callS X hx (y := y) hown (mvT hZ w1) (mvT hZ w2) (mvT hZ w3) (mvT hZ w4) hy (backOf (W := W) hM hZ w4 w3 hf hl) hg hsize hlen hstack hW hdg (fun _ _ => ⟨rfl, e0, hcells, hslots⟩)
  dsimp only [Pt.U, Pt.locs, Pt.cells, Pt.slots] at X' l1 y1 z1 st hQ
  subst l1 y1 z1
  exact ⟨T', v, Lc, X', hQ, st⟩
theorem callI (X : Stand p l e R s m args below meth c T locs cells slots) (hx : p.tables.exec = Jvm.exec) (hZ : Z.Warmed39 s.vm) (hown : s.vm.findClass own = some m.cls) (hy1 : y.name = "<init>")
    (w1 : (Cond.methodLink own index y).before a0 Z = true) (w2 : (Cond.instanceMethod y).before a0 Z = true) (w3 : (Cond.initialized y.cls).before a0 Z = true) (w4 : (Cond.code y bytes maxL none).before a0 Z = true)
    (hy : y.cls ≠ "java/lang/invoke/MethodHandle" ∧ y.cls ≠ "java/lang/invoke/VarHandle") (e0 : T.heap = h)
    (hM : MetFree l y (head1 [Cond.code y bytes maxL none] rm) (fun q U => q = (.ref a :: argsL).toArray ∧ Z.Warmed39 U.vm ∧ U.heap = h) (fun _ _ _ _ _ => True) (fun _ U o U' => ∃ v L, o = .returned v ∧ Qc v U'.heap L ∧ FrameEnd U o U' L rm.cells rm.slots))
    (hf : rm.frames + 1 ≤ R.frames) (hl : W + (maxL + 11) + rm.locals ≤ R.locals) (hcells : cells + rm.cells ≤ R.cells) (hslots : slots + rm.slots ≤ R.slots)
    (hg : g.method = m) (hsize : g.locals.size = c.maxLocals) (hlen : ∀ sig, parseMethodDescriptor y.desc = some sig → argsL.length = sig.parameters.length)
    (hstack : g.stack = argsL.reverse ++ .ref a :: rest) (hW : 2 * g.monitorRoom + (rest.map fun v => v.category).sum ≤ W) (hdg : decode c.code g.pc = .ok (.invokespecial index, 3)) :
    ∃ (T' : State) (v : Option Value) (L : List Loc), Stand p l e R s m args below meth c T' (locs ++ L) (cells + rm.cells) (slots + rm.slots) ∧ Qc v T'.heap L ∧
      ∀ t, Steps p.tables e below (T'.setTop { g with pc := g.pc + 3, stack := v.toList ++ rest }) t → Steps p.tables e below (T.setTop g) t := by
  obtain ⟨v, _, ⟨T', L', k', n'⟩, -, X', ⟨Lc, hQ, l1, y1, z1⟩, st⟩ := X.specialBack hx (y := y) hy1 hown (mvT hZ w1) (mvT hZ w2) (mvT hZ w4) hy (backOf (W := W) hM hZ w4 w3 hf hl) hg hsize (Steps.refl _) hlen hstack hW hdg (fun _ _ => ⟨rfl, e0, hcells, hslots⟩)
  dsimp only [Pt.U, Pt.locs, Pt.cells, Pt.slots] at X' l1 y1 z1 st hQ
  subst l1 y1 z1
  exact ⟨T', v, Lc, X', hQ, fun t k => st.trans k⟩
theorem callV (X : Stand p l e R s m args below meth c T locs cells slots) (hx : p.tables.exec = Jvm.exec) (hZ : Z.Warmed39 s.vm) (hown : s.vm.findClass own = some m.cls)
    (w1 : (Cond.methodLink own index y).before a0 Z = true) (w5 : (Cond.declares y).before a0 Z = true) (w6 : (Cond.selects Cn y y).before a0 Z = true) (w2 : (Cond.instanceMethod y).before a0 Z = true) (w3 : (Cond.initialized y.cls).before a0 Z = true) (w4 : (Cond.code y bytes maxL ret).before a0 Z = true)
    (hy : y.cls ≠ "java/lang/invoke/MethodHandle" ∧ y.cls ≠ "java/lang/invoke/VarHandle") (e0 : T.heap = h) (E : Exa Z h a Cn)
    (hM : MetFree l y (head1 [Cond.code y bytes maxL ret] rm) (fun q U => q = (.ref a :: argsL).toArray ∧ Z.Warmed39 U.vm ∧ U.heap = h) (fun _ _ _ _ _ => True) (fun _ U o U' => ∃ v L, o = .returned v ∧ Qc v U'.heap L ∧ FrameEnd U o U' L rm.cells rm.slots))
    (hf : rm.frames + 1 ≤ R.frames) (hl : W + (maxL + 11) + rm.locals ≤ R.locals) (hcells : cells + rm.cells ≤ R.cells) (hslots : slots + rm.slots ≤ R.slots)
    (hg : g.method = m) (hsize : g.locals.size = c.maxLocals) (hlen : ∀ sig, parseMethodDescriptor y.desc = some sig → argsL.length = sig.parameters.length)
    (hstack : g.stack = argsL.reverse ++ .ref a :: rest) (hW : 2 * g.monitorRoom + (rest.map fun v => v.category).sum ≤ W) (hdg : decode c.code g.pc = .ok (.invokevirtual index, 3)) :
    ∃ (T' : State) (v : Option Value) (L : List Loc), Stand p l e R s m args below meth c T' (locs ++ L) (cells + rm.cells) (slots + rm.slots) ∧ Qc v T'.heap L ∧
      ∀ t, Steps p.tables e below (T'.setTop { g with pc := g.pc + 3, stack := v.toList ++ rest }) t → Steps p.tables e below (T.setTop g) t := by
  obtain ⟨cq, kq, q1, q2, q3⟩ := isOf hZ e0 E
  obtain ⟨v, _, ⟨T', L', k', n'⟩, -, X', ⟨Lc, hQ, l1, y1, z1⟩, st⟩ := X.virtualBack hx (y := y) (z := y) hown (mvT hZ w1) (mvT hZ w5) (notFace_of_selects (args := #[]) (mvT hZ w6)) (mvT hZ w6) (mvT hZ w2) hy (backOf (W := W) hM hZ w4 w3 hf hl) q1 q3 hg hsize (Steps.refl _) hlen hstack hW hdg (fun _ _ => ⟨rfl, e0, hcells, hslots⟩)
  dsimp only [Pt.U, Pt.locs, Pt.cells, Pt.slots] at X' l1 y1 z1 st hQ
  subst l1 y1 z1
  exact ⟨T', v, Lc, X', hQ, fun t k => st.trans k⟩
/-! arrays, as functions of the place -/
def AvI (Z : State) (h : Heap) (a : Addr) (ty : FieldType) (n : Nat) (f : Nat → Int32) : Prop := ∃ c : Cell, Arr Z h a c ty ∧ c.slots.size = n ∧ n < 2 ^ 31 ∧ ∀ i, i < n → c.slots[i]? = some (.int (f i))
def AvJ (Z : State) (h : Heap) (a : Addr) (n : Nat) (f : Nat → Int64) : Prop := ∃ c : Cell, Arr Z h a c .long ∧ c.slots.size = n ∧ n < 2 ^ 31 ∧ ∀ i, i < n → c.slots[i]? = some (.long (f i))
variable {h' : Heap} {ty : FieldType} {n : Nat} {f f' : Nat → Int32} {fj fj' : Nat → Int64} {j x : Int32} {xl : Int64} {b : Addr} {sl : Nat} {v : Value} {ws : List Addr}
theorem clamp (hj : 0 ≤ j.toInt ∧ j.toInt < n) : j.toNatClampNeg = j.toInt.toNat ∧ ¬ j < 0 := by
  refine ⟨rfl, ?_⟩
  rw [Int32.lt_iff_toInt_lt, Int32.toInt_zero]; omega
theorem inb {c : Cell} (S : c.slots.size = n) (hj : 0 ≤ j.toInt ∧ j.toInt < n) : ¬ (j < 0 ∨ c.slots.size ≤ j.toNatClampNeg) := by
  have q := clamp hj
  rw [q.1, S]
  intro w
  rcases w with w | w
  · exact q.2 w
  · omega
theorem AvI.lt (A : AvI Z h a ty n f) : a < h.size := by obtain ⟨c, A, -⟩ := A; exact A.lt
theorem AvJ.lt (A : AvJ Z h a n fj) : a < h.size := by obtain ⟨c, A, -⟩ := A; exact A.lt
theorem AvI.ext (A : AvI Z h a ty n f) (E : Ext h h') : AvI Z h' a ty n f := by obtain ⟨c, A, r⟩ := A; exact ⟨c, A.ext E, r⟩
theorem AvJ.ext (A : AvJ Z h a n fj) (E : Ext h h') : AvJ Z h' a n fj := by obtain ⟨c, A, r⟩ := A; exact ⟨c, A.ext E, r⟩
theorem AvI.other (A : AvI Z h b ty n f) (W : Wr h h' a sl v) (q : b ≠ a) : AvI Z h' b ty n f := by obtain ⟨c, A, r⟩ := A; exact ⟨c, A.other W q, r⟩
theorem AvJ.other (A : AvJ Z h b n fj) (W : Wr h h' a sl v) (q : b ≠ a) : AvJ Z h' b n fj := by obtain ⟨c, A, r⟩ := A; exact ⟨c, A.other W q, r⟩
theorem AvI.keep (A : AvI Z h a ty n f) (K : Keep h h' ws) (q : a ∉ ws) : AvI Z h' a ty n f := by obtain ⟨c, A, r⟩ := A; exact ⟨c, ⟨K.2.1 a c A.1 q, A.2⟩, r⟩
theorem AvJ.keep (A : AvJ Z h a n fj) (K : Keep h h' ws) (q : a ∉ ws) : AvJ Z h' a n fj := by obtain ⟨c, A, r⟩ := A; exact ⟨c, ⟨K.2.1 a c A.1 q, A.2⟩, r⟩
theorem AvI.congr (A : AvI Z h a ty n f) (q : ∀ i, i < n → f' i = f i) : AvI Z h a ty n f' := by obtain ⟨c, A, S, M, H⟩ := A; exact ⟨c, A, S, M, fun i hi => by rw [q i hi]; exact H i hi⟩
theorem AvJ.congr (A : AvJ Z h a n fj) (q : ∀ i, i < n → fj' i = fj i) : AvJ Z h a n fj' := by obtain ⟨c, A, S, M, H⟩ := A; exact ⟨c, A, S, M, fun i hi => by rw [q i hi]; exact H i hi⟩
theorem AvI.new {cA : ClassId} {z : Int32} (A : Arr Z h a (newA cA ty z) ty) (hz : z.toInt = n) (hd : defaultValue ty = .int 0) : AvI Z h a ty n (fun _ => 0) := by
  have q : z.toNatClampNeg = n := by show z.toInt.toNat = n; omega
  refine ⟨_, A, by rw [sz_new]; exact q, by have := z.toInt_lt; omega, fun i hi => ?_⟩
  simp [newA, q, hi, hd]
theorem AvJ.new {cA : ClassId} {z : Int32} (A : Arr Z h a (newA cA .long z) .long) (hz : z.toInt = n) : AvJ Z h a n (fun _ => 0) := by
  have q : z.toNatClampNeg = n := by show z.toInt.toNat = n; omega
  refine ⟨_, A, by rw [sz_new]; exact q, by have := z.toInt_lt; omega, fun i hi => ?_⟩
  simp [newA, q, hi, defaultValue]
theorem len_nat {c : Cell} (S : c.slots.size = n) (M : n < 2 ^ 31) : c.slots.size.toInt32 = Int32.ofNat n := by rw [S]
theorem lenI (X : Stand p l e R s m args below meth c T locs cells slots) (hx : p.tables.exec = Jvm.exec) (hZ : Z.Warmed39 s.vm) (e0 : T.heap = h) (A : AvI Z h a ty n f) (hg : g.method = m) (hs : g.stack = .ref a :: rest) (hd : decode c.code g.pc = .ok (.arraylength, 1)) :
    ∀ t, Steps p.tables e below (T.setTop { g with pc := g.pc + 1, stack := .int (Int32.ofNat n) :: rest }) t → Steps p.tables e below (T.setTop g) t := by
  obtain ⟨c, A, S, M, H⟩ := A
  intro t k
  refine X.arraylength hx (by rw [e0]; exact A.1) (State.isArrayOf_alike hZ.alike A.2.1) hg hs hd _ ?_
  rw [len_nat S M]; exact k
theorem lenJ (X : Stand p l e R s m args below meth c T locs cells slots) (hx : p.tables.exec = Jvm.exec) (hZ : Z.Warmed39 s.vm) (e0 : T.heap = h) (A : AvJ Z h a n fj) (hg : g.method = m) (hs : g.stack = .ref a :: rest) (hd : decode c.code g.pc = .ok (.arraylength, 1)) :
    ∀ t, Steps p.tables e below (T.setTop { g with pc := g.pc + 1, stack := .int (Int32.ofNat n) :: rest }) t → Steps p.tables e below (T.setTop g) t := by
  obtain ⟨c, A, S, M, H⟩ := A
  intro t k
  refine X.arraylength hx (by rw [e0]; exact A.1) (State.isArrayOf_alike hZ.alike A.2.1) hg hs hd _ ?_
  rw [len_nat S M]; exact k
theorem ldI (X : Stand p l e R s m args below meth c T locs cells slots) (hx : p.tables.exec = Jvm.exec) (hZ : Z.Warmed39 s.vm) (e0 : T.heap = h) (A : AvI Z h a .int n f) (hj : 0 ≤ j.toInt ∧ j.toInt < n) (hg : g.method = m) (hs : g.stack = .int j :: .ref a :: rest) (hd : decode c.code g.pc = .ok (.iaload, 1)) :
    ∀ t, Steps p.tables e below (T.setTop { g with pc := g.pc + 1, stack := .int (f j.toInt.toNat) :: rest }) t → Steps p.tables e below (T.setTop g) t := by
  obtain ⟨c, A, S, M, H⟩ := A
  exact fun t k => X.iaload hx (by rw [e0]; exact A.1) (State.isArrayOf_alike hZ.alike A.2.1) A.2.2 (inb S hj) (by rw [(clamp hj).1]; exact H _ (by omega)) hg hs hd _ k
theorem ldJ (X : Stand p l e R s m args below meth c T locs cells slots) (hx : p.tables.exec = Jvm.exec) (hZ : Z.Warmed39 s.vm) (e0 : T.heap = h) (A : AvJ Z h a n fj) (hj : 0 ≤ j.toInt ∧ j.toInt < n) (hg : g.method = m) (hs : g.stack = .int j :: .ref a :: rest) (hd : decode c.code g.pc = .ok (.laload, 1)) :
    ∀ t, Steps p.tables e below (T.setTop { g with pc := g.pc + 1, stack := .long (fj j.toInt.toNat) :: rest }) t → Steps p.tables e below (T.setTop g) t := by
  obtain ⟨c, A, S, M, H⟩ := A
  exact fun t k => X.laload hx (by rw [e0]; exact A.1) (State.isArrayOf_alike hZ.alike A.2.1) A.2.2 (inb S hj) (by rw [(clamp hj).1]; exact H _ (by omega)) hg hs hd _ k
theorem ldB (X : Stand p l e R s m args below meth c T locs cells slots) (hx : p.tables.exec = Jvm.exec) (hZ : Z.Warmed39 s.vm) (e0 : T.heap = h) (A : AvI Z h a .byte n f) (hj : 0 ≤ j.toInt ∧ j.toInt < n) (hg : g.method = m) (hs : g.stack = .int j :: .ref a :: rest) (hd : decode c.code g.pc = .ok (.baload, 1)) :
    ∀ t, Steps p.tables e below (T.setTop { g with pc := g.pc + 1, stack := .int (f j.toInt.toNat) :: rest }) t → Steps p.tables e below (T.setTop g) t := by
  obtain ⟨c, A, S, M, H⟩ := A
  exact fun t k => X.baloadBytes hx (by rw [e0]; exact A.1) (State.isArrayOf_alike hZ.alike A.2.1) A.2.2 (inb S hj) (by rw [(clamp hj).1]; exact H _ (by omega)) hg hs hd _ k
theorem AvI.set (A : AvI Z h a ty n f) (hj : 0 ≤ j.toInt ∧ j.toInt < n) (W : Wr h h' a j.toNatClampNeg (.int x)) : AvI Z h' a ty n (fun i => if i = j.toInt.toNat then x else f i) := by
  obtain ⟨c, A, S, M, H⟩ := A
  refine ⟨_, A.same W, by rw [sz_set]; exact S, M, fun i hi => ?_⟩
  rw [(clamp hj).1]
  by_cases q : i = j.toInt.toNat
  · subst q
    simp only [Cell.setSlot, if_true]
    show (c.slots.setIfInBounds j.toInt.toNat _)[j.toInt.toNat]? = _
    rw [Array.getElem?_setIfInBounds, if_pos rfl, if_pos (by rw [S]; exact hi)]
  · simp only [Cell.setSlot, q, if_false]
    rw [Array.getElem?_setIfInBounds_ne (Ne.symm q)]; exact H i hi
theorem AvJ.set (A : AvJ Z h a n fj) (hj : 0 ≤ j.toInt ∧ j.toInt < n) (W : Wr h h' a j.toNatClampNeg (.long xl)) : AvJ Z h' a n (fun i => if i = j.toInt.toNat then xl else fj i) := by
  obtain ⟨c, A, S, M, H⟩ := A
  refine ⟨_, A.same W, by rw [sz_set]; exact S, M, fun i hi => ?_⟩
  rw [(clamp hj).1]
  by_cases q : i = j.toInt.toNat
  · subst q
    simp only [Cell.setSlot, if_true]
    show (c.slots.setIfInBounds j.toInt.toNat _)[j.toInt.toNat]? = _
    rw [Array.getElem?_setIfInBounds, if_pos rfl, if_pos (by rw [S]; exact hi)]
  · simp only [Cell.setSlot, q, if_false]
    rw [Array.getElem?_setIfInBounds_ne (Ne.symm q)]; exact H i hi
theorem stoI (X : Stand p l e R s m args below meth c T locs cells slots) (hx : p.tables.exec = Jvm.exec) (hZ : Z.Warmed39 s.vm) (e0 : T.heap = h) (A : AvI Z h a .int n f) (hj : 0 ≤ j.toInt ∧ j.toInt < n) (hg : g.method = m) (hs : g.stack = .int x :: .int j :: .ref a :: rest) (hd : decode c.code g.pc = .ok (.iastore, 1)) :
    ∃ T' h', Stand p l e R s m args below meth c T' (locs ++ [⟨a, j.toNatClampNeg⟩]) cells slots ∧ T'.heap = h' ∧ AvI Z h' a .int n (fun i => if i = j.toInt.toNat then x else f i) ∧ Wr h h' a j.toNatClampNeg (.int x) ∧ ∀ t, Steps p.tables e below (T'.setTop { g with pc := g.pc + 1, stack := rest }) t → Steps p.tables e below (T.setTop g) t := by
  obtain ⟨c, A', S, M, H⟩ := id A
  obtain ⟨T', h', X', e', W, st⟩ := stI X hx hZ e0 A' (inb S hj) hg hs hd
  exact ⟨T', h', X', e', A.set hj W, W, st⟩
theorem stoJ (X : Stand p l e R s m args below meth c T locs cells slots) (hx : p.tables.exec = Jvm.exec) (hZ : Z.Warmed39 s.vm) (e0 : T.heap = h) (A : AvJ Z h a n fj) (hj : 0 ≤ j.toInt ∧ j.toInt < n) (hg : g.method = m) (hs : g.stack = .long xl :: .int j :: .ref a :: rest) (hd : decode c.code g.pc = .ok (.lastore, 1)) :
    ∃ T' h', Stand p l e R s m args below meth c T' (locs ++ [⟨a, j.toNatClampNeg⟩]) cells slots ∧ T'.heap = h' ∧ AvJ Z h' a n (fun i => if i = j.toInt.toNat then xl else fj i) ∧ Wr h h' a j.toNatClampNeg (.long xl) ∧ ∀ t, Steps p.tables e below (T'.setTop { g with pc := g.pc + 1, stack := rest }) t → Steps p.tables e below (T.setTop g) t := by
  obtain ⟨c, A', S, M, H⟩ := id A
  obtain ⟨T', h', X', e', W, st⟩ := stJ X hx hZ e0 A' (inb S hj) hg hs hd
  exact ⟨T', h', X', e', A.set hj W, W, st⟩
theorem stoB (X : Stand p l e R s m args below meth c T locs cells slots) (hx : p.tables.exec = Jvm.exec) (hZ : Z.Warmed39 s.vm) (e0 : T.heap = h) (A : AvI Z h a .byte n f) (hj : 0 ≤ j.toInt ∧ j.toInt < n) (hg : g.method = m) (hs : g.stack = .int x :: .int j :: .ref a :: rest) (hd : decode c.code g.pc = .ok (.bastore, 1)) :
    ∃ T' h', Stand p l e R s m args below meth c T' (locs ++ [⟨a, j.toNatClampNeg⟩]) cells slots ∧ T'.heap = h' ∧ AvI Z h' a .byte n (fun i => if i = j.toInt.toNat then nar .byte x else f i) ∧ Wr h h' a j.toNatClampNeg (.int (nar .byte x)) ∧ ∀ t, Steps p.tables e below (T'.setTop { g with pc := g.pc + 1, stack := rest }) t → Steps p.tables e below (T.setTop g) t := by
  obtain ⟨c, A', S, M, H⟩ := id A
  obtain ⟨T', h', X', e', W, st⟩ := stB X hx hZ e0 A' (inb S hj) hg hs hd
  exact ⟨T', h', X', e', A.set hj W, W, st⟩
theorem stoZ (X : Stand p l e R s m args below meth c T locs cells slots) (hx : p.tables.exec = Jvm.exec) (hZ : Z.Warmed39 s.vm) (e0 : T.heap = h) (A : AvI Z h a .boolean n f) (hj : 0 ≤ j.toInt ∧ j.toInt < n) (hg : g.method = m) (hs : g.stack = .int x :: .int j :: .ref a :: rest) (hd : decode c.code g.pc = .ok (.bastore, 1)) :
    ∃ T' h', Stand p l e R s m args below meth c T' (locs ++ [⟨a, j.toNatClampNeg⟩]) cells slots ∧ T'.heap = h' ∧ AvI Z h' a .boolean n (fun i => if i = j.toInt.toNat then nar .boolean x else f i) ∧ Wr h h' a j.toNatClampNeg (.int (nar .boolean x)) ∧ ∀ t, Steps p.tables e below (T'.setTop { g with pc := g.pc + 1, stack := rest }) t → Steps p.tables e below (T.setTop g) t := by
  obtain ⟨c, A', S, M, H⟩ := id A
  obtain ⟨T', h', X', e', W, st⟩ := stZ X hx hZ e0 A' (inb S hj) hg hs hd
  exact ⟨T', h', X', e', A.set hj W, W, st⟩
theorem snoc {k : Nat} (N : Fr k locs) (q : k ≤ a) : Fr k (locs ++ [⟨a, sl⟩]) := N.app fun y hy => by cases List.mem_singleton.mp hy; exact q
theorem nmI {v x : Int32} {pc : Nat} {ls : Array Slot} {st : List Value} {t : State} (q : v = x) (k : Steps p.tables e below (T.setTop (mkF m pc ls (.int v :: st))) t) : Steps p.tables e below (T.setTop (mkF m pc ls (.int x :: st))) t := by subst q; exact k
theorem nmJ {v x : Int64} {pc : Nat} {ls : Array Slot} {st : List Value} {t : State} (q : v = x) (k : Steps p.tables e below (T.setTop (mkF m pc ls (.long v :: st))) t) : Steps p.tables e below (T.setTop (mkF m pc ls (.long x :: st))) t := by subst q; exact k
theorem ne_of {x y : Nat} (q : @Ne Nat x y) : @Ne Addr x y := q
theorem ldZ (X : Stand p l e R s m args below meth c T locs cells slots) (hx : p.tables.exec = Jvm.exec) (hZ : Z.Warmed39 s.vm) (e0 : T.heap = h) (A : AvI Z h a .boolean n f) (hj : 0 ≤ j.toInt ∧ j.toInt < n) (hg : g.method = m) (hs : g.stack = .int j :: .ref a :: rest) (hd : decode c.code g.pc = .ok (.baload, 1)) :
    ∀ t, Steps p.tables e below (T.setTop { g with pc := g.pc + 1, stack := .int (f j.toInt.toNat) :: rest }) t → Steps p.tables e below (T.setTop g) t := by
  obtain ⟨c, A, S, M, H⟩ := A
  exact fun t k => X.baloadBooleans hx (by rw [e0]; exact A.1) (State.isArrayOf_alike hZ.alike A.2.1) A.2.2 (inb S hj) (by rw [(clamp hj).1]; exact H _ (by omega)) hg hs hd _ k
theorem lrem_eq (x y : Int64) : x - x / y * y = x % y := by
  apply Int64.toInt_inj.mp
  have hy := Int64.toInt_mod x y
  have q := Int64.toInt_div x y
  rw [hy, Int64.toInt_sub, Int64.toInt_mul, q]
  have h1 := Int.tmod_add_mul_tdiv x.toInt y.toInt
  have h2 : x.toInt.tmod y.toInt = x.toInt - x.toInt.tdiv y.toInt * y.toInt := by rw [Int.mul_comm]; omega
  have h3 := rng64 x
  have h4 := rng64 y
  have h5 : (x.toInt.tmod y.toInt) % (2 ^ 64) = (x.toInt - x.toInt.tdiv y.toInt * y.toInt) % (2 ^ 64) := by rw [h2]
  have h6 : -2 ^ 63 ≤ x.toInt.tmod y.toInt ∧ x.toInt.tmod y.toInt < 2 ^ 63 := by rw [← hy]; exact ⟨(x % y).le_toInt, (x % y).toInt_lt⟩
  rw [← Int.bmod_eq_of_le (n := x.toInt.tmod y.toInt) (m := 2 ^ 64) (by omega) (by omega), h2]
  simp only [Int.bmod_sub_bmod, Int.sub_bmod_bmod, Int.bmod_mul_bmod, Int.mul_bmod_bmod]
theorem lremM {t : State} (X : Stand p l e R s m args below meth c T locs cells slots) (hx : p.tables.exec = Jvm.exec) (hg : g.method = m) {x y : Int64} (hd : decode c.code g.pc = .ok (.lrem, 1)) (hs : g.stack = .long y :: .long x :: rest) (hy : y ≠ 0)
    (hr : Steps p.tables e below (T.setTop { g with pc := g.pc + 1, stack := .long (x % y) :: rest }) t) : Steps p.tables e below (T.setTop g) t :=
  XS.lrem X.here hx hg hd hs hy (by rw [lrem_eq]; exact hr)
/-- a boolean as an int -/
def b2i (b : Bool) : Int32 := if b then 1 else 0
theorem b2i_t : b2i true = 1 := rfl
theorem b2i_f : b2i false = 0 := rfl
theorem b2i_nar (b : Bool) : nar .boolean (b2i b) = b2i b := by cases b <;> decide
theorem b2i_eq0 {b : Bool} : b2i b = 0 ↔ ¬ b = true := by cases b <;> decide
theorem b2i_inj {b b' : Bool} : b2i b = b2i b' ↔ b = b' := by cases b <;> cases b' <;> decide
end Kit
end Jvm.Own
namespace Jvm.Pilot.@@N@@
open Jvm Jvm.ClassFile Sem Op Lib Jvm.Free Jvm.Stand Jvm.LawKit Jvm.RoadKit Bundle Jvm.Pilot.@@N@@.Jvm.D
def own_emp : Nat → (Nat → Int64) → Bool
  | 0, _ => true
  | k + 1, f => own_emp k f && decide (f k = 0)
theorem own_eq {a b : Int32} : a = b ↔ a.toInt = b.toInt := Int32.toInt_inj.symm
theorem own_three {v x : Int32} (h : v = x &&& 3) (h0 : ¬ v = 0) (h1 : ¬ v = 1) (h2 : ¬ v = 2) : v = 3 := by
  have e : (x &&& 3).toInt = x.toInt % 2 ^ 2 := Jvm.Kit.i32_mask x 3 (k := 2) (by decide) (by decide)
  rw [← h] at e
  rw [own_eq] at h0 h1 h2 ⊢
  have k0 : (0 : Int32).toInt = 0 := by decide
  have k1 : (1 : Int32).toInt = 1 := by decide
  have k2 : (2 : Int32).toInt = 2 := by decide
  have k3 : (3 : Int32).toInt = 3 := by decide
  omega
theorem d1_0 : decode jdk_30_method_1_code 0 = .ok (.aload_n 0, 1) := by decide +kernel
theorem d1_1 : decode jdk_30_method_1_code 1 = .ok (.invokespecial 1, 3) := by decide +kernel
theorem d1_4 : decode jdk_30_method_1_code 4 = .ok (.return_, 1) := by decide +kernel
theorem pn_0 : plainName "java/lang/Record" = true := by first | (simp [plainName, overriddenIn]; done) | decide +kernel
theorem ef_1 (m : MethodId) (o0 : Addr) : entryFrame m #[(.ref o0)] 1 = mkF m 0 #[.val (.ref o0)] [] := by first | (simp [entryFrame, mkF, argsToLocals, Value.category]; done) | rfl
def Q1 (Z : State) (o0 : Nat) (h0 : Heap) (n0 : Nat) (v : Option Value) (h : Heap) (L : List Loc) : Prop := v = none ∧ Fr n0 L ∧ h = h0
set_option maxRecDepth 65536 in
set_option maxHeartbeats 40000000 in
theorem rm1 (l : Launch) (Z : State) (a0 : Array Value) (hw : ∀ d ∈ tables_1, d.before a0 Z = true) (ws : List Jvm.Cond) (o0 : Nat) (h0 : Heap) (n0 : Nat) :
    MetFree l (⟨"java/lang/Record", "<init>", "()V"⟩ : MethodName) (head1 (Jvm.Cond.code (⟨"java/lang/Record", "<init>", "()V"⟩ : MethodName) jdk_30_method_1_code 1 none :: ws) ({ frames := 1, cells := 0, slots := 0, locals := 12 } : Room)) (fun a U => a = #[(.ref o0)] ∧ Z.Warmed39 U.vm ∧ U.heap = h0) (fun _ _ _ _ _ => True) (fun _ U o U' => ∃ v L, o = .returned v ∧ Q1 Z o0 h0 n0 v U'.heap L ∧ FrameEnd U o U' L ({ frames := 1, cells := 0, slots := 0, locals := 12 } : Room).cells ({ frames := 1, cells := 0, slots := 0, locals := 12 } : Room).slots) := by
  refine Own.enter (Q := Q1 Z o0 h0 n0) (plainFor_of_name pn_0) ?_
  intro p e s m below meth c s₁ D hx hby hml hown hnm hret hZ X0 e0 hD hR
  have N0 := Fr.nil n0
  rw [show entryFrame m #[(.ref o0)] 1 = mkF m 0 #[.val (.ref o0)] [] from ef_1 m o0]
  obtain ⟨T1, X1, e1, st1⟩ := initO X0 hx hZ hown (hw _ (List.mem_of_getElem? (i := 12) rfl)) (hw _ (List.mem_of_getElem? (i := 13) rfl)) (hw _ (List.mem_of_getElem? (i := 14) rfl)) e0 (g := (mkF m 1 #[.val (.ref o0)] [(.ref o0)])) rfl (by rw [hml]; rfl) rfl (hb hby d1_1) (by decide) (W := 0) (by show 2 * 0 + _ ≤ _; exact Nat.le_of_eq rfl) (by decide)
  refine hD _ (T1.setTop (mkF m 4 #[.val (.ref o0)] [])) (fun t k => ?_) ?_
  · show Steps p.tables e below (s₁.setTop (mkF m 0 #[.val (.ref o0)] [])) t
    refine XS.aloadN X0.here hx rfl (hb hby d1_0) rfl rfl ?_
    show Steps p.tables e below (s₁.setTop (mkF m 1 #[.val (.ref o0)] [(.ref o0)])) t
    refine st1 _ ?_
    show Steps p.tables e below (T1.setTop (mkF m 4 #[.val (.ref o0)] [])) t
    exact k
  exact Own.retV hR X1 hx hret (hb hby d1_4) (by decide) (by decide) ⟨rfl, N0, e1⟩
theorem d2_0 : decode prog_21_method_1_code 0 = .ok (.aload_n 0, 1) := by decide +kernel
theorem d2_1 : decode prog_21_method_1_code 1 = .ok (.invokespecial 1, 3) := by decide +kernel
theorem d2_4 : decode prog_21_method_1_code 4 = .ok (.aload_n 1, 1) := by decide +kernel
theorem d2_5 : decode prog_21_method_1_code 5 = .ok (.arraylength, 1) := by decide +kernel
theorem d2_6 : decode prog_21_method_1_code 6 = .ok (.aload_n 2, 1) := by decide +kernel
theorem d2_7 : decode prog_21_method_1_code 7 = .ok (.arraylength, 1) := by decide +kernel
theorem d2_8 : decode prog_21_method_1_code 8 = .ok (.if_icmp .eq 20, 3) := by decide +kernel
theorem d2_28 : decode prog_21_method_1_code 28 = .ok (.aload_n 0, 1) := by decide +kernel
theorem d2_29 : decode prog_21_method_1_code 29 = .ok (.aload_n 1, 1) := by decide +kernel
theorem d2_30 : decode prog_21_method_1_code 30 = .ok (.putfield 16, 3) := by decide +kernel
theorem d2_33 : decode prog_21_method_1_code 33 = .ok (.aload_n 0, 1) := by decide +kernel
theorem d2_34 : decode prog_21_method_1_code 34 = .ok (.aload_n 2, 1) := by decide +kernel
theorem d2_35 : decode prog_21_method_1_code 35 = .ok (.putfield 22, 3) := by decide +kernel
theorem d2_38 : decode prog_21_method_1_code 38 = .ok (.return_, 1) := by decide +kernel
theorem pd_0 : parseMethodDescriptor "()V" = some ⟨[], none⟩ := by decide +kernel
theorem pn_1 : plainName "com/example/eurycleia/eurycleia/core/Query" = true := by first | (simp [plainName, overriddenIn]; done) | decide +kernel
theorem ef_2 (m : MethodId) (o0 : Addr) (o1 : Addr) (o2 : Addr) : entryFrame m #[(.ref o0), (.ref o1), (.ref o2)] 3 = mkF m 0 #[.val (.ref o0), .val (.ref o1), .val (.ref o2)] [] := by first | (simp [entryFrame, mkF, argsToLocals, Value.category]; done) | rfl
def Q2 (Z : State) (o0 : Nat) (o1 : Nat) (o2 : Nat) (n : Nat) (f g : Nat → Int64) (h0 : Heap) (n0 : Nat) (v : Option Value) (h : Heap) (L : List Loc) : Prop := v = none ∧ Fr n0 L ∧ Keep h0 h [o0] ∧ Exa Z h o0 "com/example/eurycleia/eurycleia/core/Query" ∧ Fld Z h o0 "com/example/eurycleia/eurycleia/core/Query" "mask" "[J" (.ref o2)
set_option maxRecDepth 65536 in
set_option maxHeartbeats 40000000 in
theorem rm2 (l : Launch) (Z : State) (a0 : Array Value) (hw : ∀ d ∈ tables_1, d.before a0 Z = true) (ws : List Jvm.Cond) (o0 : Nat) (o1 : Nat) (o2 : Nat) (n : Nat) (f g : Nat → Int64) (h0 : Heap) (n0 : Nat) (Z0 : n0 ≤ h0.size) (g0 : n0 ≤ o0) (l1 : o1 < o0) (l2 : o2 < o0) (E_a0 : Exa Z h0 o0 "com/example/eurycleia/eurycleia/core/Query") (F_bits : Fld Z h0 o0 "com/example/eurycleia/eurycleia/core/Query" "bits" "[J" .null) (F_mask : Fld Z h0 o0 "com/example/eurycleia/eurycleia/core/Query" "mask" "[J" .null) (A1 : Own.AvJ Z h0 o1 n f) (A2 : Own.AvJ Z h0 o2 n g) :
    MetFree l (⟨"com/example/eurycleia/eurycleia/core/Query", "<init>", "([J[J)V"⟩ : MethodName) (head1 (Jvm.Cond.code (⟨"com/example/eurycleia/eurycleia/core/Query", "<init>", "([J[J)V"⟩ : MethodName) prog_21_method_1_code 3 none :: ws) ({ frames := 2, cells := 0, slots := 0, locals := 24 } : Room)) (fun a U => a = #[(.ref o0), (.ref o1), (.ref o2)] ∧ Z.Warmed39 U.vm ∧ U.heap = h0) (fun _ _ _ _ _ => True) (fun _ U o U' => ∃ v L, o = .returned v ∧ Q2 Z o0 o1 o2 n f g h0 n0 v U'.heap L ∧ FrameEnd U o U' L ({ frames := 2, cells := 0, slots := 0, locals := 24 } : Room).cells ({ frames := 2, cells := 0, slots := 0, locals := 24 } : Room).slots) := by
  refine Own.enter (Q := Q2 Z o0 o1 o2 n f g h0 n0) (plainFor_of_name pn_1) ?_
  intro p e s m below meth c s₁ D hx hby hml hown hnm hret hZ X0 e0 hD hR
  have N0 := Fr.nil n0
  have K0 : Keep h0 h0 [o0] := Keep.refl h0 _
  rw [show entryFrame m #[(.ref o0), (.ref o1), (.ref o2)] 3 = mkF m 0 #[.val (.ref o0), .val (.ref o1), .val (.ref o2)] [] from ef_2 m o0 o1 o2]
  obtain ⟨T1, _, L1, X1, ⟨rfl, Nq1, e1⟩, st1⟩ := Own.callI (y := (⟨"java/lang/Record", "<init>", "()V"⟩ : MethodName)) (W := 0) (argsL := []) (rest := []) (a := o0) X0 hx hZ hown rfl (hw _ (List.mem_of_getElem? (i := 7) rfl)) (hw _ (List.mem_of_getElem? (i := 8) rfl)) (hw _ (List.mem_of_getElem? (i := 10) rfl)) (hw _ (List.mem_of_getElem? (i := 11) rfl)) (by decide) e0 (rm1 l Z a0 hw [] o0  h0 n0 ) (by decide) (by decide) (by decide) (by decide) (g := (mkF m 1 #[.val (.ref o0), .val (.ref o1), .val (.ref o2)] [(.ref o0)])) rfl (by rw [hml]; rfl) (lenOf pd_0 rfl) rfl (by show 2 * 0 + _ ≤ _; exact Nat.le_of_eq rfl) (hb hby d2_1)
  have N1 := Fr.app N0 Nq1
  refine hD _ (T1.setTop (mkF m 8 #[.val (.ref o0), .val (.ref o1), .val (.ref o2)] [(.int (Int32.ofNat n)), (.int (Int32.ofNat n))])) (fun t k => ?_) ?_
  · show Steps p.tables e below (s₁.setTop (mkF m 0 #[.val (.ref o0), .val (.ref o1), .val (.ref o2)] [])) t
    refine XS.aloadN X0.here hx rfl (hb hby d2_0) rfl rfl ?_
    show Steps p.tables e below (s₁.setTop (mkF m 1 #[.val (.ref o0), .val (.ref o1), .val (.ref o2)] [(.ref o0)])) t
    refine st1 _ ?_
    show Steps p.tables e below (T1.setTop (mkF m 4 #[.val (.ref o0), .val (.ref o1), .val (.ref o2)] [])) t
    refine XS.aloadN X1.here hx rfl (hb hby d2_4) rfl rfl ?_
    show Steps p.tables e below (T1.setTop (mkF m 5 #[.val (.ref o0), .val (.ref o1), .val (.ref o2)] [(.ref o1)])) t
    refine Own.lenJ X1 hx hZ e1 A1 (g := (mkF m 5 #[.val (.ref o0), .val (.ref o1), .val (.ref o2)] [(.ref o1)])) rfl rfl (hb hby d2_5) _ ?_
    show Steps p.tables e below (T1.setTop (mkF m 6 #[.val (.ref o0), .val (.ref o1), .val (.ref o2)] [(.int (Int32.ofNat n))])) t
    refine XS.aloadN X1.here hx rfl (hb hby d2_6) rfl rfl ?_
    show Steps p.tables e below (T1.setTop (mkF m 7 #[.val (.ref o0), .val (.ref o1), .val (.ref o2)] [(.ref o2), (.int (Int32.ofNat n))])) t
    refine Own.lenJ X1 hx hZ e1 A2 (g := (mkF m 7 #[.val (.ref o0), .val (.ref o1), .val (.ref o2)] [(.ref o2), (.int (Int32.ofNat n))])) rfl rfl (hb hby d2_7) _ ?_
    show Steps p.tables e below (T1.setTop (mkF m 8 #[.val (.ref o0), .val (.ref o1), .val (.ref o2)] [(.int (Int32.ofNat n)), (.int (Int32.ofNat n))])) t
    exact k
  have hc2 : (Int32.ofNat n) = (Int32.ofNat n) := rfl
  obtain ⟨T3, h3, X3, e3, W3, st3⟩ := putF X1 hx hZ hown (host := "") (Or.inl (hw _ (List.mem_of_getElem? (i := 15) rfl))) Via.refl e1 F_bits E_a0 (Or.inr ⟨(hw _ (List.mem_of_getElem? (i := 16) rfl)), rfl, hnm⟩) (hw _ (List.mem_of_getElem? (i := 2) rfl)) (ty := (.array .long)) (by decide) rfl rfl (g := (mkF m 30 #[.val (.ref o0), .val (.ref o1), .val (.ref o2)] [(.ref o1), (.ref o0)])) rfl rfl (hb hby d2_30)
  have f4 : Fld Z h3 o0 "com/example/eurycleia/eurycleia/core/Query" "bits" "[J" (.ref o1) := F_bits.same W3
  have f5 : Exa Z h3 o0 "com/example/eurycleia/eurycleia/core/Query" := E_a0.wr W3
  have f6 : Fld Z h3 o0 "com/example/eurycleia/eurycleia/core/Query" "mask" "[J" .null := F_mask.other W3 (Or.inr (slot_ne (Or.inr (hw _ (List.mem_of_getElem? (i := 18) rfl))) (Or.inr (hw _ (List.mem_of_getElem? (i := 16) rfl))) (by decide) (t := (.array .long)) (t' := (.array .long)) (by decide) (by decide)))
  have f7 : Own.AvJ Z h3 o1 n f := A1.other W3 (Own.ne_of (by omega))
  have f8 : Own.AvJ Z h3 o2 n g := A2.other W3 (Own.ne_of (by omega))
  have N3 := Fr.snoc X3 N1 (show n0 ≤ o0 by omega)
  have Z3 : n0 ≤ h3.size := Nat.le_trans Z0 (Keep.of_wr W3).1
  have K3 : Keep h0 h3 [o0] := K0.wr W3 (Or.inl (List.mem_of_getElem? (i := 0) rfl))
  obtain ⟨T9, h9, X9, e9, W9, st9⟩ := putF X3 hx hZ hown (host := "") (Or.inl (hw _ (List.mem_of_getElem? (i := 17) rfl))) Via.refl e3 f6 f5 (Or.inr ⟨(hw _ (List.mem_of_getElem? (i := 18) rfl)), rfl, hnm⟩) (hw _ (List.mem_of_getElem? (i := 2) rfl)) (ty := (.array .long)) (by decide) rfl rfl (g := (mkF m 35 #[.val (.ref o0), .val (.ref o1), .val (.ref o2)] [(.ref o2), (.ref o0)])) rfl rfl (hb hby d2_35)
  have f10 : Fld Z h9 o0 "com/example/eurycleia/eurycleia/core/Query" "mask" "[J" (.ref o2) := f6.same W9
  have f11 : Exa Z h9 o0 "com/example/eurycleia/eurycleia/core/Query" := f5.wr W9
  have f12 : Fld Z h9 o0 "com/example/eurycleia/eurycleia/core/Query" "bits" "[J" (.ref o1) := f4.other W9 (Or.inr (slot_ne (Or.inr (hw _ (List.mem_of_getElem? (i := 16) rfl))) (Or.inr (hw _ (List.mem_of_getElem? (i := 18) rfl))) (by decide) (t := (.array .long)) (t' := (.array .long)) (by decide) (by decide)))
  have f13 : Own.AvJ Z h9 o1 n f := f7.other W9 (Own.ne_of (by omega))
  have f14 : Own.AvJ Z h9 o2 n g := f8.other W9 (Own.ne_of (by omega))
  have N9 := Fr.snoc X9 N3 (show n0 ≤ o0 by omega)
  have Z9 : n0 ≤ h9.size := Nat.le_trans Z3 (Keep.of_wr W9).1
  have K9 : Keep h0 h9 [o0] := K3.wr W9 (Or.inl (List.mem_of_getElem? (i := 0) rfl))
  refine hD _ (T9.setTop (mkF m 38 #[.val (.ref o0), .val (.ref o1), .val (.ref o2)] [])) (fun t k => ?_) ?_
  · show Steps p.tables e below (T1.setTop (mkF m 8 #[.val (.ref o0), .val (.ref o1), .val (.ref o2)] [(.int (Int32.ofNat n)), (.int (Int32.ofNat n))])) t
    refine XS.icmpYes X1.here hx rfl (pc0 := 8) (pc' := 28) rfl (hb hby d2_8) rfl (teq hc2).1 (by decide) (by decide) ?_
    show Steps p.tables e below (T1.setTop (mkF m 28 #[.val (.ref o0), .val (.ref o1), .val (.ref o2)] [])) t
    refine XS.aloadN X1.here hx rfl (hb hby d2_28) rfl rfl ?_
    show Steps p.tables e below (T1.setTop (mkF m 29 #[.val (.ref o0), .val (.ref o1), .val (.ref o2)] [(.ref o0)])) t
    refine XS.aloadN X1.here hx rfl (hb hby d2_29) rfl rfl ?_
    show Steps p.tables e below (T1.setTop (mkF m 30 #[.val (.ref o0), .val (.ref o1), .val (.ref o2)] [(.ref o1), (.ref o0)])) t
    refine st3 _ ?_
    show Steps p.tables e below (T3.setTop (mkF m 33 #[.val (.ref o0), .val (.ref o1), .val (.ref o2)] [])) t
    refine XS.aloadN X3.here hx rfl (hb hby d2_33) rfl rfl ?_
    show Steps p.tables e below (T3.setTop (mkF m 34 #[.val (.ref o0), .val (.ref o1), .val (.ref o2)] [(.ref o0)])) t
    refine XS.aloadN X3.here hx rfl (hb hby d2_34) rfl rfl ?_
    show Steps p.tables e below (T3.setTop (mkF m 35 #[.val (.ref o0), .val (.ref o1), .val (.ref o2)] [(.ref o2), (.ref o0)])) t
    refine st9 _ ?_
    show Steps p.tables e below (T9.setTop (mkF m 38 #[.val (.ref o0), .val (.ref o1), .val (.ref o2)] [])) t
    exact k
  exact Own.retV hR X9 hx hret (hb hby d2_38) (by decide) (by decide) ⟨rfl, N9, by rw [e9]; exact ⟨K9, f11, f10⟩⟩
theorem d10_0 : decode prog_21_method_3_code 0 = .ok (.aload_n 0, 1) := by decide +kernel
theorem d10_1 : decode prog_21_method_3_code 1 = .ok (.getfield 22, 3) := by decide +kernel
theorem d10_4 : decode prog_21_method_3_code 4 = .ok (.astore_n 1, 1) := by decide +kernel
theorem d10_5 : decode prog_21_method_3_code 5 = .ok (.aload_n 1, 1) := by decide +kernel
theorem d10_6 : decode prog_21_method_3_code 6 = .ok (.arraylength, 1) := by decide +kernel
theorem d10_7 : decode prog_21_method_3_code 7 = .ok (.istore_n 2, 1) := by decide +kernel
theorem d10_8 : decode prog_21_method_3_code 8 = .ok (.iconst 0, 1) := by decide +kernel
theorem d10_9 : decode prog_21_method_3_code 9 = .ok (.istore_n 3, 1) := by decide +kernel
theorem d10_10 : decode prog_21_method_3_code 10 = .ok (.iload_n 3, 1) := by decide +kernel
theorem d10_11 : decode prog_21_method_3_code 11 = .ok (.iload_n 2, 1) := by decide +kernel
theorem d10_12 : decode prog_21_method_3_code 12 = .ok (.if_icmp .ge 23, 3) := by decide +kernel
theorem d10_35 : decode prog_21_method_3_code 35 = .ok (.iconst 1, 1) := by decide +kernel
theorem d10_36 : decode prog_21_method_3_code 36 = .ok (.ireturn, 1) := by decide +kernel
theorem ef_10 (m : MethodId) (o0 : Addr) : entryFrame m #[(.ref o0)] 6 = mkF m 0 #[.val (.ref o0), .unset, .unset, .unset, .unset, .unset] [] := by first | (simp [entryFrame, mkF, argsToLocals, Value.category]; done) | rfl
def Q10 (Z : State) (o0 : Nat) (r : Nat) (f : Nat → Int64) (h0 : Heap) (n0 : Nat) (v : Option Value) (h : Heap) (L : List Loc) : Prop := v = some (.int (Own.b2i (own_emp 0 f))) ∧ Fr n0 L ∧ h = h0
set_option maxRecDepth 65536 in
set_option maxHeartbeats 40000000 in
theorem rm10 (l : Launch) (Z : State) (a0 : Array Value) (hw : ∀ d ∈ tables_1, d.before a0 Z = true) (ws : List Jvm.Cond) (o0 : Nat) (r : Nat) (f : Nat → Int64) (h0 : Heap) (n0 : Nat) (F_mask : Fld Z h0 o0 "com/example/eurycleia/eurycleia/core/Query" "mask" "[J" (.ref r)) (A_r : Own.AvJ Z h0 r 0 f) :
    MetFree l (⟨"com/example/eurycleia/eurycleia/core/Query", "isEmpty", "()Z"⟩ : MethodName) (head1 (Jvm.Cond.code (⟨"com/example/eurycleia/eurycleia/core/Query", "isEmpty", "()Z"⟩ : MethodName) prog_21_method_3_code 6 (some .boolean) :: ws) ({ frames := 0, cells := 0, slots := 0, locals := 0 } : Room)) (fun a U => a = #[(.ref o0)] ∧ Z.Warmed39 U.vm ∧ U.heap = h0) (fun _ _ _ _ _ => True) (fun _ U o U' => ∃ v L, o = .returned v ∧ Q10 Z o0 r f h0 n0 v U'.heap L ∧ FrameEnd U o U' L ({ frames := 0, cells := 0, slots := 0, locals := 0 } : Room).cells ({ frames := 0, cells := 0, slots := 0, locals := 0 } : Room).slots) := by
  refine Own.enter (Q := Q10 Z o0 r f h0 n0) (plainFor_of_name pn_1) ?_
  intro p e s m below meth c s₁ D hx hby hml hown hnm hret hZ X0 e0 hD hR
  have N0 := Fr.nil n0
  rw [show entryFrame m #[(.ref o0)] 6 = mkF m 0 #[.val (.ref o0), .unset, .unset, .unset, .unset, .unset] [] from ef_10 m o0]
  obtain ⟨T1, X1, e1, st1⟩ := getF X0 hx hZ hown (host := "") (Or.inl (hw _ (List.mem_of_getElem? (i := 17) rfl))) Via.refl e0 F_mask (g := (mkF m 1 #[.val (.ref o0), .unset, .unset, .unset, .unset, .unset] [(.ref o0)])) rfl rfl (hb hby d10_1)
  refine hD _ (T1.setTop (mkF m 36 #[.val (.ref o0), .val (.ref r), .val (.int (0 : Int32)), .val (.int (0 : Int32)), .unset, .unset] [(.int (1 : Int32))])) (fun t k => ?_) ?_
  · show Steps p.tables e below (s₁.setTop (mkF m 0 #[.val (.ref o0), .unset, .unset, .unset, .unset, .unset] [])) t
    refine XS.aloadN X0.here hx rfl (hb hby d10_0) rfl rfl ?_
    show Steps p.tables e below (s₁.setTop (mkF m 1 #[.val (.ref o0), .unset, .unset, .unset, .unset, .unset] [(.ref o0)])) t
    refine st1 _ ?_
    show Steps p.tables e below (T1.setTop (mkF m 4 #[.val (.ref o0), .unset, .unset, .unset, .unset, .unset] [(.ref r)])) t
    refine XS.astoreN X1.here hx rfl (hb hby d10_4) rfl rfl (l' := #[.val (.ref o0), .val (.ref r), .unset, .unset, .unset, .unset]) rfl ?_
    show Steps p.tables e below (T1.setTop (mkF m 5 #[.val (.ref o0), .val (.ref r), .unset, .unset, .unset, .unset] [])) t
    refine XS.aloadN X1.here hx rfl (hb hby d10_5) rfl rfl ?_
    show Steps p.tables e below (T1.setTop (mkF m 6 #[.val (.ref o0), .val (.ref r), .unset, .unset, .unset, .unset] [(.ref r)])) t
    refine Own.lenJ X1 hx hZ e1 A_r (g := (mkF m 6 #[.val (.ref o0), .val (.ref r), .unset, .unset, .unset, .unset] [(.ref r)])) rfl rfl (hb hby d10_6) _ ?_
    show Steps p.tables e below (T1.setTop (mkF m 7 #[.val (.ref o0), .val (.ref r), .unset, .unset, .unset, .unset] [(.int (Int32.ofNat 0))])) t
    refine Own.nmI (by decide : (0 : Int32) = (Int32.ofNat 0)) ?_
    show Steps p.tables e below (T1.setTop (mkF m 7 #[.val (.ref o0), .val (.ref r), .unset, .unset, .unset, .unset] [(.int (0 : Int32))])) t
    refine XS.istoreN X1.here hx rfl (hb hby d10_7) rfl (l' := #[.val (.ref o0), .val (.ref r), .val (.int (0 : Int32)), .unset, .unset, .unset]) rfl ?_
    show Steps p.tables e below (T1.setTop (mkF m 8 #[.val (.ref o0), .val (.ref r), .val (.int (0 : Int32)), .unset, .unset, .unset] [])) t
    refine XS.iconst X1.here hx rfl (hb hby d10_8) ?_
    show Steps p.tables e below (T1.setTop (mkF m 9 #[.val (.ref o0), .val (.ref r), .val (.int (0 : Int32)), .unset, .unset, .unset] [(.int (0 : Int32))])) t
    refine XS.istoreN X1.here hx rfl (hb hby d10_9) rfl (l' := #[.val (.ref o0), .val (.ref r), .val (.int (0 : Int32)), .val (.int (0 : Int32)), .unset, .unset]) rfl ?_
    show Steps p.tables e below (T1.setTop (mkF m 10 #[.val (.ref o0), .val (.ref r), .val (.int (0 : Int32)), .val (.int (0 : Int32)), .unset, .unset] [])) t
    refine XS.iloadN X1.here hx rfl (hb hby d10_10) rfl ?_
    show Steps p.tables e below (T1.setTop (mkF m 11 #[.val (.ref o0), .val (.ref r), .val (.int (0 : Int32)), .val (.int (0 : Int32)), .unset, .unset] [(.int (0 : Int32))])) t
    refine XS.iloadN X1.here hx rfl (hb hby d10_11) rfl ?_
    show Steps p.tables e below (T1.setTop (mkF m 12 #[.val (.ref o0), .val (.ref r), .val (.int (0 : Int32)), .val (.int (0 : Int32)), .unset, .unset] [(.int (0 : Int32)), (.int (0 : Int32))])) t
    refine XS.icmpYes X1.here hx rfl (pc0 := 12) (pc' := 35) rfl (hb hby d10_12) rfl (by decide) (by decide) (by decide) ?_
    show Steps p.tables e below (T1.setTop (mkF m 35 #[.val (.ref o0), .val (.ref r), .val (.int (0 : Int32)), .val (.int (0 : Int32)), .unset, .unset] [])) t
    refine XS.iconst X1.here hx rfl (hb hby d10_35) ?_
    show Steps p.tables e below (T1.setTop (mkF m 36 #[.val (.ref o0), .val (.ref r), .val (.int (0 : Int32)), .val (.int (0 : Int32)), .unset, .unset] [(.int (1 : Int32))])) t
    exact k
  exact Own.retN hR X1 hx (t := .boolean) hret (by simp) (hb hby d10_36) (by decide) (by decide) (by decide) ⟨by  simp [own_emp, Own.b2i], N0, e1⟩
theorem d11_0 : decode prog_21_method_3_code 0 = .ok (.aload_n 0, 1) := by decide +kernel
theorem d11_1 : decode prog_21_method_3_code 1 = .ok (.getfield 22, 3) := by decide +kernel
theorem d11_4 : decode prog_21_method_3_code 4 = .ok (.astore_n 1, 1) := by decide +kernel
theorem d11_5 : decode prog_21_method_3_code 5 = .ok (.aload_n 1, 1) := by decide +kernel
theorem d11_6 : decode prog_21_method_3_code 6 = .ok (.arraylength, 1) := by decide +kernel
theorem d11_7 : decode prog_21_method_3_code 7 = .ok (.istore_n 2, 1) := by decide +kernel
theorem d11_8 : decode prog_21_method_3_code 8 = .ok (.iconst 0, 1) := by decide +kernel
theorem d11_9 : decode prog_21_method_3_code 9 = .ok (.istore_n 3, 1) := by decide +kernel
theorem d11_10 : decode prog_21_method_3_code 10 = .ok (.iload_n 3, 1) := by decide +kernel
theorem d11_11 : decode prog_21_method_3_code 11 = .ok (.iload_n 2, 1) := by decide +kernel
theorem d11_12 : decode prog_21_method_3_code 12 = .ok (.if_icmp .ge 23, 3) := by decide +kernel
theorem d11_15 : decode prog_21_method_3_code 15 = .ok (.aload_n 1, 1) := by decide +kernel
theorem d11_16 : decode prog_21_method_3_code 16 = .ok (.iload_n 3, 1) := by decide +kernel
theorem d11_17 : decode prog_21_method_3_code 17 = .ok (.laload, 1) := by decide +kernel
theorem d11_18 : decode prog_21_method_3_code 18 = .ok (.lstore 4, 2) := by decide +kernel
theorem d11_20 : decode prog_21_method_3_code 20 = .ok (.lload 4, 2) := by decide +kernel
theorem d11_22 : decode prog_21_method_3_code 22 = .ok (.lconst 0, 1) := by decide +kernel
theorem d11_23 : decode prog_21_method_3_code 23 = .ok (.lcmp, 1) := by decide +kernel
theorem d11_24 : decode prog_21_method_3_code 24 = .ok (.ifCond .eq 5, 3) := by decide +kernel
theorem d11_27 : decode prog_21_method_3_code 27 = .ok (.iconst 0, 1) := by decide +kernel
theorem d11_28 : decode prog_21_method_3_code 28 = .ok (.ireturn, 1) := by decide +kernel
theorem d11_29 : decode prog_21_method_3_code 29 = .ok (.iinc 3 1, 3) := by decide +kernel
theorem d11_32 : decode prog_21_method_3_code 32 = .ok (.goto (-22), 3) := by decide +kernel
theorem d11_35 : decode prog_21_method_3_code 35 = .ok (.iconst 1, 1) := by decide +kernel
theorem d11_36 : decode prog_21_method_3_code 36 = .ok (.ireturn, 1) := by decide +kernel
theorem ef_11 (m : MethodId) (o0 : Addr) : entryFrame m #[(.ref o0)] 6 = mkF m 0 #[.val (.ref o0), .unset, .unset, .unset, .unset, .unset] [] := by first | (simp [entryFrame, mkF, argsToLocals, Value.category]; done) | rfl
def Q11 (Z : State) (o0 : Nat) (r : Nat) (f : Nat → Int64) (h0 : Heap) (n0 : Nat) (v : Option Value) (h : Heap) (L : List Loc) : Prop := v = some (.int (Own.b2i (own_emp 1 f))) ∧ Fr n0 L ∧ h = h0
set_option maxRecDepth 65536 in
set_option maxHeartbeats 40000000 in
theorem rm11 (l : Launch) (Z : State) (a0 : Array Value) (hw : ∀ d ∈ tables_1, d.before a0 Z = true) (ws : List Jvm.Cond) (o0 : Nat) (r : Nat) (f : Nat → Int64) (h0 : Heap) (n0 : Nat) (F_mask : Fld Z h0 o0 "com/example/eurycleia/eurycleia/core/Query" "mask" "[J" (.ref r)) (A_r : Own.AvJ Z h0 r 1 f) :
    MetFree l (⟨"com/example/eurycleia/eurycleia/core/Query", "isEmpty", "()Z"⟩ : MethodName) (head1 (Jvm.Cond.code (⟨"com/example/eurycleia/eurycleia/core/Query", "isEmpty", "()Z"⟩ : MethodName) prog_21_method_3_code 6 (some .boolean) :: ws) ({ frames := 0, cells := 0, slots := 0, locals := 0 } : Room)) (fun a U => a = #[(.ref o0)] ∧ Z.Warmed39 U.vm ∧ U.heap = h0) (fun _ _ _ _ _ => True) (fun _ U o U' => ∃ v L, o = .returned v ∧ Q11 Z o0 r f h0 n0 v U'.heap L ∧ FrameEnd U o U' L ({ frames := 0, cells := 0, slots := 0, locals := 0 } : Room).cells ({ frames := 0, cells := 0, slots := 0, locals := 0 } : Room).slots) := by
  refine Own.enter (Q := Q11 Z o0 r f h0 n0) (plainFor_of_name pn_1) ?_
  intro p e s m below meth c s₁ D hx hby hml hown hnm hret hZ X0 e0 hD hR
  have N0 := Fr.nil n0
  rw [show entryFrame m #[(.ref o0)] 6 = mkF m 0 #[.val (.ref o0), .unset, .unset, .unset, .unset, .unset] [] from ef_11 m o0]
  obtain ⟨T1, X1, e1, st1⟩ := getF X0 hx hZ hown (host := "") (Or.inl (hw _ (List.mem_of_getElem? (i := 17) rfl))) Via.refl e0 F_mask (g := (mkF m 1 #[.val (.ref o0), .unset, .unset, .unset, .unset, .unset] [(.ref o0)])) rfl rfl (hb hby d11_1)
  have hj2 : 0 ≤ (0 : Int32).toInt ∧ (0 : Int32).toInt < (1 : Nat) := ⟨by decide, by decide⟩
  obtain ⟨v3, hv3⟩ : ∃ z : Int64, z = (f 0) := ⟨_, rfl⟩
  refine hD _ (T1.setTop (mkF m 24 #[.val (.ref o0), .val (.ref r), .val (.int (1 : Int32)), .val (.int (0 : Int32)), .val (.long v3), .second] [(.int (lcmpW v3 (0 : Int64)))])) (fun t k => ?_) ?_
  · show Steps p.tables e below (s₁.setTop (mkF m 0 #[.val (.ref o0), .unset, .unset, .unset, .unset, .unset] [])) t
    refine XS.aloadN X0.here hx rfl (hb hby d11_0) rfl rfl ?_
    show Steps p.tables e below (s₁.setTop (mkF m 1 #[.val (.ref o0), .unset, .unset, .unset, .unset, .unset] [(.ref o0)])) t
    refine st1 _ ?_
    show Steps p.tables e below (T1.setTop (mkF m 4 #[.val (.ref o0), .unset, .unset, .unset, .unset, .unset] [(.ref r)])) t
    refine XS.astoreN X1.here hx rfl (hb hby d11_4) rfl rfl (l' := #[.val (.ref o0), .val (.ref r), .unset, .unset, .unset, .unset]) rfl ?_
    show Steps p.tables e below (T1.setTop (mkF m 5 #[.val (.ref o0), .val (.ref r), .unset, .unset, .unset, .unset] [])) t
    refine XS.aloadN X1.here hx rfl (hb hby d11_5) rfl rfl ?_
    show Steps p.tables e below (T1.setTop (mkF m 6 #[.val (.ref o0), .val (.ref r), .unset, .unset, .unset, .unset] [(.ref r)])) t
    refine Own.lenJ X1 hx hZ e1 A_r (g := (mkF m 6 #[.val (.ref o0), .val (.ref r), .unset, .unset, .unset, .unset] [(.ref r)])) rfl rfl (hb hby d11_6) _ ?_
    show Steps p.tables e below (T1.setTop (mkF m 7 #[.val (.ref o0), .val (.ref r), .unset, .unset, .unset, .unset] [(.int (Int32.ofNat 1))])) t
    refine Own.nmI (by decide : (1 : Int32) = (Int32.ofNat 1)) ?_
    show Steps p.tables e below (T1.setTop (mkF m 7 #[.val (.ref o0), .val (.ref r), .unset, .unset, .unset, .unset] [(.int (1 : Int32))])) t
    refine XS.istoreN X1.here hx rfl (hb hby d11_7) rfl (l' := #[.val (.ref o0), .val (.ref r), .val (.int (1 : Int32)), .unset, .unset, .unset]) rfl ?_
    show Steps p.tables e below (T1.setTop (mkF m 8 #[.val (.ref o0), .val (.ref r), .val (.int (1 : Int32)), .unset, .unset, .unset] [])) t
    refine XS.iconst X1.here hx rfl (hb hby d11_8) ?_
    show Steps p.tables e below (T1.setTop (mkF m 9 #[.val (.ref o0), .val (.ref r), .val (.int (1 : Int32)), .unset, .unset, .unset] [(.int (0 : Int32))])) t
    refine XS.istoreN X1.here hx rfl (hb hby d11_9) rfl (l' := #[.val (.ref o0), .val (.ref r), .val (.int (1 : Int32)), .val (.int (0 : Int32)), .unset, .unset]) rfl ?_
    show Steps p.tables e below (T1.setTop (mkF m 10 #[.val (.ref o0), .val (.ref r), .val (.int (1 : Int32)), .val (.int (0 : Int32)), .unset, .unset] [])) t
    refine XS.iloadN X1.here hx rfl (hb hby d11_10) rfl ?_
    show Steps p.tables e below (T1.setTop (mkF m 11 #[.val (.ref o0), .val (.ref r), .val (.int (1 : Int32)), .val (.int (0 : Int32)), .unset, .unset] [(.int (0 : Int32))])) t
    refine XS.iloadN X1.here hx rfl (hb hby d11_11) rfl ?_
    show Steps p.tables e below (T1.setTop (mkF m 12 #[.val (.ref o0), .val (.ref r), .val (.int (1 : Int32)), .val (.int (0 : Int32)), .unset, .unset] [(.int (1 : Int32)), (.int (0 : Int32))])) t
    refine XS.icmpNo X1.here hx rfl (hb hby d11_12) rfl (by decide) ?_
    show Steps p.tables e below (T1.setTop (mkF m 15 #[.val (.ref o0), .val (.ref r), .val (.int (1 : Int32)), .val (.int (0 : Int32)), .unset, .unset] [])) t
    refine XS.aloadN X1.here hx rfl (hb hby d11_15) rfl rfl ?_
    show Steps p.tables e below (T1.setTop (mkF m 16 #[.val (.ref o0), .val (.ref r), .val (.int (1 : Int32)), .val (.int (0 : Int32)), .unset, .unset] [(.ref r)])) t
    refine XS.iloadN X1.here hx rfl (hb hby d11_16) rfl ?_
    show Steps p.tables e below (T1.setTop (mkF m 17 #[.val (.ref o0), .val (.ref r), .val (.int (1 : Int32)), .val (.int (0 : Int32)), .unset, .unset] [(.int (0 : Int32)), (.ref r)])) t
    refine Own.ldJ X1 hx hZ e1 A_r hj2 (g := (mkF m 17 #[.val (.ref o0), .val (.ref r), .val (.int (1 : Int32)), .val (.int (0 : Int32)), .unset, .unset] [(.int (0 : Int32)), (.ref r)])) rfl rfl (hb hby d11_17) _ ?_
    show Steps p.tables e below (T1.setTop (mkF m 18 #[.val (.ref o0), .val (.ref r), .val (.int (1 : Int32)), .val (.int (0 : Int32)), .unset, .unset] [(.long (f 0))])) t
    refine Own.nmJ hv3 ?_
    show Steps p.tables e below (T1.setTop (mkF m 18 #[.val (.ref o0), .val (.ref r), .val (.int (1 : Int32)), .val (.int (0 : Int32)), .unset, .unset] [(.long v3)])) t
    refine XS.lstore X1.here hx rfl (hb hby d11_18) rfl (l' := #[.val (.ref o0), .val (.ref r), .val (.int (1 : Int32)), .val (.int (0 : Int32)), .val (.long v3), .second]) rfl ?_
    show Steps p.tables e below (T1.setTop (mkF m 20 #[.val (.ref o0), .val (.ref r), .val (.int (1 : Int32)), .val (.int (0 : Int32)), .val (.long v3), .second] [])) t
    refine XS.lload X1.here hx rfl (hb hby d11_20) rfl ?_
    show Steps p.tables e below (T1.setTop (mkF m 22 #[.val (.ref o0), .val (.ref r), .val (.int (1 : Int32)), .val (.int (0 : Int32)), .val (.long v3), .second] [(.long v3)])) t
    refine XS.lconst X1.here hx rfl (hb hby d11_22) ?_
    show Steps p.tables e below (T1.setTop (mkF m 23 #[.val (.ref o0), .val (.ref r), .val (.int (1 : Int32)), .val (.int (0 : Int32)), .val (.long v3), .second] [(.long (0 : Int64)), (.long v3)])) t
    refine XS.lcmp X1.here hx rfl (hb hby d11_23) rfl ?_
    show Steps p.tables e below (T1.setTop (mkF m 24 #[.val (.ref o0), .val (.ref r), .val (.int (1 : Int32)), .val (.int (0 : Int32)), .val (.long v3), .second] [(.int (lcmpW v3 (0 : Int64)))])) t
    exact k
  by_cases hc4 : v3 = (0 : Int64)
  · refine hD _ (T1.setTop (mkF m 36 #[.val (.ref o0), .val (.ref r), .val (.int (1 : Int32)), .val (.int (1 : Int32)), .val (.long v3), .second] [(.int (1 : Int32))])) (fun t k => ?_) ?_
    · show Steps p.tables e below (T1.setTop (mkF m 24 #[.val (.ref o0), .val (.ref r), .val (.int (1 : Int32)), .val (.int (0 : Int32)), .val (.long v3), .second] [(.int (lcmpW v3 (0 : Int64)))])) t
      refine XS.ifYes X1.here hx rfl (pc0 := 24) (pc' := 29) rfl (hb hby d11_24) rfl ((if0 _ _).trans (teq ((lw_eq v3 (0 : Int64)).mpr hc4)).1) (by decide) (by decide) ?_
      show Steps p.tables e below (T1.setTop (mkF m 29 #[.val (.ref o0), .val (.ref r), .val (.int (1 : Int32)), .val (.int (0 : Int32)), .val (.long v3), .second] [])) t
      refine XS.iinc X1.here hx rfl (hb hby d11_29) rfl (l' := #[.val (.ref o0), .val (.ref r), .val (.int (1 : Int32)), .val (.int ((0 : Int32) + (1 : Int32))), .val (.long v3), .second]) rfl ?_
      show Steps p.tables e below (T1.setTop (mkF m 32 #[.val (.ref o0), .val (.ref r), .val (.int (1 : Int32)), .val (.int ((0 : Int32) + (1 : Int32))), .val (.long v3), .second] [])) t
      rw [show ((0 : Int32) + (1 : Int32)) = (1 : Int32) from by decide]
      show Steps p.tables e below (T1.setTop (mkF m 32 #[.val (.ref o0), .val (.ref r), .val (.int (1 : Int32)), .val (.int (1 : Int32)), .val (.long v3), .second] [])) t
      refine XS.goto X1.here hx rfl (pc0 := 32) (pc' := 10) rfl (hb hby d11_32) (by decide) (by decide) ?_
      show Steps p.tables e below (T1.setTop (mkF m 10 #[.val (.ref o0), .val (.ref r), .val (.int (1 : Int32)), .val (.int (1 : Int32)), .val (.long v3), .second] [])) t
      refine XS.iloadN X1.here hx rfl (hb hby d11_10) rfl ?_
      show Steps p.tables e below (T1.setTop (mkF m 11 #[.val (.ref o0), .val (.ref r), .val (.int (1 : Int32)), .val (.int (1 : Int32)), .val (.long v3), .second] [(.int (1 : Int32))])) t
      refine XS.iloadN X1.here hx rfl (hb hby d11_11) rfl ?_
      show Steps p.tables e below (T1.setTop (mkF m 12 #[.val (.ref o0), .val (.ref r), .val (.int (1 : Int32)), .val (.int (1 : Int32)), .val (.long v3), .second] [(.int (1 : Int32)), (.int (1 : Int32))])) t
      refine XS.icmpYes X1.here hx rfl (pc0 := 12) (pc' := 35) rfl (hb hby d11_12) rfl (by decide) (by decide) (by decide) ?_
      show Steps p.tables e below (T1.setTop (mkF m 35 #[.val (.ref o0), .val (.ref r), .val (.int (1 : Int32)), .val (.int (1 : Int32)), .val (.long v3), .second] [])) t
      refine XS.iconst X1.here hx rfl (hb hby d11_35) ?_
      show Steps p.tables e below (T1.setTop (mkF m 36 #[.val (.ref o0), .val (.ref r), .val (.int (1 : Int32)), .val (.int (1 : Int32)), .val (.long v3), .second] [(.int (1 : Int32))])) t
      exact k
    exact Own.retN hR X1 hx (t := .boolean) hret (by simp) (hb hby d11_36) (by decide) (by decide) (by decide) ⟨by subst hv3; simp [own_emp, Own.b2i, hc4], N0, e1⟩
  · refine hD _ (T1.setTop (mkF m 28 #[.val (.ref o0), .val (.ref r), .val (.int (1 : Int32)), .val (.int (0 : Int32)), .val (.long v3), .second] [(.int (0 : Int32))])) (fun t k => ?_) ?_
    · show Steps p.tables e below (T1.setTop (mkF m 24 #[.val (.ref o0), .val (.ref r), .val (.int (1 : Int32)), .val (.int (0 : Int32)), .val (.long v3), .second] [(.int (lcmpW v3 (0 : Int64)))])) t
      refine XS.ifNo X1.here hx rfl (hb hby d11_24) rfl ((if0 _ _).trans (feq (fun q => hc4 ((lw_eq v3 (0 : Int64)).mp q))).1) ?_
      show Steps p.tables e below (T1.setTop (mkF m 27 #[.val (.ref o0), .val (.ref r), .val (.int (1 : Int32)), .val (.int (0 : Int32)), .val (.long v3), .second] [])) t
      refine XS.iconst X1.here hx rfl (hb hby d11_27) ?_
      show Steps p.tables e below (T1.setTop (mkF m 28 #[.val (.ref o0), .val (.ref r), .val (.int (1 : Int32)), .val (.int (0 : Int32)), .val (.long v3), .second] [(.int (0 : Int32))])) t
      exact k
    exact Own.retN hR X1 hx (t := .boolean) hret (by simp) (hb hby d11_28) (by decide) (by decide) (by decide) ⟨by subst hv3; simp [own_emp, Own.b2i, hc4], N0, e1⟩
theorem d12_0 : decode prog_21_method_3_code 0 = .ok (.aload_n 0, 1) := by decide +kernel
theorem d12_1 : decode prog_21_method_3_code 1 = .ok (.getfield 22, 3) := by decide +kernel
theorem d12_4 : decode prog_21_method_3_code 4 = .ok (.astore_n 1, 1) := by decide +kernel
theorem d12_5 : decode prog_21_method_3_code 5 = .ok (.aload_n 1, 1) := by decide +kernel
theorem d12_6 : decode prog_21_method_3_code 6 = .ok (.arraylength, 1) := by decide +kernel
theorem d12_7 : decode prog_21_method_3_code 7 = .ok (.istore_n 2, 1) := by decide +kernel
theorem d12_8 : decode prog_21_method_3_code 8 = .ok (.iconst 0, 1) := by decide +kernel
theorem d12_9 : decode prog_21_method_3_code 9 = .ok (.istore_n 3, 1) := by decide +kernel
theorem d12_10 : decode prog_21_method_3_code 10 = .ok (.iload_n 3, 1) := by decide +kernel
theorem d12_11 : decode prog_21_method_3_code 11 = .ok (.iload_n 2, 1) := by decide +kernel
theorem d12_12 : decode prog_21_method_3_code 12 = .ok (.if_icmp .ge 23, 3) := by decide +kernel
theorem d12_15 : decode prog_21_method_3_code 15 = .ok (.aload_n 1, 1) := by decide +kernel
theorem d12_16 : decode prog_21_method_3_code 16 = .ok (.iload_n 3, 1) := by decide +kernel
theorem d12_17 : decode prog_21_method_3_code 17 = .ok (.laload, 1) := by decide +kernel
theorem d12_18 : decode prog_21_method_3_code 18 = .ok (.lstore 4, 2) := by decide +kernel
theorem d12_20 : decode prog_21_method_3_code 20 = .ok (.lload 4, 2) := by decide +kernel
theorem d12_22 : decode prog_21_method_3_code 22 = .ok (.lconst 0, 1) := by decide +kernel
theorem d12_23 : decode prog_21_method_3_code 23 = .ok (.lcmp, 1) := by decide +kernel
theorem d12_24 : decode prog_21_method_3_code 24 = .ok (.ifCond .eq 5, 3) := by decide +kernel
theorem d12_27 : decode prog_21_method_3_code 27 = .ok (.iconst 0, 1) := by decide +kernel
theorem d12_28 : decode prog_21_method_3_code 28 = .ok (.ireturn, 1) := by decide +kernel
theorem d12_29 : decode prog_21_method_3_code 29 = .ok (.iinc 3 1, 3) := by decide +kernel
theorem d12_32 : decode prog_21_method_3_code 32 = .ok (.goto (-22), 3) := by decide +kernel
theorem d12_35 : decode prog_21_method_3_code 35 = .ok (.iconst 1, 1) := by decide +kernel
theorem d12_36 : decode prog_21_method_3_code 36 = .ok (.ireturn, 1) := by decide +kernel
theorem ef_12 (m : MethodId) (o0 : Addr) : entryFrame m #[(.ref o0)] 6 = mkF m 0 #[.val (.ref o0), .unset, .unset, .unset, .unset, .unset] [] := by first | (simp [entryFrame, mkF, argsToLocals, Value.category]; done) | rfl
def Q12 (Z : State) (o0 : Nat) (r : Nat) (f : Nat → Int64) (h0 : Heap) (n0 : Nat) (v : Option Value) (h : Heap) (L : List Loc) : Prop := v = some (.int (Own.b2i (own_emp 2 f))) ∧ Fr n0 L ∧ h = h0
set_option maxRecDepth 65536 in
set_option maxHeartbeats 40000000 in
theorem rm12 (l : Launch) (Z : State) (a0 : Array Value) (hw : ∀ d ∈ tables_1, d.before a0 Z = true) (ws : List Jvm.Cond) (o0 : Nat) (r : Nat) (f : Nat → Int64) (h0 : Heap) (n0 : Nat) (F_mask : Fld Z h0 o0 "com/example/eurycleia/eurycleia/core/Query" "mask" "[J" (.ref r)) (A_r : Own.AvJ Z h0 r 2 f) :
    MetFree l (⟨"com/example/eurycleia/eurycleia/core/Query", "isEmpty", "()Z"⟩ : MethodName) (head1 (Jvm.Cond.code (⟨"com/example/eurycleia/eurycleia/core/Query", "isEmpty", "()Z"⟩ : MethodName) prog_21_method_3_code 6 (some .boolean) :: ws) ({ frames := 0, cells := 0, slots := 0, locals := 0 } : Room)) (fun a U => a = #[(.ref o0)] ∧ Z.Warmed39 U.vm ∧ U.heap = h0) (fun _ _ _ _ _ => True) (fun _ U o U' => ∃ v L, o = .returned v ∧ Q12 Z o0 r f h0 n0 v U'.heap L ∧ FrameEnd U o U' L ({ frames := 0, cells := 0, slots := 0, locals := 0 } : Room).cells ({ frames := 0, cells := 0, slots := 0, locals := 0 } : Room).slots) := by
  refine Own.enter (Q := Q12 Z o0 r f h0 n0) (plainFor_of_name pn_1) ?_
  intro p e s m below meth c s₁ D hx hby hml hown hnm hret hZ X0 e0 hD hR
  have N0 := Fr.nil n0
  rw [show entryFrame m #[(.ref o0)] 6 = mkF m 0 #[.val (.ref o0), .unset, .unset, .unset, .unset, .unset] [] from ef_12 m o0]
  obtain ⟨T1, X1, e1, st1⟩ := getF X0 hx hZ hown (host := "") (Or.inl (hw _ (List.mem_of_getElem? (i := 17) rfl))) Via.refl e0 F_mask (g := (mkF m 1 #[.val (.ref o0), .unset, .unset, .unset, .unset, .unset] [(.ref o0)])) rfl rfl (hb hby d12_1)
  have hj2 : 0 ≤ (0 : Int32).toInt ∧ (0 : Int32).toInt < (2 : Nat) := ⟨by decide, by decide⟩
  obtain ⟨v3, hv3⟩ : ∃ z : Int64, z = (f 0) := ⟨_, rfl⟩
  refine hD _ (T1.setTop (mkF m 24 #[.val (.ref o0), .val (.ref r), .val (.int (2 : Int32)), .val (.int (0 : Int32)), .val (.long v3), .second] [(.int (lcmpW v3 (0 : Int64)))])) (fun t k => ?_) ?_
  · show Steps p.tables e below (s₁.setTop (mkF m 0 #[.val (.ref o0), .unset, .unset, .unset, .unset, .unset] [])) t
    refine XS.aloadN X0.here hx rfl (hb hby d12_0) rfl rfl ?_
    show Steps p.tables e below (s₁.setTop (mkF m 1 #[.val (.ref o0), .unset, .unset, .unset, .unset, .unset] [(.ref o0)])) t
    refine st1 _ ?_
    show Steps p.tables e below (T1.setTop (mkF m 4 #[.val (.ref o0), .unset, .unset, .unset, .unset, .unset] [(.ref r)])) t
    refine XS.astoreN X1.here hx rfl (hb hby d12_4) rfl rfl (l' := #[.val (.ref o0), .val (.ref r), .unset, .unset, .unset, .unset]) rfl ?_
    show Steps p.tables e below (T1.setTop (mkF m 5 #[.val (.ref o0), .val (.ref r), .unset, .unset, .unset, .unset] [])) t
    refine XS.aloadN X1.here hx rfl (hb hby d12_5) rfl rfl ?_
    show Steps p.tables e below (T1.setTop (mkF m 6 #[.val (.ref o0), .val (.ref r), .unset, .unset, .unset, .unset] [(.ref r)])) t
    refine Own.lenJ X1 hx hZ e1 A_r (g := (mkF m 6 #[.val (.ref o0), .val (.ref r), .unset, .unset, .unset, .unset] [(.ref r)])) rfl rfl (hb hby d12_6) _ ?_
    show Steps p.tables e below (T1.setTop (mkF m 7 #[.val (.ref o0), .val (.ref r), .unset, .unset, .unset, .unset] [(.int (Int32.ofNat 2))])) t
    refine Own.nmI (by decide : (2 : Int32) = (Int32.ofNat 2)) ?_
    show Steps p.tables e below (T1.setTop (mkF m 7 #[.val (.ref o0), .val (.ref r), .unset, .unset, .unset, .unset] [(.int (2 : Int32))])) t
    refine XS.istoreN X1.here hx rfl (hb hby d12_7) rfl (l' := #[.val (.ref o0), .val (.ref r), .val (.int (2 : Int32)), .unset, .unset, .unset]) rfl ?_
    show Steps p.tables e below (T1.setTop (mkF m 8 #[.val (.ref o0), .val (.ref r), .val (.int (2 : Int32)), .unset, .unset, .unset] [])) t
    refine XS.iconst X1.here hx rfl (hb hby d12_8) ?_
    show Steps p.tables e below (T1.setTop (mkF m 9 #[.val (.ref o0), .val (.ref r), .val (.int (2 : Int32)), .unset, .unset, .unset] [(.int (0 : Int32))])) t
    refine XS.istoreN X1.here hx rfl (hb hby d12_9) rfl (l' := #[.val (.ref o0), .val (.ref r), .val (.int (2 : Int32)), .val (.int (0 : Int32)), .unset, .unset]) rfl ?_
    show Steps p.tables e below (T1.setTop (mkF m 10 #[.val (.ref o0), .val (.ref r), .val (.int (2 : Int32)), .val (.int (0 : Int32)), .unset, .unset] [])) t
    refine XS.iloadN X1.here hx rfl (hb hby d12_10) rfl ?_
    show Steps p.tables e below (T1.setTop (mkF m 11 #[.val (.ref o0), .val (.ref r), .val (.int (2 : Int32)), .val (.int (0 : Int32)), .unset, .unset] [(.int (0 : Int32))])) t
    refine XS.iloadN X1.here hx rfl (hb hby d12_11) rfl ?_
    show Steps p.tables e below (T1.setTop (mkF m 12 #[.val (.ref o0), .val (.ref r), .val (.int (2 : Int32)), .val (.int (0 : Int32)), .unset, .unset] [(.int (2 : Int32)), (.int (0 : Int32))])) t
    refine XS.icmpNo X1.here hx rfl (hb hby d12_12) rfl (by decide) ?_
    show Steps p.tables e below (T1.setTop (mkF m 15 #[.val (.ref o0), .val (.ref r), .val (.int (2 : Int32)), .val (.int (0 : Int32)), .unset, .unset] [])) t
    refine XS.aloadN X1.here hx rfl (hb hby d12_15) rfl rfl ?_
    show Steps p.tables e below (T1.setTop (mkF m 16 #[.val (.ref o0), .val (.ref r), .val (.int (2 : Int32)), .val (.int (0 : Int32)), .unset, .unset] [(.ref r)])) t
    refine XS.iloadN X1.here hx rfl (hb hby d12_16) rfl ?_
    show Steps p.tables e below (T1.setTop (mkF m 17 #[.val (.ref o0), .val (.ref r), .val (.int (2 : Int32)), .val (.int (0 : Int32)), .unset, .unset] [(.int (0 : Int32)), (.ref r)])) t
    refine Own.ldJ X1 hx hZ e1 A_r hj2 (g := (mkF m 17 #[.val (.ref o0), .val (.ref r), .val (.int (2 : Int32)), .val (.int (0 : Int32)), .unset, .unset] [(.int (0 : Int32)), (.ref r)])) rfl rfl (hb hby d12_17) _ ?_
    show Steps p.tables e below (T1.setTop (mkF m 18 #[.val (.ref o0), .val (.ref r), .val (.int (2 : Int32)), .val (.int (0 : Int32)), .unset, .unset] [(.long (f 0))])) t
    refine Own.nmJ hv3 ?_
    show Steps p.tables e below (T1.setTop (mkF m 18 #[.val (.ref o0), .val (.ref r), .val (.int (2 : Int32)), .val (.int (0 : Int32)), .unset, .unset] [(.long v3)])) t
    refine XS.lstore X1.here hx rfl (hb hby d12_18) rfl (l' := #[.val (.ref o0), .val (.ref r), .val (.int (2 : Int32)), .val (.int (0 : Int32)), .val (.long v3), .second]) rfl ?_
    show Steps p.tables e below (T1.setTop (mkF m 20 #[.val (.ref o0), .val (.ref r), .val (.int (2 : Int32)), .val (.int (0 : Int32)), .val (.long v3), .second] [])) t
    refine XS.lload X1.here hx rfl (hb hby d12_20) rfl ?_
    show Steps p.tables e below (T1.setTop (mkF m 22 #[.val (.ref o0), .val (.ref r), .val (.int (2 : Int32)), .val (.int (0 : Int32)), .val (.long v3), .second] [(.long v3)])) t
    refine XS.lconst X1.here hx rfl (hb hby d12_22) ?_
    show Steps p.tables e below (T1.setTop (mkF m 23 #[.val (.ref o0), .val (.ref r), .val (.int (2 : Int32)), .val (.int (0 : Int32)), .val (.long v3), .second] [(.long (0 : Int64)), (.long v3)])) t
    refine XS.lcmp X1.here hx rfl (hb hby d12_23) rfl ?_
    show Steps p.tables e below (T1.setTop (mkF m 24 #[.val (.ref o0), .val (.ref r), .val (.int (2 : Int32)), .val (.int (0 : Int32)), .val (.long v3), .second] [(.int (lcmpW v3 (0 : Int64)))])) t
    exact k
  by_cases hc4 : v3 = (0 : Int64)
  · have hj5 : 0 ≤ (1 : Int32).toInt ∧ (1 : Int32).toInt < (2 : Nat) := ⟨by decide, by decide⟩
    obtain ⟨v6, hv6⟩ : ∃ z : Int64, z = (f 1) := ⟨_, rfl⟩
    refine hD _ (T1.setTop (mkF m 24 #[.val (.ref o0), .val (.ref r), .val (.int (2 : Int32)), .val (.int (1 : Int32)), .val (.long v6), .second] [(.int (lcmpW v6 (0 : Int64)))])) (fun t k => ?_) ?_
    · show Steps p.tables e below (T1.setTop (mkF m 24 #[.val (.ref o0), .val (.ref r), .val (.int (2 : Int32)), .val (.int (0 : Int32)), .val (.long v3), .second] [(.int (lcmpW v3 (0 : Int64)))])) t
      refine XS.ifYes X1.here hx rfl (pc0 := 24) (pc' := 29) rfl (hb hby d12_24) rfl ((if0 _ _).trans (teq ((lw_eq v3 (0 : Int64)).mpr hc4)).1) (by decide) (by decide) ?_
      show Steps p.tables e below (T1.setTop (mkF m 29 #[.val (.ref o0), .val (.ref r), .val (.int (2 : Int32)), .val (.int (0 : Int32)), .val (.long v3), .second] [])) t
      refine XS.iinc X1.here hx rfl (hb hby d12_29) rfl (l' := #[.val (.ref o0), .val (.ref r), .val (.int (2 : Int32)), .val (.int ((0 : Int32) + (1 : Int32))), .val (.long v3), .second]) rfl ?_
      show Steps p.tables e below (T1.setTop (mkF m 32 #[.val (.ref o0), .val (.ref r), .val (.int (2 : Int32)), .val (.int ((0 : Int32) + (1 : Int32))), .val (.long v3), .second] [])) t
      rw [show ((0 : Int32) + (1 : Int32)) = (1 : Int32) from by decide]
      show Steps p.tables e below (T1.setTop (mkF m 32 #[.val (.ref o0), .val (.ref r), .val (.int (2 : Int32)), .val (.int (1 : Int32)), .val (.long v3), .second] [])) t
      refine XS.goto X1.here hx rfl (pc0 := 32) (pc' := 10) rfl (hb hby d12_32) (by decide) (by decide) ?_
      show Steps p.tables e below (T1.setTop (mkF m 10 #[.val (.ref o0), .val (.ref r), .val (.int (2 : Int32)), .val (.int (1 : Int32)), .val (.long v3), .second] [])) t
      refine XS.iloadN X1.here hx rfl (hb hby d12_10) rfl ?_
      show Steps p.tables e below (T1.setTop (mkF m 11 #[.val (.ref o0), .val (.ref r), .val (.int (2 : Int32)), .val (.int (1 : Int32)), .val (.long v3), .second] [(.int (1 : Int32))])) t
      refine XS.iloadN X1.here hx rfl (hb hby d12_11) rfl ?_
      show Steps p.tables e below (T1.setTop (mkF m 12 #[.val (.ref o0), .val (.ref r), .val (.int (2 : Int32)), .val (.int (1 : Int32)), .val (.long v3), .second] [(.int (2 : Int32)), (.int (1 : Int32))])) t
      refine XS.icmpNo X1.here hx rfl (hb hby d12_12) rfl (by decide) ?_
      show Steps p.tables e below (T1.setTop (mkF m 15 #[.val (.ref o0), .val (.ref r), .val (.int (2 : Int32)), .val (.int (1 : Int32)), .val (.long v3), .second] [])) t
      refine XS.aloadN X1.here hx rfl (hb hby d12_15) rfl rfl ?_
      show Steps p.tables e below (T1.setTop (mkF m 16 #[.val (.ref o0), .val (.ref r), .val (.int (2 : Int32)), .val (.int (1 : Int32)), .val (.long v3), .second] [(.ref r)])) t
      refine XS.iloadN X1.here hx rfl (hb hby d12_16) rfl ?_
      show Steps p.tables e below (T1.setTop (mkF m 17 #[.val (.ref o0), .val (.ref r), .val (.int (2 : Int32)), .val (.int (1 : Int32)), .val (.long v3), .second] [(.int (1 : Int32)), (.ref r)])) t
      refine Own.ldJ X1 hx hZ e1 A_r hj5 (g := (mkF m 17 #[.val (.ref o0), .val (.ref r), .val (.int (2 : Int32)), .val (.int (1 : Int32)), .val (.long v3), .second] [(.int (1 : Int32)), (.ref r)])) rfl rfl (hb hby d12_17) _ ?_
      show Steps p.tables e below (T1.setTop (mkF m 18 #[.val (.ref o0), .val (.ref r), .val (.int (2 : Int32)), .val (.int (1 : Int32)), .val (.long v3), .second] [(.long (f 1))])) t
      refine Own.nmJ hv6 ?_
      show Steps p.tables e below (T1.setTop (mkF m 18 #[.val (.ref o0), .val (.ref r), .val (.int (2 : Int32)), .val (.int (1 : Int32)), .val (.long v3), .second] [(.long v6)])) t
      refine XS.lstore X1.here hx rfl (hb hby d12_18) rfl (l' := #[.val (.ref o0), .val (.ref r), .val (.int (2 : Int32)), .val (.int (1 : Int32)), .val (.long v6), .second]) rfl ?_
      show Steps p.tables e below (T1.setTop (mkF m 20 #[.val (.ref o0), .val (.ref r), .val (.int (2 : Int32)), .val (.int (1 : Int32)), .val (.long v6), .second] [])) t
      refine XS.lload X1.here hx rfl (hb hby d12_20) rfl ?_
      show Steps p.tables e below (T1.setTop (mkF m 22 #[.val (.ref o0), .val (.ref r), .val (.int (2 : Int32)), .val (.int (1 : Int32)), .val (.long v6), .second] [(.long v6)])) t
      refine XS.lconst X1.here hx rfl (hb hby d12_22) ?_
      show Steps p.tables e below (T1.setTop (mkF m 23 #[.val (.ref o0), .val (.ref r), .val (.int (2 : Int32)), .val (.int (1 : Int32)), .val (.long v6), .second] [(.long (0 : Int64)), (.long v6)])) t
      refine XS.lcmp X1.here hx rfl (hb hby d12_23) rfl ?_
      show Steps p.tables e below (T1.setTop (mkF m 24 #[.val (.ref o0), .val (.ref r), .val (.int (2 : Int32)), .val (.int (1 : Int32)), .val (.long v6), .second] [(.int (lcmpW v6 (0 : Int64)))])) t
      exact k
    by_cases hc7 : v6 = (0 : Int64)
    · refine hD _ (T1.setTop (mkF m 36 #[.val (.ref o0), .val (.ref r), .val (.int (2 : Int32)), .val (.int (2 : Int32)), .val (.long v6), .second] [(.int (1 : Int32))])) (fun t k => ?_) ?_
      · show Steps p.tables e below (T1.setTop (mkF m 24 #[.val (.ref o0), .val (.ref r), .val (.int (2 : Int32)), .val (.int (1 : Int32)), .val (.long v6), .second] [(.int (lcmpW v6 (0 : Int64)))])) t
        refine XS.ifYes X1.here hx rfl (pc0 := 24) (pc' := 29) rfl (hb hby d12_24) rfl ((if0 _ _).trans (teq ((lw_eq v6 (0 : Int64)).mpr hc7)).1) (by decide) (by decide) ?_
        show Steps p.tables e below (T1.setTop (mkF m 29 #[.val (.ref o0), .val (.ref r), .val (.int (2 : Int32)), .val (.int (1 : Int32)), .val (.long v6), .second] [])) t
        refine XS.iinc X1.here hx rfl (hb hby d12_29) rfl (l' := #[.val (.ref o0), .val (.ref r), .val (.int (2 : Int32)), .val (.int ((1 : Int32) + (1 : Int32))), .val (.long v6), .second]) rfl ?_
        show Steps p.tables e below (T1.setTop (mkF m 32 #[.val (.ref o0), .val (.ref r), .val (.int (2 : Int32)), .val (.int ((1 : Int32) + (1 : Int32))), .val (.long v6), .second] [])) t
        rw [show ((1 : Int32) + (1 : Int32)) = (2 : Int32) from by decide]
        show Steps p.tables e below (T1.setTop (mkF m 32 #[.val (.ref o0), .val (.ref r), .val (.int (2 : Int32)), .val (.int (2 : Int32)), .val (.long v6), .second] [])) t
        refine XS.goto X1.here hx rfl (pc0 := 32) (pc' := 10) rfl (hb hby d12_32) (by decide) (by decide) ?_
        show Steps p.tables e below (T1.setTop (mkF m 10 #[.val (.ref o0), .val (.ref r), .val (.int (2 : Int32)), .val (.int (2 : Int32)), .val (.long v6), .second] [])) t
        refine XS.iloadN X1.here hx rfl (hb hby d12_10) rfl ?_
        show Steps p.tables e below (T1.setTop (mkF m 11 #[.val (.ref o0), .val (.ref r), .val (.int (2 : Int32)), .val (.int (2 : Int32)), .val (.long v6), .second] [(.int (2 : Int32))])) t
        refine XS.iloadN X1.here hx rfl (hb hby d12_11) rfl ?_
        show Steps p.tables e below (T1.setTop (mkF m 12 #[.val (.ref o0), .val (.ref r), .val (.int (2 : Int32)), .val (.int (2 : Int32)), .val (.long v6), .second] [(.int (2 : Int32)), (.int (2 : Int32))])) t
        refine XS.icmpYes X1.here hx rfl (pc0 := 12) (pc' := 35) rfl (hb hby d12_12) rfl (by decide) (by decide) (by decide) ?_
        show Steps p.tables e below (T1.setTop (mkF m 35 #[.val (.ref o0), .val (.ref r), .val (.int (2 : Int32)), .val (.int (2 : Int32)), .val (.long v6), .second] [])) t
        refine XS.iconst X1.here hx rfl (hb hby d12_35) ?_
        show Steps p.tables e below (T1.setTop (mkF m 36 #[.val (.ref o0), .val (.ref r), .val (.int (2 : Int32)), .val (.int (2 : Int32)), .val (.long v6), .second] [(.int (1 : Int32))])) t
        exact k
      exact Own.retN hR X1 hx (t := .boolean) hret (by simp) (hb hby d12_36) (by decide) (by decide) (by decide) ⟨by subst hv6; subst hv3; simp [own_emp, Own.b2i, hc4, hc7], N0, e1⟩
    · refine hD _ (T1.setTop (mkF m 28 #[.val (.ref o0), .val (.ref r), .val (.int (2 : Int32)), .val (.int (1 : Int32)), .val (.long v6), .second] [(.int (0 : Int32))])) (fun t k => ?_) ?_
      · show Steps p.tables e below (T1.setTop (mkF m 24 #[.val (.ref o0), .val (.ref r), .val (.int (2 : Int32)), .val (.int (1 : Int32)), .val (.long v6), .second] [(.int (lcmpW v6 (0 : Int64)))])) t
        refine XS.ifNo X1.here hx rfl (hb hby d12_24) rfl ((if0 _ _).trans (feq (fun q => hc7 ((lw_eq v6 (0 : Int64)).mp q))).1) ?_
        show Steps p.tables e below (T1.setTop (mkF m 27 #[.val (.ref o0), .val (.ref r), .val (.int (2 : Int32)), .val (.int (1 : Int32)), .val (.long v6), .second] [])) t
        refine XS.iconst X1.here hx rfl (hb hby d12_27) ?_
        show Steps p.tables e below (T1.setTop (mkF m 28 #[.val (.ref o0), .val (.ref r), .val (.int (2 : Int32)), .val (.int (1 : Int32)), .val (.long v6), .second] [(.int (0 : Int32))])) t
        exact k
      exact Own.retN hR X1 hx (t := .boolean) hret (by simp) (hb hby d12_28) (by decide) (by decide) (by decide) ⟨by subst hv6; subst hv3; simp [own_emp, Own.b2i, hc4, hc7], N0, e1⟩
  · refine hD _ (T1.setTop (mkF m 28 #[.val (.ref o0), .val (.ref r), .val (.int (2 : Int32)), .val (.int (0 : Int32)), .val (.long v3), .second] [(.int (0 : Int32))])) (fun t k => ?_) ?_
    · show Steps p.tables e below (T1.setTop (mkF m 24 #[.val (.ref o0), .val (.ref r), .val (.int (2 : Int32)), .val (.int (0 : Int32)), .val (.long v3), .second] [(.int (lcmpW v3 (0 : Int64)))])) t
      refine XS.ifNo X1.here hx rfl (hb hby d12_24) rfl ((if0 _ _).trans (feq (fun q => hc4 ((lw_eq v3 (0 : Int64)).mp q))).1) ?_
      show Steps p.tables e below (T1.setTop (mkF m 27 #[.val (.ref o0), .val (.ref r), .val (.int (2 : Int32)), .val (.int (0 : Int32)), .val (.long v3), .second] [])) t
      refine XS.iconst X1.here hx rfl (hb hby d12_27) ?_
      show Steps p.tables e below (T1.setTop (mkF m 28 #[.val (.ref o0), .val (.ref r), .val (.int (2 : Int32)), .val (.int (0 : Int32)), .val (.long v3), .second] [(.int (0 : Int32))])) t
      exact k
    exact Own.retN hR X1 hx (t := .boolean) hret (by simp) (hb hby d12_28) (by decide) (by decide) (by decide) ⟨by subst hv3; simp [own_emp, Own.b2i, hc4], N0, e1⟩
theorem d13_0 : decode prog_21_method_3_code 0 = .ok (.aload_n 0, 1) := by decide +kernel
theorem d13_1 : decode prog_21_method_3_code 1 = .ok (.getfield 22, 3) := by decide +kernel
theorem d13_4 : decode prog_21_method_3_code 4 = .ok (.astore_n 1, 1) := by decide +kernel
theorem d13_5 : decode prog_21_method_3_code 5 = .ok (.aload_n 1, 1) := by decide +kernel
theorem d13_6 : decode prog_21_method_3_code 6 = .ok (.arraylength, 1) := by decide +kernel
theorem d13_7 : decode prog_21_method_3_code 7 = .ok (.istore_n 2, 1) := by decide +kernel
theorem d13_8 : decode prog_21_method_3_code 8 = .ok (.iconst 0, 1) := by decide +kernel
theorem d13_9 : decode prog_21_method_3_code 9 = .ok (.istore_n 3, 1) := by decide +kernel
theorem d13_10 : decode prog_21_method_3_code 10 = .ok (.iload_n 3, 1) := by decide +kernel
theorem d13_11 : decode prog_21_method_3_code 11 = .ok (.iload_n 2, 1) := by decide +kernel
theorem d13_12 : decode prog_21_method_3_code 12 = .ok (.if_icmp .ge 23, 3) := by decide +kernel
theorem d13_15 : decode prog_21_method_3_code 15 = .ok (.aload_n 1, 1) := by decide +kernel
theorem d13_16 : decode prog_21_method_3_code 16 = .ok (.iload_n 3, 1) := by decide +kernel
theorem d13_17 : decode prog_21_method_3_code 17 = .ok (.laload, 1) := by decide +kernel
theorem d13_18 : decode prog_21_method_3_code 18 = .ok (.lstore 4, 2) := by decide +kernel
theorem d13_20 : decode prog_21_method_3_code 20 = .ok (.lload 4, 2) := by decide +kernel
theorem d13_22 : decode prog_21_method_3_code 22 = .ok (.lconst 0, 1) := by decide +kernel
theorem d13_23 : decode prog_21_method_3_code 23 = .ok (.lcmp, 1) := by decide +kernel
theorem d13_24 : decode prog_21_method_3_code 24 = .ok (.ifCond .eq 5, 3) := by decide +kernel
theorem d13_27 : decode prog_21_method_3_code 27 = .ok (.iconst 0, 1) := by decide +kernel
theorem d13_28 : decode prog_21_method_3_code 28 = .ok (.ireturn, 1) := by decide +kernel
theorem d13_29 : decode prog_21_method_3_code 29 = .ok (.iinc 3 1, 3) := by decide +kernel
theorem d13_32 : decode prog_21_method_3_code 32 = .ok (.goto (-22), 3) := by decide +kernel
theorem d13_35 : decode prog_21_method_3_code 35 = .ok (.iconst 1, 1) := by decide +kernel
theorem d13_36 : decode prog_21_method_3_code 36 = .ok (.ireturn, 1) := by decide +kernel
theorem ef_13 (m : MethodId) (o0 : Addr) : entryFrame m #[(.ref o0)] 6 = mkF m 0 #[.val (.ref o0), .unset, .unset, .unset, .unset, .unset] [] := by first | (simp [entryFrame, mkF, argsToLocals, Value.category]; done) | rfl
def Q13 (Z : State) (o0 : Nat) (r : Nat) (f : Nat → Int64) (h0 : Heap) (n0 : Nat) (v : Option Value) (h : Heap) (L : List Loc) : Prop := v = some (.int (Own.b2i (own_emp 3 f))) ∧ Fr n0 L ∧ h = h0
set_option maxRecDepth 65536 in
set_option maxHeartbeats 40000000 in
theorem rm13 (l : Launch) (Z : State) (a0 : Array Value) (hw : ∀ d ∈ tables_1, d.before a0 Z = true) (ws : List Jvm.Cond) (o0 : Nat) (r : Nat) (f : Nat → Int64) (h0 : Heap) (n0 : Nat) (F_mask : Fld Z h0 o0 "com/example/eurycleia/eurycleia/core/Query" "mask" "[J" (.ref r)) (A_r : Own.AvJ Z h0 r 3 f) :
    MetFree l (⟨"com/example/eurycleia/eurycleia/core/Query", "isEmpty", "()Z"⟩ : MethodName) (head1 (Jvm.Cond.code (⟨"com/example/eurycleia/eurycleia/core/Query", "isEmpty", "()Z"⟩ : MethodName) prog_21_method_3_code 6 (some .boolean) :: ws) ({ frames := 0, cells := 0, slots := 0, locals := 0 } : Room)) (fun a U => a = #[(.ref o0)] ∧ Z.Warmed39 U.vm ∧ U.heap = h0) (fun _ _ _ _ _ => True) (fun _ U o U' => ∃ v L, o = .returned v ∧ Q13 Z o0 r f h0 n0 v U'.heap L ∧ FrameEnd U o U' L ({ frames := 0, cells := 0, slots := 0, locals := 0 } : Room).cells ({ frames := 0, cells := 0, slots := 0, locals := 0 } : Room).slots) := by
  refine Own.enter (Q := Q13 Z o0 r f h0 n0) (plainFor_of_name pn_1) ?_
  intro p e s m below meth c s₁ D hx hby hml hown hnm hret hZ X0 e0 hD hR
  have N0 := Fr.nil n0
  rw [show entryFrame m #[(.ref o0)] 6 = mkF m 0 #[.val (.ref o0), .unset, .unset, .unset, .unset, .unset] [] from ef_13 m o0]
  obtain ⟨T1, X1, e1, st1⟩ := getF X0 hx hZ hown (host := "") (Or.inl (hw _ (List.mem_of_getElem? (i := 17) rfl))) Via.refl e0 F_mask (g := (mkF m 1 #[.val (.ref o0), .unset, .unset, .unset, .unset, .unset] [(.ref o0)])) rfl rfl (hb hby d13_1)
  have hj2 : 0 ≤ (0 : Int32).toInt ∧ (0 : Int32).toInt < (3 : Nat) := ⟨by decide, by decide⟩
  obtain ⟨v3, hv3⟩ : ∃ z : Int64, z = (f 0) := ⟨_, rfl⟩
  refine hD _ (T1.setTop (mkF m 24 #[.val (.ref o0), .val (.ref r), .val (.int (3 : Int32)), .val (.int (0 : Int32)), .val (.long v3), .second] [(.int (lcmpW v3 (0 : Int64)))])) (fun t k => ?_) ?_
  · show Steps p.tables e below (s₁.setTop (mkF m 0 #[.val (.ref o0), .unset, .unset, .unset, .unset, .unset] [])) t
    refine XS.aloadN X0.here hx rfl (hb hby d13_0) rfl rfl ?_
    show Steps p.tables e below (s₁.setTop (mkF m 1 #[.val (.ref o0), .unset, .unset, .unset, .unset, .unset] [(.ref o0)])) t
    refine st1 _ ?_
    show Steps p.tables e below (T1.setTop (mkF m 4 #[.val (.ref o0), .unset, .unset, .unset, .unset, .unset] [(.ref r)])) t
    refine XS.astoreN X1.here hx rfl (hb hby d13_4) rfl rfl (l' := #[.val (.ref o0), .val (.ref r), .unset, .unset, .unset, .unset]) rfl ?_
    show Steps p.tables e below (T1.setTop (mkF m 5 #[.val (.ref o0), .val (.ref r), .unset, .unset, .unset, .unset] [])) t
    refine XS.aloadN X1.here hx rfl (hb hby d13_5) rfl rfl ?_
    show Steps p.tables e below (T1.setTop (mkF m 6 #[.val (.ref o0), .val (.ref r), .unset, .unset, .unset, .unset] [(.ref r)])) t
    refine Own.lenJ X1 hx hZ e1 A_r (g := (mkF m 6 #[.val (.ref o0), .val (.ref r), .unset, .unset, .unset, .unset] [(.ref r)])) rfl rfl (hb hby d13_6) _ ?_
    show Steps p.tables e below (T1.setTop (mkF m 7 #[.val (.ref o0), .val (.ref r), .unset, .unset, .unset, .unset] [(.int (Int32.ofNat 3))])) t
    refine Own.nmI (by decide : (3 : Int32) = (Int32.ofNat 3)) ?_
    show Steps p.tables e below (T1.setTop (mkF m 7 #[.val (.ref o0), .val (.ref r), .unset, .unset, .unset, .unset] [(.int (3 : Int32))])) t
    refine XS.istoreN X1.here hx rfl (hb hby d13_7) rfl (l' := #[.val (.ref o0), .val (.ref r), .val (.int (3 : Int32)), .unset, .unset, .unset]) rfl ?_
    show Steps p.tables e below (T1.setTop (mkF m 8 #[.val (.ref o0), .val (.ref r), .val (.int (3 : Int32)), .unset, .unset, .unset] [])) t
    refine XS.iconst X1.here hx rfl (hb hby d13_8) ?_
    show Steps p.tables e below (T1.setTop (mkF m 9 #[.val (.ref o0), .val (.ref r), .val (.int (3 : Int32)), .unset, .unset, .unset] [(.int (0 : Int32))])) t
    refine XS.istoreN X1.here hx rfl (hb hby d13_9) rfl (l' := #[.val (.ref o0), .val (.ref r), .val (.int (3 : Int32)), .val (.int (0 : Int32)), .unset, .unset]) rfl ?_
    show Steps p.tables e below (T1.setTop (mkF m 10 #[.val (.ref o0), .val (.ref r), .val (.int (3 : Int32)), .val (.int (0 : Int32)), .unset, .unset] [])) t
    refine XS.iloadN X1.here hx rfl (hb hby d13_10) rfl ?_
    show Steps p.tables e below (T1.setTop (mkF m 11 #[.val (.ref o0), .val (.ref r), .val (.int (3 : Int32)), .val (.int (0 : Int32)), .unset, .unset] [(.int (0 : Int32))])) t
    refine XS.iloadN X1.here hx rfl (hb hby d13_11) rfl ?_
    show Steps p.tables e below (T1.setTop (mkF m 12 #[.val (.ref o0), .val (.ref r), .val (.int (3 : Int32)), .val (.int (0 : Int32)), .unset, .unset] [(.int (3 : Int32)), (.int (0 : Int32))])) t
    refine XS.icmpNo X1.here hx rfl (hb hby d13_12) rfl (by decide) ?_
    show Steps p.tables e below (T1.setTop (mkF m 15 #[.val (.ref o0), .val (.ref r), .val (.int (3 : Int32)), .val (.int (0 : Int32)), .unset, .unset] [])) t
    refine XS.aloadN X1.here hx rfl (hb hby d13_15) rfl rfl ?_
    show Steps p.tables e below (T1.setTop (mkF m 16 #[.val (.ref o0), .val (.ref r), .val (.int (3 : Int32)), .val (.int (0 : Int32)), .unset, .unset] [(.ref r)])) t
    refine XS.iloadN X1.here hx rfl (hb hby d13_16) rfl ?_
    show Steps p.tables e below (T1.setTop (mkF m 17 #[.val (.ref o0), .val (.ref r), .val (.int (3 : Int32)), .val (.int (0 : Int32)), .unset, .unset] [(.int (0 : Int32)), (.ref r)])) t
    refine Own.ldJ X1 hx hZ e1 A_r hj2 (g := (mkF m 17 #[.val (.ref o0), .val (.ref r), .val (.int (3 : Int32)), .val (.int (0 : Int32)), .unset, .unset] [(.int (0 : Int32)), (.ref r)])) rfl rfl (hb hby d13_17) _ ?_
    show Steps p.tables e below (T1.setTop (mkF m 18 #[.val (.ref o0), .val (.ref r), .val (.int (3 : Int32)), .val (.int (0 : Int32)), .unset, .unset] [(.long (f 0))])) t
    refine Own.nmJ hv3 ?_
    show Steps p.tables e below (T1.setTop (mkF m 18 #[.val (.ref o0), .val (.ref r), .val (.int (3 : Int32)), .val (.int (0 : Int32)), .unset, .unset] [(.long v3)])) t
    refine XS.lstore X1.here hx rfl (hb hby d13_18) rfl (l' := #[.val (.ref o0), .val (.ref r), .val (.int (3 : Int32)), .val (.int (0 : Int32)), .val (.long v3), .second]) rfl ?_
    show Steps p.tables e below (T1.setTop (mkF m 20 #[.val (.ref o0), .val (.ref r), .val (.int (3 : Int32)), .val (.int (0 : Int32)), .val (.long v3), .second] [])) t
    refine XS.lload X1.here hx rfl (hb hby d13_20) rfl ?_
    show Steps p.tables e below (T1.setTop (mkF m 22 #[.val (.ref o0), .val (.ref r), .val (.int (3 : Int32)), .val (.int (0 : Int32)), .val (.long v3), .second] [(.long v3)])) t
    refine XS.lconst X1.here hx rfl (hb hby d13_22) ?_
    show Steps p.tables e below (T1.setTop (mkF m 23 #[.val (.ref o0), .val (.ref r), .val (.int (3 : Int32)), .val (.int (0 : Int32)), .val (.long v3), .second] [(.long (0 : Int64)), (.long v3)])) t
    refine XS.lcmp X1.here hx rfl (hb hby d13_23) rfl ?_
    show Steps p.tables e below (T1.setTop (mkF m 24 #[.val (.ref o0), .val (.ref r), .val (.int (3 : Int32)), .val (.int (0 : Int32)), .val (.long v3), .second] [(.int (lcmpW v3 (0 : Int64)))])) t
    exact k
  by_cases hc4 : v3 = (0 : Int64)
  · have hj5 : 0 ≤ (1 : Int32).toInt ∧ (1 : Int32).toInt < (3 : Nat) := ⟨by decide, by decide⟩
    obtain ⟨v6, hv6⟩ : ∃ z : Int64, z = (f 1) := ⟨_, rfl⟩
    refine hD _ (T1.setTop (mkF m 24 #[.val (.ref o0), .val (.ref r), .val (.int (3 : Int32)), .val (.int (1 : Int32)), .val (.long v6), .second] [(.int (lcmpW v6 (0 : Int64)))])) (fun t k => ?_) ?_
    · show Steps p.tables e below (T1.setTop (mkF m 24 #[.val (.ref o0), .val (.ref r), .val (.int (3 : Int32)), .val (.int (0 : Int32)), .val (.long v3), .second] [(.int (lcmpW v3 (0 : Int64)))])) t
      refine XS.ifYes X1.here hx rfl (pc0 := 24) (pc' := 29) rfl (hb hby d13_24) rfl ((if0 _ _).trans (teq ((lw_eq v3 (0 : Int64)).mpr hc4)).1) (by decide) (by decide) ?_
      show Steps p.tables e below (T1.setTop (mkF m 29 #[.val (.ref o0), .val (.ref r), .val (.int (3 : Int32)), .val (.int (0 : Int32)), .val (.long v3), .second] [])) t
      refine XS.iinc X1.here hx rfl (hb hby d13_29) rfl (l' := #[.val (.ref o0), .val (.ref r), .val (.int (3 : Int32)), .val (.int ((0 : Int32) + (1 : Int32))), .val (.long v3), .second]) rfl ?_
      show Steps p.tables e below (T1.setTop (mkF m 32 #[.val (.ref o0), .val (.ref r), .val (.int (3 : Int32)), .val (.int ((0 : Int32) + (1 : Int32))), .val (.long v3), .second] [])) t
      rw [show ((0 : Int32) + (1 : Int32)) = (1 : Int32) from by decide]
      show Steps p.tables e below (T1.setTop (mkF m 32 #[.val (.ref o0), .val (.ref r), .val (.int (3 : Int32)), .val (.int (1 : Int32)), .val (.long v3), .second] [])) t
      refine XS.goto X1.here hx rfl (pc0 := 32) (pc' := 10) rfl (hb hby d13_32) (by decide) (by decide) ?_
      show Steps p.tables e below (T1.setTop (mkF m 10 #[.val (.ref o0), .val (.ref r), .val (.int (3 : Int32)), .val (.int (1 : Int32)), .val (.long v3), .second] [])) t
      refine XS.iloadN X1.here hx rfl (hb hby d13_10) rfl ?_
      show Steps p.tables e below (T1.setTop (mkF m 11 #[.val (.ref o0), .val (.ref r), .val (.int (3 : Int32)), .val (.int (1 : Int32)), .val (.long v3), .second] [(.int (1 : Int32))])) t
      refine XS.iloadN X1.here hx rfl (hb hby d13_11) rfl ?_
      show Steps p.tables e below (T1.setTop (mkF m 12 #[.val (.ref o0), .val (.ref r), .val (.int (3 : Int32)), .val (.int (1 : Int32)), .val (.long v3), .second] [(.int (3 : Int32)), (.int (1 : Int32))])) t
      refine XS.icmpNo X1.here hx rfl (hb hby d13_12) rfl (by decide) ?_
      show Steps p.tables e below (T1.setTop (mkF m 15 #[.val (.ref o0), .val (.ref r), .val (.int (3 : Int32)), .val (.int (1 : Int32)), .val (.long v3), .second] [])) t
      refine XS.aloadN X1.here hx rfl (hb hby d13_15) rfl rfl ?_
      show Steps p.tables e below (T1.setTop (mkF m 16 #[.val (.ref o0), .val (.ref r), .val (.int (3 : Int32)), .val (.int (1 : Int32)), .val (.long v3), .second] [(.ref r)])) t
      refine XS.iloadN X1.here hx rfl (hb hby d13_16) rfl ?_
      show Steps p.tables e below (T1.setTop (mkF m 17 #[.val (.ref o0), .val (.ref r), .val (.int (3 : Int32)), .val (.int (1 : Int32)), .val (.long v3), .second] [(.int (1 : Int32)), (.ref r)])) t
      refine Own.ldJ X1 hx hZ e1 A_r hj5 (g := (mkF m 17 #[.val (.ref o0), .val (.ref r), .val (.int (3 : Int32)), .val (.int (1 : Int32)), .val (.long v3), .second] [(.int (1 : Int32)), (.ref r)])) rfl rfl (hb hby d13_17) _ ?_
      show Steps p.tables e below (T1.setTop (mkF m 18 #[.val (.ref o0), .val (.ref r), .val (.int (3 : Int32)), .val (.int (1 : Int32)), .val (.long v3), .second] [(.long (f 1))])) t
      refine Own.nmJ hv6 ?_
      show Steps p.tables e below (T1.setTop (mkF m 18 #[.val (.ref o0), .val (.ref r), .val (.int (3 : Int32)), .val (.int (1 : Int32)), .val (.long v3), .second] [(.long v6)])) t
      refine XS.lstore X1.here hx rfl (hb hby d13_18) rfl (l' := #[.val (.ref o0), .val (.ref r), .val (.int (3 : Int32)), .val (.int (1 : Int32)), .val (.long v6), .second]) rfl ?_
      show Steps p.tables e below (T1.setTop (mkF m 20 #[.val (.ref o0), .val (.ref r), .val (.int (3 : Int32)), .val (.int (1 : Int32)), .val (.long v6), .second] [])) t
      refine XS.lload X1.here hx rfl (hb hby d13_20) rfl ?_
      show Steps p.tables e below (T1.setTop (mkF m 22 #[.val (.ref o0), .val (.ref r), .val (.int (3 : Int32)), .val (.int (1 : Int32)), .val (.long v6), .second] [(.long v6)])) t
      refine XS.lconst X1.here hx rfl (hb hby d13_22) ?_
      show Steps p.tables e below (T1.setTop (mkF m 23 #[.val (.ref o0), .val (.ref r), .val (.int (3 : Int32)), .val (.int (1 : Int32)), .val (.long v6), .second] [(.long (0 : Int64)), (.long v6)])) t
      refine XS.lcmp X1.here hx rfl (hb hby d13_23) rfl ?_
      show Steps p.tables e below (T1.setTop (mkF m 24 #[.val (.ref o0), .val (.ref r), .val (.int (3 : Int32)), .val (.int (1 : Int32)), .val (.long v6), .second] [(.int (lcmpW v6 (0 : Int64)))])) t
      exact k
    by_cases hc7 : v6 = (0 : Int64)
    · have hj8 : 0 ≤ (2 : Int32).toInt ∧ (2 : Int32).toInt < (3 : Nat) := ⟨by decide, by decide⟩
      obtain ⟨v9, hv9⟩ : ∃ z : Int64, z = (f 2) := ⟨_, rfl⟩
      refine hD _ (T1.setTop (mkF m 24 #[.val (.ref o0), .val (.ref r), .val (.int (3 : Int32)), .val (.int (2 : Int32)), .val (.long v9), .second] [(.int (lcmpW v9 (0 : Int64)))])) (fun t k => ?_) ?_
      · show Steps p.tables e below (T1.setTop (mkF m 24 #[.val (.ref o0), .val (.ref r), .val (.int (3 : Int32)), .val (.int (1 : Int32)), .val (.long v6), .second] [(.int (lcmpW v6 (0 : Int64)))])) t
        refine XS.ifYes X1.here hx rfl (pc0 := 24) (pc' := 29) rfl (hb hby d13_24) rfl ((if0 _ _).trans (teq ((lw_eq v6 (0 : Int64)).mpr hc7)).1) (by decide) (by decide) ?_
        show Steps p.tables e below (T1.setTop (mkF m 29 #[.val (.ref o0), .val (.ref r), .val (.int (3 : Int32)), .val (.int (1 : Int32)), .val (.long v6), .second] [])) t
        refine XS.iinc X1.here hx rfl (hb hby d13_29) rfl (l' := #[.val (.ref o0), .val (.ref r), .val (.int (3 : Int32)), .val (.int ((1 : Int32) + (1 : Int32))), .val (.long v6), .second]) rfl ?_
        show Steps p.tables e below (T1.setTop (mkF m 32 #[.val (.ref o0), .val (.ref r), .val (.int (3 : Int32)), .val (.int ((1 : Int32) + (1 : Int32))), .val (.long v6), .second] [])) t
        rw [show ((1 : Int32) + (1 : Int32)) = (2 : Int32) from by decide]
        show Steps p.tables e below (T1.setTop (mkF m 32 #[.val (.ref o0), .val (.ref r), .val (.int (3 : Int32)), .val (.int (2 : Int32)), .val (.long v6), .second] [])) t
        refine XS.goto X1.here hx rfl (pc0 := 32) (pc' := 10) rfl (hb hby d13_32) (by decide) (by decide) ?_
        show Steps p.tables e below (T1.setTop (mkF m 10 #[.val (.ref o0), .val (.ref r), .val (.int (3 : Int32)), .val (.int (2 : Int32)), .val (.long v6), .second] [])) t
        refine XS.iloadN X1.here hx rfl (hb hby d13_10) rfl ?_
        show Steps p.tables e below (T1.setTop (mkF m 11 #[.val (.ref o0), .val (.ref r), .val (.int (3 : Int32)), .val (.int (2 : Int32)), .val (.long v6), .second] [(.int (2 : Int32))])) t
        refine XS.iloadN X1.here hx rfl (hb hby d13_11) rfl ?_
        show Steps p.tables e below (T1.setTop (mkF m 12 #[.val (.ref o0), .val (.ref r), .val (.int (3 : Int32)), .val (.int (2 : Int32)), .val (.long v6), .second] [(.int (3 : Int32)), (.int (2 : Int32))])) t
        refine XS.icmpNo X1.here hx rfl (hb hby d13_12) rfl (by decide) ?_
        show Steps p.tables e below (T1.setTop (mkF m 15 #[.val (.ref o0), .val (.ref r), .val (.int (3 : Int32)), .val (.int (2 : Int32)), .val (.long v6), .second] [])) t
        refine XS.aloadN X1.here hx rfl (hb hby d13_15) rfl rfl ?_
        show Steps p.tables e below (T1.setTop (mkF m 16 #[.val (.ref o0), .val (.ref r), .val (.int (3 : Int32)), .val (.int (2 : Int32)), .val (.long v6), .second] [(.ref r)])) t
        refine XS.iloadN X1.here hx rfl (hb hby d13_16) rfl ?_
        show Steps p.tables e below (T1.setTop (mkF m 17 #[.val (.ref o0), .val (.ref r), .val (.int (3 : Int32)), .val (.int (2 : Int32)), .val (.long v6), .second] [(.int (2 : Int32)), (.ref r)])) t
        refine Own.ldJ X1 hx hZ e1 A_r hj8 (g := (mkF m 17 #[.val (.ref o0), .val (.ref r), .val (.int (3 : Int32)), .val (.int (2 : Int32)), .val (.long v6), .second] [(.int (2 : Int32)), (.ref r)])) rfl rfl (hb hby d13_17) _ ?_
        show Steps p.tables e below (T1.setTop (mkF m 18 #[.val (.ref o0), .val (.ref r), .val (.int (3 : Int32)), .val (.int (2 : Int32)), .val (.long v6), .second] [(.long (f 2))])) t
        refine Own.nmJ hv9 ?_
        show Steps p.tables e below (T1.setTop (mkF m 18 #[.val (.ref o0), .val (.ref r), .val (.int (3 : Int32)), .val (.int (2 : Int32)), .val (.long v6), .second] [(.long v9)])) t
        refine XS.lstore X1.here hx rfl (hb hby d13_18) rfl (l' := #[.val (.ref o0), .val (.ref r), .val (.int (3 : Int32)), .val (.int (2 : Int32)), .val (.long v9), .second]) rfl ?_
        show Steps p.tables e below (T1.setTop (mkF m 20 #[.val (.ref o0), .val (.ref r), .val (.int (3 : Int32)), .val (.int (2 : Int32)), .val (.long v9), .second] [])) t
        refine XS.lload X1.here hx rfl (hb hby d13_20) rfl ?_
        show Steps p.tables e below (T1.setTop (mkF m 22 #[.val (.ref o0), .val (.ref r), .val (.int (3 : Int32)), .val (.int (2 : Int32)), .val (.long v9), .second] [(.long v9)])) t
        refine XS.lconst X1.here hx rfl (hb hby d13_22) ?_
        show Steps p.tables e below (T1.setTop (mkF m 23 #[.val (.ref o0), .val (.ref r), .val (.int (3 : Int32)), .val (.int (2 : Int32)), .val (.long v9), .second] [(.long (0 : Int64)), (.long v9)])) t
        refine XS.lcmp X1.here hx rfl (hb hby d13_23) rfl ?_
        show Steps p.tables e below (T1.setTop (mkF m 24 #[.val (.ref o0), .val (.ref r), .val (.int (3 : Int32)), .val (.int (2 : Int32)), .val (.long v9), .second] [(.int (lcmpW v9 (0 : Int64)))])) t
        exact k
      by_cases hc10 : v9 = (0 : Int64)
      · refine hD _ (T1.setTop (mkF m 36 #[.val (.ref o0), .val (.ref r), .val (.int (3 : Int32)), .val (.int (3 : Int32)), .val (.long v9), .second] [(.int (1 : Int32))])) (fun t k => ?_) ?_
        · show Steps p.tables e below (T1.setTop (mkF m 24 #[.val (.ref o0), .val (.ref r), .val (.int (3 : Int32)), .val (.int (2 : Int32)), .val (.long v9), .second] [(.int (lcmpW v9 (0 : Int64)))])) t
          refine XS.ifYes X1.here hx rfl (pc0 := 24) (pc' := 29) rfl (hb hby d13_24) rfl ((if0 _ _).trans (teq ((lw_eq v9 (0 : Int64)).mpr hc10)).1) (by decide) (by decide) ?_
          show Steps p.tables e below (T1.setTop (mkF m 29 #[.val (.ref o0), .val (.ref r), .val (.int (3 : Int32)), .val (.int (2 : Int32)), .val (.long v9), .second] [])) t
          refine XS.iinc X1.here hx rfl (hb hby d13_29) rfl (l' := #[.val (.ref o0), .val (.ref r), .val (.int (3 : Int32)), .val (.int ((2 : Int32) + (1 : Int32))), .val (.long v9), .second]) rfl ?_
          show Steps p.tables e below (T1.setTop (mkF m 32 #[.val (.ref o0), .val (.ref r), .val (.int (3 : Int32)), .val (.int ((2 : Int32) + (1 : Int32))), .val (.long v9), .second] [])) t
          rw [show ((2 : Int32) + (1 : Int32)) = (3 : Int32) from by decide]
          show Steps p.tables e below (T1.setTop (mkF m 32 #[.val (.ref o0), .val (.ref r), .val (.int (3 : Int32)), .val (.int (3 : Int32)), .val (.long v9), .second] [])) t
          refine XS.goto X1.here hx rfl (pc0 := 32) (pc' := 10) rfl (hb hby d13_32) (by decide) (by decide) ?_
          show Steps p.tables e below (T1.setTop (mkF m 10 #[.val (.ref o0), .val (.ref r), .val (.int (3 : Int32)), .val (.int (3 : Int32)), .val (.long v9), .second] [])) t
          refine XS.iloadN X1.here hx rfl (hb hby d13_10) rfl ?_
          show Steps p.tables e below (T1.setTop (mkF m 11 #[.val (.ref o0), .val (.ref r), .val (.int (3 : Int32)), .val (.int (3 : Int32)), .val (.long v9), .second] [(.int (3 : Int32))])) t
          refine XS.iloadN X1.here hx rfl (hb hby d13_11) rfl ?_
          show Steps p.tables e below (T1.setTop (mkF m 12 #[.val (.ref o0), .val (.ref r), .val (.int (3 : Int32)), .val (.int (3 : Int32)), .val (.long v9), .second] [(.int (3 : Int32)), (.int (3 : Int32))])) t
          refine XS.icmpYes X1.here hx rfl (pc0 := 12) (pc' := 35) rfl (hb hby d13_12) rfl (by decide) (by decide) (by decide) ?_
          show Steps p.tables e below (T1.setTop (mkF m 35 #[.val (.ref o0), .val (.ref r), .val (.int (3 : Int32)), .val (.int (3 : Int32)), .val (.long v9), .second] [])) t
          refine XS.iconst X1.here hx rfl (hb hby d13_35) ?_
          show Steps p.tables e below (T1.setTop (mkF m 36 #[.val (.ref o0), .val (.ref r), .val (.int (3 : Int32)), .val (.int (3 : Int32)), .val (.long v9), .second] [(.int (1 : Int32))])) t
          exact k
        exact Own.retN hR X1 hx (t := .boolean) hret (by simp) (hb hby d13_36) (by decide) (by decide) (by decide) ⟨by subst hv9; subst hv6; subst hv3; simp [own_emp, Own.b2i, hc4, hc7, hc10], N0, e1⟩
      · refine hD _ (T1.setTop (mkF m 28 #[.val (.ref o0), .val (.ref r), .val (.int (3 : Int32)), .val (.int (2 : Int32)), .val (.long v9), .second] [(.int (0 : Int32))])) (fun t k => ?_) ?_
        · show Steps p.tables e below (T1.setTop (mkF m 24 #[.val (.ref o0), .val (.ref r), .val (.int (3 : Int32)), .val (.int (2 : Int32)), .val (.long v9), .second] [(.int (lcmpW v9 (0 : Int64)))])) t
          refine XS.ifNo X1.here hx rfl (hb hby d13_24) rfl ((if0 _ _).trans (feq (fun q => hc10 ((lw_eq v9 (0 : Int64)).mp q))).1) ?_
          show Steps p.tables e below (T1.setTop (mkF m 27 #[.val (.ref o0), .val (.ref r), .val (.int (3 : Int32)), .val (.int (2 : Int32)), .val (.long v9), .second] [])) t
          refine XS.iconst X1.here hx rfl (hb hby d13_27) ?_
          show Steps p.tables e below (T1.setTop (mkF m 28 #[.val (.ref o0), .val (.ref r), .val (.int (3 : Int32)), .val (.int (2 : Int32)), .val (.long v9), .second] [(.int (0 : Int32))])) t
          exact k
        exact Own.retN hR X1 hx (t := .boolean) hret (by simp) (hb hby d13_28) (by decide) (by decide) (by decide) ⟨by subst hv9; subst hv6; subst hv3; simp [own_emp, Own.b2i, hc4, hc7, hc10], N0, e1⟩
    · refine hD _ (T1.setTop (mkF m 28 #[.val (.ref o0), .val (.ref r), .val (.int (3 : Int32)), .val (.int (1 : Int32)), .val (.long v6), .second] [(.int (0 : Int32))])) (fun t k => ?_) ?_
      · show Steps p.tables e below (T1.setTop (mkF m 24 #[.val (.ref o0), .val (.ref r), .val (.int (3 : Int32)), .val (.int (1 : Int32)), .val (.long v6), .second] [(.int (lcmpW v6 (0 : Int64)))])) t
        refine XS.ifNo X1.here hx rfl (hb hby d13_24) rfl ((if0 _ _).trans (feq (fun q => hc7 ((lw_eq v6 (0 : Int64)).mp q))).1) ?_
        show Steps p.tables e below (T1.setTop (mkF m 27 #[.val (.ref o0), .val (.ref r), .val (.int (3 : Int32)), .val (.int (1 : Int32)), .val (.long v6), .second] [])) t
        refine XS.iconst X1.here hx rfl (hb hby d13_27) ?_
        show Steps p.tables e below (T1.setTop (mkF m 28 #[.val (.ref o0), .val (.ref r), .val (.int (3 : Int32)), .val (.int (1 : Int32)), .val (.long v6), .second] [(.int (0 : Int32))])) t
        exact k
      exact Own.retN hR X1 hx (t := .boolean) hret (by simp) (hb hby d13_28) (by decide) (by decide) (by decide) ⟨by subst hv6; subst hv3; simp [own_emp, Own.b2i, hc4, hc7], N0, e1⟩
  · refine hD _ (T1.setTop (mkF m 28 #[.val (.ref o0), .val (.ref r), .val (.int (3 : Int32)), .val (.int (0 : Int32)), .val (.long v3), .second] [(.int (0 : Int32))])) (fun t k => ?_) ?_
    · show Steps p.tables e below (T1.setTop (mkF m 24 #[.val (.ref o0), .val (.ref r), .val (.int (3 : Int32)), .val (.int (0 : Int32)), .val (.long v3), .second] [(.int (lcmpW v3 (0 : Int64)))])) t
      refine XS.ifNo X1.here hx rfl (hb hby d13_24) rfl ((if0 _ _).trans (feq (fun q => hc4 ((lw_eq v3 (0 : Int64)).mp q))).1) ?_
      show Steps p.tables e below (T1.setTop (mkF m 27 #[.val (.ref o0), .val (.ref r), .val (.int (3 : Int32)), .val (.int (0 : Int32)), .val (.long v3), .second] [])) t
      refine XS.iconst X1.here hx rfl (hb hby d13_27) ?_
      show Steps p.tables e below (T1.setTop (mkF m 28 #[.val (.ref o0), .val (.ref r), .val (.int (3 : Int32)), .val (.int (0 : Int32)), .val (.long v3), .second] [(.int (0 : Int32))])) t
      exact k
    exact Own.retN hR X1 hx (t := .boolean) hret (by simp) (hb hby d13_28) (by decide) (by decide) (by decide) ⟨by subst hv3; simp [own_emp, Own.b2i, hc4], N0, e1⟩
theorem pd_1 : parseMethodDescriptor "([J[J)V" = some ⟨[(.array .long), (.array .long)], none⟩ := by decide +kernel
theorem pd_2 : parseMethodDescriptor "()Z" = some ⟨[], some .boolean⟩ := by decide +kernel
theorem pn_2 : plainName "com/example/eurycleia/eurycleia/core/QueryIsEmptyPinLaw" = true := by first | (simp [plainName, overriddenIn]; done) | decide +kernel
theorem ef_0 (m : MethodId) (p0 : Int32) (q1 : Int64) (q2 : Int64) (q3 : Int64) (q4 : Int64) : entryFrame m #[(.int p0), (.long q1), (.long q2), (.long q3), (.long q4)] maxLocals = mkF m 0 #[.val (.int p0), .val (.long q1), .second, .val (.long q2), .second, .val (.long q3), .second, .val (.long q4), .second, .unset, .unset, .unset, .unset, .unset, .unset, .unset, .unset, .unset, .unset, .unset] [] := by first | (simp [entryFrame, mkF, argsToLocals, Value.category, maxLocals]; done) | rfl
def Q0 (Z : State) (p0 : Int32) (q1 : Int64) (q2 : Int64) (q3 : Int64) (q4 : Int64) (h0 : Heap) (n0 : Nat) (v : Option Value) (h : Heap) (L : List Loc) : Prop := v = some (.int 1) ∧ Fr n0 L
set_option maxRecDepth 65536 in
set_option maxHeartbeats 40000000 in
theorem rm0 (l : Launch) (Z : State) (a0 : Array Value) (hw : ∀ d ∈ tables_1, d.before a0 Z = true) (ws : List Jvm.Cond) (p0 : Int32) (q1 : Int64) (q2 : Int64) (q3 : Int64) (q4 : Int64) (h0 : Heap) (n0 : Nat) (Z0 : n0 ≤ h0.size) :
    MetFree l x (head1 (Jvm.Cond.code x code maxLocals ret :: ws) room_1) (fun a U => a = #[(.int p0), (.long q1), (.long q2), (.long q3), (.long q4)] ∧ Z.Warmed39 U.vm ∧ U.heap = h0) (fun _ _ _ _ _ => True) (fun _ U o U' => ∃ v L, o = .returned v ∧ Q0 Z p0 q1 q2 q3 q4 h0 n0 v U'.heap L ∧ FrameEnd U o U' L room_1.cells room_1.slots) := by
  refine Own.enter (Q := Q0 Z p0 q1 q2 q3 q4 h0 n0) (plainFor_of_name pn_2) ?_
  intro p e s m below meth c s₁ D hx hby hml hown hnm hret hZ X0 e0 hD hR
  have N0 := Fr.nil n0
  rw [show entryFrame m #[(.int p0), (.long q1), (.long q2), (.long q3), (.long q4)] maxLocals = mkF m 0 #[.val (.int p0), .val (.long q1), .second, .val (.long q2), .second, .val (.long q3), .second, .val (.long q4), .second, .unset, .unset, .unset, .unset, .unset, .unset, .unset, .unset, .unset, .unset, .unset] [] from ef_0 m p0 q1 q2 q3 q4]
  obtain ⟨v1, hv1⟩ : ∃ z : Int32, z = (p0 &&& (3 : Int32)) := ⟨_, rfl⟩
  refine hD _ (s₁.setTop (mkF m 5 #[.val (.int p0), .val (.long q1), .second, .val (.long q2), .second, .val (.long q3), .second, .val (.long q4), .second, .val (.int v1), .unset, .unset, .unset, .unset, .unset, .unset, .unset, .unset, .unset, .unset] [])) (fun t k => ?_) ?_
  · show Steps p.tables e below (s₁.setTop (mkF m 0 #[.val (.int p0), .val (.long q1), .second, .val (.long q2), .second, .val (.long q3), .second, .val (.long q4), .second, .unset, .unset, .unset, .unset, .unset, .unset, .unset, .unset, .unset, .unset, .unset] [])) t
    refine XS.iloadN X0.here hx rfl (hb hby at_0) rfl ?_
    show Steps p.tables e below (s₁.setTop (mkF m 1 #[.val (.int p0), .val (.long q1), .second, .val (.long q2), .second, .val (.long q3), .second, .val (.long q4), .second, .unset, .unset, .unset, .unset, .unset, .unset, .unset, .unset, .unset, .unset, .unset] [(.int p0)])) t
    refine XS.iconst X0.here hx rfl (hb hby at_1) ?_
    show Steps p.tables e below (s₁.setTop (mkF m 2 #[.val (.int p0), .val (.long q1), .second, .val (.long q2), .second, .val (.long q3), .second, .val (.long q4), .second, .unset, .unset, .unset, .unset, .unset, .unset, .unset, .unset, .unset, .unset, .unset] [(.int (3 : Int32)), (.int p0)])) t
    refine XS.iand X0.here hx rfl (hb hby at_2) rfl ?_
    show Steps p.tables e below (s₁.setTop (mkF m 3 #[.val (.int p0), .val (.long q1), .second, .val (.long q2), .second, .val (.long q3), .second, .val (.long q4), .second, .unset, .unset, .unset, .unset, .unset, .unset, .unset, .unset, .unset, .unset, .unset] [(.int (p0 &&& (3 : Int32)))])) t
    refine Own.nmI hv1 ?_
    show Steps p.tables e below (s₁.setTop (mkF m 3 #[.val (.int p0), .val (.long q1), .second, .val (.long q2), .second, .val (.long q3), .second, .val (.long q4), .second, .unset, .unset, .unset, .unset, .unset, .unset, .unset, .unset, .unset, .unset, .unset] [(.int v1)])) t
    refine XS.istore X0.here hx rfl (hb hby at_3) rfl (l' := #[.val (.int p0), .val (.long q1), .second, .val (.long q2), .second, .val (.long q3), .second, .val (.long q4), .second, .val (.int v1), .unset, .unset, .unset, .unset, .unset, .unset, .unset, .unset, .unset, .unset]) rfl ?_
    show Steps p.tables e below (s₁.setTop (mkF m 5 #[.val (.int p0), .val (.long q1), .second, .val (.long q2), .second, .val (.long q3), .second, .val (.long q4), .second, .val (.int v1), .unset, .unset, .unset, .unset, .unset, .unset, .unset, .unset, .unset, .unset] [])) t
    exact k
  have J18 : ∀ (T2 : State) (locs2 : List Loc) (x0 : Int64), Stand p l e room_1 s m #[(.int p0), (.long q1), (.long q2), (.long q3), (.long q4)] below meth c T2 locs2 0 0 → T2.heap = h0 → Fr n0 locs2 → D (T2.setTop (mkF m 18 #[.val (.int p0), .val (.long q1), .second, .val (.long q2), .second, .val (.long q3), .second, .val (.long q4), .second, .val (.int v1), .unset, .unset, .unset, .unset, .unset, .unset, .unset, .unset, .unset, .unset] [(.long x0)])) := by
    intro T2 locs2 x0 X2 e2 N2
    refine hD _ (T2.setTop (mkF m 20 #[.val (.int p0), .val (.long q1), .second, .val (.long q2), .second, .val (.long q3), .second, .val (.long q4), .second, .val (.int v1), .val (.long x0), .second, .unset, .unset, .unset, .unset, .unset, .unset, .unset, .unset] [])) (fun t k => ?_) ?_
    · show Steps p.tables e below (T2.setTop (mkF m 18 #[.val (.int p0), .val (.long q1), .second, .val (.long q2), .second, .val (.long q3), .second, .val (.long q4), .second, .val (.int v1), .unset, .unset, .unset, .unset, .unset, .unset, .unset, .unset, .unset, .unset] [(.long x0)])) t
      refine XS.lstore X2.here hx rfl (hb hby at_18) rfl (l' := #[.val (.int p0), .val (.long q1), .second, .val (.long q2), .second, .val (.long q3), .second, .val (.long q4), .second, .val (.int v1), .val (.long x0), .second, .unset, .unset, .unset, .unset, .unset, .unset, .unset, .unset]) rfl ?_
      show Steps p.tables e below (T2.setTop (mkF m 20 #[.val (.int p0), .val (.long q1), .second, .val (.long q2), .second, .val (.long q3), .second, .val (.long q4), .second, .val (.int v1), .val (.long x0), .second, .unset, .unset, .unset, .unset, .unset, .unset, .unset, .unset] [])) t
      exact k
    have J33 : ∀ (T3 : State) (locs3 : List Loc) (x1 : Int64), Stand p l e room_1 s m #[(.int p0), (.long q1), (.long q2), (.long q3), (.long q4)] below meth c T3 locs3 0 0 → T3.heap = h0 → Fr n0 locs3 → D (T3.setTop (mkF m 33 #[.val (.int p0), .val (.long q1), .second, .val (.long q2), .second, .val (.long q3), .second, .val (.long q4), .second, .val (.int v1), .val (.long x0), .second, .unset, .unset, .unset, .unset, .unset, .unset, .unset, .unset] [(.long x1)])) := by
      intro T3 locs3 x1 X3 e3 N3
      refine hD _ (T3.setTop (mkF m 35 #[.val (.int p0), .val (.long q1), .second, .val (.long q2), .second, .val (.long q3), .second, .val (.long q4), .second, .val (.int v1), .val (.long x0), .second, .val (.long x1), .second, .unset, .unset, .unset, .unset, .unset, .unset] [])) (fun t k => ?_) ?_
      · show Steps p.tables e below (T3.setTop (mkF m 33 #[.val (.int p0), .val (.long q1), .second, .val (.long q2), .second, .val (.long q3), .second, .val (.long q4), .second, .val (.int v1), .val (.long x0), .second, .unset, .unset, .unset, .unset, .unset, .unset, .unset, .unset] [(.long x1)])) t
        refine XS.lstore X3.here hx rfl (hb hby at_33) rfl (l' := #[.val (.int p0), .val (.long q1), .second, .val (.long q2), .second, .val (.long q3), .second, .val (.long q4), .second, .val (.int v1), .val (.long x0), .second, .val (.long x1), .second, .unset, .unset, .unset, .unset, .unset, .unset]) rfl ?_
        show Steps p.tables e below (T3.setTop (mkF m 35 #[.val (.int p0), .val (.long q1), .second, .val (.long q2), .second, .val (.long q3), .second, .val (.long q4), .second, .val (.int v1), .val (.long x0), .second, .val (.long x1), .second, .unset, .unset, .unset, .unset, .unset, .unset] [])) t
        exact k
      have J49 : ∀ (T4 : State) (locs4 : List Loc) (x2 : Int64), Stand p l e room_1 s m #[(.int p0), (.long q1), (.long q2), (.long q3), (.long q4)] below meth c T4 locs4 0 0 → T4.heap = h0 → Fr n0 locs4 → D (T4.setTop (mkF m 49 #[.val (.int p0), .val (.long q1), .second, .val (.long q2), .second, .val (.long q3), .second, .val (.long q4), .second, .val (.int v1), .val (.long x0), .second, .val (.long x1), .second, .unset, .unset, .unset, .unset, .unset, .unset] [(.long x2)])) := by
        intro T4 locs4 x2 X4 e4 N4
        refine hD _ (T4.setTop (mkF m 53 #[.val (.int p0), .val (.long q1), .second, .val (.long q2), .second, .val (.long q3), .second, .val (.long q4), .second, .val (.int v1), .val (.long x0), .second, .val (.long x1), .second, .val (.long x2), .second, .unset, .unset, .unset, .unset] [(.int v1)])) (fun t k => ?_) ?_
        · show Steps p.tables e below (T4.setTop (mkF m 49 #[.val (.int p0), .val (.long q1), .second, .val (.long q2), .second, .val (.long q3), .second, .val (.long q4), .second, .val (.int v1), .val (.long x0), .second, .val (.long x1), .second, .unset, .unset, .unset, .unset, .unset, .unset] [(.long x2)])) t
          refine XS.lstore X4.here hx rfl (hb hby at_49) rfl (l' := #[.val (.int p0), .val (.long q1), .second, .val (.long q2), .second, .val (.long q3), .second, .val (.long q4), .second, .val (.int v1), .val (.long x0), .second, .val (.long x1), .second, .val (.long x2), .second, .unset, .unset, .unset, .unset]) rfl ?_
          show Steps p.tables e below (T4.setTop (mkF m 51 #[.val (.int p0), .val (.long q1), .second, .val (.long q2), .second, .val (.long q3), .second, .val (.long q4), .second, .val (.int v1), .val (.long x0), .second, .val (.long x1), .second, .val (.long x2), .second, .unset, .unset, .unset, .unset] [])) t
          refine XS.iload X4.here hx rfl (hb hby at_51) rfl ?_
          show Steps p.tables e below (T4.setTop (mkF m 53 #[.val (.int p0), .val (.long q1), .second, .val (.long q2), .second, .val (.long q3), .second, .val (.long q4), .second, .val (.int v1), .val (.long x0), .second, .val (.long x1), .second, .val (.long x2), .second, .unset, .unset, .unset, .unset] [(.int v1)])) t
          exact k
        by_cases hc5 : v1 = (0 : Int32)
        · obtain ⟨T6, h6, k6, X6, e6, E6, A6, st6⟩ := newP X4 hx hZ (hw _ (List.mem_of_getElem? (i := 0) rfl)) e4 (g := (mkF m 57 #[.val (.int p0), .val (.long q1), .second, .val (.long q2), .second, .val (.long q3), .second, .val (.long q4), .second, .val (.int v1), .val (.long x0), .second, .val (.long x1), .second, .val (.long x2), .second, .unset, .unset, .unset, .unset] [(.int (0 : Int32))])) rfl (hb hby at_57) rfl (by decide) (cap := 0) (by decide) (by decide) (by decide) (by decide)
          obtain ⟨b6, g_b6⟩ : ∃ z : Nat, z = h0.size := ⟨_, rfl⟩
          rw [← g_b6] at A6 st6
          have g0_b6 : n0 ≤ b6 := by rw [g_b6]; exact Z0
          have f7 : Own.AvJ Z h6 b6 0 (fun _ => 0) := Own.AvJ.new A6 (by decide)
          have Z6 : n0 ≤ h6.size := Nat.le_trans Z0 E6.1
          obtain ⟨T8, h8, k8, X8, e8, E8, A8, st8⟩ := newP X6 hx hZ (hw _ (List.mem_of_getElem? (i := 0) rfl)) e6 (g := (mkF m 62 #[.val (.int p0), .val (.long q1), .second, .val (.long q2), .second, .val (.long q3), .second, .val (.long q4), .second, .val (.int v1), .val (.long x0), .second, .val (.long x1), .second, .val (.long x2), .second, .val (.ref b6), .unset, .unset, .unset] [(.int (0 : Int32))])) rfl (hb hby at_62) rfl (by decide) (cap := 0) (by decide) (by decide) (by decide) (by decide)
          obtain ⟨b8, g_b8⟩ : ∃ z : Nat, z = h6.size := ⟨_, rfl⟩
          rw [← g_b8] at A8 st8
          have lt_b6_b8 : (b6 : Nat) < b8 := by rw [g_b8]; exact f7.lt
          have g0_b8 : n0 ≤ b8 := by rw [g_b8]; exact Z6
          have f9 : Own.AvJ Z h8 b6 0 (fun _ => 0) := f7.ext E8
          have f10 : Own.AvJ Z h8 b8 0 (fun _ => 0) := Own.AvJ.new A8 (by decide)
          have Z8 : n0 ≤ h8.size := Nat.le_trans Z6 E8.1
          obtain ⟨T11, h11, X11, e11, E11, A11, D11, -, st11⟩ := newO X8 hx hZ hown (hw _ (List.mem_of_getElem? (i := 1) rfl)) (hw _ (List.mem_of_getElem? (i := 2) rfl)) (hw _ (List.mem_of_getElem? (i := 3) rfl)) e8 (g := (mkF m 185 #[.val (.int p0), .val (.long q1), .second, .val (.long q2), .second, .val (.long q3), .second, .val (.long q4), .second, .val (.int v1), .val (.long x0), .second, .val (.long x1), .second, .val (.long x2), .second, .val (.ref b6), .val (.ref b8), .unset, .unset] [])) rfl (hb hby at_185) (by decide) (by decide)
          obtain ⟨b11, g_b11⟩ : ∃ z : Nat, z = h8.size := ⟨_, rfl⟩
          rw [← g_b11] at A11 D11 st11
          have lt_b6_b11 : (b6 : Nat) < b11 := by rw [g_b11]; exact f9.lt
          have lt_b8_b11 : (b8 : Nat) < b11 := by rw [g_b11]; exact f10.lt
          have g0_b11 : n0 ≤ b11 := by rw [g_b11]; exact Z8
          have f12 : Own.AvJ Z h11 b6 0 (fun _ => 0) := f9.ext E11
          have f13 : Own.AvJ Z h11 b8 0 (fun _ => 0) := f10.ext E11
          have f14 : Fld Z h11 b11 "com/example/eurycleia/eurycleia/core/Query" "bits" "[J" .null := D11 (Or.inr (hw _ (List.mem_of_getElem? (i := 16) rfl))) (ty := (.array .long)) (by decide)
          have f15 : Fld Z h11 b11 "com/example/eurycleia/eurycleia/core/Query" "mask" "[J" .null := D11 (Or.inr (hw _ (List.mem_of_getElem? (i := 18) rfl))) (ty := (.array .long)) (by decide)
          have Z11 : n0 ≤ h11.size := Nat.le_trans Z8 E11.1
          obtain ⟨T16, _, L16, X16, ⟨rfl, Nq16, Kq16, E16, F16⟩, st16⟩ := Own.callI (y := (⟨"com/example/eurycleia/eurycleia/core/Query", "<init>", "([J[J)V"⟩ : MethodName)) (W := 1) (argsL := [(.ref b8), (.ref b6)]) (rest := [(.ref b11)]) (a := b11) X11 hx hZ hown rfl (hw _ (List.mem_of_getElem? (i := 4) rfl)) (hw _ (List.mem_of_getElem? (i := 5) rfl)) (hw _ (List.mem_of_getElem? (i := 3) rfl)) (hw _ (List.mem_of_getElem? (i := 6) rfl)) (by decide) e11 (rm2 l Z a0 hw [] b11 b8 b6 0 (fun _ => 0) (fun _ => 0) h11 n0 Z11 g0_b11 lt_b8_b11 lt_b6_b11 A11 f14 f15 f13 f12) (by decide) (by decide) (by decide) (by decide) (g := (mkF m 193 #[.val (.int p0), .val (.long q1), .second, .val (.long q2), .second, .val (.long q3), .second, .val (.long q4), .second, .val (.int v1), .val (.long x0), .second, .val (.long x1), .second, .val (.long x2), .second, .val (.ref b6), .val (.ref b8), .unset, .unset] [(.ref b6), (.ref b8), (.ref b11), (.ref b11)])) rfl (by rw [hml]; rfl) (lenOf pd_1 rfl) rfl (by show 2 * 0 + _ ≤ _; exact Nat.le_of_eq rfl) (hb hby at_193)
          have N16 := Fr.app N4 Nq16
          have f17 : Own.AvJ Z T16.heap b6 0 (fun _ => 0) := f12.keep Kq16 (ninS (Own.ne_of (by omega)) nin0)
          have f18 : Own.AvJ Z T16.heap b8 0 (fun _ => 0) := f13.keep Kq16 (ninS (Own.ne_of (by omega)) nin0)
          refine hD _ (T16.setTop (mkF m 201 #[.val (.int p0), .val (.long q1), .second, .val (.long q2), .second, .val (.long q3), .second, .val (.long q4), .second, .val (.int v1), .val (.long x0), .second, .val (.long x1), .second, .val (.long x2), .second, .val (.ref b6), .val (.ref b8), .val (.ref b11), .unset] [(.int (1 : Int32)), (.int v1)])) (fun t k => ?_) ?_
          · show Steps p.tables e below (T4.setTop (mkF m 53 #[.val (.int p0), .val (.long q1), .second, .val (.long q2), .second, .val (.long q3), .second, .val (.long q4), .second, .val (.int v1), .val (.long x0), .second, .val (.long x1), .second, .val (.long x2), .second, .unset, .unset, .unset, .unset] [(.int v1)])) t
            refine XS.ifNo X4.here hx rfl (hb hby at_53) rfl ((if0 _ _).trans (teq hc5).2) ?_
            show Steps p.tables e below (T4.setTop (mkF m 56 #[.val (.int p0), .val (.long q1), .second, .val (.long q2), .second, .val (.long q3), .second, .val (.long q4), .second, .val (.int v1), .val (.long x0), .second, .val (.long x1), .second, .val (.long x2), .second, .unset, .unset, .unset, .unset] [])) t
            refine XS.iconst X4.here hx rfl (hb hby at_56) ?_
            show Steps p.tables e below (T4.setTop (mkF m 57 #[.val (.int p0), .val (.long q1), .second, .val (.long q2), .second, .val (.long q3), .second, .val (.long q4), .second, .val (.int v1), .val (.long x0), .second, .val (.long x1), .second, .val (.long x2), .second, .unset, .unset, .unset, .unset] [(.int (0 : Int32))])) t
            refine st6 _ ?_
            show Steps p.tables e below (T6.setTop (mkF m 59 #[.val (.int p0), .val (.long q1), .second, .val (.long q2), .second, .val (.long q3), .second, .val (.long q4), .second, .val (.int v1), .val (.long x0), .second, .val (.long x1), .second, .val (.long x2), .second, .unset, .unset, .unset, .unset] [(.ref b6)])) t
            refine XS.astore X6.here hx rfl (hb hby at_59) rfl rfl (l' := #[.val (.int p0), .val (.long q1), .second, .val (.long q2), .second, .val (.long q3), .second, .val (.long q4), .second, .val (.int v1), .val (.long x0), .second, .val (.long x1), .second, .val (.long x2), .second, .val (.ref b6), .unset, .unset, .unset]) rfl ?_
            show Steps p.tables e below (T6.setTop (mkF m 61 #[.val (.int p0), .val (.long q1), .second, .val (.long q2), .second, .val (.long q3), .second, .val (.long q4), .second, .val (.int v1), .val (.long x0), .second, .val (.long x1), .second, .val (.long x2), .second, .val (.ref b6), .unset, .unset, .unset] [])) t
            refine XS.iconst X6.here hx rfl (hb hby at_61) ?_
            show Steps p.tables e below (T6.setTop (mkF m 62 #[.val (.int p0), .val (.long q1), .second, .val (.long q2), .second, .val (.long q3), .second, .val (.long q4), .second, .val (.int v1), .val (.long x0), .second, .val (.long x1), .second, .val (.long x2), .second, .val (.ref b6), .unset, .unset, .unset] [(.int (0 : Int32))])) t
            refine st8 _ ?_
            show Steps p.tables e below (T8.setTop (mkF m 64 #[.val (.int p0), .val (.long q1), .second, .val (.long q2), .second, .val (.long q3), .second, .val (.long q4), .second, .val (.int v1), .val (.long x0), .second, .val (.long x1), .second, .val (.long x2), .second, .val (.ref b6), .unset, .unset, .unset] [(.ref b8)])) t
            refine XS.astore X8.here hx rfl (hb hby at_64) rfl rfl (l' := #[.val (.int p0), .val (.long q1), .second, .val (.long q2), .second, .val (.long q3), .second, .val (.long q4), .second, .val (.int v1), .val (.long x0), .second, .val (.long x1), .second, .val (.long x2), .second, .val (.ref b6), .val (.ref b8), .unset, .unset]) rfl ?_
            show Steps p.tables e below (T8.setTop (mkF m 66 #[.val (.int p0), .val (.long q1), .second, .val (.long q2), .second, .val (.long q3), .second, .val (.long q4), .second, .val (.int v1), .val (.long x0), .second, .val (.long x1), .second, .val (.long x2), .second, .val (.ref b6), .val (.ref b8), .unset, .unset] [])) t
            refine XS.goto X8.here hx rfl (pc0 := 66) (pc' := 185) rfl (hb hby at_66) (by decide) (by decide) ?_
            show Steps p.tables e below (T8.setTop (mkF m 185 #[.val (.int p0), .val (.long q1), .second, .val (.long q2), .second, .val (.long q3), .second, .val (.long q4), .second, .val (.int v1), .val (.long x0), .second, .val (.long x1), .second, .val (.long x2), .second, .val (.ref b6), .val (.ref b8), .unset, .unset] [])) t
            refine st11 _ ?_
            show Steps p.tables e below (T11.setTop (mkF m 188 #[.val (.int p0), .val (.long q1), .second, .val (.long q2), .second, .val (.long q3), .second, .val (.long q4), .second, .val (.int v1), .val (.long x0), .second, .val (.long x1), .second, .val (.long x2), .second, .val (.ref b6), .val (.ref b8), .unset, .unset] [(.ref b11)])) t
            refine XS.dup X11.here hx rfl (hb hby at_188) rfl rfl ?_
            show Steps p.tables e below (T11.setTop (mkF m 189 #[.val (.int p0), .val (.long q1), .second, .val (.long q2), .second, .val (.long q3), .second, .val (.long q4), .second, .val (.int v1), .val (.long x0), .second, .val (.long x1), .second, .val (.long x2), .second, .val (.ref b6), .val (.ref b8), .unset, .unset] [(.ref b11), (.ref b11)])) t
            refine XS.aload X11.here hx rfl (hb hby at_189) rfl rfl ?_
            show Steps p.tables e below (T11.setTop (mkF m 191 #[.val (.int p0), .val (.long q1), .second, .val (.long q2), .second, .val (.long q3), .second, .val (.long q4), .second, .val (.int v1), .val (.long x0), .second, .val (.long x1), .second, .val (.long x2), .second, .val (.ref b6), .val (.ref b8), .unset, .unset] [(.ref b8), (.ref b11), (.ref b11)])) t
            refine XS.aload X11.here hx rfl (hb hby at_191) rfl rfl ?_
            show Steps p.tables e below (T11.setTop (mkF m 193 #[.val (.int p0), .val (.long q1), .second, .val (.long q2), .second, .val (.long q3), .second, .val (.long q4), .second, .val (.int v1), .val (.long x0), .second, .val (.long x1), .second, .val (.long x2), .second, .val (.ref b6), .val (.ref b8), .unset, .unset] [(.ref b6), (.ref b8), (.ref b11), (.ref b11)])) t
            refine st16 _ ?_
            show Steps p.tables e below (T16.setTop (mkF m 196 #[.val (.int p0), .val (.long q1), .second, .val (.long q2), .second, .val (.long q3), .second, .val (.long q4), .second, .val (.int v1), .val (.long x0), .second, .val (.long x1), .second, .val (.long x2), .second, .val (.ref b6), .val (.ref b8), .unset, .unset] [(.ref b11)])) t
            refine XS.astore X16.here hx rfl (hb hby at_196) rfl rfl (l' := #[.val (.int p0), .val (.long q1), .second, .val (.long q2), .second, .val (.long q3), .second, .val (.long q4), .second, .val (.int v1), .val (.long x0), .second, .val (.long x1), .second, .val (.long x2), .second, .val (.ref b6), .val (.ref b8), .val (.ref b11), .unset]) rfl ?_
            show Steps p.tables e below (T16.setTop (mkF m 198 #[.val (.int p0), .val (.long q1), .second, .val (.long q2), .second, .val (.long q3), .second, .val (.long q4), .second, .val (.int v1), .val (.long x0), .second, .val (.long x1), .second, .val (.long x2), .second, .val (.ref b6), .val (.ref b8), .val (.ref b11), .unset] [])) t
            refine XS.iload X16.here hx rfl (hb hby at_198) rfl ?_
            show Steps p.tables e below (T16.setTop (mkF m 200 #[.val (.int p0), .val (.long q1), .second, .val (.long q2), .second, .val (.long q3), .second, .val (.long q4), .second, .val (.int v1), .val (.long x0), .second, .val (.long x1), .second, .val (.long x2), .second, .val (.ref b6), .val (.ref b8), .val (.ref b11), .unset] [(.int v1)])) t
            refine XS.iconst X16.here hx rfl (hb hby at_200) ?_
            show Steps p.tables e below (T16.setTop (mkF m 201 #[.val (.int p0), .val (.long q1), .second, .val (.long q2), .second, .val (.long q3), .second, .val (.long q4), .second, .val (.int v1), .val (.long x0), .second, .val (.long x1), .second, .val (.long x2), .second, .val (.ref b6), .val (.ref b8), .val (.ref b11), .unset] [(.int (1 : Int32)), (.int v1)])) t
            exact k
          have hc19 : v1 < (1 : Int32) := by rw [hc5]; decide
          refine hD _ (T16.setTop (mkF m 214 #[.val (.int p0), .val (.long q1), .second, .val (.long q2), .second, .val (.long q3), .second, .val (.long q4), .second, .val (.int v1), .val (.long x0), .second, .val (.long x1), .second, .val (.long x2), .second, .val (.ref b6), .val (.ref b8), .val (.ref b11), .unset] [(.int (2 : Int32)), (.int v1)])) (fun t k => ?_) ?_
          · show Steps p.tables e below (T16.setTop (mkF m 201 #[.val (.int p0), .val (.long q1), .second, .val (.long q2), .second, .val (.long q3), .second, .val (.long q4), .second, .val (.int v1), .val (.long x0), .second, .val (.long x1), .second, .val (.long x2), .second, .val (.ref b6), .val (.ref b8), .val (.ref b11), .unset] [(.int (1 : Int32)), (.int v1)])) t
            refine XS.icmpYes X16.here hx rfl (pc0 := 201) (pc' := 211) rfl (hb hby at_201) rfl (tlt hc19).1 (by decide) (by decide) ?_
            show Steps p.tables e below (T16.setTop (mkF m 211 #[.val (.int p0), .val (.long q1), .second, .val (.long q2), .second, .val (.long q3), .second, .val (.long q4), .second, .val (.int v1), .val (.long x0), .second, .val (.long x1), .second, .val (.long x2), .second, .val (.ref b6), .val (.ref b8), .val (.ref b11), .unset] [])) t
            refine XS.iload X16.here hx rfl (hb hby at_211) rfl ?_
            show Steps p.tables e below (T16.setTop (mkF m 213 #[.val (.int p0), .val (.long q1), .second, .val (.long q2), .second, .val (.long q3), .second, .val (.long q4), .second, .val (.int v1), .val (.long x0), .second, .val (.long x1), .second, .val (.long x2), .second, .val (.ref b6), .val (.ref b8), .val (.ref b11), .unset] [(.int v1)])) t
            refine XS.iconst X16.here hx rfl (hb hby at_213) ?_
            show Steps p.tables e below (T16.setTop (mkF m 214 #[.val (.int p0), .val (.long q1), .second, .val (.long q2), .second, .val (.long q3), .second, .val (.long q4), .second, .val (.int v1), .val (.long x0), .second, .val (.long x1), .second, .val (.long x2), .second, .val (.ref b6), .val (.ref b8), .val (.ref b11), .unset] [(.int (2 : Int32)), (.int v1)])) t
            exact k
          have hc20 : v1 < (2 : Int32) := by rw [hc5]; decide
          refine hD _ (T16.setTop (mkF m 227 #[.val (.int p0), .val (.long q1), .second, .val (.long q2), .second, .val (.long q3), .second, .val (.long q4), .second, .val (.int v1), .val (.long x0), .second, .val (.long x1), .second, .val (.long x2), .second, .val (.ref b6), .val (.ref b8), .val (.ref b11), .unset] [(.int (3 : Int32)), (.int v1)])) (fun t k => ?_) ?_
          · show Steps p.tables e below (T16.setTop (mkF m 214 #[.val (.int p0), .val (.long q1), .second, .val (.long q2), .second, .val (.long q3), .second, .val (.long q4), .second, .val (.int v1), .val (.long x0), .second, .val (.long x1), .second, .val (.long x2), .second, .val (.ref b6), .val (.ref b8), .val (.ref b11), .unset] [(.int (2 : Int32)), (.int v1)])) t
            refine XS.icmpYes X16.here hx rfl (pc0 := 214) (pc' := 224) rfl (hb hby at_214) rfl (tlt hc20).1 (by decide) (by decide) ?_
            show Steps p.tables e below (T16.setTop (mkF m 224 #[.val (.int p0), .val (.long q1), .second, .val (.long q2), .second, .val (.long q3), .second, .val (.long q4), .second, .val (.int v1), .val (.long x0), .second, .val (.long x1), .second, .val (.long x2), .second, .val (.ref b6), .val (.ref b8), .val (.ref b11), .unset] [])) t
            refine XS.iload X16.here hx rfl (hb hby at_224) rfl ?_
            show Steps p.tables e below (T16.setTop (mkF m 226 #[.val (.int p0), .val (.long q1), .second, .val (.long q2), .second, .val (.long q3), .second, .val (.long q4), .second, .val (.int v1), .val (.long x0), .second, .val (.long x1), .second, .val (.long x2), .second, .val (.ref b6), .val (.ref b8), .val (.ref b11), .unset] [(.int v1)])) t
            refine XS.iconst X16.here hx rfl (hb hby at_226) ?_
            show Steps p.tables e below (T16.setTop (mkF m 227 #[.val (.int p0), .val (.long q1), .second, .val (.long q2), .second, .val (.long q3), .second, .val (.long q4), .second, .val (.int v1), .val (.long x0), .second, .val (.long x1), .second, .val (.long x2), .second, .val (.ref b6), .val (.ref b8), .val (.ref b11), .unset] [(.int (3 : Int32)), (.int v1)])) t
            exact k
          have hc21 : v1 < (3 : Int32) := by rw [hc5]; decide
          obtain ⟨T22, _, L22, X22, ⟨rfl, Nq22, e22⟩, st22⟩ := Own.callV (y := (⟨"com/example/eurycleia/eurycleia/core/Query", "isEmpty", "()Z"⟩ : MethodName)) (W := 0) (argsL := []) (rest := []) (a := b11) X16 hx hZ hown (hw _ (List.mem_of_getElem? (i := 19) rfl)) (hw _ (List.mem_of_getElem? (i := 20) rfl)) (hw _ (List.mem_of_getElem? (i := 22) rfl)) (hw _ (List.mem_of_getElem? (i := 21) rfl)) (hw _ (List.mem_of_getElem? (i := 3) rfl)) (hw _ (List.mem_of_getElem? (i := 23) rfl)) (by decide) rfl E16 (rm10 l Z a0 hw [] b11 b6 (fun _ => 0) T16.heap n0 F16 f17) (by decide) (by decide) (by decide) (by decide) (g := (mkF m 246 #[.val (.int p0), .val (.long q1), .second, .val (.long q2), .second, .val (.long q3), .second, .val (.long q4), .second, .val (.int v1), .val (.long x0), .second, .val (.long x1), .second, .val (.long x2), .second, .val (.ref b6), .val (.ref b8), .val (.ref b11), .val (.int (1 : Int32))] [(.ref b11)])) rfl (by rw [hml]; rfl) (lenOf pd_2 rfl) rfl (by show 2 * 0 + _ ≤ _; exact Nat.le_of_eq rfl) (hb hby at_246)
          have N22 := Fr.app N16 Nq22
          refine hD _ (T22.setTop (mkF m 251 #[.val (.int p0), .val (.long q1), .second, .val (.long q2), .second, .val (.long q3), .second, .val (.long q4), .second, .val (.int v1), .val (.long x0), .second, .val (.long x1), .second, .val (.long x2), .second, .val (.ref b6), .val (.ref b8), .val (.ref b11), .val (.int (1 : Int32))] [(.int (1 : Int32)), (.int (Own.b2i (own_emp 0 (fun _ => 0))))])) (fun t k => ?_) ?_
          · show Steps p.tables e below (T16.setTop (mkF m 227 #[.val (.int p0), .val (.long q1), .second, .val (.long q2), .second, .val (.long q3), .second, .val (.long q4), .second, .val (.int v1), .val (.long x0), .second, .val (.long x1), .second, .val (.long x2), .second, .val (.ref b6), .val (.ref b8), .val (.ref b11), .unset] [(.int (3 : Int32)), (.int v1)])) t
            refine XS.icmpYes X16.here hx rfl (pc0 := 227) (pc' := 237) rfl (hb hby at_227) rfl (tlt hc21).1 (by decide) (by decide) ?_
            show Steps p.tables e below (T16.setTop (mkF m 237 #[.val (.int p0), .val (.long q1), .second, .val (.long q2), .second, .val (.long q3), .second, .val (.long q4), .second, .val (.int v1), .val (.long x0), .second, .val (.long x1), .second, .val (.long x2), .second, .val (.ref b6), .val (.ref b8), .val (.ref b11), .unset] [])) t
            refine XS.iconst X16.here hx rfl (hb hby at_237) ?_
            show Steps p.tables e below (T16.setTop (mkF m 238 #[.val (.int p0), .val (.long q1), .second, .val (.long q2), .second, .val (.long q3), .second, .val (.long q4), .second, .val (.int v1), .val (.long x0), .second, .val (.long x1), .second, .val (.long x2), .second, .val (.ref b6), .val (.ref b8), .val (.ref b11), .unset] [(.int (1 : Int32))])) t
            refine XS.goto X16.here hx rfl (pc0 := 238) (pc' := 242) rfl (hb hby at_238) (by decide) (by decide) ?_
            show Steps p.tables e below (T16.setTop (mkF m 242 #[.val (.int p0), .val (.long q1), .second, .val (.long q2), .second, .val (.long q3), .second, .val (.long q4), .second, .val (.int v1), .val (.long x0), .second, .val (.long x1), .second, .val (.long x2), .second, .val (.ref b6), .val (.ref b8), .val (.ref b11), .unset] [(.int (1 : Int32))])) t
            refine XS.istore X16.here hx rfl (hb hby at_242) rfl (l' := #[.val (.int p0), .val (.long q1), .second, .val (.long q2), .second, .val (.long q3), .second, .val (.long q4), .second, .val (.int v1), .val (.long x0), .second, .val (.long x1), .second, .val (.long x2), .second, .val (.ref b6), .val (.ref b8), .val (.ref b11), .val (.int (1 : Int32))]) rfl ?_
            show Steps p.tables e below (T16.setTop (mkF m 244 #[.val (.int p0), .val (.long q1), .second, .val (.long q2), .second, .val (.long q3), .second, .val (.long q4), .second, .val (.int v1), .val (.long x0), .second, .val (.long x1), .second, .val (.long x2), .second, .val (.ref b6), .val (.ref b8), .val (.ref b11), .val (.int (1 : Int32))] [])) t
            refine XS.aload X16.here hx rfl (hb hby at_244) rfl rfl ?_
            show Steps p.tables e below (T16.setTop (mkF m 246 #[.val (.int p0), .val (.long q1), .second, .val (.long q2), .second, .val (.long q3), .second, .val (.long q4), .second, .val (.int v1), .val (.long x0), .second, .val (.long x1), .second, .val (.long x2), .second, .val (.ref b6), .val (.ref b8), .val (.ref b11), .val (.int (1 : Int32))] [(.ref b11)])) t
            refine st22 _ ?_
            show Steps p.tables e below (T22.setTop (mkF m 249 #[.val (.int p0), .val (.long q1), .second, .val (.long q2), .second, .val (.long q3), .second, .val (.long q4), .second, .val (.int v1), .val (.long x0), .second, .val (.long x1), .second, .val (.long x2), .second, .val (.ref b6), .val (.ref b8), .val (.ref b11), .val (.int (1 : Int32))] [(.int (Own.b2i (own_emp 0 (fun _ => 0))))])) t
            refine XS.iload X22.here hx rfl (hb hby at_249) rfl ?_
            show Steps p.tables e below (T22.setTop (mkF m 251 #[.val (.int p0), .val (.long q1), .second, .val (.long q2), .second, .val (.long q3), .second, .val (.long q4), .second, .val (.int v1), .val (.long x0), .second, .val (.long x1), .second, .val (.long x2), .second, .val (.ref b6), .val (.ref b8), .val (.ref b11), .val (.int (1 : Int32))] [(.int (1 : Int32)), (.int (Own.b2i (own_emp 0 (fun _ => 0))))])) t
            exact k
          have hc23 : (Own.b2i (own_emp 0 (fun _ => 0))) = (1 : Int32) := by simp [own_emp, Own.b2i, hc5, hc19, hc20, hc21]
          refine hD _ (T22.setTop (mkF m 259 #[.val (.int p0), .val (.long q1), .second, .val (.long q2), .second, .val (.long q3), .second, .val (.long q4), .second, .val (.int v1), .val (.long x0), .second, .val (.long x1), .second, .val (.long x2), .second, .val (.ref b6), .val (.ref b8), .val (.ref b11), .val (.int (1 : Int32))] [(.int (1 : Int32))])) (fun t k => ?_) ?_
          · show Steps p.tables e below (T22.setTop (mkF m 251 #[.val (.int p0), .val (.long q1), .second, .val (.long q2), .second, .val (.long q3), .second, .val (.long q4), .second, .val (.int v1), .val (.long x0), .second, .val (.long x1), .second, .val (.long x2), .second, .val (.ref b6), .val (.ref b8), .val (.ref b11), .val (.int (1 : Int32))] [(.int (1 : Int32)), (.int (Own.b2i (own_emp 0 (fun _ => 0))))])) t
            refine XS.icmpNo X22.here hx rfl (hb hby at_251) rfl (teq hc23).2 ?_
            show Steps p.tables e below (T22.setTop (mkF m 254 #[.val (.int p0), .val (.long q1), .second, .val (.long q2), .second, .val (.long q3), .second, .val (.long q4), .second, .val (.int v1), .val (.long x0), .second, .val (.long x1), .second, .val (.long x2), .second, .val (.ref b6), .val (.ref b8), .val (.ref b11), .val (.int (1 : Int32))] [])) t
            refine XS.iconst X22.here hx rfl (hb hby at_254) ?_
            show Steps p.tables e below (T22.setTop (mkF m 255 #[.val (.int p0), .val (.long q1), .second, .val (.long q2), .second, .val (.long q3), .second, .val (.long q4), .second, .val (.int v1), .val (.long x0), .second, .val (.long x1), .second, .val (.long x2), .second, .val (.ref b6), .val (.ref b8), .val (.ref b11), .val (.int (1 : Int32))] [(.int (1 : Int32))])) t
            refine XS.goto X22.here hx rfl (pc0 := 255) (pc' := 259) rfl (hb hby at_255) (by decide) (by decide) ?_
            show Steps p.tables e below (T22.setTop (mkF m 259 #[.val (.int p0), .val (.long q1), .second, .val (.long q2), .second, .val (.long q3), .second, .val (.long q4), .second, .val (.int v1), .val (.long x0), .second, .val (.long x1), .second, .val (.long x2), .second, .val (.ref b6), .val (.ref b8), .val (.ref b11), .val (.int (1 : Int32))] [(.int (1 : Int32))])) t
            exact k
          exact Own.retN hR X22 hx (t := .boolean) hret (by simp) (hb hby at_259) (by decide) (by decide) (by decide) ⟨rfl, N22⟩
        · refine hD _ (T4.setTop (mkF m 72 #[.val (.int p0), .val (.long q1), .second, .val (.long q2), .second, .val (.long q3), .second, .val (.long q4), .second, .val (.int v1), .val (.long x0), .second, .val (.long x1), .second, .val (.long x2), .second, .unset, .unset, .unset, .unset] [(.int (1 : Int32)), (.int v1)])) (fun t k => ?_) ?_
          · show Steps p.tables e below (T4.setTop (mkF m 53 #[.val (.int p0), .val (.long q1), .second, .val (.long q2), .second, .val (.long q3), .second, .val (.long q4), .second, .val (.int v1), .val (.long x0), .second, .val (.long x1), .second, .val (.long x2), .second, .unset, .unset, .unset, .unset] [(.int v1)])) t
            refine XS.ifYes X4.here hx rfl (pc0 := 53) (pc' := 69) rfl (hb hby at_53) rfl ((if0 _ _).trans (feq hc5).2) (by decide) (by decide) ?_
            show Steps p.tables e below (T4.setTop (mkF m 69 #[.val (.int p0), .val (.long q1), .second, .val (.long q2), .second, .val (.long q3), .second, .val (.long q4), .second, .val (.int v1), .val (.long x0), .second, .val (.long x1), .second, .val (.long x2), .second, .unset, .unset, .unset, .unset] [])) t
            refine XS.iload X4.here hx rfl (hb hby at_69) rfl ?_
            show Steps p.tables e below (T4.setTop (mkF m 71 #[.val (.int p0), .val (.long q1), .second, .val (.long q2), .second, .val (.long q3), .second, .val (.long q4), .second, .val (.int v1), .val (.long x0), .second, .val (.long x1), .second, .val (.long x2), .second, .unset, .unset, .unset, .unset] [(.int v1)])) t
            refine XS.iconst X4.here hx rfl (hb hby at_71) ?_
            show Steps p.tables e below (T4.setTop (mkF m 72 #[.val (.int p0), .val (.long q1), .second, .val (.long q2), .second, .val (.long q3), .second, .val (.long q4), .second, .val (.int v1), .val (.long x0), .second, .val (.long x1), .second, .val (.long x2), .second, .unset, .unset, .unset, .unset] [(.int (1 : Int32)), (.int v1)])) t
            exact k
          by_cases hc24 : v1 = (1 : Int32)
          · obtain ⟨T25, h25, k25, X25, e25, E25, A25, st25⟩ := newP X4 hx hZ (hw _ (List.mem_of_getElem? (i := 0) rfl)) e4 (g := (mkF m 76 #[.val (.int p0), .val (.long q1), .second, .val (.long q2), .second, .val (.long q3), .second, .val (.long q4), .second, .val (.int v1), .val (.long x0), .second, .val (.long x1), .second, .val (.long x2), .second, .unset, .unset, .unset, .unset] [(.int (1 : Int32))])) rfl (hb hby at_76) rfl (by decide) (cap := 1) (by decide) (by decide) (by decide) (by decide)
            obtain ⟨b25, g_b25⟩ : ∃ z : Nat, z = h0.size := ⟨_, rfl⟩
            rw [← g_b25] at A25 st25
            have g0_b25 : n0 ≤ b25 := by rw [g_b25]; exact Z0
            have f26 : Own.AvJ Z h25 b25 1 (fun _ => 0) := Own.AvJ.new A25 (by decide)
            have Z25 : n0 ≤ h25.size := Nat.le_trans Z0 E25.1
            have hj27 : 0 ≤ (0 : Int32).toInt ∧ (0 : Int32).toInt < (1 : Nat) := ⟨by decide, by decide⟩
            obtain ⟨T28, h28, X28, e28, A28, W28, st28⟩ := Own.stoJ X25 hx hZ e25 f26 hj27 (g := (mkF m 82 #[.val (.int p0), .val (.long q1), .second, .val (.long q2), .second, .val (.long q3), .second, .val (.long q4), .second, .val (.int v1), .val (.long x0), .second, .val (.long x1), .second, .val (.long x2), .second, .unset, .unset, .unset, .unset] [(.long x0), (.int (0 : Int32)), (.ref b25), (.ref b25)])) rfl rfl (hb hby at_82)
            have N28 := Fr.snoc X28 N4 (show n0 ≤ b25 by omega)
            have Z28 : n0 ≤ h28.size := Nat.le_trans Z25 (Keep.of_wr W28).1
            obtain ⟨T29, h29, k29, X29, e29, E29, A29, st29⟩ := newP X28 hx hZ (hw _ (List.mem_of_getElem? (i := 0) rfl)) e28 (g := (mkF m 86 #[.val (.int p0), .val (.long q1), .second, .val (.long q2), .second, .val (.long q3), .second, .val (.long q4), .second, .val (.int v1), .val (.long x0), .second, .val (.long x1), .second, .val (.long x2), .second, .val (.ref b25), .unset, .unset, .unset] [(.int (1 : Int32))])) rfl (hb hby at_86) rfl (by decide) (cap := 1) (by decide) (by decide) (by decide) (by decide)
            obtain ⟨b29, g_b29⟩ : ∃ z : Nat, z = h28.size := ⟨_, rfl⟩
            rw [← g_b29] at A29 st29
            have lt_b25_b29 : (b25 : Nat) < b29 := by rw [g_b29]; exact A28.lt
            have g0_b29 : n0 ≤ b29 := by rw [g_b29]; exact Z28
            have f30 : Own.AvJ Z h29 b25 1 (fun i => if i = 0 then x0 else (fun _ => 0) i) := A28.ext E29
            have f31 : Own.AvJ Z h29 b29 1 (fun _ => 0) := Own.AvJ.new A29 (by decide)
            have Z29 : n0 ≤ h29.size := Nat.le_trans Z28 E29.1
            have hj32 : 0 ≤ (0 : Int32).toInt ∧ (0 : Int32).toInt < (1 : Nat) := ⟨by decide, by decide⟩
            obtain ⟨T33, h33, X33, e33, A33, W33, st33⟩ := Own.stoJ X29 hx hZ e29 f31 hj32 (g := (mkF m 92 #[.val (.int p0), .val (.long q1), .second, .val (.long q2), .second, .val (.long q3), .second, .val (.long q4), .second, .val (.int v1), .val (.long x0), .second, .val (.long x1), .second, .val (.long x2), .second, .val (.ref b25), .unset, .unset, .unset] [(.long q4), (.int (0 : Int32)), (.ref b29), (.ref b29)])) rfl rfl (hb hby at_92)
            have f34 : Own.AvJ Z h33 b25 1 (fun i => if i = 0 then x0 else (fun _ => 0) i) := f30.other W33 (Own.ne_of (by omega))
            have N33 := Fr.snoc X33 N28 (show n0 ≤ b29 by omega)
            have Z33 : n0 ≤ h33.size := Nat.le_trans Z29 (Keep.of_wr W33).1
            obtain ⟨T35, h35, X35, e35, E35, A35, D35, -, st35⟩ := newO X33 hx hZ hown (hw _ (List.mem_of_getElem? (i := 1) rfl)) (hw _ (List.mem_of_getElem? (i := 2) rfl)) (hw _ (List.mem_of_getElem? (i := 3) rfl)) e33 (g := (mkF m 185 #[.val (.int p0), .val (.long q1), .second, .val (.long q2), .second, .val (.long q3), .second, .val (.long q4), .second, .val (.int v1), .val (.long x0), .second, .val (.long x1), .second, .val (.long x2), .second, .val (.ref b25), .val (.ref b29), .unset, .unset] [])) rfl (hb hby at_185) (by decide) (by decide)
            obtain ⟨b35, g_b35⟩ : ∃ z : Nat, z = h33.size := ⟨_, rfl⟩
            rw [← g_b35] at A35 D35 st35
            have lt_b25_b35 : (b25 : Nat) < b35 := by rw [g_b35]; exact f34.lt
            have lt_b29_b35 : (b29 : Nat) < b35 := by rw [g_b35]; exact A33.lt
            have g0_b35 : n0 ≤ b35 := by rw [g_b35]; exact Z33
            have f36 : Own.AvJ Z h35 b25 1 (fun i => if i = 0 then x0 else (fun _ => 0) i) := f34.ext E35
            have f37 : Own.AvJ Z h35 b29 1 (fun i => if i = 0 then q4 else (fun _ => 0) i) := A33.ext E35
            have f38 : Fld Z h35 b35 "com/example/eurycleia/eurycleia/core/Query" "bits" "[J" .null := D35 (Or.inr (hw _ (List.mem_of_getElem? (i := 16) rfl))) (ty := (.array .long)) (by decide)
            have f39 : Fld Z h35 b35 "com/example/eurycleia/eurycleia/core/Query" "mask" "[J" .null := D35 (Or.inr (hw _ (List.mem_of_getElem? (i := 18) rfl))) (ty := (.array .long)) (by decide)
            have Z35 : n0 ≤ h35.size := Nat.le_trans Z33 E35.1
            obtain ⟨T40, _, L40, X40, ⟨rfl, Nq40, Kq40, E40, F40⟩, st40⟩ := Own.callI (y := (⟨"com/example/eurycleia/eurycleia/core/Query", "<init>", "([J[J)V"⟩ : MethodName)) (W := 1) (argsL := [(.ref b29), (.ref b25)]) (rest := [(.ref b35)]) (a := b35) X35 hx hZ hown rfl (hw _ (List.mem_of_getElem? (i := 4) rfl)) (hw _ (List.mem_of_getElem? (i := 5) rfl)) (hw _ (List.mem_of_getElem? (i := 3) rfl)) (hw _ (List.mem_of_getElem? (i := 6) rfl)) (by decide) e35 (rm2 l Z a0 hw [] b35 b29 b25 1 (fun i => if i = 0 then q4 else (fun _ => 0) i) (fun i => if i = 0 then x0 else (fun _ => 0) i) h35 n0 Z35 g0_b35 lt_b29_b35 lt_b25_b35 A35 f38 f39 f37 f36) (by decide) (by decide) (by decide) (by decide) (g := (mkF m 193 #[.val (.int p0), .val (.long q1), .second, .val (.long q2), .second, .val (.long q3), .second, .val (.long q4), .second, .val (.int v1), .val (.long x0), .second, .val (.long x1), .second, .val (.long x2), .second, .val (.ref b25), .val (.ref b29), .unset, .unset] [(.ref b25), (.ref b29), (.ref b35), (.ref b35)])) rfl (by rw [hml]; rfl) (lenOf pd_1 rfl) rfl (by show 2 * 0 + _ ≤ _; exact Nat.le_of_eq rfl) (hb hby at_193)
            have N40 := Fr.app N33 Nq40
            have f41 : Own.AvJ Z T40.heap b25 1 (fun i => if i = 0 then x0 else (fun _ => 0) i) := f36.keep Kq40 (ninS (Own.ne_of (by omega)) nin0)
            have f42 : Own.AvJ Z T40.heap b29 1 (fun i => if i = 0 then q4 else (fun _ => 0) i) := f37.keep Kq40 (ninS (Own.ne_of (by omega)) nin0)
            refine hD _ (T40.setTop (mkF m 201 #[.val (.int p0), .val (.long q1), .second, .val (.long q2), .second, .val (.long q3), .second, .val (.long q4), .second, .val (.int v1), .val (.long x0), .second, .val (.long x1), .second, .val (.long x2), .second, .val (.ref b25), .val (.ref b29), .val (.ref b35), .unset] [(.int (1 : Int32)), (.int v1)])) (fun t k => ?_) ?_
            · show Steps p.tables e below (T4.setTop (mkF m 72 #[.val (.int p0), .val (.long q1), .second, .val (.long q2), .second, .val (.long q3), .second, .val (.long q4), .second, .val (.int v1), .val (.long x0), .second, .val (.long x1), .second, .val (.long x2), .second, .unset, .unset, .unset, .unset] [(.int (1 : Int32)), (.int v1)])) t
              refine XS.icmpNo X4.here hx rfl (hb hby at_72) rfl (teq hc24).2 ?_
              show Steps p.tables e below (T4.setTop (mkF m 75 #[.val (.int p0), .val (.long q1), .second, .val (.long q2), .second, .val (.long q3), .second, .val (.long q4), .second, .val (.int v1), .val (.long x0), .second, .val (.long x1), .second, .val (.long x2), .second, .unset, .unset, .unset, .unset] [])) t
              refine XS.iconst X4.here hx rfl (hb hby at_75) ?_
              show Steps p.tables e below (T4.setTop (mkF m 76 #[.val (.int p0), .val (.long q1), .second, .val (.long q2), .second, .val (.long q3), .second, .val (.long q4), .second, .val (.int v1), .val (.long x0), .second, .val (.long x1), .second, .val (.long x2), .second, .unset, .unset, .unset, .unset] [(.int (1 : Int32))])) t
              refine st25 _ ?_
              show Steps p.tables e below (T25.setTop (mkF m 78 #[.val (.int p0), .val (.long q1), .second, .val (.long q2), .second, .val (.long q3), .second, .val (.long q4), .second, .val (.int v1), .val (.long x0), .second, .val (.long x1), .second, .val (.long x2), .second, .unset, .unset, .unset, .unset] [(.ref b25)])) t
              refine XS.dup X25.here hx rfl (hb hby at_78) rfl rfl ?_
              show Steps p.tables e below (T25.setTop (mkF m 79 #[.val (.int p0), .val (.long q1), .second, .val (.long q2), .second, .val (.long q3), .second, .val (.long q4), .second, .val (.int v1), .val (.long x0), .second, .val (.long x1), .second, .val (.long x2), .second, .unset, .unset, .unset, .unset] [(.ref b25), (.ref b25)])) t
              refine XS.iconst X25.here hx rfl (hb hby at_79) ?_
              show Steps p.tables e below (T25.setTop (mkF m 80 #[.val (.int p0), .val (.long q1), .second, .val (.long q2), .second, .val (.long q3), .second, .val (.long q4), .second, .val (.int v1), .val (.long x0), .second, .val (.long x1), .second, .val (.long x2), .second, .unset, .unset, .unset, .unset] [(.int (0 : Int32)), (.ref b25), (.ref b25)])) t
              refine XS.lload X25.here hx rfl (hb hby at_80) rfl ?_
              show Steps p.tables e below (T25.setTop (mkF m 82 #[.val (.int p0), .val (.long q1), .second, .val (.long q2), .second, .val (.long q3), .second, .val (.long q4), .second, .val (.int v1), .val (.long x0), .second, .val (.long x1), .second, .val (.long x2), .second, .unset, .unset, .unset, .unset] [(.long x0), (.int (0 : Int32)), (.ref b25), (.ref b25)])) t
              refine st28 _ ?_
              show Steps p.tables e below (T28.setTop (mkF m 83 #[.val (.int p0), .val (.long q1), .second, .val (.long q2), .second, .val (.long q3), .second, .val (.long q4), .second, .val (.int v1), .val (.long x0), .second, .val (.long x1), .second, .val (.long x2), .second, .unset, .unset, .unset, .unset] [(.ref b25)])) t
              refine XS.astore X28.here hx rfl (hb hby at_83) rfl rfl (l' := #[.val (.int p0), .val (.long q1), .second, .val (.long q2), .second, .val (.long q3), .second, .val (.long q4), .second, .val (.int v1), .val (.long x0), .second, .val (.long x1), .second, .val (.long x2), .second, .val (.ref b25), .unset, .unset, .unset]) rfl ?_
              show Steps p.tables e below (T28.setTop (mkF m 85 #[.val (.int p0), .val (.long q1), .second, .val (.long q2), .second, .val (.long q3), .second, .val (.long q4), .second, .val (.int v1), .val (.long x0), .second, .val (.long x1), .second, .val (.long x2), .second, .val (.ref b25), .unset, .unset, .unset] [])) t
              refine XS.iconst X28.here hx rfl (hb hby at_85) ?_
              show Steps p.tables e below (T28.setTop (mkF m 86 #[.val (.int p0), .val (.long q1), .second, .val (.long q2), .second, .val (.long q3), .second, .val (.long q4), .second, .val (.int v1), .val (.long x0), .second, .val (.long x1), .second, .val (.long x2), .second, .val (.ref b25), .unset, .unset, .unset] [(.int (1 : Int32))])) t
              refine st29 _ ?_
              show Steps p.tables e below (T29.setTop (mkF m 88 #[.val (.int p0), .val (.long q1), .second, .val (.long q2), .second, .val (.long q3), .second, .val (.long q4), .second, .val (.int v1), .val (.long x0), .second, .val (.long x1), .second, .val (.long x2), .second, .val (.ref b25), .unset, .unset, .unset] [(.ref b29)])) t
              refine XS.dup X29.here hx rfl (hb hby at_88) rfl rfl ?_
              show Steps p.tables e below (T29.setTop (mkF m 89 #[.val (.int p0), .val (.long q1), .second, .val (.long q2), .second, .val (.long q3), .second, .val (.long q4), .second, .val (.int v1), .val (.long x0), .second, .val (.long x1), .second, .val (.long x2), .second, .val (.ref b25), .unset, .unset, .unset] [(.ref b29), (.ref b29)])) t
              refine XS.iconst X29.here hx rfl (hb hby at_89) ?_
              show Steps p.tables e below (T29.setTop (mkF m 90 #[.val (.int p0), .val (.long q1), .second, .val (.long q2), .second, .val (.long q3), .second, .val (.long q4), .second, .val (.int v1), .val (.long x0), .second, .val (.long x1), .second, .val (.long x2), .second, .val (.ref b25), .unset, .unset, .unset] [(.int (0 : Int32)), (.ref b29), (.ref b29)])) t
              refine XS.lload X29.here hx rfl (hb hby at_90) rfl ?_
              show Steps p.tables e below (T29.setTop (mkF m 92 #[.val (.int p0), .val (.long q1), .second, .val (.long q2), .second, .val (.long q3), .second, .val (.long q4), .second, .val (.int v1), .val (.long x0), .second, .val (.long x1), .second, .val (.long x2), .second, .val (.ref b25), .unset, .unset, .unset] [(.long q4), (.int (0 : Int32)), (.ref b29), (.ref b29)])) t
              refine st33 _ ?_
              show Steps p.tables e below (T33.setTop (mkF m 93 #[.val (.int p0), .val (.long q1), .second, .val (.long q2), .second, .val (.long q3), .second, .val (.long q4), .second, .val (.int v1), .val (.long x0), .second, .val (.long x1), .second, .val (.long x2), .second, .val (.ref b25), .unset, .unset, .unset] [(.ref b29)])) t
              refine XS.astore X33.here hx rfl (hb hby at_93) rfl rfl (l' := #[.val (.int p0), .val (.long q1), .second, .val (.long q2), .second, .val (.long q3), .second, .val (.long q4), .second, .val (.int v1), .val (.long x0), .second, .val (.long x1), .second, .val (.long x2), .second, .val (.ref b25), .val (.ref b29), .unset, .unset]) rfl ?_
              show Steps p.tables e below (T33.setTop (mkF m 95 #[.val (.int p0), .val (.long q1), .second, .val (.long q2), .second, .val (.long q3), .second, .val (.long q4), .second, .val (.int v1), .val (.long x0), .second, .val (.long x1), .second, .val (.long x2), .second, .val (.ref b25), .val (.ref b29), .unset, .unset] [])) t
              refine XS.goto X33.here hx rfl (pc0 := 95) (pc' := 185) rfl (hb hby at_95) (by decide) (by decide) ?_
              show Steps p.tables e below (T33.setTop (mkF m 185 #[.val (.int p0), .val (.long q1), .second, .val (.long q2), .second, .val (.long q3), .second, .val (.long q4), .second, .val (.int v1), .val (.long x0), .second, .val (.long x1), .second, .val (.long x2), .second, .val (.ref b25), .val (.ref b29), .unset, .unset] [])) t
              refine st35 _ ?_
              show Steps p.tables e below (T35.setTop (mkF m 188 #[.val (.int p0), .val (.long q1), .second, .val (.long q2), .second, .val (.long q3), .second, .val (.long q4), .second, .val (.int v1), .val (.long x0), .second, .val (.long x1), .second, .val (.long x2), .second, .val (.ref b25), .val (.ref b29), .unset, .unset] [(.ref b35)])) t
              refine XS.dup X35.here hx rfl (hb hby at_188) rfl rfl ?_
              show Steps p.tables e below (T35.setTop (mkF m 189 #[.val (.int p0), .val (.long q1), .second, .val (.long q2), .second, .val (.long q3), .second, .val (.long q4), .second, .val (.int v1), .val (.long x0), .second, .val (.long x1), .second, .val (.long x2), .second, .val (.ref b25), .val (.ref b29), .unset, .unset] [(.ref b35), (.ref b35)])) t
              refine XS.aload X35.here hx rfl (hb hby at_189) rfl rfl ?_
              show Steps p.tables e below (T35.setTop (mkF m 191 #[.val (.int p0), .val (.long q1), .second, .val (.long q2), .second, .val (.long q3), .second, .val (.long q4), .second, .val (.int v1), .val (.long x0), .second, .val (.long x1), .second, .val (.long x2), .second, .val (.ref b25), .val (.ref b29), .unset, .unset] [(.ref b29), (.ref b35), (.ref b35)])) t
              refine XS.aload X35.here hx rfl (hb hby at_191) rfl rfl ?_
              show Steps p.tables e below (T35.setTop (mkF m 193 #[.val (.int p0), .val (.long q1), .second, .val (.long q2), .second, .val (.long q3), .second, .val (.long q4), .second, .val (.int v1), .val (.long x0), .second, .val (.long x1), .second, .val (.long x2), .second, .val (.ref b25), .val (.ref b29), .unset, .unset] [(.ref b25), (.ref b29), (.ref b35), (.ref b35)])) t
              refine st40 _ ?_
              show Steps p.tables e below (T40.setTop (mkF m 196 #[.val (.int p0), .val (.long q1), .second, .val (.long q2), .second, .val (.long q3), .second, .val (.long q4), .second, .val (.int v1), .val (.long x0), .second, .val (.long x1), .second, .val (.long x2), .second, .val (.ref b25), .val (.ref b29), .unset, .unset] [(.ref b35)])) t
              refine XS.astore X40.here hx rfl (hb hby at_196) rfl rfl (l' := #[.val (.int p0), .val (.long q1), .second, .val (.long q2), .second, .val (.long q3), .second, .val (.long q4), .second, .val (.int v1), .val (.long x0), .second, .val (.long x1), .second, .val (.long x2), .second, .val (.ref b25), .val (.ref b29), .val (.ref b35), .unset]) rfl ?_
              show Steps p.tables e below (T40.setTop (mkF m 198 #[.val (.int p0), .val (.long q1), .second, .val (.long q2), .second, .val (.long q3), .second, .val (.long q4), .second, .val (.int v1), .val (.long x0), .second, .val (.long x1), .second, .val (.long x2), .second, .val (.ref b25), .val (.ref b29), .val (.ref b35), .unset] [])) t
              refine XS.iload X40.here hx rfl (hb hby at_198) rfl ?_
              show Steps p.tables e below (T40.setTop (mkF m 200 #[.val (.int p0), .val (.long q1), .second, .val (.long q2), .second, .val (.long q3), .second, .val (.long q4), .second, .val (.int v1), .val (.long x0), .second, .val (.long x1), .second, .val (.long x2), .second, .val (.ref b25), .val (.ref b29), .val (.ref b35), .unset] [(.int v1)])) t
              refine XS.iconst X40.here hx rfl (hb hby at_200) ?_
              show Steps p.tables e below (T40.setTop (mkF m 201 #[.val (.int p0), .val (.long q1), .second, .val (.long q2), .second, .val (.long q3), .second, .val (.long q4), .second, .val (.int v1), .val (.long x0), .second, .val (.long x1), .second, .val (.long x2), .second, .val (.ref b25), .val (.ref b29), .val (.ref b35), .unset] [(.int (1 : Int32)), (.int v1)])) t
              exact k
            have hc43 : ¬ (v1 < (1 : Int32)) := by rw [hc24]; decide
            refine hD _ (T40.setTop (mkF m 208 #[.val (.int p0), .val (.long q1), .second, .val (.long q2), .second, .val (.long q3), .second, .val (.long q4), .second, .val (.int v1), .val (.long x0), .second, .val (.long x1), .second, .val (.long x2), .second, .val (.ref b25), .val (.ref b29), .val (.ref b35), .unset] [(.int (lcmpW x0 (0 : Int64)))])) (fun t k => ?_) ?_
            · show Steps p.tables e below (T40.setTop (mkF m 201 #[.val (.int p0), .val (.long q1), .second, .val (.long q2), .second, .val (.long q3), .second, .val (.long q4), .second, .val (.int v1), .val (.long x0), .second, .val (.long x1), .second, .val (.long x2), .second, .val (.ref b25), .val (.ref b29), .val (.ref b35), .unset] [(.int (1 : Int32)), (.int v1)])) t
              refine XS.icmpNo X40.here hx rfl (hb hby at_201) rfl (flt hc43).1 ?_
              show Steps p.tables e below (T40.setTop (mkF m 204 #[.val (.int p0), .val (.long q1), .second, .val (.long q2), .second, .val (.long q3), .second, .val (.long q4), .second, .val (.int v1), .val (.long x0), .second, .val (.long x1), .second, .val (.long x2), .second, .val (.ref b25), .val (.ref b29), .val (.ref b35), .unset] [])) t
              refine XS.lload X40.here hx rfl (hb hby at_204) rfl ?_
              show Steps p.tables e below (T40.setTop (mkF m 206 #[.val (.int p0), .val (.long q1), .second, .val (.long q2), .second, .val (.long q3), .second, .val (.long q4), .second, .val (.int v1), .val (.long x0), .second, .val (.long x1), .second, .val (.long x2), .second, .val (.ref b25), .val (.ref b29), .val (.ref b35), .unset] [(.long x0)])) t
              refine XS.lconst X40.here hx rfl (hb hby at_206) ?_
              show Steps p.tables e below (T40.setTop (mkF m 207 #[.val (.int p0), .val (.long q1), .second, .val (.long q2), .second, .val (.long q3), .second, .val (.long q4), .second, .val (.int v1), .val (.long x0), .second, .val (.long x1), .second, .val (.long x2), .second, .val (.ref b25), .val (.ref b29), .val (.ref b35), .unset] [(.long (0 : Int64)), (.long x0)])) t
              refine XS.lcmp X40.here hx rfl (hb hby at_207) rfl ?_
              show Steps p.tables e below (T40.setTop (mkF m 208 #[.val (.int p0), .val (.long q1), .second, .val (.long q2), .second, .val (.long q3), .second, .val (.long q4), .second, .val (.int v1), .val (.long x0), .second, .val (.long x1), .second, .val (.long x2), .second, .val (.ref b25), .val (.ref b29), .val (.ref b35), .unset] [(.int (lcmpW x0 (0 : Int64)))])) t
              exact k
            by_cases hc44 : x0 = (0 : Int64)
            · refine hD _ (T40.setTop (mkF m 214 #[.val (.int p0), .val (.long q1), .second, .val (.long q2), .second, .val (.long q3), .second, .val (.long q4), .second, .val (.int v1), .val (.long x0), .second, .val (.long x1), .second, .val (.long x2), .second, .val (.ref b25), .val (.ref b29), .val (.ref b35), .unset] [(.int (2 : Int32)), (.int v1)])) (fun t k => ?_) ?_
              · show Steps p.tables e below (T40.setTop (mkF m 208 #[.val (.int p0), .val (.long q1), .second, .val (.long q2), .second, .val (.long q3), .second, .val (.long q4), .second, .val (.int v1), .val (.long x0), .second, .val (.long x1), .second, .val (.long x2), .second, .val (.ref b25), .val (.ref b29), .val (.ref b35), .unset] [(.int (lcmpW x0 (0 : Int64)))])) t
                refine XS.ifNo X40.here hx rfl (hb hby at_208) rfl ((if0 _ _).trans (teq ((lw_eq x0 (0 : Int64)).mpr hc44)).2) ?_
                show Steps p.tables e below (T40.setTop (mkF m 211 #[.val (.int p0), .val (.long q1), .second, .val (.long q2), .second, .val (.long q3), .second, .val (.long q4), .second, .val (.int v1), .val (.long x0), .second, .val (.long x1), .second, .val (.long x2), .second, .val (.ref b25), .val (.ref b29), .val (.ref b35), .unset] [])) t
                refine XS.iload X40.here hx rfl (hb hby at_211) rfl ?_
                show Steps p.tables e below (T40.setTop (mkF m 213 #[.val (.int p0), .val (.long q1), .second, .val (.long q2), .second, .val (.long q3), .second, .val (.long q4), .second, .val (.int v1), .val (.long x0), .second, .val (.long x1), .second, .val (.long x2), .second, .val (.ref b25), .val (.ref b29), .val (.ref b35), .unset] [(.int v1)])) t
                refine XS.iconst X40.here hx rfl (hb hby at_213) ?_
                show Steps p.tables e below (T40.setTop (mkF m 214 #[.val (.int p0), .val (.long q1), .second, .val (.long q2), .second, .val (.long q3), .second, .val (.long q4), .second, .val (.int v1), .val (.long x0), .second, .val (.long x1), .second, .val (.long x2), .second, .val (.ref b25), .val (.ref b29), .val (.ref b35), .unset] [(.int (2 : Int32)), (.int v1)])) t
                exact k
              have hc45 : v1 < (2 : Int32) := by rw [hc24]; decide
              refine hD _ (T40.setTop (mkF m 227 #[.val (.int p0), .val (.long q1), .second, .val (.long q2), .second, .val (.long q3), .second, .val (.long q4), .second, .val (.int v1), .val (.long x0), .second, .val (.long x1), .second, .val (.long x2), .second, .val (.ref b25), .val (.ref b29), .val (.ref b35), .unset] [(.int (3 : Int32)), (.int v1)])) (fun t k => ?_) ?_
              · show Steps p.tables e below (T40.setTop (mkF m 214 #[.val (.int p0), .val (.long q1), .second, .val (.long q2), .second, .val (.long q3), .second, .val (.long q4), .second, .val (.int v1), .val (.long x0), .second, .val (.long x1), .second, .val (.long x2), .second, .val (.ref b25), .val (.ref b29), .val (.ref b35), .unset] [(.int (2 : Int32)), (.int v1)])) t
                refine XS.icmpYes X40.here hx rfl (pc0 := 214) (pc' := 224) rfl (hb hby at_214) rfl (tlt hc45).1 (by decide) (by decide) ?_
                show Steps p.tables e below (T40.setTop (mkF m 224 #[.val (.int p0), .val (.long q1), .second, .val (.long q2), .second, .val (.long q3), .second, .val (.long q4), .second, .val (.int v1), .val (.long x0), .second, .val (.long x1), .second, .val (.long x2), .second, .val (.ref b25), .val (.ref b29), .val (.ref b35), .unset] [])) t
                refine XS.iload X40.here hx rfl (hb hby at_224) rfl ?_
                show Steps p.tables e below (T40.setTop (mkF m 226 #[.val (.int p0), .val (.long q1), .second, .val (.long q2), .second, .val (.long q3), .second, .val (.long q4), .second, .val (.int v1), .val (.long x0), .second, .val (.long x1), .second, .val (.long x2), .second, .val (.ref b25), .val (.ref b29), .val (.ref b35), .unset] [(.int v1)])) t
                refine XS.iconst X40.here hx rfl (hb hby at_226) ?_
                show Steps p.tables e below (T40.setTop (mkF m 227 #[.val (.int p0), .val (.long q1), .second, .val (.long q2), .second, .val (.long q3), .second, .val (.long q4), .second, .val (.int v1), .val (.long x0), .second, .val (.long x1), .second, .val (.long x2), .second, .val (.ref b25), .val (.ref b29), .val (.ref b35), .unset] [(.int (3 : Int32)), (.int v1)])) t
                exact k
              have hc46 : v1 < (3 : Int32) := by rw [hc24]; decide
              obtain ⟨T47, _, L47, X47, ⟨rfl, Nq47, e47⟩, st47⟩ := Own.callV (y := (⟨"com/example/eurycleia/eurycleia/core/Query", "isEmpty", "()Z"⟩ : MethodName)) (W := 0) (argsL := []) (rest := []) (a := b35) X40 hx hZ hown (hw _ (List.mem_of_getElem? (i := 19) rfl)) (hw _ (List.mem_of_getElem? (i := 20) rfl)) (hw _ (List.mem_of_getElem? (i := 22) rfl)) (hw _ (List.mem_of_getElem? (i := 21) rfl)) (hw _ (List.mem_of_getElem? (i := 3) rfl)) (hw _ (List.mem_of_getElem? (i := 23) rfl)) (by decide) rfl E40 (rm11 l Z a0 hw [] b35 b25 (fun i => if i = 0 then x0 else (fun _ => 0) i) T40.heap n0 F40 f41) (by decide) (by decide) (by decide) (by decide) (g := (mkF m 246 #[.val (.int p0), .val (.long q1), .second, .val (.long q2), .second, .val (.long q3), .second, .val (.long q4), .second, .val (.int v1), .val (.long x0), .second, .val (.long x1), .second, .val (.long x2), .second, .val (.ref b25), .val (.ref b29), .val (.ref b35), .val (.int (1 : Int32))] [(.ref b35)])) rfl (by rw [hml]; rfl) (lenOf pd_2 rfl) rfl (by show 2 * 0 + _ ≤ _; exact Nat.le_of_eq rfl) (hb hby at_246)
              have N47 := Fr.app N40 Nq47
              refine hD _ (T47.setTop (mkF m 251 #[.val (.int p0), .val (.long q1), .second, .val (.long q2), .second, .val (.long q3), .second, .val (.long q4), .second, .val (.int v1), .val (.long x0), .second, .val (.long x1), .second, .val (.long x2), .second, .val (.ref b25), .val (.ref b29), .val (.ref b35), .val (.int (1 : Int32))] [(.int (1 : Int32)), (.int (Own.b2i (own_emp 1 (fun i => if i = 0 then x0 else (fun _ => 0) i))))])) (fun t k => ?_) ?_
              · show Steps p.tables e below (T40.setTop (mkF m 227 #[.val (.int p0), .val (.long q1), .second, .val (.long q2), .second, .val (.long q3), .second, .val (.long q4), .second, .val (.int v1), .val (.long x0), .second, .val (.long x1), .second, .val (.long x2), .second, .val (.ref b25), .val (.ref b29), .val (.ref b35), .unset] [(.int (3 : Int32)), (.int v1)])) t
                refine XS.icmpYes X40.here hx rfl (pc0 := 227) (pc' := 237) rfl (hb hby at_227) rfl (tlt hc46).1 (by decide) (by decide) ?_
                show Steps p.tables e below (T40.setTop (mkF m 237 #[.val (.int p0), .val (.long q1), .second, .val (.long q2), .second, .val (.long q3), .second, .val (.long q4), .second, .val (.int v1), .val (.long x0), .second, .val (.long x1), .second, .val (.long x2), .second, .val (.ref b25), .val (.ref b29), .val (.ref b35), .unset] [])) t
                refine XS.iconst X40.here hx rfl (hb hby at_237) ?_
                show Steps p.tables e below (T40.setTop (mkF m 238 #[.val (.int p0), .val (.long q1), .second, .val (.long q2), .second, .val (.long q3), .second, .val (.long q4), .second, .val (.int v1), .val (.long x0), .second, .val (.long x1), .second, .val (.long x2), .second, .val (.ref b25), .val (.ref b29), .val (.ref b35), .unset] [(.int (1 : Int32))])) t
                refine XS.goto X40.here hx rfl (pc0 := 238) (pc' := 242) rfl (hb hby at_238) (by decide) (by decide) ?_
                show Steps p.tables e below (T40.setTop (mkF m 242 #[.val (.int p0), .val (.long q1), .second, .val (.long q2), .second, .val (.long q3), .second, .val (.long q4), .second, .val (.int v1), .val (.long x0), .second, .val (.long x1), .second, .val (.long x2), .second, .val (.ref b25), .val (.ref b29), .val (.ref b35), .unset] [(.int (1 : Int32))])) t
                refine XS.istore X40.here hx rfl (hb hby at_242) rfl (l' := #[.val (.int p0), .val (.long q1), .second, .val (.long q2), .second, .val (.long q3), .second, .val (.long q4), .second, .val (.int v1), .val (.long x0), .second, .val (.long x1), .second, .val (.long x2), .second, .val (.ref b25), .val (.ref b29), .val (.ref b35), .val (.int (1 : Int32))]) rfl ?_
                show Steps p.tables e below (T40.setTop (mkF m 244 #[.val (.int p0), .val (.long q1), .second, .val (.long q2), .second, .val (.long q3), .second, .val (.long q4), .second, .val (.int v1), .val (.long x0), .second, .val (.long x1), .second, .val (.long x2), .second, .val (.ref b25), .val (.ref b29), .val (.ref b35), .val (.int (1 : Int32))] [])) t
                refine XS.aload X40.here hx rfl (hb hby at_244) rfl rfl ?_
                show Steps p.tables e below (T40.setTop (mkF m 246 #[.val (.int p0), .val (.long q1), .second, .val (.long q2), .second, .val (.long q3), .second, .val (.long q4), .second, .val (.int v1), .val (.long x0), .second, .val (.long x1), .second, .val (.long x2), .second, .val (.ref b25), .val (.ref b29), .val (.ref b35), .val (.int (1 : Int32))] [(.ref b35)])) t
                refine st47 _ ?_
                show Steps p.tables e below (T47.setTop (mkF m 249 #[.val (.int p0), .val (.long q1), .second, .val (.long q2), .second, .val (.long q3), .second, .val (.long q4), .second, .val (.int v1), .val (.long x0), .second, .val (.long x1), .second, .val (.long x2), .second, .val (.ref b25), .val (.ref b29), .val (.ref b35), .val (.int (1 : Int32))] [(.int (Own.b2i (own_emp 1 (fun i => if i = 0 then x0 else (fun _ => 0) i))))])) t
                refine XS.iload X47.here hx rfl (hb hby at_249) rfl ?_
                show Steps p.tables e below (T47.setTop (mkF m 251 #[.val (.int p0), .val (.long q1), .second, .val (.long q2), .second, .val (.long q3), .second, .val (.long q4), .second, .val (.int v1), .val (.long x0), .second, .val (.long x1), .second, .val (.long x2), .second, .val (.ref b25), .val (.ref b29), .val (.ref b35), .val (.int (1 : Int32))] [(.int (1 : Int32)), (.int (Own.b2i (own_emp 1 (fun i => if i = 0 then x0 else (fun _ => 0) i))))])) t
                exact k
              have hc48 : (Own.b2i (own_emp 1 (fun i => if i = 0 then x0 else (fun _ => 0) i))) = (1 : Int32) := by simp [own_emp, Own.b2i, hc5, hc24, hc43, hc44, hc45, hc46]
              refine hD _ (T47.setTop (mkF m 259 #[.val (.int p0), .val (.long q1), .second, .val (.long q2), .second, .val (.long q3), .second, .val (.long q4), .second, .val (.int v1), .val (.long x0), .second, .val (.long x1), .second, .val (.long x2), .second, .val (.ref b25), .val (.ref b29), .val (.ref b35), .val (.int (1 : Int32))] [(.int (1 : Int32))])) (fun t k => ?_) ?_
              · show Steps p.tables e below (T47.setTop (mkF m 251 #[.val (.int p0), .val (.long q1), .second, .val (.long q2), .second, .val (.long q3), .second, .val (.long q4), .second, .val (.int v1), .val (.long x0), .second, .val (.long x1), .second, .val (.long x2), .second, .val (.ref b25), .val (.ref b29), .val (.ref b35), .val (.int (1 : Int32))] [(.int (1 : Int32)), (.int (Own.b2i (own_emp 1 (fun i => if i = 0 then x0 else (fun _ => 0) i))))])) t
                refine XS.icmpNo X47.here hx rfl (hb hby at_251) rfl (teq hc48).2 ?_
                show Steps p.tables e below (T47.setTop (mkF m 254 #[.val (.int p0), .val (.long q1), .second, .val (.long q2), .second, .val (.long q3), .second, .val (.long q4), .second, .val (.int v1), .val (.long x0), .second, .val (.long x1), .second, .val (.long x2), .second, .val (.ref b25), .val (.ref b29), .val (.ref b35), .val (.int (1 : Int32))] [])) t
                refine XS.iconst X47.here hx rfl (hb hby at_254) ?_
                show Steps p.tables e below (T47.setTop (mkF m 255 #[.val (.int p0), .val (.long q1), .second, .val (.long q2), .second, .val (.long q3), .second, .val (.long q4), .second, .val (.int v1), .val (.long x0), .second, .val (.long x1), .second, .val (.long x2), .second, .val (.ref b25), .val (.ref b29), .val (.ref b35), .val (.int (1 : Int32))] [(.int (1 : Int32))])) t
                refine XS.goto X47.here hx rfl (pc0 := 255) (pc' := 259) rfl (hb hby at_255) (by decide) (by decide) ?_
                show Steps p.tables e below (T47.setTop (mkF m 259 #[.val (.int p0), .val (.long q1), .second, .val (.long q2), .second, .val (.long q3), .second, .val (.long q4), .second, .val (.int v1), .val (.long x0), .second, .val (.long x1), .second, .val (.long x2), .second, .val (.ref b25), .val (.ref b29), .val (.ref b35), .val (.int (1 : Int32))] [(.int (1 : Int32))])) t
                exact k
              exact Own.retN hR X47 hx (t := .boolean) hret (by simp) (hb hby at_259) (by decide) (by decide) (by decide) ⟨rfl, N47⟩
            · obtain ⟨T49, _, L49, X49, ⟨rfl, Nq49, e49⟩, st49⟩ := Own.callV (y := (⟨"com/example/eurycleia/eurycleia/core/Query", "isEmpty", "()Z"⟩ : MethodName)) (W := 0) (argsL := []) (rest := []) (a := b35) X40 hx hZ hown (hw _ (List.mem_of_getElem? (i := 19) rfl)) (hw _ (List.mem_of_getElem? (i := 20) rfl)) (hw _ (List.mem_of_getElem? (i := 22) rfl)) (hw _ (List.mem_of_getElem? (i := 21) rfl)) (hw _ (List.mem_of_getElem? (i := 3) rfl)) (hw _ (List.mem_of_getElem? (i := 23) rfl)) (by decide) rfl E40 (rm11 l Z a0 hw [] b35 b25 (fun i => if i = 0 then x0 else (fun _ => 0) i) T40.heap n0 F40 f41) (by decide) (by decide) (by decide) (by decide) (g := (mkF m 246 #[.val (.int p0), .val (.long q1), .second, .val (.long q2), .second, .val (.long q3), .second, .val (.long q4), .second, .val (.int v1), .val (.long x0), .second, .val (.long x1), .second, .val (.long x2), .second, .val (.ref b25), .val (.ref b29), .val (.ref b35), .val (.int (0 : Int32))] [(.ref b35)])) rfl (by rw [hml]; rfl) (lenOf pd_2 rfl) rfl (by show 2 * 0 + _ ≤ _; exact Nat.le_of_eq rfl) (hb hby at_246)
              have N49 := Fr.app N40 Nq49
              refine hD _ (T49.setTop (mkF m 251 #[.val (.int p0), .val (.long q1), .second, .val (.long q2), .second, .val (.long q3), .second, .val (.long q4), .second, .val (.int v1), .val (.long x0), .second, .val (.long x1), .second, .val (.long x2), .second, .val (.ref b25), .val (.ref b29), .val (.ref b35), .val (.int (0 : Int32))] [(.int (0 : Int32)), (.int (Own.b2i (own_emp 1 (fun i => if i = 0 then x0 else (fun _ => 0) i))))])) (fun t k => ?_) ?_
              · show Steps p.tables e below (T40.setTop (mkF m 208 #[.val (.int p0), .val (.long q1), .second, .val (.long q2), .second, .val (.long q3), .second, .val (.long q4), .second, .val (.int v1), .val (.long x0), .second, .val (.long x1), .second, .val (.long x2), .second, .val (.ref b25), .val (.ref b29), .val (.ref b35), .unset] [(.int (lcmpW x0 (0 : Int64)))])) t
                refine XS.ifYes X40.here hx rfl (pc0 := 208) (pc' := 241) rfl (hb hby at_208) rfl ((if0 _ _).trans (feq (fun q => hc44 ((lw_eq x0 (0 : Int64)).mp q))).2) (by decide) (by decide) ?_
                show Steps p.tables e below (T40.setTop (mkF m 241 #[.val (.int p0), .val (.long q1), .second, .val (.long q2), .second, .val (.long q3), .second, .val (.long q4), .second, .val (.int v1), .val (.long x0), .second, .val (.long x1), .second, .val (.long x2), .second, .val (.ref b25), .val (.ref b29), .val (.ref b35), .unset] [])) t
                refine XS.iconst X40.here hx rfl (hb hby at_241) ?_
                show Steps p.tables e below (T40.setTop (mkF m 242 #[.val (.int p0), .val (.long q1), .second, .val (.long q2), .second, .val (.long q3), .second, .val (.long q4), .second, .val (.int v1), .val (.long x0), .second, .val (.long x1), .second, .val (.long x2), .second, .val (.ref b25), .val (.ref b29), .val (.ref b35), .unset] [(.int (0 : Int32))])) t
                refine XS.istore X40.here hx rfl (hb hby at_242) rfl (l' := #[.val (.int p0), .val (.long q1), .second, .val (.long q2), .second, .val (.long q3), .second, .val (.long q4), .second, .val (.int v1), .val (.long x0), .second, .val (.long x1), .second, .val (.long x2), .second, .val (.ref b25), .val (.ref b29), .val (.ref b35), .val (.int (0 : Int32))]) rfl ?_
                show Steps p.tables e below (T40.setTop (mkF m 244 #[.val (.int p0), .val (.long q1), .second, .val (.long q2), .second, .val (.long q3), .second, .val (.long q4), .second, .val (.int v1), .val (.long x0), .second, .val (.long x1), .second, .val (.long x2), .second, .val (.ref b25), .val (.ref b29), .val (.ref b35), .val (.int (0 : Int32))] [])) t
                refine XS.aload X40.here hx rfl (hb hby at_244) rfl rfl ?_
                show Steps p.tables e below (T40.setTop (mkF m 246 #[.val (.int p0), .val (.long q1), .second, .val (.long q2), .second, .val (.long q3), .second, .val (.long q4), .second, .val (.int v1), .val (.long x0), .second, .val (.long x1), .second, .val (.long x2), .second, .val (.ref b25), .val (.ref b29), .val (.ref b35), .val (.int (0 : Int32))] [(.ref b35)])) t
                refine st49 _ ?_
                show Steps p.tables e below (T49.setTop (mkF m 249 #[.val (.int p0), .val (.long q1), .second, .val (.long q2), .second, .val (.long q3), .second, .val (.long q4), .second, .val (.int v1), .val (.long x0), .second, .val (.long x1), .second, .val (.long x2), .second, .val (.ref b25), .val (.ref b29), .val (.ref b35), .val (.int (0 : Int32))] [(.int (Own.b2i (own_emp 1 (fun i => if i = 0 then x0 else (fun _ => 0) i))))])) t
                refine XS.iload X49.here hx rfl (hb hby at_249) rfl ?_
                show Steps p.tables e below (T49.setTop (mkF m 251 #[.val (.int p0), .val (.long q1), .second, .val (.long q2), .second, .val (.long q3), .second, .val (.long q4), .second, .val (.int v1), .val (.long x0), .second, .val (.long x1), .second, .val (.long x2), .second, .val (.ref b25), .val (.ref b29), .val (.ref b35), .val (.int (0 : Int32))] [(.int (0 : Int32)), (.int (Own.b2i (own_emp 1 (fun i => if i = 0 then x0 else (fun _ => 0) i))))])) t
                exact k
              have hc50 : (Own.b2i (own_emp 1 (fun i => if i = 0 then x0 else (fun _ => 0) i))) = (0 : Int32) := by simp [own_emp, Own.b2i, hc5, hc24, hc43, hc44]
              refine hD _ (T49.setTop (mkF m 259 #[.val (.int p0), .val (.long q1), .second, .val (.long q2), .second, .val (.long q3), .second, .val (.long q4), .second, .val (.int v1), .val (.long x0), .second, .val (.long x1), .second, .val (.long x2), .second, .val (.ref b25), .val (.ref b29), .val (.ref b35), .val (.int (0 : Int32))] [(.int (1 : Int32))])) (fun t k => ?_) ?_
              · show Steps p.tables e below (T49.setTop (mkF m 251 #[.val (.int p0), .val (.long q1), .second, .val (.long q2), .second, .val (.long q3), .second, .val (.long q4), .second, .val (.int v1), .val (.long x0), .second, .val (.long x1), .second, .val (.long x2), .second, .val (.ref b25), .val (.ref b29), .val (.ref b35), .val (.int (0 : Int32))] [(.int (0 : Int32)), (.int (Own.b2i (own_emp 1 (fun i => if i = 0 then x0 else (fun _ => 0) i))))])) t
                refine XS.icmpNo X49.here hx rfl (hb hby at_251) rfl (teq hc50).2 ?_
                show Steps p.tables e below (T49.setTop (mkF m 254 #[.val (.int p0), .val (.long q1), .second, .val (.long q2), .second, .val (.long q3), .second, .val (.long q4), .second, .val (.int v1), .val (.long x0), .second, .val (.long x1), .second, .val (.long x2), .second, .val (.ref b25), .val (.ref b29), .val (.ref b35), .val (.int (0 : Int32))] [])) t
                refine XS.iconst X49.here hx rfl (hb hby at_254) ?_
                show Steps p.tables e below (T49.setTop (mkF m 255 #[.val (.int p0), .val (.long q1), .second, .val (.long q2), .second, .val (.long q3), .second, .val (.long q4), .second, .val (.int v1), .val (.long x0), .second, .val (.long x1), .second, .val (.long x2), .second, .val (.ref b25), .val (.ref b29), .val (.ref b35), .val (.int (0 : Int32))] [(.int (1 : Int32))])) t
                refine XS.goto X49.here hx rfl (pc0 := 255) (pc' := 259) rfl (hb hby at_255) (by decide) (by decide) ?_
                show Steps p.tables e below (T49.setTop (mkF m 259 #[.val (.int p0), .val (.long q1), .second, .val (.long q2), .second, .val (.long q3), .second, .val (.long q4), .second, .val (.int v1), .val (.long x0), .second, .val (.long x1), .second, .val (.long x2), .second, .val (.ref b25), .val (.ref b29), .val (.ref b35), .val (.int (0 : Int32))] [(.int (1 : Int32))])) t
                exact k
              exact Own.retN hR X49 hx (t := .boolean) hret (by simp) (hb hby at_259) (by decide) (by decide) (by decide) ⟨rfl, N49⟩
          · refine hD _ (T4.setTop (mkF m 101 #[.val (.int p0), .val (.long q1), .second, .val (.long q2), .second, .val (.long q3), .second, .val (.long q4), .second, .val (.int v1), .val (.long x0), .second, .val (.long x1), .second, .val (.long x2), .second, .unset, .unset, .unset, .unset] [(.int (2 : Int32)), (.int v1)])) (fun t k => ?_) ?_
            · show Steps p.tables e below (T4.setTop (mkF m 72 #[.val (.int p0), .val (.long q1), .second, .val (.long q2), .second, .val (.long q3), .second, .val (.long q4), .second, .val (.int v1), .val (.long x0), .second, .val (.long x1), .second, .val (.long x2), .second, .unset, .unset, .unset, .unset] [(.int (1 : Int32)), (.int v1)])) t
              refine XS.icmpYes X4.here hx rfl (pc0 := 72) (pc' := 98) rfl (hb hby at_72) rfl (feq hc24).2 (by decide) (by decide) ?_
              show Steps p.tables e below (T4.setTop (mkF m 98 #[.val (.int p0), .val (.long q1), .second, .val (.long q2), .second, .val (.long q3), .second, .val (.long q4), .second, .val (.int v1), .val (.long x0), .second, .val (.long x1), .second, .val (.long x2), .second, .unset, .unset, .unset, .unset] [])) t
              refine XS.iload X4.here hx rfl (hb hby at_98) rfl ?_
              show Steps p.tables e below (T4.setTop (mkF m 100 #[.val (.int p0), .val (.long q1), .second, .val (.long q2), .second, .val (.long q3), .second, .val (.long q4), .second, .val (.int v1), .val (.long x0), .second, .val (.long x1), .second, .val (.long x2), .second, .unset, .unset, .unset, .unset] [(.int v1)])) t
              refine XS.iconst X4.here hx rfl (hb hby at_100) ?_
              show Steps p.tables e below (T4.setTop (mkF m 101 #[.val (.int p0), .val (.long q1), .second, .val (.long q2), .second, .val (.long q3), .second, .val (.long q4), .second, .val (.int v1), .val (.long x0), .second, .val (.long x1), .second, .val (.long x2), .second, .unset, .unset, .unset, .unset] [(.int (2 : Int32)), (.int v1)])) t
              exact k
            by_cases hc51 : v1 = (2 : Int32)
            · obtain ⟨T52, h52, k52, X52, e52, E52, A52, st52⟩ := newP X4 hx hZ (hw _ (List.mem_of_getElem? (i := 0) rfl)) e4 (g := (mkF m 105 #[.val (.int p0), .val (.long q1), .second, .val (.long q2), .second, .val (.long q3), .second, .val (.long q4), .second, .val (.int v1), .val (.long x0), .second, .val (.long x1), .second, .val (.long x2), .second, .unset, .unset, .unset, .unset] [(.int (2 : Int32))])) rfl (hb hby at_105) rfl (by decide) (cap := 2) (by decide) (by decide) (by decide) (by decide)
              obtain ⟨b52, g_b52⟩ : ∃ z : Nat, z = h0.size := ⟨_, rfl⟩
              rw [← g_b52] at A52 st52
              have g0_b52 : n0 ≤ b52 := by rw [g_b52]; exact Z0
              have f53 : Own.AvJ Z h52 b52 2 (fun _ => 0) := Own.AvJ.new A52 (by decide)
              have Z52 : n0 ≤ h52.size := Nat.le_trans Z0 E52.1
              have hj54 : 0 ≤ (0 : Int32).toInt ∧ (0 : Int32).toInt < (2 : Nat) := ⟨by decide, by decide⟩
              obtain ⟨T55, h55, X55, e55, A55, W55, st55⟩ := Own.stoJ X52 hx hZ e52 f53 hj54 (g := (mkF m 111 #[.val (.int p0), .val (.long q1), .second, .val (.long q2), .second, .val (.long q3), .second, .val (.long q4), .second, .val (.int v1), .val (.long x0), .second, .val (.long x1), .second, .val (.long x2), .second, .unset, .unset, .unset, .unset] [(.long x0), (.int (0 : Int32)), (.ref b52), (.ref b52)])) rfl rfl (hb hby at_111)
              have N55 := Fr.snoc X55 N4 (show n0 ≤ b52 by omega)
              have Z55 : n0 ≤ h55.size := Nat.le_trans Z52 (Keep.of_wr W55).1
              have hj56 : 0 ≤ (1 : Int32).toInt ∧ (1 : Int32).toInt < (2 : Nat) := ⟨by decide, by decide⟩
              obtain ⟨T57, h57, X57, e57, A57, W57, st57⟩ := Own.stoJ X55 hx hZ e55 A55 hj56 (g := (mkF m 116 #[.val (.int p0), .val (.long q1), .second, .val (.long q2), .second, .val (.long q3), .second, .val (.long q4), .second, .val (.int v1), .val (.long x0), .second, .val (.long x1), .second, .val (.long x2), .second, .unset, .unset, .unset, .unset] [(.long x1), (.int (1 : Int32)), (.ref b52), (.ref b52)])) rfl rfl (hb hby at_116)
              have N57 := Fr.snoc X57 N55 (show n0 ≤ b52 by omega)
              have Z57 : n0 ≤ h57.size := Nat.le_trans Z55 (Keep.of_wr W57).1
              obtain ⟨T58, h58, k58, X58, e58, E58, A58, st58⟩ := newP X57 hx hZ (hw _ (List.mem_of_getElem? (i := 0) rfl)) e57 (g := (mkF m 120 #[.val (.int p0), .val (.long q1), .second, .val (.long q2), .second, .val (.long q3), .second, .val (.long q4), .second, .val (.int v1), .val (.long x0), .second, .val (.long x1), .second, .val (.long x2), .second, .val (.ref b52), .unset, .unset, .unset] [(.int (2 : Int32))])) rfl (hb hby at_120) rfl (by decide) (cap := 2) (by decide) (by decide) (by decide) (by decide)
              obtain ⟨b58, g_b58⟩ : ∃ z : Nat, z = h57.size := ⟨_, rfl⟩
              rw [← g_b58] at A58 st58
              have lt_b52_b58 : (b52 : Nat) < b58 := by rw [g_b58]; exact A57.lt
              have g0_b58 : n0 ≤ b58 := by rw [g_b58]; exact Z57
              have f59 : Own.AvJ Z h58 b52 2 (fun i => if i = 1 then x1 else (fun i => if i = 0 then x0 else (fun _ => 0) i) i) := A57.ext E58
              have f60 : Own.AvJ Z h58 b58 2 (fun _ => 0) := Own.AvJ.new A58 (by decide)
              have Z58 : n0 ≤ h58.size := Nat.le_trans Z57 E58.1
              have hj61 : 0 ≤ (0 : Int32).toInt ∧ (0 : Int32).toInt < (2 : Nat) := ⟨by decide, by decide⟩
              obtain ⟨T62, h62, X62, e62, A62, W62, st62⟩ := Own.stoJ X58 hx hZ e58 f60 hj61 (g := (mkF m 126 #[.val (.int p0), .val (.long q1), .second, .val (.long q2), .second, .val (.long q3), .second, .val (.long q4), .second, .val (.int v1), .val (.long x0), .second, .val (.long x1), .second, .val (.long x2), .second, .val (.ref b52), .unset, .unset, .unset] [(.long q4), (.int (0 : Int32)), (.ref b58), (.ref b58)])) rfl rfl (hb hby at_126)
              have f63 : Own.AvJ Z h62 b52 2 (fun i => if i = 1 then x1 else (fun i => if i = 0 then x0 else (fun _ => 0) i) i) := f59.other W62 (Own.ne_of (by omega))
              have N62 := Fr.snoc X62 N57 (show n0 ≤ b58 by omega)
              have Z62 : n0 ≤ h62.size := Nat.le_trans Z58 (Keep.of_wr W62).1
              have hj64 : 0 ≤ (1 : Int32).toInt ∧ (1 : Int32).toInt < (2 : Nat) := ⟨by decide, by decide⟩
              obtain ⟨T65, h65, X65, e65, A65, W65, st65⟩ := Own.stoJ X62 hx hZ e62 A62 hj64 (g := (mkF m 135 #[.val (.int p0), .val (.long q1), .second, .val (.long q2), .second, .val (.long q3), .second, .val (.long q4), .second, .val (.int v1), .val (.long x0), .second, .val (.long x1), .second, .val (.long x2), .second, .val (.ref b52), .unset, .unset, .unset] [(.long (q4 ^^^ (-1 : Int64))), (.int (1 : Int32)), (.ref b58), (.ref b58)])) rfl rfl (hb hby at_135)
              have f66 : Own.AvJ Z h65 b52 2 (fun i => if i = 1 then x1 else (fun i => if i = 0 then x0 else (fun _ => 0) i) i) := f63.other W65 (Own.ne_of (by omega))
              have N65 := Fr.snoc X65 N62 (show n0 ≤ b58 by omega)
              have Z65 : n0 ≤ h65.size := Nat.le_trans Z62 (Keep.of_wr W65).1
              obtain ⟨T67, h67, X67, e67, E67, A67, D67, -, st67⟩ := newO X65 hx hZ hown (hw _ (List.mem_of_getElem? (i := 1) rfl)) (hw _ (List.mem_of_getElem? (i := 2) rfl)) (hw _ (List.mem_of_getElem? (i := 3) rfl)) e65 (g := (mkF m 185 #[.val (.int p0), .val (.long q1), .second, .val (.long q2), .second, .val (.long q3), .second, .val (.long q4), .second, .val (.int v1), .val (.long x0), .second, .val (.long x1), .second, .val (.long x2), .second, .val (.ref b52), .val (.ref b58), .unset, .unset] [])) rfl (hb hby at_185) (by decide) (by decide)
              obtain ⟨b67, g_b67⟩ : ∃ z : Nat, z = h65.size := ⟨_, rfl⟩
              rw [← g_b67] at A67 D67 st67
              have lt_b52_b67 : (b52 : Nat) < b67 := by rw [g_b67]; exact f66.lt
              have lt_b58_b67 : (b58 : Nat) < b67 := by rw [g_b67]; exact A65.lt
              have g0_b67 : n0 ≤ b67 := by rw [g_b67]; exact Z65
              have f68 : Own.AvJ Z h67 b52 2 (fun i => if i = 1 then x1 else (fun i => if i = 0 then x0 else (fun _ => 0) i) i) := f66.ext E67
              have f69 : Own.AvJ Z h67 b58 2 (fun i => if i = 1 then (q4 ^^^ (-1 : Int64)) else (fun i => if i = 0 then q4 else (fun _ => 0) i) i) := A65.ext E67
              have f70 : Fld Z h67 b67 "com/example/eurycleia/eurycleia/core/Query" "bits" "[J" .null := D67 (Or.inr (hw _ (List.mem_of_getElem? (i := 16) rfl))) (ty := (.array .long)) (by decide)
              have f71 : Fld Z h67 b67 "com/example/eurycleia/eurycleia/core/Query" "mask" "[J" .null := D67 (Or.inr (hw _ (List.mem_of_getElem? (i := 18) rfl))) (ty := (.array .long)) (by decide)
              have Z67 : n0 ≤ h67.size := Nat.le_trans Z65 E67.1
              obtain ⟨T72, _, L72, X72, ⟨rfl, Nq72, Kq72, E72, F72⟩, st72⟩ := Own.callI (y := (⟨"com/example/eurycleia/eurycleia/core/Query", "<init>", "([J[J)V"⟩ : MethodName)) (W := 1) (argsL := [(.ref b58), (.ref b52)]) (rest := [(.ref b67)]) (a := b67) X67 hx hZ hown rfl (hw _ (List.mem_of_getElem? (i := 4) rfl)) (hw _ (List.mem_of_getElem? (i := 5) rfl)) (hw _ (List.mem_of_getElem? (i := 3) rfl)) (hw _ (List.mem_of_getElem? (i := 6) rfl)) (by decide) e67 (rm2 l Z a0 hw [] b67 b58 b52 2 (fun i => if i = 1 then (q4 ^^^ (-1 : Int64)) else (fun i => if i = 0 then q4 else (fun _ => 0) i) i) (fun i => if i = 1 then x1 else (fun i => if i = 0 then x0 else (fun _ => 0) i) i) h67 n0 Z67 g0_b67 lt_b58_b67 lt_b52_b67 A67 f70 f71 f69 f68) (by decide) (by decide) (by decide) (by decide) (g := (mkF m 193 #[.val (.int p0), .val (.long q1), .second, .val (.long q2), .second, .val (.long q3), .second, .val (.long q4), .second, .val (.int v1), .val (.long x0), .second, .val (.long x1), .second, .val (.long x2), .second, .val (.ref b52), .val (.ref b58), .unset, .unset] [(.ref b52), (.ref b58), (.ref b67), (.ref b67)])) rfl (by rw [hml]; rfl) (lenOf pd_1 rfl) rfl (by show 2 * 0 + _ ≤ _; exact Nat.le_of_eq rfl) (hb hby at_193)
              have N72 := Fr.app N65 Nq72
              have f73 : Own.AvJ Z T72.heap b52 2 (fun i => if i = 1 then x1 else (fun i => if i = 0 then x0 else (fun _ => 0) i) i) := f68.keep Kq72 (ninS (Own.ne_of (by omega)) nin0)
              have f74 : Own.AvJ Z T72.heap b58 2 (fun i => if i = 1 then (q4 ^^^ (-1 : Int64)) else (fun i => if i = 0 then q4 else (fun _ => 0) i) i) := f69.keep Kq72 (ninS (Own.ne_of (by omega)) nin0)
              refine hD _ (T72.setTop (mkF m 201 #[.val (.int p0), .val (.long q1), .second, .val (.long q2), .second, .val (.long q3), .second, .val (.long q4), .second, .val (.int v1), .val (.long x0), .second, .val (.long x1), .second, .val (.long x2), .second, .val (.ref b52), .val (.ref b58), .val (.ref b67), .unset] [(.int (1 : Int32)), (.int v1)])) (fun t k => ?_) ?_
              · show Steps p.tables e below (T4.setTop (mkF m 101 #[.val (.int p0), .val (.long q1), .second, .val (.long q2), .second, .val (.long q3), .second, .val (.long q4), .second, .val (.int v1), .val (.long x0), .second, .val (.long x1), .second, .val (.long x2), .second, .unset, .unset, .unset, .unset] [(.int (2 : Int32)), (.int v1)])) t
                refine XS.icmpNo X4.here hx rfl (hb hby at_101) rfl (teq hc51).2 ?_
                show Steps p.tables e below (T4.setTop (mkF m 104 #[.val (.int p0), .val (.long q1), .second, .val (.long q2), .second, .val (.long q3), .second, .val (.long q4), .second, .val (.int v1), .val (.long x0), .second, .val (.long x1), .second, .val (.long x2), .second, .unset, .unset, .unset, .unset] [])) t
                refine XS.iconst X4.here hx rfl (hb hby at_104) ?_
                show Steps p.tables e below (T4.setTop (mkF m 105 #[.val (.int p0), .val (.long q1), .second, .val (.long q2), .second, .val (.long q3), .second, .val (.long q4), .second, .val (.int v1), .val (.long x0), .second, .val (.long x1), .second, .val (.long x2), .second, .unset, .unset, .unset, .unset] [(.int (2 : Int32))])) t
                refine st52 _ ?_
                show Steps p.tables e below (T52.setTop (mkF m 107 #[.val (.int p0), .val (.long q1), .second, .val (.long q2), .second, .val (.long q3), .second, .val (.long q4), .second, .val (.int v1), .val (.long x0), .second, .val (.long x1), .second, .val (.long x2), .second, .unset, .unset, .unset, .unset] [(.ref b52)])) t
                refine XS.dup X52.here hx rfl (hb hby at_107) rfl rfl ?_
                show Steps p.tables e below (T52.setTop (mkF m 108 #[.val (.int p0), .val (.long q1), .second, .val (.long q2), .second, .val (.long q3), .second, .val (.long q4), .second, .val (.int v1), .val (.long x0), .second, .val (.long x1), .second, .val (.long x2), .second, .unset, .unset, .unset, .unset] [(.ref b52), (.ref b52)])) t
                refine XS.iconst X52.here hx rfl (hb hby at_108) ?_
                show Steps p.tables e below (T52.setTop (mkF m 109 #[.val (.int p0), .val (.long q1), .second, .val (.long q2), .second, .val (.long q3), .second, .val (.long q4), .second, .val (.int v1), .val (.long x0), .second, .val (.long x1), .second, .val (.long x2), .second, .unset, .unset, .unset, .unset] [(.int (0 : Int32)), (.ref b52), (.ref b52)])) t
                refine XS.lload X52.here hx rfl (hb hby at_109) rfl ?_
                show Steps p.tables e below (T52.setTop (mkF m 111 #[.val (.int p0), .val (.long q1), .second, .val (.long q2), .second, .val (.long q3), .second, .val (.long q4), .second, .val (.int v1), .val (.long x0), .second, .val (.long x1), .second, .val (.long x2), .second, .unset, .unset, .unset, .unset] [(.long x0), (.int (0 : Int32)), (.ref b52), (.ref b52)])) t
                refine st55 _ ?_
                show Steps p.tables e below (T55.setTop (mkF m 112 #[.val (.int p0), .val (.long q1), .second, .val (.long q2), .second, .val (.long q3), .second, .val (.long q4), .second, .val (.int v1), .val (.long x0), .second, .val (.long x1), .second, .val (.long x2), .second, .unset, .unset, .unset, .unset] [(.ref b52)])) t
                refine XS.dup X55.here hx rfl (hb hby at_112) rfl rfl ?_
                show Steps p.tables e below (T55.setTop (mkF m 113 #[.val (.int p0), .val (.long q1), .second, .val (.long q2), .second, .val (.long q3), .second, .val (.long q4), .second, .val (.int v1), .val (.long x0), .second, .val (.long x1), .second, .val (.long x2), .second, .unset, .unset, .unset, .unset] [(.ref b52), (.ref b52)])) t
                refine XS.iconst X55.here hx rfl (hb hby at_113) ?_
                show Steps p.tables e below (T55.setTop (mkF m 114 #[.val (.int p0), .val (.long q1), .second, .val (.long q2), .second, .val (.long q3), .second, .val (.long q4), .second, .val (.int v1), .val (.long x0), .second, .val (.long x1), .second, .val (.long x2), .second, .unset, .unset, .unset, .unset] [(.int (1 : Int32)), (.ref b52), (.ref b52)])) t
                refine XS.lload X55.here hx rfl (hb hby at_114) rfl ?_
                show Steps p.tables e below (T55.setTop (mkF m 116 #[.val (.int p0), .val (.long q1), .second, .val (.long q2), .second, .val (.long q3), .second, .val (.long q4), .second, .val (.int v1), .val (.long x0), .second, .val (.long x1), .second, .val (.long x2), .second, .unset, .unset, .unset, .unset] [(.long x1), (.int (1 : Int32)), (.ref b52), (.ref b52)])) t
                refine st57 _ ?_
                show Steps p.tables e below (T57.setTop (mkF m 117 #[.val (.int p0), .val (.long q1), .second, .val (.long q2), .second, .val (.long q3), .second, .val (.long q4), .second, .val (.int v1), .val (.long x0), .second, .val (.long x1), .second, .val (.long x2), .second, .unset, .unset, .unset, .unset] [(.ref b52)])) t
                refine XS.astore X57.here hx rfl (hb hby at_117) rfl rfl (l' := #[.val (.int p0), .val (.long q1), .second, .val (.long q2), .second, .val (.long q3), .second, .val (.long q4), .second, .val (.int v1), .val (.long x0), .second, .val (.long x1), .second, .val (.long x2), .second, .val (.ref b52), .unset, .unset, .unset]) rfl ?_
                show Steps p.tables e below (T57.setTop (mkF m 119 #[.val (.int p0), .val (.long q1), .second, .val (.long q2), .second, .val (.long q3), .second, .val (.long q4), .second, .val (.int v1), .val (.long x0), .second, .val (.long x1), .second, .val (.long x2), .second, .val (.ref b52), .unset, .unset, .unset] [])) t
                refine XS.iconst X57.here hx rfl (hb hby at_119) ?_
                show Steps p.tables e below (T57.setTop (mkF m 120 #[.val (.int p0), .val (.long q1), .second, .val (.long q2), .second, .val (.long q3), .second, .val (.long q4), .second, .val (.int v1), .val (.long x0), .second, .val (.long x1), .second, .val (.long x2), .second, .val (.ref b52), .unset, .unset, .unset] [(.int (2 : Int32))])) t
                refine st58 _ ?_
                show Steps p.tables e below (T58.setTop (mkF m 122 #[.val (.int p0), .val (.long q1), .second, .val (.long q2), .second, .val (.long q3), .second, .val (.long q4), .second, .val (.int v1), .val (.long x0), .second, .val (.long x1), .second, .val (.long x2), .second, .val (.ref b52), .unset, .unset, .unset] [(.ref b58)])) t
                refine XS.dup X58.here hx rfl (hb hby at_122) rfl rfl ?_
                show Steps p.tables e below (T58.setTop (mkF m 123 #[.val (.int p0), .val (.long q1), .second, .val (.long q2), .second, .val (.long q3), .second, .val (.long q4), .second, .val (.int v1), .val (.long x0), .second, .val (.long x1), .second, .val (.long x2), .second, .val (.ref b52), .unset, .unset, .unset] [(.ref b58), (.ref b58)])) t
                refine XS.iconst X58.here hx rfl (hb hby at_123) ?_
                show Steps p.tables e below (T58.setTop (mkF m 124 #[.val (.int p0), .val (.long q1), .second, .val (.long q2), .second, .val (.long q3), .second, .val (.long q4), .second, .val (.int v1), .val (.long x0), .second, .val (.long x1), .second, .val (.long x2), .second, .val (.ref b52), .unset, .unset, .unset] [(.int (0 : Int32)), (.ref b58), (.ref b58)])) t
                refine XS.lload X58.here hx rfl (hb hby at_124) rfl ?_
                show Steps p.tables e below (T58.setTop (mkF m 126 #[.val (.int p0), .val (.long q1), .second, .val (.long q2), .second, .val (.long q3), .second, .val (.long q4), .second, .val (.int v1), .val (.long x0), .second, .val (.long x1), .second, .val (.long x2), .second, .val (.ref b52), .unset, .unset, .unset] [(.long q4), (.int (0 : Int32)), (.ref b58), (.ref b58)])) t
                refine st62 _ ?_
                show Steps p.tables e below (T62.setTop (mkF m 127 #[.val (.int p0), .val (.long q1), .second, .val (.long q2), .second, .val (.long q3), .second, .val (.long q4), .second, .val (.int v1), .val (.long x0), .second, .val (.long x1), .second, .val (.long x2), .second, .val (.ref b52), .unset, .unset, .unset] [(.ref b58)])) t
                refine XS.dup X62.here hx rfl (hb hby at_127) rfl rfl ?_
                show Steps p.tables e below (T62.setTop (mkF m 128 #[.val (.int p0), .val (.long q1), .second, .val (.long q2), .second, .val (.long q3), .second, .val (.long q4), .second, .val (.int v1), .val (.long x0), .second, .val (.long x1), .second, .val (.long x2), .second, .val (.ref b52), .unset, .unset, .unset] [(.ref b58), (.ref b58)])) t
                refine XS.iconst X62.here hx rfl (hb hby at_128) ?_
                show Steps p.tables e below (T62.setTop (mkF m 129 #[.val (.int p0), .val (.long q1), .second, .val (.long q2), .second, .val (.long q3), .second, .val (.long q4), .second, .val (.int v1), .val (.long x0), .second, .val (.long x1), .second, .val (.long x2), .second, .val (.ref b52), .unset, .unset, .unset] [(.int (1 : Int32)), (.ref b58), (.ref b58)])) t
                refine XS.lload X62.here hx rfl (hb hby at_129) rfl ?_
                show Steps p.tables e below (T62.setTop (mkF m 131 #[.val (.int p0), .val (.long q1), .second, .val (.long q2), .second, .val (.long q3), .second, .val (.long q4), .second, .val (.int v1), .val (.long x0), .second, .val (.long x1), .second, .val (.long x2), .second, .val (.ref b52), .unset, .unset, .unset] [(.long q4), (.int (1 : Int32)), (.ref b58), (.ref b58)])) t
                refine X62.ldc2Long hx hown (mvT hZ (hw _ (List.mem_of_getElem? (i := 24) rfl))) (g := (mkF m 131 #[.val (.int p0), .val (.long q1), .second, .val (.long q2), .second, .val (.long q3), .second, .val (.long q4), .second, .val (.int v1), .val (.long x0), .second, .val (.long x1), .second, .val (.long x2), .second, .val (.ref b52), .unset, .unset, .unset] [(.long q4), (.int (1 : Int32)), (.ref b58), (.ref b58)])) rfl (hb hby at_131) _ ?_
                show Steps p.tables e below (T62.setTop (mkF m 134 #[.val (.int p0), .val (.long q1), .second, .val (.long q2), .second, .val (.long q3), .second, .val (.long q4), .second, .val (.int v1), .val (.long x0), .second, .val (.long x1), .second, .val (.long x2), .second, .val (.ref b52), .unset, .unset, .unset] [(.long (-1 : Int64)), (.long q4), (.int (1 : Int32)), (.ref b58), (.ref b58)])) t
                refine XS.lxor X62.here hx rfl (hb hby at_134) rfl ?_
                show Steps p.tables e below (T62.setTop (mkF m 135 #[.val (.int p0), .val (.long q1), .second, .val (.long q2), .second, .val (.long q3), .second, .val (.long q4), .second, .val (.int v1), .val (.long x0), .second, .val (.long x1), .second, .val (.long x2), .second, .val (.ref b52), .unset, .unset, .unset] [(.long (q4 ^^^ (-1 : Int64))), (.int (1 : Int32)), (.ref b58), (.ref b58)])) t
                refine st65 _ ?_
                show Steps p.tables e below (T65.setTop (mkF m 136 #[.val (.int p0), .val (.long q1), .second, .val (.long q2), .second, .val (.long q3), .second, .val (.long q4), .second, .val (.int v1), .val (.long x0), .second, .val (.long x1), .second, .val (.long x2), .second, .val (.ref b52), .unset, .unset, .unset] [(.ref b58)])) t
                refine XS.astore X65.here hx rfl (hb hby at_136) rfl rfl (l' := #[.val (.int p0), .val (.long q1), .second, .val (.long q2), .second, .val (.long q3), .second, .val (.long q4), .second, .val (.int v1), .val (.long x0), .second, .val (.long x1), .second, .val (.long x2), .second, .val (.ref b52), .val (.ref b58), .unset, .unset]) rfl ?_
                show Steps p.tables e below (T65.setTop (mkF m 138 #[.val (.int p0), .val (.long q1), .second, .val (.long q2), .second, .val (.long q3), .second, .val (.long q4), .second, .val (.int v1), .val (.long x0), .second, .val (.long x1), .second, .val (.long x2), .second, .val (.ref b52), .val (.ref b58), .unset, .unset] [])) t
                refine XS.goto X65.here hx rfl (pc0 := 138) (pc' := 185) rfl (hb hby at_138) (by decide) (by decide) ?_
                show Steps p.tables e below (T65.setTop (mkF m 185 #[.val (.int p0), .val (.long q1), .second, .val (.long q2), .second, .val (.long q3), .second, .val (.long q4), .second, .val (.int v1), .val (.long x0), .second, .val (.long x1), .second, .val (.long x2), .second, .val (.ref b52), .val (.ref b58), .unset, .unset] [])) t
                refine st67 _ ?_
                show Steps p.tables e below (T67.setTop (mkF m 188 #[.val (.int p0), .val (.long q1), .second, .val (.long q2), .second, .val (.long q3), .second, .val (.long q4), .second, .val (.int v1), .val (.long x0), .second, .val (.long x1), .second, .val (.long x2), .second, .val (.ref b52), .val (.ref b58), .unset, .unset] [(.ref b67)])) t
                refine XS.dup X67.here hx rfl (hb hby at_188) rfl rfl ?_
                show Steps p.tables e below (T67.setTop (mkF m 189 #[.val (.int p0), .val (.long q1), .second, .val (.long q2), .second, .val (.long q3), .second, .val (.long q4), .second, .val (.int v1), .val (.long x0), .second, .val (.long x1), .second, .val (.long x2), .second, .val (.ref b52), .val (.ref b58), .unset, .unset] [(.ref b67), (.ref b67)])) t
                refine XS.aload X67.here hx rfl (hb hby at_189) rfl rfl ?_
                show Steps p.tables e below (T67.setTop (mkF m 191 #[.val (.int p0), .val (.long q1), .second, .val (.long q2), .second, .val (.long q3), .second, .val (.long q4), .second, .val (.int v1), .val (.long x0), .second, .val (.long x1), .second, .val (.long x2), .second, .val (.ref b52), .val (.ref b58), .unset, .unset] [(.ref b58), (.ref b67), (.ref b67)])) t
                refine XS.aload X67.here hx rfl (hb hby at_191) rfl rfl ?_
                show Steps p.tables e below (T67.setTop (mkF m 193 #[.val (.int p0), .val (.long q1), .second, .val (.long q2), .second, .val (.long q3), .second, .val (.long q4), .second, .val (.int v1), .val (.long x0), .second, .val (.long x1), .second, .val (.long x2), .second, .val (.ref b52), .val (.ref b58), .unset, .unset] [(.ref b52), (.ref b58), (.ref b67), (.ref b67)])) t
                refine st72 _ ?_
                show Steps p.tables e below (T72.setTop (mkF m 196 #[.val (.int p0), .val (.long q1), .second, .val (.long q2), .second, .val (.long q3), .second, .val (.long q4), .second, .val (.int v1), .val (.long x0), .second, .val (.long x1), .second, .val (.long x2), .second, .val (.ref b52), .val (.ref b58), .unset, .unset] [(.ref b67)])) t
                refine XS.astore X72.here hx rfl (hb hby at_196) rfl rfl (l' := #[.val (.int p0), .val (.long q1), .second, .val (.long q2), .second, .val (.long q3), .second, .val (.long q4), .second, .val (.int v1), .val (.long x0), .second, .val (.long x1), .second, .val (.long x2), .second, .val (.ref b52), .val (.ref b58), .val (.ref b67), .unset]) rfl ?_
                show Steps p.tables e below (T72.setTop (mkF m 198 #[.val (.int p0), .val (.long q1), .second, .val (.long q2), .second, .val (.long q3), .second, .val (.long q4), .second, .val (.int v1), .val (.long x0), .second, .val (.long x1), .second, .val (.long x2), .second, .val (.ref b52), .val (.ref b58), .val (.ref b67), .unset] [])) t
                refine XS.iload X72.here hx rfl (hb hby at_198) rfl ?_
                show Steps p.tables e below (T72.setTop (mkF m 200 #[.val (.int p0), .val (.long q1), .second, .val (.long q2), .second, .val (.long q3), .second, .val (.long q4), .second, .val (.int v1), .val (.long x0), .second, .val (.long x1), .second, .val (.long x2), .second, .val (.ref b52), .val (.ref b58), .val (.ref b67), .unset] [(.int v1)])) t
                refine XS.iconst X72.here hx rfl (hb hby at_200) ?_
                show Steps p.tables e below (T72.setTop (mkF m 201 #[.val (.int p0), .val (.long q1), .second, .val (.long q2), .second, .val (.long q3), .second, .val (.long q4), .second, .val (.int v1), .val (.long x0), .second, .val (.long x1), .second, .val (.long x2), .second, .val (.ref b52), .val (.ref b58), .val (.ref b67), .unset] [(.int (1 : Int32)), (.int v1)])) t
                exact k
              have hc75 : ¬ (v1 < (1 : Int32)) := by rw [hc51]; decide
              refine hD _ (T72.setTop (mkF m 208 #[.val (.int p0), .val (.long q1), .second, .val (.long q2), .second, .val (.long q3), .second, .val (.long q4), .second, .val (.int v1), .val (.long x0), .second, .val (.long x1), .second, .val (.long x2), .second, .val (.ref b52), .val (.ref b58), .val (.ref b67), .unset] [(.int (lcmpW x0 (0 : Int64)))])) (fun t k => ?_) ?_
              · show Steps p.tables e below (T72.setTop (mkF m 201 #[.val (.int p0), .val (.long q1), .second, .val (.long q2), .second, .val (.long q3), .second, .val (.long q4), .second, .val (.int v1), .val (.long x0), .second, .val (.long x1), .second, .val (.long x2), .second, .val (.ref b52), .val (.ref b58), .val (.ref b67), .unset] [(.int (1 : Int32)), (.int v1)])) t
                refine XS.icmpNo X72.here hx rfl (hb hby at_201) rfl (flt hc75).1 ?_
                show Steps p.tables e below (T72.setTop (mkF m 204 #[.val (.int p0), .val (.long q1), .second, .val (.long q2), .second, .val (.long q3), .second, .val (.long q4), .second, .val (.int v1), .val (.long x0), .second, .val (.long x1), .second, .val (.long x2), .second, .val (.ref b52), .val (.ref b58), .val (.ref b67), .unset] [])) t
                refine XS.lload X72.here hx rfl (hb hby at_204) rfl ?_
                show Steps p.tables e below (T72.setTop (mkF m 206 #[.val (.int p0), .val (.long q1), .second, .val (.long q2), .second, .val (.long q3), .second, .val (.long q4), .second, .val (.int v1), .val (.long x0), .second, .val (.long x1), .second, .val (.long x2), .second, .val (.ref b52), .val (.ref b58), .val (.ref b67), .unset] [(.long x0)])) t
                refine XS.lconst X72.here hx rfl (hb hby at_206) ?_
                show Steps p.tables e below (T72.setTop (mkF m 207 #[.val (.int p0), .val (.long q1), .second, .val (.long q2), .second, .val (.long q3), .second, .val (.long q4), .second, .val (.int v1), .val (.long x0), .second, .val (.long x1), .second, .val (.long x2), .second, .val (.ref b52), .val (.ref b58), .val (.ref b67), .unset] [(.long (0 : Int64)), (.long x0)])) t
                refine XS.lcmp X72.here hx rfl (hb hby at_207) rfl ?_
                show Steps p.tables e below (T72.setTop (mkF m 208 #[.val (.int p0), .val (.long q1), .second, .val (.long q2), .second, .val (.long q3), .second, .val (.long q4), .second, .val (.int v1), .val (.long x0), .second, .val (.long x1), .second, .val (.long x2), .second, .val (.ref b52), .val (.ref b58), .val (.ref b67), .unset] [(.int (lcmpW x0 (0 : Int64)))])) t
                exact k
              by_cases hc76 : x0 = (0 : Int64)
              · refine hD _ (T72.setTop (mkF m 214 #[.val (.int p0), .val (.long q1), .second, .val (.long q2), .second, .val (.long q3), .second, .val (.long q4), .second, .val (.int v1), .val (.long x0), .second, .val (.long x1), .second, .val (.long x2), .second, .val (.ref b52), .val (.ref b58), .val (.ref b67), .unset] [(.int (2 : Int32)), (.int v1)])) (fun t k => ?_) ?_
                · show Steps p.tables e below (T72.setTop (mkF m 208 #[.val (.int p0), .val (.long q1), .second, .val (.long q2), .second, .val (.long q3), .second, .val (.long q4), .second, .val (.int v1), .val (.long x0), .second, .val (.long x1), .second, .val (.long x2), .second, .val (.ref b52), .val (.ref b58), .val (.ref b67), .unset] [(.int (lcmpW x0 (0 : Int64)))])) t
                  refine XS.ifNo X72.here hx rfl (hb hby at_208) rfl ((if0 _ _).trans (teq ((lw_eq x0 (0 : Int64)).mpr hc76)).2) ?_
                  show Steps p.tables e below (T72.setTop (mkF m 211 #[.val (.int p0), .val (.long q1), .second, .val (.long q2), .second, .val (.long q3), .second, .val (.long q4), .second, .val (.int v1), .val (.long x0), .second, .val (.long x1), .second, .val (.long x2), .second, .val (.ref b52), .val (.ref b58), .val (.ref b67), .unset] [])) t
                  refine XS.iload X72.here hx rfl (hb hby at_211) rfl ?_
                  show Steps p.tables e below (T72.setTop (mkF m 213 #[.val (.int p0), .val (.long q1), .second, .val (.long q2), .second, .val (.long q3), .second, .val (.long q4), .second, .val (.int v1), .val (.long x0), .second, .val (.long x1), .second, .val (.long x2), .second, .val (.ref b52), .val (.ref b58), .val (.ref b67), .unset] [(.int v1)])) t
                  refine XS.iconst X72.here hx rfl (hb hby at_213) ?_
                  show Steps p.tables e below (T72.setTop (mkF m 214 #[.val (.int p0), .val (.long q1), .second, .val (.long q2), .second, .val (.long q3), .second, .val (.long q4), .second, .val (.int v1), .val (.long x0), .second, .val (.long x1), .second, .val (.long x2), .second, .val (.ref b52), .val (.ref b58), .val (.ref b67), .unset] [(.int (2 : Int32)), (.int v1)])) t
                  exact k
                have hc77 : ¬ (v1 < (2 : Int32)) := by rw [hc51]; decide
                refine hD _ (T72.setTop (mkF m 221 #[.val (.int p0), .val (.long q1), .second, .val (.long q2), .second, .val (.long q3), .second, .val (.long q4), .second, .val (.int v1), .val (.long x0), .second, .val (.long x1), .second, .val (.long x2), .second, .val (.ref b52), .val (.ref b58), .val (.ref b67), .unset] [(.int (lcmpW x1 (0 : Int64)))])) (fun t k => ?_) ?_
                · show Steps p.tables e below (T72.setTop (mkF m 214 #[.val (.int p0), .val (.long q1), .second, .val (.long q2), .second, .val (.long q3), .second, .val (.long q4), .second, .val (.int v1), .val (.long x0), .second, .val (.long x1), .second, .val (.long x2), .second, .val (.ref b52), .val (.ref b58), .val (.ref b67), .unset] [(.int (2 : Int32)), (.int v1)])) t
                  refine XS.icmpNo X72.here hx rfl (hb hby at_214) rfl (flt hc77).1 ?_
                  show Steps p.tables e below (T72.setTop (mkF m 217 #[.val (.int p0), .val (.long q1), .second, .val (.long q2), .second, .val (.long q3), .second, .val (.long q4), .second, .val (.int v1), .val (.long x0), .second, .val (.long x1), .second, .val (.long x2), .second, .val (.ref b52), .val (.ref b58), .val (.ref b67), .unset] [])) t
                  refine XS.lload X72.here hx rfl (hb hby at_217) rfl ?_
                  show Steps p.tables e below (T72.setTop (mkF m 219 #[.val (.int p0), .val (.long q1), .second, .val (.long q2), .second, .val (.long q3), .second, .val (.long q4), .second, .val (.int v1), .val (.long x0), .second, .val (.long x1), .second, .val (.long x2), .second, .val (.ref b52), .val (.ref b58), .val (.ref b67), .unset] [(.long x1)])) t
                  refine XS.lconst X72.here hx rfl (hb hby at_219) ?_
                  show Steps p.tables e below (T72.setTop (mkF m 220 #[.val (.int p0), .val (.long q1), .second, .val (.long q2), .second, .val (.long q3), .second, .val (.long q4), .second, .val (.int v1), .val (.long x0), .second, .val (.long x1), .second, .val (.long x2), .second, .val (.ref b52), .val (.ref b58), .val (.ref b67), .unset] [(.long (0 : Int64)), (.long x1)])) t
                  refine XS.lcmp X72.here hx rfl (hb hby at_220) rfl ?_
                  show Steps p.tables e below (T72.setTop (mkF m 221 #[.val (.int p0), .val (.long q1), .second, .val (.long q2), .second, .val (.long q3), .second, .val (.long q4), .second, .val (.int v1), .val (.long x0), .second, .val (.long x1), .second, .val (.long x2), .second, .val (.ref b52), .val (.ref b58), .val (.ref b67), .unset] [(.int (lcmpW x1 (0 : Int64)))])) t
                  exact k
                by_cases hc78 : x1 = (0 : Int64)
                · refine hD _ (T72.setTop (mkF m 227 #[.val (.int p0), .val (.long q1), .second, .val (.long q2), .second, .val (.long q3), .second, .val (.long q4), .second, .val (.int v1), .val (.long x0), .second, .val (.long x1), .second, .val (.long x2), .second, .val (.ref b52), .val (.ref b58), .val (.ref b67), .unset] [(.int (3 : Int32)), (.int v1)])) (fun t k => ?_) ?_
                  · show Steps p.tables e below (T72.setTop (mkF m 221 #[.val (.int p0), .val (.long q1), .second, .val (.long q2), .second, .val (.long q3), .second, .val (.long q4), .second, .val (.int v1), .val (.long x0), .second, .val (.long x1), .second, .val (.long x2), .second, .val (.ref b52), .val (.ref b58), .val (.ref b67), .unset] [(.int (lcmpW x1 (0 : Int64)))])) t
                    refine XS.ifNo X72.here hx rfl (hb hby at_221) rfl ((if0 _ _).trans (teq ((lw_eq x1 (0 : Int64)).mpr hc78)).2) ?_
                    show Steps p.tables e below (T72.setTop (mkF m 224 #[.val (.int p0), .val (.long q1), .second, .val (.long q2), .second, .val (.long q3), .second, .val (.long q4), .second, .val (.int v1), .val (.long x0), .second, .val (.long x1), .second, .val (.long x2), .second, .val (.ref b52), .val (.ref b58), .val (.ref b67), .unset] [])) t
                    refine XS.iload X72.here hx rfl (hb hby at_224) rfl ?_
                    show Steps p.tables e below (T72.setTop (mkF m 226 #[.val (.int p0), .val (.long q1), .second, .val (.long q2), .second, .val (.long q3), .second, .val (.long q4), .second, .val (.int v1), .val (.long x0), .second, .val (.long x1), .second, .val (.long x2), .second, .val (.ref b52), .val (.ref b58), .val (.ref b67), .unset] [(.int v1)])) t
                    refine XS.iconst X72.here hx rfl (hb hby at_226) ?_
                    show Steps p.tables e below (T72.setTop (mkF m 227 #[.val (.int p0), .val (.long q1), .second, .val (.long q2), .second, .val (.long q3), .second, .val (.long q4), .second, .val (.int v1), .val (.long x0), .second, .val (.long x1), .second, .val (.long x2), .second, .val (.ref b52), .val (.ref b58), .val (.ref b67), .unset] [(.int (3 : Int32)), (.int v1)])) t
                    exact k
                  have hc79 : v1 < (3 : Int32) := by rw [hc51]; decide
                  obtain ⟨T80, _, L80, X80, ⟨rfl, Nq80, e80⟩, st80⟩ := Own.callV (y := (⟨"com/example/eurycleia/eurycleia/core/Query", "isEmpty", "()Z"⟩ : MethodName)) (W := 0) (argsL := []) (rest := []) (a := b67) X72 hx hZ hown (hw _ (List.mem_of_getElem? (i := 19) rfl)) (hw _ (List.mem_of_getElem? (i := 20) rfl)) (hw _ (List.mem_of_getElem? (i := 22) rfl)) (hw _ (List.mem_of_getElem? (i := 21) rfl)) (hw _ (List.mem_of_getElem? (i := 3) rfl)) (hw _ (List.mem_of_getElem? (i := 23) rfl)) (by decide) rfl E72 (rm12 l Z a0 hw [] b67 b52 (fun i => if i = 1 then x1 else (fun i => if i = 0 then x0 else (fun _ => 0) i) i) T72.heap n0 F72 f73) (by decide) (by decide) (by decide) (by decide) (g := (mkF m 246 #[.val (.int p0), .val (.long q1), .second, .val (.long q2), .second, .val (.long q3), .second, .val (.long q4), .second, .val (.int v1), .val (.long x0), .second, .val (.long x1), .second, .val (.long x2), .second, .val (.ref b52), .val (.ref b58), .val (.ref b67), .val (.int (1 : Int32))] [(.ref b67)])) rfl (by rw [hml]; rfl) (lenOf pd_2 rfl) rfl (by show 2 * 0 + _ ≤ _; exact Nat.le_of_eq rfl) (hb hby at_246)
                  have N80 := Fr.app N72 Nq80
                  refine hD _ (T80.setTop (mkF m 251 #[.val (.int p0), .val (.long q1), .second, .val (.long q2), .second, .val (.long q3), .second, .val (.long q4), .second, .val (.int v1), .val (.long x0), .second, .val (.long x1), .second, .val (.long x2), .second, .val (.ref b52), .val (.ref b58), .val (.ref b67), .val (.int (1 : Int32))] [(.int (1 : Int32)), (.int (Own.b2i (own_emp 2 (fun i => if i = 1 then x1 else (fun i => if i = 0 then x0 else (fun _ => 0) i) i))))])) (fun t k => ?_) ?_
                  · show Steps p.tables e below (T72.setTop (mkF m 227 #[.val (.int p0), .val (.long q1), .second, .val (.long q2), .second, .val (.long q3), .second, .val (.long q4), .second, .val (.int v1), .val (.long x0), .second, .val (.long x1), .second, .val (.long x2), .second, .val (.ref b52), .val (.ref b58), .val (.ref b67), .unset] [(.int (3 : Int32)), (.int v1)])) t
                    refine XS.icmpYes X72.here hx rfl (pc0 := 227) (pc' := 237) rfl (hb hby at_227) rfl (tlt hc79).1 (by decide) (by decide) ?_
                    show Steps p.tables e below (T72.setTop (mkF m 237 #[.val (.int p0), .val (.long q1), .second, .val (.long q2), .second, .val (.long q3), .second, .val (.long q4), .second, .val (.int v1), .val (.long x0), .second, .val (.long x1), .second, .val (.long x2), .second, .val (.ref b52), .val (.ref b58), .val (.ref b67), .unset] [])) t
                    refine XS.iconst X72.here hx rfl (hb hby at_237) ?_
                    show Steps p.tables e below (T72.setTop (mkF m 238 #[.val (.int p0), .val (.long q1), .second, .val (.long q2), .second, .val (.long q3), .second, .val (.long q4), .second, .val (.int v1), .val (.long x0), .second, .val (.long x1), .second, .val (.long x2), .second, .val (.ref b52), .val (.ref b58), .val (.ref b67), .unset] [(.int (1 : Int32))])) t
                    refine XS.goto X72.here hx rfl (pc0 := 238) (pc' := 242) rfl (hb hby at_238) (by decide) (by decide) ?_
                    show Steps p.tables e below (T72.setTop (mkF m 242 #[.val (.int p0), .val (.long q1), .second, .val (.long q2), .second, .val (.long q3), .second, .val (.long q4), .second, .val (.int v1), .val (.long x0), .second, .val (.long x1), .second, .val (.long x2), .second, .val (.ref b52), .val (.ref b58), .val (.ref b67), .unset] [(.int (1 : Int32))])) t
                    refine XS.istore X72.here hx rfl (hb hby at_242) rfl (l' := #[.val (.int p0), .val (.long q1), .second, .val (.long q2), .second, .val (.long q3), .second, .val (.long q4), .second, .val (.int v1), .val (.long x0), .second, .val (.long x1), .second, .val (.long x2), .second, .val (.ref b52), .val (.ref b58), .val (.ref b67), .val (.int (1 : Int32))]) rfl ?_
                    show Steps p.tables e below (T72.setTop (mkF m 244 #[.val (.int p0), .val (.long q1), .second, .val (.long q2), .second, .val (.long q3), .second, .val (.long q4), .second, .val (.int v1), .val (.long x0), .second, .val (.long x1), .second, .val (.long x2), .second, .val (.ref b52), .val (.ref b58), .val (.ref b67), .val (.int (1 : Int32))] [])) t
                    refine XS.aload X72.here hx rfl (hb hby at_244) rfl rfl ?_
                    show Steps p.tables e below (T72.setTop (mkF m 246 #[.val (.int p0), .val (.long q1), .second, .val (.long q2), .second, .val (.long q3), .second, .val (.long q4), .second, .val (.int v1), .val (.long x0), .second, .val (.long x1), .second, .val (.long x2), .second, .val (.ref b52), .val (.ref b58), .val (.ref b67), .val (.int (1 : Int32))] [(.ref b67)])) t
                    refine st80 _ ?_
                    show Steps p.tables e below (T80.setTop (mkF m 249 #[.val (.int p0), .val (.long q1), .second, .val (.long q2), .second, .val (.long q3), .second, .val (.long q4), .second, .val (.int v1), .val (.long x0), .second, .val (.long x1), .second, .val (.long x2), .second, .val (.ref b52), .val (.ref b58), .val (.ref b67), .val (.int (1 : Int32))] [(.int (Own.b2i (own_emp 2 (fun i => if i = 1 then x1 else (fun i => if i = 0 then x0 else (fun _ => 0) i) i))))])) t
                    refine XS.iload X80.here hx rfl (hb hby at_249) rfl ?_
                    show Steps p.tables e below (T80.setTop (mkF m 251 #[.val (.int p0), .val (.long q1), .second, .val (.long q2), .second, .val (.long q3), .second, .val (.long q4), .second, .val (.int v1), .val (.long x0), .second, .val (.long x1), .second, .val (.long x2), .second, .val (.ref b52), .val (.ref b58), .val (.ref b67), .val (.int (1 : Int32))] [(.int (1 : Int32)), (.int (Own.b2i (own_emp 2 (fun i => if i = 1 then x1 else (fun i => if i = 0 then x0 else (fun _ => 0) i) i))))])) t
                    exact k
                  have hc81 : (Own.b2i (own_emp 2 (fun i => if i = 1 then x1 else (fun i => if i = 0 then x0 else (fun _ => 0) i) i))) = (1 : Int32) := by simp [own_emp, Own.b2i, hc5, hc24, hc51, hc75, hc76, hc77, hc78, hc79]
                  refine hD _ (T80.setTop (mkF m 259 #[.val (.int p0), .val (.long q1), .second, .val (.long q2), .second, .val (.long q3), .second, .val (.long q4), .second, .val (.int v1), .val (.long x0), .second, .val (.long x1), .second, .val (.long x2), .second, .val (.ref b52), .val (.ref b58), .val (.ref b67), .val (.int (1 : Int32))] [(.int (1 : Int32))])) (fun t k => ?_) ?_
                  · show Steps p.tables e below (T80.setTop (mkF m 251 #[.val (.int p0), .val (.long q1), .second, .val (.long q2), .second, .val (.long q3), .second, .val (.long q4), .second, .val (.int v1), .val (.long x0), .second, .val (.long x1), .second, .val (.long x2), .second, .val (.ref b52), .val (.ref b58), .val (.ref b67), .val (.int (1 : Int32))] [(.int (1 : Int32)), (.int (Own.b2i (own_emp 2 (fun i => if i = 1 then x1 else (fun i => if i = 0 then x0 else (fun _ => 0) i) i))))])) t
                    refine XS.icmpNo X80.here hx rfl (hb hby at_251) rfl (teq hc81).2 ?_
                    show Steps p.tables e below (T80.setTop (mkF m 254 #[.val (.int p0), .val (.long q1), .second, .val (.long q2), .second, .val (.long q3), .second, .val (.long q4), .second, .val (.int v1), .val (.long x0), .second, .val (.long x1), .second, .val (.long x2), .second, .val (.ref b52), .val (.ref b58), .val (.ref b67), .val (.int (1 : Int32))] [])) t
                    refine XS.iconst X80.here hx rfl (hb hby at_254) ?_
                    show Steps p.tables e below (T80.setTop (mkF m 255 #[.val (.int p0), .val (.long q1), .second, .val (.long q2), .second, .val (.long q3), .second, .val (.long q4), .second, .val (.int v1), .val (.long x0), .second, .val (.long x1), .second, .val (.long x2), .second, .val (.ref b52), .val (.ref b58), .val (.ref b67), .val (.int (1 : Int32))] [(.int (1 : Int32))])) t
                    refine XS.goto X80.here hx rfl (pc0 := 255) (pc' := 259) rfl (hb hby at_255) (by decide) (by decide) ?_
                    show Steps p.tables e below (T80.setTop (mkF m 259 #[.val (.int p0), .val (.long q1), .second, .val (.long q2), .second, .val (.long q3), .second, .val (.long q4), .second, .val (.int v1), .val (.long x0), .second, .val (.long x1), .second, .val (.long x2), .second, .val (.ref b52), .val (.ref b58), .val (.ref b67), .val (.int (1 : Int32))] [(.int (1 : Int32))])) t
                    exact k
                  exact Own.retN hR X80 hx (t := .boolean) hret (by simp) (hb hby at_259) (by decide) (by decide) (by decide) ⟨rfl, N80⟩
                · obtain ⟨T82, _, L82, X82, ⟨rfl, Nq82, e82⟩, st82⟩ := Own.callV (y := (⟨"com/example/eurycleia/eurycleia/core/Query", "isEmpty", "()Z"⟩ : MethodName)) (W := 0) (argsL := []) (rest := []) (a := b67) X72 hx hZ hown (hw _ (List.mem_of_getElem? (i := 19) rfl)) (hw _ (List.mem_of_getElem? (i := 20) rfl)) (hw _ (List.mem_of_getElem? (i := 22) rfl)) (hw _ (List.mem_of_getElem? (i := 21) rfl)) (hw _ (List.mem_of_getElem? (i := 3) rfl)) (hw _ (List.mem_of_getElem? (i := 23) rfl)) (by decide) rfl E72 (rm12 l Z a0 hw [] b67 b52 (fun i => if i = 1 then x1 else (fun i => if i = 0 then x0 else (fun _ => 0) i) i) T72.heap n0 F72 f73) (by decide) (by decide) (by decide) (by decide) (g := (mkF m 246 #[.val (.int p0), .val (.long q1), .second, .val (.long q2), .second, .val (.long q3), .second, .val (.long q4), .second, .val (.int v1), .val (.long x0), .second, .val (.long x1), .second, .val (.long x2), .second, .val (.ref b52), .val (.ref b58), .val (.ref b67), .val (.int (0 : Int32))] [(.ref b67)])) rfl (by rw [hml]; rfl) (lenOf pd_2 rfl) rfl (by show 2 * 0 + _ ≤ _; exact Nat.le_of_eq rfl) (hb hby at_246)
                  have N82 := Fr.app N72 Nq82
                  refine hD _ (T82.setTop (mkF m 251 #[.val (.int p0), .val (.long q1), .second, .val (.long q2), .second, .val (.long q3), .second, .val (.long q4), .second, .val (.int v1), .val (.long x0), .second, .val (.long x1), .second, .val (.long x2), .second, .val (.ref b52), .val (.ref b58), .val (.ref b67), .val (.int (0 : Int32))] [(.int (0 : Int32)), (.int (Own.b2i (own_emp 2 (fun i => if i = 1 then x1 else (fun i => if i = 0 then x0 else (fun _ => 0) i) i))))])) (fun t k => ?_) ?_
                  · show Steps p.tables e below (T72.setTop (mkF m 221 #[.val (.int p0), .val (.long q1), .second, .val (.long q2), .second, .val (.long q3), .second, .val (.long q4), .second, .val (.int v1), .val (.long x0), .second, .val (.long x1), .second, .val (.long x2), .second, .val (.ref b52), .val (.ref b58), .val (.ref b67), .unset] [(.int (lcmpW x1 (0 : Int64)))])) t
                    refine XS.ifYes X72.here hx rfl (pc0 := 221) (pc' := 241) rfl (hb hby at_221) rfl ((if0 _ _).trans (feq (fun q => hc78 ((lw_eq x1 (0 : Int64)).mp q))).2) (by decide) (by decide) ?_
                    show Steps p.tables e below (T72.setTop (mkF m 241 #[.val (.int p0), .val (.long q1), .second, .val (.long q2), .second, .val (.long q3), .second, .val (.long q4), .second, .val (.int v1), .val (.long x0), .second, .val (.long x1), .second, .val (.long x2), .second, .val (.ref b52), .val (.ref b58), .val (.ref b67), .unset] [])) t
                    refine XS.iconst X72.here hx rfl (hb hby at_241) ?_
                    show Steps p.tables e below (T72.setTop (mkF m 242 #[.val (.int p0), .val (.long q1), .second, .val (.long q2), .second, .val (.long q3), .second, .val (.long q4), .second, .val (.int v1), .val (.long x0), .second, .val (.long x1), .second, .val (.long x2), .second, .val (.ref b52), .val (.ref b58), .val (.ref b67), .unset] [(.int (0 : Int32))])) t
                    refine XS.istore X72.here hx rfl (hb hby at_242) rfl (l' := #[.val (.int p0), .val (.long q1), .second, .val (.long q2), .second, .val (.long q3), .second, .val (.long q4), .second, .val (.int v1), .val (.long x0), .second, .val (.long x1), .second, .val (.long x2), .second, .val (.ref b52), .val (.ref b58), .val (.ref b67), .val (.int (0 : Int32))]) rfl ?_
                    show Steps p.tables e below (T72.setTop (mkF m 244 #[.val (.int p0), .val (.long q1), .second, .val (.long q2), .second, .val (.long q3), .second, .val (.long q4), .second, .val (.int v1), .val (.long x0), .second, .val (.long x1), .second, .val (.long x2), .second, .val (.ref b52), .val (.ref b58), .val (.ref b67), .val (.int (0 : Int32))] [])) t
                    refine XS.aload X72.here hx rfl (hb hby at_244) rfl rfl ?_
                    show Steps p.tables e below (T72.setTop (mkF m 246 #[.val (.int p0), .val (.long q1), .second, .val (.long q2), .second, .val (.long q3), .second, .val (.long q4), .second, .val (.int v1), .val (.long x0), .second, .val (.long x1), .second, .val (.long x2), .second, .val (.ref b52), .val (.ref b58), .val (.ref b67), .val (.int (0 : Int32))] [(.ref b67)])) t
                    refine st82 _ ?_
                    show Steps p.tables e below (T82.setTop (mkF m 249 #[.val (.int p0), .val (.long q1), .second, .val (.long q2), .second, .val (.long q3), .second, .val (.long q4), .second, .val (.int v1), .val (.long x0), .second, .val (.long x1), .second, .val (.long x2), .second, .val (.ref b52), .val (.ref b58), .val (.ref b67), .val (.int (0 : Int32))] [(.int (Own.b2i (own_emp 2 (fun i => if i = 1 then x1 else (fun i => if i = 0 then x0 else (fun _ => 0) i) i))))])) t
                    refine XS.iload X82.here hx rfl (hb hby at_249) rfl ?_
                    show Steps p.tables e below (T82.setTop (mkF m 251 #[.val (.int p0), .val (.long q1), .second, .val (.long q2), .second, .val (.long q3), .second, .val (.long q4), .second, .val (.int v1), .val (.long x0), .second, .val (.long x1), .second, .val (.long x2), .second, .val (.ref b52), .val (.ref b58), .val (.ref b67), .val (.int (0 : Int32))] [(.int (0 : Int32)), (.int (Own.b2i (own_emp 2 (fun i => if i = 1 then x1 else (fun i => if i = 0 then x0 else (fun _ => 0) i) i))))])) t
                    exact k
                  have hc83 : (Own.b2i (own_emp 2 (fun i => if i = 1 then x1 else (fun i => if i = 0 then x0 else (fun _ => 0) i) i))) = (0 : Int32) := by simp [own_emp, Own.b2i, hc5, hc24, hc51, hc75, hc76, hc77, hc78]
                  refine hD _ (T82.setTop (mkF m 259 #[.val (.int p0), .val (.long q1), .second, .val (.long q2), .second, .val (.long q3), .second, .val (.long q4), .second, .val (.int v1), .val (.long x0), .second, .val (.long x1), .second, .val (.long x2), .second, .val (.ref b52), .val (.ref b58), .val (.ref b67), .val (.int (0 : Int32))] [(.int (1 : Int32))])) (fun t k => ?_) ?_
                  · show Steps p.tables e below (T82.setTop (mkF m 251 #[.val (.int p0), .val (.long q1), .second, .val (.long q2), .second, .val (.long q3), .second, .val (.long q4), .second, .val (.int v1), .val (.long x0), .second, .val (.long x1), .second, .val (.long x2), .second, .val (.ref b52), .val (.ref b58), .val (.ref b67), .val (.int (0 : Int32))] [(.int (0 : Int32)), (.int (Own.b2i (own_emp 2 (fun i => if i = 1 then x1 else (fun i => if i = 0 then x0 else (fun _ => 0) i) i))))])) t
                    refine XS.icmpNo X82.here hx rfl (hb hby at_251) rfl (teq hc83).2 ?_
                    show Steps p.tables e below (T82.setTop (mkF m 254 #[.val (.int p0), .val (.long q1), .second, .val (.long q2), .second, .val (.long q3), .second, .val (.long q4), .second, .val (.int v1), .val (.long x0), .second, .val (.long x1), .second, .val (.long x2), .second, .val (.ref b52), .val (.ref b58), .val (.ref b67), .val (.int (0 : Int32))] [])) t
                    refine XS.iconst X82.here hx rfl (hb hby at_254) ?_
                    show Steps p.tables e below (T82.setTop (mkF m 255 #[.val (.int p0), .val (.long q1), .second, .val (.long q2), .second, .val (.long q3), .second, .val (.long q4), .second, .val (.int v1), .val (.long x0), .second, .val (.long x1), .second, .val (.long x2), .second, .val (.ref b52), .val (.ref b58), .val (.ref b67), .val (.int (0 : Int32))] [(.int (1 : Int32))])) t
                    refine XS.goto X82.here hx rfl (pc0 := 255) (pc' := 259) rfl (hb hby at_255) (by decide) (by decide) ?_
                    show Steps p.tables e below (T82.setTop (mkF m 259 #[.val (.int p0), .val (.long q1), .second, .val (.long q2), .second, .val (.long q3), .second, .val (.long q4), .second, .val (.int v1), .val (.long x0), .second, .val (.long x1), .second, .val (.long x2), .second, .val (.ref b52), .val (.ref b58), .val (.ref b67), .val (.int (0 : Int32))] [(.int (1 : Int32))])) t
                    exact k
                  exact Own.retN hR X82 hx (t := .boolean) hret (by simp) (hb hby at_259) (by decide) (by decide) (by decide) ⟨rfl, N82⟩
              · obtain ⟨T84, _, L84, X84, ⟨rfl, Nq84, e84⟩, st84⟩ := Own.callV (y := (⟨"com/example/eurycleia/eurycleia/core/Query", "isEmpty", "()Z"⟩ : MethodName)) (W := 0) (argsL := []) (rest := []) (a := b67) X72 hx hZ hown (hw _ (List.mem_of_getElem? (i := 19) rfl)) (hw _ (List.mem_of_getElem? (i := 20) rfl)) (hw _ (List.mem_of_getElem? (i := 22) rfl)) (hw _ (List.mem_of_getElem? (i := 21) rfl)) (hw _ (List.mem_of_getElem? (i := 3) rfl)) (hw _ (List.mem_of_getElem? (i := 23) rfl)) (by decide) rfl E72 (rm12 l Z a0 hw [] b67 b52 (fun i => if i = 1 then x1 else (fun i => if i = 0 then x0 else (fun _ => 0) i) i) T72.heap n0 F72 f73) (by decide) (by decide) (by decide) (by decide) (g := (mkF m 246 #[.val (.int p0), .val (.long q1), .second, .val (.long q2), .second, .val (.long q3), .second, .val (.long q4), .second, .val (.int v1), .val (.long x0), .second, .val (.long x1), .second, .val (.long x2), .second, .val (.ref b52), .val (.ref b58), .val (.ref b67), .val (.int (0 : Int32))] [(.ref b67)])) rfl (by rw [hml]; rfl) (lenOf pd_2 rfl) rfl (by show 2 * 0 + _ ≤ _; exact Nat.le_of_eq rfl) (hb hby at_246)
                have N84 := Fr.app N72 Nq84
                refine hD _ (T84.setTop (mkF m 251 #[.val (.int p0), .val (.long q1), .second, .val (.long q2), .second, .val (.long q3), .second, .val (.long q4), .second, .val (.int v1), .val (.long x0), .second, .val (.long x1), .second, .val (.long x2), .second, .val (.ref b52), .val (.ref b58), .val (.ref b67), .val (.int (0 : Int32))] [(.int (0 : Int32)), (.int (Own.b2i (own_emp 2 (fun i => if i = 1 then x1 else (fun i => if i = 0 then x0 else (fun _ => 0) i) i))))])) (fun t k => ?_) ?_
                · show Steps p.tables e below (T72.setTop (mkF m 208 #[.val (.int p0), .val (.long q1), .second, .val (.long q2), .second, .val (.long q3), .second, .val (.long q4), .second, .val (.int v1), .val (.long x0), .second, .val (.long x1), .second, .val (.long x2), .second, .val (.ref b52), .val (.ref b58), .val (.ref b67), .unset] [(.int (lcmpW x0 (0 : Int64)))])) t
                  refine XS.ifYes X72.here hx rfl (pc0 := 208) (pc' := 241) rfl (hb hby at_208) rfl ((if0 _ _).trans (feq (fun q => hc76 ((lw_eq x0 (0 : Int64)).mp q))).2) (by decide) (by decide) ?_
                  show Steps p.tables e below (T72.setTop (mkF m 241 #[.val (.int p0), .val (.long q1), .second, .val (.long q2), .second, .val (.long q3), .second, .val (.long q4), .second, .val (.int v1), .val (.long x0), .second, .val (.long x1), .second, .val (.long x2), .second, .val (.ref b52), .val (.ref b58), .val (.ref b67), .unset] [])) t
                  refine XS.iconst X72.here hx rfl (hb hby at_241) ?_
                  show Steps p.tables e below (T72.setTop (mkF m 242 #[.val (.int p0), .val (.long q1), .second, .val (.long q2), .second, .val (.long q3), .second, .val (.long q4), .second, .val (.int v1), .val (.long x0), .second, .val (.long x1), .second, .val (.long x2), .second, .val (.ref b52), .val (.ref b58), .val (.ref b67), .unset] [(.int (0 : Int32))])) t
                  refine XS.istore X72.here hx rfl (hb hby at_242) rfl (l' := #[.val (.int p0), .val (.long q1), .second, .val (.long q2), .second, .val (.long q3), .second, .val (.long q4), .second, .val (.int v1), .val (.long x0), .second, .val (.long x1), .second, .val (.long x2), .second, .val (.ref b52), .val (.ref b58), .val (.ref b67), .val (.int (0 : Int32))]) rfl ?_
                  show Steps p.tables e below (T72.setTop (mkF m 244 #[.val (.int p0), .val (.long q1), .second, .val (.long q2), .second, .val (.long q3), .second, .val (.long q4), .second, .val (.int v1), .val (.long x0), .second, .val (.long x1), .second, .val (.long x2), .second, .val (.ref b52), .val (.ref b58), .val (.ref b67), .val (.int (0 : Int32))] [])) t
                  refine XS.aload X72.here hx rfl (hb hby at_244) rfl rfl ?_
                  show Steps p.tables e below (T72.setTop (mkF m 246 #[.val (.int p0), .val (.long q1), .second, .val (.long q2), .second, .val (.long q3), .second, .val (.long q4), .second, .val (.int v1), .val (.long x0), .second, .val (.long x1), .second, .val (.long x2), .second, .val (.ref b52), .val (.ref b58), .val (.ref b67), .val (.int (0 : Int32))] [(.ref b67)])) t
                  refine st84 _ ?_
                  show Steps p.tables e below (T84.setTop (mkF m 249 #[.val (.int p0), .val (.long q1), .second, .val (.long q2), .second, .val (.long q3), .second, .val (.long q4), .second, .val (.int v1), .val (.long x0), .second, .val (.long x1), .second, .val (.long x2), .second, .val (.ref b52), .val (.ref b58), .val (.ref b67), .val (.int (0 : Int32))] [(.int (Own.b2i (own_emp 2 (fun i => if i = 1 then x1 else (fun i => if i = 0 then x0 else (fun _ => 0) i) i))))])) t
                  refine XS.iload X84.here hx rfl (hb hby at_249) rfl ?_
                  show Steps p.tables e below (T84.setTop (mkF m 251 #[.val (.int p0), .val (.long q1), .second, .val (.long q2), .second, .val (.long q3), .second, .val (.long q4), .second, .val (.int v1), .val (.long x0), .second, .val (.long x1), .second, .val (.long x2), .second, .val (.ref b52), .val (.ref b58), .val (.ref b67), .val (.int (0 : Int32))] [(.int (0 : Int32)), (.int (Own.b2i (own_emp 2 (fun i => if i = 1 then x1 else (fun i => if i = 0 then x0 else (fun _ => 0) i) i))))])) t
                  exact k
                have hc85 : (Own.b2i (own_emp 2 (fun i => if i = 1 then x1 else (fun i => if i = 0 then x0 else (fun _ => 0) i) i))) = (0 : Int32) := by simp [own_emp, Own.b2i, hc5, hc24, hc51, hc75, hc76]
                refine hD _ (T84.setTop (mkF m 259 #[.val (.int p0), .val (.long q1), .second, .val (.long q2), .second, .val (.long q3), .second, .val (.long q4), .second, .val (.int v1), .val (.long x0), .second, .val (.long x1), .second, .val (.long x2), .second, .val (.ref b52), .val (.ref b58), .val (.ref b67), .val (.int (0 : Int32))] [(.int (1 : Int32))])) (fun t k => ?_) ?_
                · show Steps p.tables e below (T84.setTop (mkF m 251 #[.val (.int p0), .val (.long q1), .second, .val (.long q2), .second, .val (.long q3), .second, .val (.long q4), .second, .val (.int v1), .val (.long x0), .second, .val (.long x1), .second, .val (.long x2), .second, .val (.ref b52), .val (.ref b58), .val (.ref b67), .val (.int (0 : Int32))] [(.int (0 : Int32)), (.int (Own.b2i (own_emp 2 (fun i => if i = 1 then x1 else (fun i => if i = 0 then x0 else (fun _ => 0) i) i))))])) t
                  refine XS.icmpNo X84.here hx rfl (hb hby at_251) rfl (teq hc85).2 ?_
                  show Steps p.tables e below (T84.setTop (mkF m 254 #[.val (.int p0), .val (.long q1), .second, .val (.long q2), .second, .val (.long q3), .second, .val (.long q4), .second, .val (.int v1), .val (.long x0), .second, .val (.long x1), .second, .val (.long x2), .second, .val (.ref b52), .val (.ref b58), .val (.ref b67), .val (.int (0 : Int32))] [])) t
                  refine XS.iconst X84.here hx rfl (hb hby at_254) ?_
                  show Steps p.tables e below (T84.setTop (mkF m 255 #[.val (.int p0), .val (.long q1), .second, .val (.long q2), .second, .val (.long q3), .second, .val (.long q4), .second, .val (.int v1), .val (.long x0), .second, .val (.long x1), .second, .val (.long x2), .second, .val (.ref b52), .val (.ref b58), .val (.ref b67), .val (.int (0 : Int32))] [(.int (1 : Int32))])) t
                  refine XS.goto X84.here hx rfl (pc0 := 255) (pc' := 259) rfl (hb hby at_255) (by decide) (by decide) ?_
                  show Steps p.tables e below (T84.setTop (mkF m 259 #[.val (.int p0), .val (.long q1), .second, .val (.long q2), .second, .val (.long q3), .second, .val (.long q4), .second, .val (.int v1), .val (.long x0), .second, .val (.long x1), .second, .val (.long x2), .second, .val (.ref b52), .val (.ref b58), .val (.ref b67), .val (.int (0 : Int32))] [(.int (1 : Int32))])) t
                  exact k
                exact Own.retN hR X84 hx (t := .boolean) hret (by simp) (hb hby at_259) (by decide) (by decide) (by decide) ⟨rfl, N84⟩
            · obtain ⟨T86, h86, k86, X86, e86, E86, A86, st86⟩ := newP X4 hx hZ (hw _ (List.mem_of_getElem? (i := 0) rfl)) e4 (g := (mkF m 142 #[.val (.int p0), .val (.long q1), .second, .val (.long q2), .second, .val (.long q3), .second, .val (.long q4), .second, .val (.int v1), .val (.long x0), .second, .val (.long x1), .second, .val (.long x2), .second, .unset, .unset, .unset, .unset] [(.int (3 : Int32))])) rfl (hb hby at_142) rfl (by decide) (cap := 3) (by decide) (by decide) (by decide) (by decide)
              obtain ⟨b86, g_b86⟩ : ∃ z : Nat, z = h0.size := ⟨_, rfl⟩
              rw [← g_b86] at A86 st86
              have g0_b86 : n0 ≤ b86 := by rw [g_b86]; exact Z0
              have f87 : Own.AvJ Z h86 b86 3 (fun _ => 0) := Own.AvJ.new A86 (by decide)
              have Z86 : n0 ≤ h86.size := Nat.le_trans Z0 E86.1
              have hj88 : 0 ≤ (0 : Int32).toInt ∧ (0 : Int32).toInt < (3 : Nat) := ⟨by decide, by decide⟩
              obtain ⟨T89, h89, X89, e89, A89, W89, st89⟩ := Own.stoJ X86 hx hZ e86 f87 hj88 (g := (mkF m 148 #[.val (.int p0), .val (.long q1), .second, .val (.long q2), .second, .val (.long q3), .second, .val (.long q4), .second, .val (.int v1), .val (.long x0), .second, .val (.long x1), .second, .val (.long x2), .second, .unset, .unset, .unset, .unset] [(.long x0), (.int (0 : Int32)), (.ref b86), (.ref b86)])) rfl rfl (hb hby at_148)
              have N89 := Fr.snoc X89 N4 (show n0 ≤ b86 by omega)
              have Z89 : n0 ≤ h89.size := Nat.le_trans Z86 (Keep.of_wr W89).1
              have hj90 : 0 ≤ (1 : Int32).toInt ∧ (1 : Int32).toInt < (3 : Nat) := ⟨by decide, by decide⟩
              obtain ⟨T91, h91, X91, e91, A91, W91, st91⟩ := Own.stoJ X89 hx hZ e89 A89 hj90 (g := (mkF m 153 #[.val (.int p0), .val (.long q1), .second, .val (.long q2), .second, .val (.long q3), .second, .val (.long q4), .second, .val (.int v1), .val (.long x0), .second, .val (.long x1), .second, .val (.long x2), .second, .unset, .unset, .unset, .unset] [(.long x1), (.int (1 : Int32)), (.ref b86), (.ref b86)])) rfl rfl (hb hby at_153)
              have N91 := Fr.snoc X91 N89 (show n0 ≤ b86 by omega)
              have Z91 : n0 ≤ h91.size := Nat.le_trans Z89 (Keep.of_wr W91).1
              have hj92 : 0 ≤ (2 : Int32).toInt ∧ (2 : Int32).toInt < (3 : Nat) := ⟨by decide, by decide⟩
              obtain ⟨T93, h93, X93, e93, A93, W93, st93⟩ := Own.stoJ X91 hx hZ e91 A91 hj92 (g := (mkF m 158 #[.val (.int p0), .val (.long q1), .second, .val (.long q2), .second, .val (.long q3), .second, .val (.long q4), .second, .val (.int v1), .val (.long x0), .second, .val (.long x1), .second, .val (.long x2), .second, .unset, .unset, .unset, .unset] [(.long x2), (.int (2 : Int32)), (.ref b86), (.ref b86)])) rfl rfl (hb hby at_158)
              have N93 := Fr.snoc X93 N91 (show n0 ≤ b86 by omega)
              have Z93 : n0 ≤ h93.size := Nat.le_trans Z91 (Keep.of_wr W93).1
              obtain ⟨T94, h94, k94, X94, e94, E94, A94, st94⟩ := newP X93 hx hZ (hw _ (List.mem_of_getElem? (i := 0) rfl)) e93 (g := (mkF m 162 #[.val (.int p0), .val (.long q1), .second, .val (.long q2), .second, .val (.long q3), .second, .val (.long q4), .second, .val (.int v1), .val (.long x0), .second, .val (.long x1), .second, .val (.long x2), .second, .val (.ref b86), .unset, .unset, .unset] [(.int (3 : Int32))])) rfl (hb hby at_162) rfl (by decide) (cap := 3) (by decide) (by decide) (by decide) (by decide)
              obtain ⟨b94, g_b94⟩ : ∃ z : Nat, z = h93.size := ⟨_, rfl⟩
              rw [← g_b94] at A94 st94
              have lt_b86_b94 : (b86 : Nat) < b94 := by rw [g_b94]; exact A93.lt
              have g0_b94 : n0 ≤ b94 := by rw [g_b94]; exact Z93
              have f95 : Own.AvJ Z h94 b86 3 (fun i => if i = 2 then x2 else (fun i => if i = 1 then x1 else (fun i => if i = 0 then x0 else (fun _ => 0) i) i) i) := A93.ext E94
              have f96 : Own.AvJ Z h94 b94 3 (fun _ => 0) := Own.AvJ.new A94 (by decide)
              have Z94 : n0 ≤ h94.size := Nat.le_trans Z93 E94.1
              have hj97 : 0 ≤ (0 : Int32).toInt ∧ (0 : Int32).toInt < (3 : Nat) := ⟨by decide, by decide⟩
              obtain ⟨T98, h98, X98, e98, A98, W98, st98⟩ := Own.stoJ X94 hx hZ e94 f96 hj97 (g := (mkF m 168 #[.val (.int p0), .val (.long q1), .second, .val (.long q2), .second, .val (.long q3), .second, .val (.long q4), .second, .val (.int v1), .val (.long x0), .second, .val (.long x1), .second, .val (.long x2), .second, .val (.ref b86), .unset, .unset, .unset] [(.long q4), (.int (0 : Int32)), (.ref b94), (.ref b94)])) rfl rfl (hb hby at_168)
              have f99 : Own.AvJ Z h98 b86 3 (fun i => if i = 2 then x2 else (fun i => if i = 1 then x1 else (fun i => if i = 0 then x0 else (fun _ => 0) i) i) i) := f95.other W98 (Own.ne_of (by omega))
              have N98 := Fr.snoc X98 N93 (show n0 ≤ b94 by omega)
              have Z98 : n0 ≤ h98.size := Nat.le_trans Z94 (Keep.of_wr W98).1
              have hj100 : 0 ≤ (1 : Int32).toInt ∧ (1 : Int32).toInt < (3 : Nat) := ⟨by decide, by decide⟩
              obtain ⟨T101, h101, X101, e101, A101, W101, st101⟩ := Own.stoJ X98 hx hZ e98 A98 hj100 (g := (mkF m 177 #[.val (.int p0), .val (.long q1), .second, .val (.long q2), .second, .val (.long q3), .second, .val (.long q4), .second, .val (.int v1), .val (.long x0), .second, .val (.long x1), .second, .val (.long x2), .second, .val (.ref b86), .unset, .unset, .unset] [(.long (q4 ^^^ (-1 : Int64))), (.int (1 : Int32)), (.ref b94), (.ref b94)])) rfl rfl (hb hby at_177)
              have f102 : Own.AvJ Z h101 b86 3 (fun i => if i = 2 then x2 else (fun i => if i = 1 then x1 else (fun i => if i = 0 then x0 else (fun _ => 0) i) i) i) := f99.other W101 (Own.ne_of (by omega))
              have N101 := Fr.snoc X101 N98 (show n0 ≤ b94 by omega)
              have Z101 : n0 ≤ h101.size := Nat.le_trans Z98 (Keep.of_wr W101).1
              have hj103 : 0 ≤ (2 : Int32).toInt ∧ (2 : Int32).toInt < (3 : Nat) := ⟨by decide, by decide⟩
              obtain ⟨T104, h104, X104, e104, A104, W104, st104⟩ := Own.stoJ X101 hx hZ e101 A101 hj103 (g := (mkF m 182 #[.val (.int p0), .val (.long q1), .second, .val (.long q2), .second, .val (.long q3), .second, .val (.long q4), .second, .val (.int v1), .val (.long x0), .second, .val (.long x1), .second, .val (.long x2), .second, .val (.ref b86), .unset, .unset, .unset] [(.long q4), (.int (2 : Int32)), (.ref b94), (.ref b94)])) rfl rfl (hb hby at_182)
              have f105 : Own.AvJ Z h104 b86 3 (fun i => if i = 2 then x2 else (fun i => if i = 1 then x1 else (fun i => if i = 0 then x0 else (fun _ => 0) i) i) i) := f102.other W104 (Own.ne_of (by omega))
              have N104 := Fr.snoc X104 N101 (show n0 ≤ b94 by omega)
              have Z104 : n0 ≤ h104.size := Nat.le_trans Z101 (Keep.of_wr W104).1
              obtain ⟨T106, h106, X106, e106, E106, A106, D106, -, st106⟩ := newO X104 hx hZ hown (hw _ (List.mem_of_getElem? (i := 1) rfl)) (hw _ (List.mem_of_getElem? (i := 2) rfl)) (hw _ (List.mem_of_getElem? (i := 3) rfl)) e104 (g := (mkF m 185 #[.val (.int p0), .val (.long q1), .second, .val (.long q2), .second, .val (.long q3), .second, .val (.long q4), .second, .val (.int v1), .val (.long x0), .second, .val (.long x1), .second, .val (.long x2), .second, .val (.ref b86), .val (.ref b94), .unset, .unset] [])) rfl (hb hby at_185) (by decide) (by decide)
              obtain ⟨b106, g_b106⟩ : ∃ z : Nat, z = h104.size := ⟨_, rfl⟩
              rw [← g_b106] at A106 D106 st106
              have lt_b86_b106 : (b86 : Nat) < b106 := by rw [g_b106]; exact f105.lt
              have lt_b94_b106 : (b94 : Nat) < b106 := by rw [g_b106]; exact A104.lt
              have g0_b106 : n0 ≤ b106 := by rw [g_b106]; exact Z104
              have f107 : Own.AvJ Z h106 b86 3 (fun i => if i = 2 then x2 else (fun i => if i = 1 then x1 else (fun i => if i = 0 then x0 else (fun _ => 0) i) i) i) := f105.ext E106
              have f108 : Own.AvJ Z h106 b94 3 (fun i => if i = 2 then q4 else (fun i => if i = 1 then (q4 ^^^ (-1 : Int64)) else (fun i => if i = 0 then q4 else (fun _ => 0) i) i) i) := A104.ext E106
              have f109 : Fld Z h106 b106 "com/example/eurycleia/eurycleia/core/Query" "bits" "[J" .null := D106 (Or.inr (hw _ (List.mem_of_getElem? (i := 16) rfl))) (ty := (.array .long)) (by decide)
              have f110 : Fld Z h106 b106 "com/example/eurycleia/eurycleia/core/Query" "mask" "[J" .null := D106 (Or.inr (hw _ (List.mem_of_getElem? (i := 18) rfl))) (ty := (.array .long)) (by decide)
              have Z106 : n0 ≤ h106.size := Nat.le_trans Z104 E106.1
              obtain ⟨T111, _, L111, X111, ⟨rfl, Nq111, Kq111, E111, F111⟩, st111⟩ := Own.callI (y := (⟨"com/example/eurycleia/eurycleia/core/Query", "<init>", "([J[J)V"⟩ : MethodName)) (W := 1) (argsL := [(.ref b94), (.ref b86)]) (rest := [(.ref b106)]) (a := b106) X106 hx hZ hown rfl (hw _ (List.mem_of_getElem? (i := 4) rfl)) (hw _ (List.mem_of_getElem? (i := 5) rfl)) (hw _ (List.mem_of_getElem? (i := 3) rfl)) (hw _ (List.mem_of_getElem? (i := 6) rfl)) (by decide) e106 (rm2 l Z a0 hw [] b106 b94 b86 3 (fun i => if i = 2 then q4 else (fun i => if i = 1 then (q4 ^^^ (-1 : Int64)) else (fun i => if i = 0 then q4 else (fun _ => 0) i) i) i) (fun i => if i = 2 then x2 else (fun i => if i = 1 then x1 else (fun i => if i = 0 then x0 else (fun _ => 0) i) i) i) h106 n0 Z106 g0_b106 lt_b94_b106 lt_b86_b106 A106 f109 f110 f108 f107) (by decide) (by decide) (by decide) (by decide) (g := (mkF m 193 #[.val (.int p0), .val (.long q1), .second, .val (.long q2), .second, .val (.long q3), .second, .val (.long q4), .second, .val (.int v1), .val (.long x0), .second, .val (.long x1), .second, .val (.long x2), .second, .val (.ref b86), .val (.ref b94), .unset, .unset] [(.ref b86), (.ref b94), (.ref b106), (.ref b106)])) rfl (by rw [hml]; rfl) (lenOf pd_1 rfl) rfl (by show 2 * 0 + _ ≤ _; exact Nat.le_of_eq rfl) (hb hby at_193)
              have N111 := Fr.app N104 Nq111
              have f112 : Own.AvJ Z T111.heap b86 3 (fun i => if i = 2 then x2 else (fun i => if i = 1 then x1 else (fun i => if i = 0 then x0 else (fun _ => 0) i) i) i) := f107.keep Kq111 (ninS (Own.ne_of (by omega)) nin0)
              have f113 : Own.AvJ Z T111.heap b94 3 (fun i => if i = 2 then q4 else (fun i => if i = 1 then (q4 ^^^ (-1 : Int64)) else (fun i => if i = 0 then q4 else (fun _ => 0) i) i) i) := f108.keep Kq111 (ninS (Own.ne_of (by omega)) nin0)
              refine hD _ (T111.setTop (mkF m 201 #[.val (.int p0), .val (.long q1), .second, .val (.long q2), .second, .val (.long q3), .second, .val (.long q4), .second, .val (.int v1), .val (.long x0), .second, .val (.long x1), .second, .val (.long x2), .second, .val (.ref b86), .val (.ref b94), .val (.ref b106), .unset] [(.int (1 : Int32)), (.int v1)])) (fun t k => ?_) ?_
              · show Steps p.tables e below (T4.setTop (mkF m 101 #[.val (.int p0), .val (.long q1), .second, .val (.long q2), .second, .val (.long q3), .second, .val (.long q4), .second, .val (.int v1), .val (.long x0), .second, .val (.long x1), .second, .val (.long x2), .second, .unset, .unset, .unset, .unset] [(.int (2 : Int32)), (.int v1)])) t
                refine XS.icmpYes X4.here hx rfl (pc0 := 101) (pc' := 141) rfl (hb hby at_101) rfl (feq hc51).2 (by decide) (by decide) ?_
                show Steps p.tables e below (T4.setTop (mkF m 141 #[.val (.int p0), .val (.long q1), .second, .val (.long q2), .second, .val (.long q3), .second, .val (.long q4), .second, .val (.int v1), .val (.long x0), .second, .val (.long x1), .second, .val (.long x2), .second, .unset, .unset, .unset, .unset] [])) t
                refine XS.iconst X4.here hx rfl (hb hby at_141) ?_
                show Steps p.tables e below (T4.setTop (mkF m 142 #[.val (.int p0), .val (.long q1), .second, .val (.long q2), .second, .val (.long q3), .second, .val (.long q4), .second, .val (.int v1), .val (.long x0), .second, .val (.long x1), .second, .val (.long x2), .second, .unset, .unset, .unset, .unset] [(.int (3 : Int32))])) t
                refine st86 _ ?_
                show Steps p.tables e below (T86.setTop (mkF m 144 #[.val (.int p0), .val (.long q1), .second, .val (.long q2), .second, .val (.long q3), .second, .val (.long q4), .second, .val (.int v1), .val (.long x0), .second, .val (.long x1), .second, .val (.long x2), .second, .unset, .unset, .unset, .unset] [(.ref b86)])) t
                refine XS.dup X86.here hx rfl (hb hby at_144) rfl rfl ?_
                show Steps p.tables e below (T86.setTop (mkF m 145 #[.val (.int p0), .val (.long q1), .second, .val (.long q2), .second, .val (.long q3), .second, .val (.long q4), .second, .val (.int v1), .val (.long x0), .second, .val (.long x1), .second, .val (.long x2), .second, .unset, .unset, .unset, .unset] [(.ref b86), (.ref b86)])) t
                refine XS.iconst X86.here hx rfl (hb hby at_145) ?_
                show Steps p.tables e below (T86.setTop (mkF m 146 #[.val (.int p0), .val (.long q1), .second, .val (.long q2), .second, .val (.long q3), .second, .val (.long q4), .second, .val (.int v1), .val (.long x0), .second, .val (.long x1), .second, .val (.long x2), .second, .unset, .unset, .unset, .unset] [(.int (0 : Int32)), (.ref b86), (.ref b86)])) t
                refine XS.lload X86.here hx rfl (hb hby at_146) rfl ?_
                show Steps p.tables e below (T86.setTop (mkF m 148 #[.val (.int p0), .val (.long q1), .second, .val (.long q2), .second, .val (.long q3), .second, .val (.long q4), .second, .val (.int v1), .val (.long x0), .second, .val (.long x1), .second, .val (.long x2), .second, .unset, .unset, .unset, .unset] [(.long x0), (.int (0 : Int32)), (.ref b86), (.ref b86)])) t
                refine st89 _ ?_
                show Steps p.tables e below (T89.setTop (mkF m 149 #[.val (.int p0), .val (.long q1), .second, .val (.long q2), .second, .val (.long q3), .second, .val (.long q4), .second, .val (.int v1), .val (.long x0), .second, .val (.long x1), .second, .val (.long x2), .second, .unset, .unset, .unset, .unset] [(.ref b86)])) t
                refine XS.dup X89.here hx rfl (hb hby at_149) rfl rfl ?_
                show Steps p.tables e below (T89.setTop (mkF m 150 #[.val (.int p0), .val (.long q1), .second, .val (.long q2), .second, .val (.long q3), .second, .val (.long q4), .second, .val (.int v1), .val (.long x0), .second, .val (.long x1), .second, .val (.long x2), .second, .unset, .unset, .unset, .unset] [(.ref b86), (.ref b86)])) t
                refine XS.iconst X89.here hx rfl (hb hby at_150) ?_
                show Steps p.tables e below (T89.setTop (mkF m 151 #[.val (.int p0), .val (.long q1), .second, .val (.long q2), .second, .val (.long q3), .second, .val (.long q4), .second, .val (.int v1), .val (.long x0), .second, .val (.long x1), .second, .val (.long x2), .second, .unset, .unset, .unset, .unset] [(.int (1 : Int32)), (.ref b86), (.ref b86)])) t
                refine XS.lload X89.here hx rfl (hb hby at_151) rfl ?_
                show Steps p.tables e below (T89.setTop (mkF m 153 #[.val (.int p0), .val (.long q1), .second, .val (.long q2), .second, .val (.long q3), .second, .val (.long q4), .second, .val (.int v1), .val (.long x0), .second, .val (.long x1), .second, .val (.long x2), .second, .unset, .unset, .unset, .unset] [(.long x1), (.int (1 : Int32)), (.ref b86), (.ref b86)])) t
                refine st91 _ ?_
                show Steps p.tables e below (T91.setTop (mkF m 154 #[.val (.int p0), .val (.long q1), .second, .val (.long q2), .second, .val (.long q3), .second, .val (.long q4), .second, .val (.int v1), .val (.long x0), .second, .val (.long x1), .second, .val (.long x2), .second, .unset, .unset, .unset, .unset] [(.ref b86)])) t
                refine XS.dup X91.here hx rfl (hb hby at_154) rfl rfl ?_
                show Steps p.tables e below (T91.setTop (mkF m 155 #[.val (.int p0), .val (.long q1), .second, .val (.long q2), .second, .val (.long q3), .second, .val (.long q4), .second, .val (.int v1), .val (.long x0), .second, .val (.long x1), .second, .val (.long x2), .second, .unset, .unset, .unset, .unset] [(.ref b86), (.ref b86)])) t
                refine XS.iconst X91.here hx rfl (hb hby at_155) ?_
                show Steps p.tables e below (T91.setTop (mkF m 156 #[.val (.int p0), .val (.long q1), .second, .val (.long q2), .second, .val (.long q3), .second, .val (.long q4), .second, .val (.int v1), .val (.long x0), .second, .val (.long x1), .second, .val (.long x2), .second, .unset, .unset, .unset, .unset] [(.int (2 : Int32)), (.ref b86), (.ref b86)])) t
                refine XS.lload X91.here hx rfl (hb hby at_156) rfl ?_
                show Steps p.tables e below (T91.setTop (mkF m 158 #[.val (.int p0), .val (.long q1), .second, .val (.long q2), .second, .val (.long q3), .second, .val (.long q4), .second, .val (.int v1), .val (.long x0), .second, .val (.long x1), .second, .val (.long x2), .second, .unset, .unset, .unset, .unset] [(.long x2), (.int (2 : Int32)), (.ref b86), (.ref b86)])) t
                refine st93 _ ?_
                show Steps p.tables e below (T93.setTop (mkF m 159 #[.val (.int p0), .val (.long q1), .second, .val (.long q2), .second, .val (.long q3), .second, .val (.long q4), .second, .val (.int v1), .val (.long x0), .second, .val (.long x1), .second, .val (.long x2), .second, .unset, .unset, .unset, .unset] [(.ref b86)])) t
                refine XS.astore X93.here hx rfl (hb hby at_159) rfl rfl (l' := #[.val (.int p0), .val (.long q1), .second, .val (.long q2), .second, .val (.long q3), .second, .val (.long q4), .second, .val (.int v1), .val (.long x0), .second, .val (.long x1), .second, .val (.long x2), .second, .val (.ref b86), .unset, .unset, .unset]) rfl ?_
                show Steps p.tables e below (T93.setTop (mkF m 161 #[.val (.int p0), .val (.long q1), .second, .val (.long q2), .second, .val (.long q3), .second, .val (.long q4), .second, .val (.int v1), .val (.long x0), .second, .val (.long x1), .second, .val (.long x2), .second, .val (.ref b86), .unset, .unset, .unset] [])) t
                refine XS.iconst X93.here hx rfl (hb hby at_161) ?_
                show Steps p.tables e below (T93.setTop (mkF m 162 #[.val (.int p0), .val (.long q1), .second, .val (.long q2), .second, .val (.long q3), .second, .val (.long q4), .second, .val (.int v1), .val (.long x0), .second, .val (.long x1), .second, .val (.long x2), .second, .val (.ref b86), .unset, .unset, .unset] [(.int (3 : Int32))])) t
                refine st94 _ ?_
                show Steps p.tables e below (T94.setTop (mkF m 164 #[.val (.int p0), .val (.long q1), .second, .val (.long q2), .second, .val (.long q3), .second, .val (.long q4), .second, .val (.int v1), .val (.long x0), .second, .val (.long x1), .second, .val (.long x2), .second, .val (.ref b86), .unset, .unset, .unset] [(.ref b94)])) t
                refine XS.dup X94.here hx rfl (hb hby at_164) rfl rfl ?_
                show Steps p.tables e below (T94.setTop (mkF m 165 #[.val (.int p0), .val (.long q1), .second, .val (.long q2), .second, .val (.long q3), .second, .val (.long q4), .second, .val (.int v1), .val (.long x0), .second, .val (.long x1), .second, .val (.long x2), .second, .val (.ref b86), .unset, .unset, .unset] [(.ref b94), (.ref b94)])) t
                refine XS.iconst X94.here hx rfl (hb hby at_165) ?_
                show Steps p.tables e below (T94.setTop (mkF m 166 #[.val (.int p0), .val (.long q1), .second, .val (.long q2), .second, .val (.long q3), .second, .val (.long q4), .second, .val (.int v1), .val (.long x0), .second, .val (.long x1), .second, .val (.long x2), .second, .val (.ref b86), .unset, .unset, .unset] [(.int (0 : Int32)), (.ref b94), (.ref b94)])) t
                refine XS.lload X94.here hx rfl (hb hby at_166) rfl ?_
                show Steps p.tables e below (T94.setTop (mkF m 168 #[.val (.int p0), .val (.long q1), .second, .val (.long q2), .second, .val (.long q3), .second, .val (.long q4), .second, .val (.int v1), .val (.long x0), .second, .val (.long x1), .second, .val (.long x2), .second, .val (.ref b86), .unset, .unset, .unset] [(.long q4), (.int (0 : Int32)), (.ref b94), (.ref b94)])) t
                refine st98 _ ?_
                show Steps p.tables e below (T98.setTop (mkF m 169 #[.val (.int p0), .val (.long q1), .second, .val (.long q2), .second, .val (.long q3), .second, .val (.long q4), .second, .val (.int v1), .val (.long x0), .second, .val (.long x1), .second, .val (.long x2), .second, .val (.ref b86), .unset, .unset, .unset] [(.ref b94)])) t
                refine XS.dup X98.here hx rfl (hb hby at_169) rfl rfl ?_
                show Steps p.tables e below (T98.setTop (mkF m 170 #[.val (.int p0), .val (.long q1), .second, .val (.long q2), .second, .val (.long q3), .second, .val (.long q4), .second, .val (.int v1), .val (.long x0), .second, .val (.long x1), .second, .val (.long x2), .second, .val (.ref b86), .unset, .unset, .unset] [(.ref b94), (.ref b94)])) t
                refine XS.iconst X98.here hx rfl (hb hby at_170) ?_
                show Steps p.tables e below (T98.setTop (mkF m 171 #[.val (.int p0), .val (.long q1), .second, .val (.long q2), .second, .val (.long q3), .second, .val (.long q4), .second, .val (.int v1), .val (.long x0), .second, .val (.long x1), .second, .val (.long x2), .second, .val (.ref b86), .unset, .unset, .unset] [(.int (1 : Int32)), (.ref b94), (.ref b94)])) t
                refine XS.lload X98.here hx rfl (hb hby at_171) rfl ?_
                show Steps p.tables e below (T98.setTop (mkF m 173 #[.val (.int p0), .val (.long q1), .second, .val (.long q2), .second, .val (.long q3), .second, .val (.long q4), .second, .val (.int v1), .val (.long x0), .second, .val (.long x1), .second, .val (.long x2), .second, .val (.ref b86), .unset, .unset, .unset] [(.long q4), (.int (1 : Int32)), (.ref b94), (.ref b94)])) t
                refine X98.ldc2Long hx hown (mvT hZ (hw _ (List.mem_of_getElem? (i := 24) rfl))) (g := (mkF m 173 #[.val (.int p0), .val (.long q1), .second, .val (.long q2), .second, .val (.long q3), .second, .val (.long q4), .second, .val (.int v1), .val (.long x0), .second, .val (.long x1), .second, .val (.long x2), .second, .val (.ref b86), .unset, .unset, .unset] [(.long q4), (.int (1 : Int32)), (.ref b94), (.ref b94)])) rfl (hb hby at_173) _ ?_
                show Steps p.tables e below (T98.setTop (mkF m 176 #[.val (.int p0), .val (.long q1), .second, .val (.long q2), .second, .val (.long q3), .second, .val (.long q4), .second, .val (.int v1), .val (.long x0), .second, .val (.long x1), .second, .val (.long x2), .second, .val (.ref b86), .unset, .unset, .unset] [(.long (-1 : Int64)), (.long q4), (.int (1 : Int32)), (.ref b94), (.ref b94)])) t
                refine XS.lxor X98.here hx rfl (hb hby at_176) rfl ?_
                show Steps p.tables e below (T98.setTop (mkF m 177 #[.val (.int p0), .val (.long q1), .second, .val (.long q2), .second, .val (.long q3), .second, .val (.long q4), .second, .val (.int v1), .val (.long x0), .second, .val (.long x1), .second, .val (.long x2), .second, .val (.ref b86), .unset, .unset, .unset] [(.long (q4 ^^^ (-1 : Int64))), (.int (1 : Int32)), (.ref b94), (.ref b94)])) t
                refine st101 _ ?_
                show Steps p.tables e below (T101.setTop (mkF m 178 #[.val (.int p0), .val (.long q1), .second, .val (.long q2), .second, .val (.long q3), .second, .val (.long q4), .second, .val (.int v1), .val (.long x0), .second, .val (.long x1), .second, .val (.long x2), .second, .val (.ref b86), .unset, .unset, .unset] [(.ref b94)])) t
                refine XS.dup X101.here hx rfl (hb hby at_178) rfl rfl ?_
                show Steps p.tables e below (T101.setTop (mkF m 179 #[.val (.int p0), .val (.long q1), .second, .val (.long q2), .second, .val (.long q3), .second, .val (.long q4), .second, .val (.int v1), .val (.long x0), .second, .val (.long x1), .second, .val (.long x2), .second, .val (.ref b86), .unset, .unset, .unset] [(.ref b94), (.ref b94)])) t
                refine XS.iconst X101.here hx rfl (hb hby at_179) ?_
                show Steps p.tables e below (T101.setTop (mkF m 180 #[.val (.int p0), .val (.long q1), .second, .val (.long q2), .second, .val (.long q3), .second, .val (.long q4), .second, .val (.int v1), .val (.long x0), .second, .val (.long x1), .second, .val (.long x2), .second, .val (.ref b86), .unset, .unset, .unset] [(.int (2 : Int32)), (.ref b94), (.ref b94)])) t
                refine XS.lload X101.here hx rfl (hb hby at_180) rfl ?_
                show Steps p.tables e below (T101.setTop (mkF m 182 #[.val (.int p0), .val (.long q1), .second, .val (.long q2), .second, .val (.long q3), .second, .val (.long q4), .second, .val (.int v1), .val (.long x0), .second, .val (.long x1), .second, .val (.long x2), .second, .val (.ref b86), .unset, .unset, .unset] [(.long q4), (.int (2 : Int32)), (.ref b94), (.ref b94)])) t
                refine st104 _ ?_
                show Steps p.tables e below (T104.setTop (mkF m 183 #[.val (.int p0), .val (.long q1), .second, .val (.long q2), .second, .val (.long q3), .second, .val (.long q4), .second, .val (.int v1), .val (.long x0), .second, .val (.long x1), .second, .val (.long x2), .second, .val (.ref b86), .unset, .unset, .unset] [(.ref b94)])) t
                refine XS.astore X104.here hx rfl (hb hby at_183) rfl rfl (l' := #[.val (.int p0), .val (.long q1), .second, .val (.long q2), .second, .val (.long q3), .second, .val (.long q4), .second, .val (.int v1), .val (.long x0), .second, .val (.long x1), .second, .val (.long x2), .second, .val (.ref b86), .val (.ref b94), .unset, .unset]) rfl ?_
                show Steps p.tables e below (T104.setTop (mkF m 185 #[.val (.int p0), .val (.long q1), .second, .val (.long q2), .second, .val (.long q3), .second, .val (.long q4), .second, .val (.int v1), .val (.long x0), .second, .val (.long x1), .second, .val (.long x2), .second, .val (.ref b86), .val (.ref b94), .unset, .unset] [])) t
                refine st106 _ ?_
                show Steps p.tables e below (T106.setTop (mkF m 188 #[.val (.int p0), .val (.long q1), .second, .val (.long q2), .second, .val (.long q3), .second, .val (.long q4), .second, .val (.int v1), .val (.long x0), .second, .val (.long x1), .second, .val (.long x2), .second, .val (.ref b86), .val (.ref b94), .unset, .unset] [(.ref b106)])) t
                refine XS.dup X106.here hx rfl (hb hby at_188) rfl rfl ?_
                show Steps p.tables e below (T106.setTop (mkF m 189 #[.val (.int p0), .val (.long q1), .second, .val (.long q2), .second, .val (.long q3), .second, .val (.long q4), .second, .val (.int v1), .val (.long x0), .second, .val (.long x1), .second, .val (.long x2), .second, .val (.ref b86), .val (.ref b94), .unset, .unset] [(.ref b106), (.ref b106)])) t
                refine XS.aload X106.here hx rfl (hb hby at_189) rfl rfl ?_
                show Steps p.tables e below (T106.setTop (mkF m 191 #[.val (.int p0), .val (.long q1), .second, .val (.long q2), .second, .val (.long q3), .second, .val (.long q4), .second, .val (.int v1), .val (.long x0), .second, .val (.long x1), .second, .val (.long x2), .second, .val (.ref b86), .val (.ref b94), .unset, .unset] [(.ref b94), (.ref b106), (.ref b106)])) t
                refine XS.aload X106.here hx rfl (hb hby at_191) rfl rfl ?_
                show Steps p.tables e below (T106.setTop (mkF m 193 #[.val (.int p0), .val (.long q1), .second, .val (.long q2), .second, .val (.long q3), .second, .val (.long q4), .second, .val (.int v1), .val (.long x0), .second, .val (.long x1), .second, .val (.long x2), .second, .val (.ref b86), .val (.ref b94), .unset, .unset] [(.ref b86), (.ref b94), (.ref b106), (.ref b106)])) t
                refine st111 _ ?_
                show Steps p.tables e below (T111.setTop (mkF m 196 #[.val (.int p0), .val (.long q1), .second, .val (.long q2), .second, .val (.long q3), .second, .val (.long q4), .second, .val (.int v1), .val (.long x0), .second, .val (.long x1), .second, .val (.long x2), .second, .val (.ref b86), .val (.ref b94), .unset, .unset] [(.ref b106)])) t
                refine XS.astore X111.here hx rfl (hb hby at_196) rfl rfl (l' := #[.val (.int p0), .val (.long q1), .second, .val (.long q2), .second, .val (.long q3), .second, .val (.long q4), .second, .val (.int v1), .val (.long x0), .second, .val (.long x1), .second, .val (.long x2), .second, .val (.ref b86), .val (.ref b94), .val (.ref b106), .unset]) rfl ?_
                show Steps p.tables e below (T111.setTop (mkF m 198 #[.val (.int p0), .val (.long q1), .second, .val (.long q2), .second, .val (.long q3), .second, .val (.long q4), .second, .val (.int v1), .val (.long x0), .second, .val (.long x1), .second, .val (.long x2), .second, .val (.ref b86), .val (.ref b94), .val (.ref b106), .unset] [])) t
                refine XS.iload X111.here hx rfl (hb hby at_198) rfl ?_
                show Steps p.tables e below (T111.setTop (mkF m 200 #[.val (.int p0), .val (.long q1), .second, .val (.long q2), .second, .val (.long q3), .second, .val (.long q4), .second, .val (.int v1), .val (.long x0), .second, .val (.long x1), .second, .val (.long x2), .second, .val (.ref b86), .val (.ref b94), .val (.ref b106), .unset] [(.int v1)])) t
                refine XS.iconst X111.here hx rfl (hb hby at_200) ?_
                show Steps p.tables e below (T111.setTop (mkF m 201 #[.val (.int p0), .val (.long q1), .second, .val (.long q2), .second, .val (.long q3), .second, .val (.long q4), .second, .val (.int v1), .val (.long x0), .second, .val (.long x1), .second, .val (.long x2), .second, .val (.ref b86), .val (.ref b94), .val (.ref b106), .unset] [(.int (1 : Int32)), (.int v1)])) t
                exact k
              have hc114 : ¬ (v1 < (1 : Int32)) := by rw [(own_three hv1 hc5 hc24 hc51)]; decide
              refine hD _ (T111.setTop (mkF m 208 #[.val (.int p0), .val (.long q1), .second, .val (.long q2), .second, .val (.long q3), .second, .val (.long q4), .second, .val (.int v1), .val (.long x0), .second, .val (.long x1), .second, .val (.long x2), .second, .val (.ref b86), .val (.ref b94), .val (.ref b106), .unset] [(.int (lcmpW x0 (0 : Int64)))])) (fun t k => ?_) ?_
              · show Steps p.tables e below (T111.setTop (mkF m 201 #[.val (.int p0), .val (.long q1), .second, .val (.long q2), .second, .val (.long q3), .second, .val (.long q4), .second, .val (.int v1), .val (.long x0), .second, .val (.long x1), .second, .val (.long x2), .second, .val (.ref b86), .val (.ref b94), .val (.ref b106), .unset] [(.int (1 : Int32)), (.int v1)])) t
                refine XS.icmpNo X111.here hx rfl (hb hby at_201) rfl (flt hc114).1 ?_
                show Steps p.tables e below (T111.setTop (mkF m 204 #[.val (.int p0), .val (.long q1), .second, .val (.long q2), .second, .val (.long q3), .second, .val (.long q4), .second, .val (.int v1), .val (.long x0), .second, .val (.long x1), .second, .val (.long x2), .second, .val (.ref b86), .val (.ref b94), .val (.ref b106), .unset] [])) t
                refine XS.lload X111.here hx rfl (hb hby at_204) rfl ?_
                show Steps p.tables e below (T111.setTop (mkF m 206 #[.val (.int p0), .val (.long q1), .second, .val (.long q2), .second, .val (.long q3), .second, .val (.long q4), .second, .val (.int v1), .val (.long x0), .second, .val (.long x1), .second, .val (.long x2), .second, .val (.ref b86), .val (.ref b94), .val (.ref b106), .unset] [(.long x0)])) t
                refine XS.lconst X111.here hx rfl (hb hby at_206) ?_
                show Steps p.tables e below (T111.setTop (mkF m 207 #[.val (.int p0), .val (.long q1), .second, .val (.long q2), .second, .val (.long q3), .second, .val (.long q4), .second, .val (.int v1), .val (.long x0), .second, .val (.long x1), .second, .val (.long x2), .second, .val (.ref b86), .val (.ref b94), .val (.ref b106), .unset] [(.long (0 : Int64)), (.long x0)])) t
                refine XS.lcmp X111.here hx rfl (hb hby at_207) rfl ?_
                show Steps p.tables e below (T111.setTop (mkF m 208 #[.val (.int p0), .val (.long q1), .second, .val (.long q2), .second, .val (.long q3), .second, .val (.long q4), .second, .val (.int v1), .val (.long x0), .second, .val (.long x1), .second, .val (.long x2), .second, .val (.ref b86), .val (.ref b94), .val (.ref b106), .unset] [(.int (lcmpW x0 (0 : Int64)))])) t
                exact k
              by_cases hc115 : x0 = (0 : Int64)
              · refine hD _ (T111.setTop (mkF m 214 #[.val (.int p0), .val (.long q1), .second, .val (.long q2), .second, .val (.long q3), .second, .val (.long q4), .second, .val (.int v1), .val (.long x0), .second, .val (.long x1), .second, .val (.long x2), .second, .val (.ref b86), .val (.ref b94), .val (.ref b106), .unset] [(.int (2 : Int32)), (.int v1)])) (fun t k => ?_) ?_
                · show Steps p.tables e below (T111.setTop (mkF m 208 #[.val (.int p0), .val (.long q1), .second, .val (.long q2), .second, .val (.long q3), .second, .val (.long q4), .second, .val (.int v1), .val (.long x0), .second, .val (.long x1), .second, .val (.long x2), .second, .val (.ref b86), .val (.ref b94), .val (.ref b106), .unset] [(.int (lcmpW x0 (0 : Int64)))])) t
                  refine XS.ifNo X111.here hx rfl (hb hby at_208) rfl ((if0 _ _).trans (teq ((lw_eq x0 (0 : Int64)).mpr hc115)).2) ?_
                  show Steps p.tables e below (T111.setTop (mkF m 211 #[.val (.int p0), .val (.long q1), .second, .val (.long q2), .second, .val (.long q3), .second, .val (.long q4), .second, .val (.int v1), .val (.long x0), .second, .val (.long x1), .second, .val (.long x2), .second, .val (.ref b86), .val (.ref b94), .val (.ref b106), .unset] [])) t
                  refine XS.iload X111.here hx rfl (hb hby at_211) rfl ?_
                  show Steps p.tables e below (T111.setTop (mkF m 213 #[.val (.int p0), .val (.long q1), .second, .val (.long q2), .second, .val (.long q3), .second, .val (.long q4), .second, .val (.int v1), .val (.long x0), .second, .val (.long x1), .second, .val (.long x2), .second, .val (.ref b86), .val (.ref b94), .val (.ref b106), .unset] [(.int v1)])) t
                  refine XS.iconst X111.here hx rfl (hb hby at_213) ?_
                  show Steps p.tables e below (T111.setTop (mkF m 214 #[.val (.int p0), .val (.long q1), .second, .val (.long q2), .second, .val (.long q3), .second, .val (.long q4), .second, .val (.int v1), .val (.long x0), .second, .val (.long x1), .second, .val (.long x2), .second, .val (.ref b86), .val (.ref b94), .val (.ref b106), .unset] [(.int (2 : Int32)), (.int v1)])) t
                  exact k
                have hc116 : ¬ (v1 < (2 : Int32)) := by rw [(own_three hv1 hc5 hc24 hc51)]; decide
                refine hD _ (T111.setTop (mkF m 221 #[.val (.int p0), .val (.long q1), .second, .val (.long q2), .second, .val (.long q3), .second, .val (.long q4), .second, .val (.int v1), .val (.long x0), .second, .val (.long x1), .second, .val (.long x2), .second, .val (.ref b86), .val (.ref b94), .val (.ref b106), .unset] [(.int (lcmpW x1 (0 : Int64)))])) (fun t k => ?_) ?_
                · show Steps p.tables e below (T111.setTop (mkF m 214 #[.val (.int p0), .val (.long q1), .second, .val (.long q2), .second, .val (.long q3), .second, .val (.long q4), .second, .val (.int v1), .val (.long x0), .second, .val (.long x1), .second, .val (.long x2), .second, .val (.ref b86), .val (.ref b94), .val (.ref b106), .unset] [(.int (2 : Int32)), (.int v1)])) t
                  refine XS.icmpNo X111.here hx rfl (hb hby at_214) rfl (flt hc116).1 ?_
                  show Steps p.tables e below (T111.setTop (mkF m 217 #[.val (.int p0), .val (.long q1), .second, .val (.long q2), .second, .val (.long q3), .second, .val (.long q4), .second, .val (.int v1), .val (.long x0), .second, .val (.long x1), .second, .val (.long x2), .second, .val (.ref b86), .val (.ref b94), .val (.ref b106), .unset] [])) t
                  refine XS.lload X111.here hx rfl (hb hby at_217) rfl ?_
                  show Steps p.tables e below (T111.setTop (mkF m 219 #[.val (.int p0), .val (.long q1), .second, .val (.long q2), .second, .val (.long q3), .second, .val (.long q4), .second, .val (.int v1), .val (.long x0), .second, .val (.long x1), .second, .val (.long x2), .second, .val (.ref b86), .val (.ref b94), .val (.ref b106), .unset] [(.long x1)])) t
                  refine XS.lconst X111.here hx rfl (hb hby at_219) ?_
                  show Steps p.tables e below (T111.setTop (mkF m 220 #[.val (.int p0), .val (.long q1), .second, .val (.long q2), .second, .val (.long q3), .second, .val (.long q4), .second, .val (.int v1), .val (.long x0), .second, .val (.long x1), .second, .val (.long x2), .second, .val (.ref b86), .val (.ref b94), .val (.ref b106), .unset] [(.long (0 : Int64)), (.long x1)])) t
                  refine XS.lcmp X111.here hx rfl (hb hby at_220) rfl ?_
                  show Steps p.tables e below (T111.setTop (mkF m 221 #[.val (.int p0), .val (.long q1), .second, .val (.long q2), .second, .val (.long q3), .second, .val (.long q4), .second, .val (.int v1), .val (.long x0), .second, .val (.long x1), .second, .val (.long x2), .second, .val (.ref b86), .val (.ref b94), .val (.ref b106), .unset] [(.int (lcmpW x1 (0 : Int64)))])) t
                  exact k
                by_cases hc117 : x1 = (0 : Int64)
                · refine hD _ (T111.setTop (mkF m 227 #[.val (.int p0), .val (.long q1), .second, .val (.long q2), .second, .val (.long q3), .second, .val (.long q4), .second, .val (.int v1), .val (.long x0), .second, .val (.long x1), .second, .val (.long x2), .second, .val (.ref b86), .val (.ref b94), .val (.ref b106), .unset] [(.int (3 : Int32)), (.int v1)])) (fun t k => ?_) ?_
                  · show Steps p.tables e below (T111.setTop (mkF m 221 #[.val (.int p0), .val (.long q1), .second, .val (.long q2), .second, .val (.long q3), .second, .val (.long q4), .second, .val (.int v1), .val (.long x0), .second, .val (.long x1), .second, .val (.long x2), .second, .val (.ref b86), .val (.ref b94), .val (.ref b106), .unset] [(.int (lcmpW x1 (0 : Int64)))])) t
                    refine XS.ifNo X111.here hx rfl (hb hby at_221) rfl ((if0 _ _).trans (teq ((lw_eq x1 (0 : Int64)).mpr hc117)).2) ?_
                    show Steps p.tables e below (T111.setTop (mkF m 224 #[.val (.int p0), .val (.long q1), .second, .val (.long q2), .second, .val (.long q3), .second, .val (.long q4), .second, .val (.int v1), .val (.long x0), .second, .val (.long x1), .second, .val (.long x2), .second, .val (.ref b86), .val (.ref b94), .val (.ref b106), .unset] [])) t
                    refine XS.iload X111.here hx rfl (hb hby at_224) rfl ?_
                    show Steps p.tables e below (T111.setTop (mkF m 226 #[.val (.int p0), .val (.long q1), .second, .val (.long q2), .second, .val (.long q3), .second, .val (.long q4), .second, .val (.int v1), .val (.long x0), .second, .val (.long x1), .second, .val (.long x2), .second, .val (.ref b86), .val (.ref b94), .val (.ref b106), .unset] [(.int v1)])) t
                    refine XS.iconst X111.here hx rfl (hb hby at_226) ?_
                    show Steps p.tables e below (T111.setTop (mkF m 227 #[.val (.int p0), .val (.long q1), .second, .val (.long q2), .second, .val (.long q3), .second, .val (.long q4), .second, .val (.int v1), .val (.long x0), .second, .val (.long x1), .second, .val (.long x2), .second, .val (.ref b86), .val (.ref b94), .val (.ref b106), .unset] [(.int (3 : Int32)), (.int v1)])) t
                    exact k
                  have hc118 : ¬ (v1 < (3 : Int32)) := by rw [(own_three hv1 hc5 hc24 hc51)]; decide
                  refine hD _ (T111.setTop (mkF m 234 #[.val (.int p0), .val (.long q1), .second, .val (.long q2), .second, .val (.long q3), .second, .val (.long q4), .second, .val (.int v1), .val (.long x0), .second, .val (.long x1), .second, .val (.long x2), .second, .val (.ref b86), .val (.ref b94), .val (.ref b106), .unset] [(.int (lcmpW x2 (0 : Int64)))])) (fun t k => ?_) ?_
                  · show Steps p.tables e below (T111.setTop (mkF m 227 #[.val (.int p0), .val (.long q1), .second, .val (.long q2), .second, .val (.long q3), .second, .val (.long q4), .second, .val (.int v1), .val (.long x0), .second, .val (.long x1), .second, .val (.long x2), .second, .val (.ref b86), .val (.ref b94), .val (.ref b106), .unset] [(.int (3 : Int32)), (.int v1)])) t
                    refine XS.icmpNo X111.here hx rfl (hb hby at_227) rfl (flt hc118).1 ?_
                    show Steps p.tables e below (T111.setTop (mkF m 230 #[.val (.int p0), .val (.long q1), .second, .val (.long q2), .second, .val (.long q3), .second, .val (.long q4), .second, .val (.int v1), .val (.long x0), .second, .val (.long x1), .second, .val (.long x2), .second, .val (.ref b86), .val (.ref b94), .val (.ref b106), .unset] [])) t
                    refine XS.lload X111.here hx rfl (hb hby at_230) rfl ?_
                    show Steps p.tables e below (T111.setTop (mkF m 232 #[.val (.int p0), .val (.long q1), .second, .val (.long q2), .second, .val (.long q3), .second, .val (.long q4), .second, .val (.int v1), .val (.long x0), .second, .val (.long x1), .second, .val (.long x2), .second, .val (.ref b86), .val (.ref b94), .val (.ref b106), .unset] [(.long x2)])) t
                    refine XS.lconst X111.here hx rfl (hb hby at_232) ?_
                    show Steps p.tables e below (T111.setTop (mkF m 233 #[.val (.int p0), .val (.long q1), .second, .val (.long q2), .second, .val (.long q3), .second, .val (.long q4), .second, .val (.int v1), .val (.long x0), .second, .val (.long x1), .second, .val (.long x2), .second, .val (.ref b86), .val (.ref b94), .val (.ref b106), .unset] [(.long (0 : Int64)), (.long x2)])) t
                    refine XS.lcmp X111.here hx rfl (hb hby at_233) rfl ?_
                    show Steps p.tables e below (T111.setTop (mkF m 234 #[.val (.int p0), .val (.long q1), .second, .val (.long q2), .second, .val (.long q3), .second, .val (.long q4), .second, .val (.int v1), .val (.long x0), .second, .val (.long x1), .second, .val (.long x2), .second, .val (.ref b86), .val (.ref b94), .val (.ref b106), .unset] [(.int (lcmpW x2 (0 : Int64)))])) t
                    exact k
                  by_cases hc119 : x2 = (0 : Int64)
                  · obtain ⟨T120, _, L120, X120, ⟨rfl, Nq120, e120⟩, st120⟩ := Own.callV (y := (⟨"com/example/eurycleia/eurycleia/core/Query", "isEmpty", "()Z"⟩ : MethodName)) (W := 0) (argsL := []) (rest := []) (a := b106) X111 hx hZ hown (hw _ (List.mem_of_getElem? (i := 19) rfl)) (hw _ (List.mem_of_getElem? (i := 20) rfl)) (hw _ (List.mem_of_getElem? (i := 22) rfl)) (hw _ (List.mem_of_getElem? (i := 21) rfl)) (hw _ (List.mem_of_getElem? (i := 3) rfl)) (hw _ (List.mem_of_getElem? (i := 23) rfl)) (by decide) rfl E111 (rm13 l Z a0 hw [] b106 b86 (fun i => if i = 2 then x2 else (fun i => if i = 1 then x1 else (fun i => if i = 0 then x0 else (fun _ => 0) i) i) i) T111.heap n0 F111 f112) (by decide) (by decide) (by decide) (by decide) (g := (mkF m 246 #[.val (.int p0), .val (.long q1), .second, .val (.long q2), .second, .val (.long q3), .second, .val (.long q4), .second, .val (.int v1), .val (.long x0), .second, .val (.long x1), .second, .val (.long x2), .second, .val (.ref b86), .val (.ref b94), .val (.ref b106), .val (.int (1 : Int32))] [(.ref b106)])) rfl (by rw [hml]; rfl) (lenOf pd_2 rfl) rfl (by show 2 * 0 + _ ≤ _; exact Nat.le_of_eq rfl) (hb hby at_246)
                    have N120 := Fr.app N111 Nq120
                    refine hD _ (T120.setTop (mkF m 251 #[.val (.int p0), .val (.long q1), .second, .val (.long q2), .second, .val (.long q3), .second, .val (.long q4), .second, .val (.int v1), .val (.long x0), .second, .val (.long x1), .second, .val (.long x2), .second, .val (.ref b86), .val (.ref b94), .val (.ref b106), .val (.int (1 : Int32))] [(.int (1 : Int32)), (.int (Own.b2i (own_emp 3 (fun i => if i = 2 then x2 else (fun i => if i = 1 then x1 else (fun i => if i = 0 then x0 else (fun _ => 0) i) i) i))))])) (fun t k => ?_) ?_
                    · show Steps p.tables e below (T111.setTop (mkF m 234 #[.val (.int p0), .val (.long q1), .second, .val (.long q2), .second, .val (.long q3), .second, .val (.long q4), .second, .val (.int v1), .val (.long x0), .second, .val (.long x1), .second, .val (.long x2), .second, .val (.ref b86), .val (.ref b94), .val (.ref b106), .unset] [(.int (lcmpW x2 (0 : Int64)))])) t
                      refine XS.ifNo X111.here hx rfl (hb hby at_234) rfl ((if0 _ _).trans (teq ((lw_eq x2 (0 : Int64)).mpr hc119)).2) ?_
                      show Steps p.tables e below (T111.setTop (mkF m 237 #[.val (.int p0), .val (.long q1), .second, .val (.long q2), .second, .val (.long q3), .second, .val (.long q4), .second, .val (.int v1), .val (.long x0), .second, .val (.long x1), .second, .val (.long x2), .second, .val (.ref b86), .val (.ref b94), .val (.ref b106), .unset] [])) t
                      refine XS.iconst X111.here hx rfl (hb hby at_237) ?_
                      show Steps p.tables e below (T111.setTop (mkF m 238 #[.val (.int p0), .val (.long q1), .second, .val (.long q2), .second, .val (.long q3), .second, .val (.long q4), .second, .val (.int v1), .val (.long x0), .second, .val (.long x1), .second, .val (.long x2), .second, .val (.ref b86), .val (.ref b94), .val (.ref b106), .unset] [(.int (1 : Int32))])) t
                      refine XS.goto X111.here hx rfl (pc0 := 238) (pc' := 242) rfl (hb hby at_238) (by decide) (by decide) ?_
                      show Steps p.tables e below (T111.setTop (mkF m 242 #[.val (.int p0), .val (.long q1), .second, .val (.long q2), .second, .val (.long q3), .second, .val (.long q4), .second, .val (.int v1), .val (.long x0), .second, .val (.long x1), .second, .val (.long x2), .second, .val (.ref b86), .val (.ref b94), .val (.ref b106), .unset] [(.int (1 : Int32))])) t
                      refine XS.istore X111.here hx rfl (hb hby at_242) rfl (l' := #[.val (.int p0), .val (.long q1), .second, .val (.long q2), .second, .val (.long q3), .second, .val (.long q4), .second, .val (.int v1), .val (.long x0), .second, .val (.long x1), .second, .val (.long x2), .second, .val (.ref b86), .val (.ref b94), .val (.ref b106), .val (.int (1 : Int32))]) rfl ?_
                      show Steps p.tables e below (T111.setTop (mkF m 244 #[.val (.int p0), .val (.long q1), .second, .val (.long q2), .second, .val (.long q3), .second, .val (.long q4), .second, .val (.int v1), .val (.long x0), .second, .val (.long x1), .second, .val (.long x2), .second, .val (.ref b86), .val (.ref b94), .val (.ref b106), .val (.int (1 : Int32))] [])) t
                      refine XS.aload X111.here hx rfl (hb hby at_244) rfl rfl ?_
                      show Steps p.tables e below (T111.setTop (mkF m 246 #[.val (.int p0), .val (.long q1), .second, .val (.long q2), .second, .val (.long q3), .second, .val (.long q4), .second, .val (.int v1), .val (.long x0), .second, .val (.long x1), .second, .val (.long x2), .second, .val (.ref b86), .val (.ref b94), .val (.ref b106), .val (.int (1 : Int32))] [(.ref b106)])) t
                      refine st120 _ ?_
                      show Steps p.tables e below (T120.setTop (mkF m 249 #[.val (.int p0), .val (.long q1), .second, .val (.long q2), .second, .val (.long q3), .second, .val (.long q4), .second, .val (.int v1), .val (.long x0), .second, .val (.long x1), .second, .val (.long x2), .second, .val (.ref b86), .val (.ref b94), .val (.ref b106), .val (.int (1 : Int32))] [(.int (Own.b2i (own_emp 3 (fun i => if i = 2 then x2 else (fun i => if i = 1 then x1 else (fun i => if i = 0 then x0 else (fun _ => 0) i) i) i))))])) t
                      refine XS.iload X120.here hx rfl (hb hby at_249) rfl ?_
                      show Steps p.tables e below (T120.setTop (mkF m 251 #[.val (.int p0), .val (.long q1), .second, .val (.long q2), .second, .val (.long q3), .second, .val (.long q4), .second, .val (.int v1), .val (.long x0), .second, .val (.long x1), .second, .val (.long x2), .second, .val (.ref b86), .val (.ref b94), .val (.ref b106), .val (.int (1 : Int32))] [(.int (1 : Int32)), (.int (Own.b2i (own_emp 3 (fun i => if i = 2 then x2 else (fun i => if i = 1 then x1 else (fun i => if i = 0 then x0 else (fun _ => 0) i) i) i))))])) t
                      exact k
                    have hc121 : (Own.b2i (own_emp 3 (fun i => if i = 2 then x2 else (fun i => if i = 1 then x1 else (fun i => if i = 0 then x0 else (fun _ => 0) i) i) i))) = (1 : Int32) := by simp [own_emp, Own.b2i, hc5, hc24, hc51, hc114, hc115, hc116, hc117, hc118, hc119]
                    refine hD _ (T120.setTop (mkF m 259 #[.val (.int p0), .val (.long q1), .second, .val (.long q2), .second, .val (.long q3), .second, .val (.long q4), .second, .val (.int v1), .val (.long x0), .second, .val (.long x1), .second, .val (.long x2), .second, .val (.ref b86), .val (.ref b94), .val (.ref b106), .val (.int (1 : Int32))] [(.int (1 : Int32))])) (fun t k => ?_) ?_
                    · show Steps p.tables e below (T120.setTop (mkF m 251 #[.val (.int p0), .val (.long q1), .second, .val (.long q2), .second, .val (.long q3), .second, .val (.long q4), .second, .val (.int v1), .val (.long x0), .second, .val (.long x1), .second, .val (.long x2), .second, .val (.ref b86), .val (.ref b94), .val (.ref b106), .val (.int (1 : Int32))] [(.int (1 : Int32)), (.int (Own.b2i (own_emp 3 (fun i => if i = 2 then x2 else (fun i => if i = 1 then x1 else (fun i => if i = 0 then x0 else (fun _ => 0) i) i) i))))])) t
                      refine XS.icmpNo X120.here hx rfl (hb hby at_251) rfl (teq hc121).2 ?_
                      show Steps p.tables e below (T120.setTop (mkF m 254 #[.val (.int p0), .val (.long q1), .second, .val (.long q2), .second, .val (.long q3), .second, .val (.long q4), .second, .val (.int v1), .val (.long x0), .second, .val (.long x1), .second, .val (.long x2), .second, .val (.ref b86), .val (.ref b94), .val (.ref b106), .val (.int (1 : Int32))] [])) t
                      refine XS.iconst X120.here hx rfl (hb hby at_254) ?_
                      show Steps p.tables e below (T120.setTop (mkF m 255 #[.val (.int p0), .val (.long q1), .second, .val (.long q2), .second, .val (.long q3), .second, .val (.long q4), .second, .val (.int v1), .val (.long x0), .second, .val (.long x1), .second, .val (.long x2), .second, .val (.ref b86), .val (.ref b94), .val (.ref b106), .val (.int (1 : Int32))] [(.int (1 : Int32))])) t
                      refine XS.goto X120.here hx rfl (pc0 := 255) (pc' := 259) rfl (hb hby at_255) (by decide) (by decide) ?_
                      show Steps p.tables e below (T120.setTop (mkF m 259 #[.val (.int p0), .val (.long q1), .second, .val (.long q2), .second, .val (.long q3), .second, .val (.long q4), .second, .val (.int v1), .val (.long x0), .second, .val (.long x1), .second, .val (.long x2), .second, .val (.ref b86), .val (.ref b94), .val (.ref b106), .val (.int (1 : Int32))] [(.int (1 : Int32))])) t
                      exact k
                    exact Own.retN hR X120 hx (t := .boolean) hret (by simp) (hb hby at_259) (by decide) (by decide) (by decide) ⟨rfl, N120⟩
                  · obtain ⟨T122, _, L122, X122, ⟨rfl, Nq122, e122⟩, st122⟩ := Own.callV (y := (⟨"com/example/eurycleia/eurycleia/core/Query", "isEmpty", "()Z"⟩ : MethodName)) (W := 0) (argsL := []) (rest := []) (a := b106) X111 hx hZ hown (hw _ (List.mem_of_getElem? (i := 19) rfl)) (hw _ (List.mem_of_getElem? (i := 20) rfl)) (hw _ (List.mem_of_getElem? (i := 22) rfl)) (hw _ (List.mem_of_getElem? (i := 21) rfl)) (hw _ (List.mem_of_getElem? (i := 3) rfl)) (hw _ (List.mem_of_getElem? (i := 23) rfl)) (by decide) rfl E111 (rm13 l Z a0 hw [] b106 b86 (fun i => if i = 2 then x2 else (fun i => if i = 1 then x1 else (fun i => if i = 0 then x0 else (fun _ => 0) i) i) i) T111.heap n0 F111 f112) (by decide) (by decide) (by decide) (by decide) (g := (mkF m 246 #[.val (.int p0), .val (.long q1), .second, .val (.long q2), .second, .val (.long q3), .second, .val (.long q4), .second, .val (.int v1), .val (.long x0), .second, .val (.long x1), .second, .val (.long x2), .second, .val (.ref b86), .val (.ref b94), .val (.ref b106), .val (.int (0 : Int32))] [(.ref b106)])) rfl (by rw [hml]; rfl) (lenOf pd_2 rfl) rfl (by show 2 * 0 + _ ≤ _; exact Nat.le_of_eq rfl) (hb hby at_246)
                    have N122 := Fr.app N111 Nq122
                    refine hD _ (T122.setTop (mkF m 251 #[.val (.int p0), .val (.long q1), .second, .val (.long q2), .second, .val (.long q3), .second, .val (.long q4), .second, .val (.int v1), .val (.long x0), .second, .val (.long x1), .second, .val (.long x2), .second, .val (.ref b86), .val (.ref b94), .val (.ref b106), .val (.int (0 : Int32))] [(.int (0 : Int32)), (.int (Own.b2i (own_emp 3 (fun i => if i = 2 then x2 else (fun i => if i = 1 then x1 else (fun i => if i = 0 then x0 else (fun _ => 0) i) i) i))))])) (fun t k => ?_) ?_
                    · show Steps p.tables e below (T111.setTop (mkF m 234 #[.val (.int p0), .val (.long q1), .second, .val (.long q2), .second, .val (.long q3), .second, .val (.long q4), .second, .val (.int v1), .val (.long x0), .second, .val (.long x1), .second, .val (.long x2), .second, .val (.ref b86), .val (.ref b94), .val (.ref b106), .unset] [(.int (lcmpW x2 (0 : Int64)))])) t
                      refine XS.ifYes X111.here hx rfl (pc0 := 234) (pc' := 241) rfl (hb hby at_234) rfl ((if0 _ _).trans (feq (fun q => hc119 ((lw_eq x2 (0 : Int64)).mp q))).2) (by decide) (by decide) ?_
                      show Steps p.tables e below (T111.setTop (mkF m 241 #[.val (.int p0), .val (.long q1), .second, .val (.long q2), .second, .val (.long q3), .second, .val (.long q4), .second, .val (.int v1), .val (.long x0), .second, .val (.long x1), .second, .val (.long x2), .second, .val (.ref b86), .val (.ref b94), .val (.ref b106), .unset] [])) t
                      refine XS.iconst X111.here hx rfl (hb hby at_241) ?_
                      show Steps p.tables e below (T111.setTop (mkF m 242 #[.val (.int p0), .val (.long q1), .second, .val (.long q2), .second, .val (.long q3), .second, .val (.long q4), .second, .val (.int v1), .val (.long x0), .second, .val (.long x1), .second, .val (.long x2), .second, .val (.ref b86), .val (.ref b94), .val (.ref b106), .unset] [(.int (0 : Int32))])) t
                      refine XS.istore X111.here hx rfl (hb hby at_242) rfl (l' := #[.val (.int p0), .val (.long q1), .second, .val (.long q2), .second, .val (.long q3), .second, .val (.long q4), .second, .val (.int v1), .val (.long x0), .second, .val (.long x1), .second, .val (.long x2), .second, .val (.ref b86), .val (.ref b94), .val (.ref b106), .val (.int (0 : Int32))]) rfl ?_
                      show Steps p.tables e below (T111.setTop (mkF m 244 #[.val (.int p0), .val (.long q1), .second, .val (.long q2), .second, .val (.long q3), .second, .val (.long q4), .second, .val (.int v1), .val (.long x0), .second, .val (.long x1), .second, .val (.long x2), .second, .val (.ref b86), .val (.ref b94), .val (.ref b106), .val (.int (0 : Int32))] [])) t
                      refine XS.aload X111.here hx rfl (hb hby at_244) rfl rfl ?_
                      show Steps p.tables e below (T111.setTop (mkF m 246 #[.val (.int p0), .val (.long q1), .second, .val (.long q2), .second, .val (.long q3), .second, .val (.long q4), .second, .val (.int v1), .val (.long x0), .second, .val (.long x1), .second, .val (.long x2), .second, .val (.ref b86), .val (.ref b94), .val (.ref b106), .val (.int (0 : Int32))] [(.ref b106)])) t
                      refine st122 _ ?_
                      show Steps p.tables e below (T122.setTop (mkF m 249 #[.val (.int p0), .val (.long q1), .second, .val (.long q2), .second, .val (.long q3), .second, .val (.long q4), .second, .val (.int v1), .val (.long x0), .second, .val (.long x1), .second, .val (.long x2), .second, .val (.ref b86), .val (.ref b94), .val (.ref b106), .val (.int (0 : Int32))] [(.int (Own.b2i (own_emp 3 (fun i => if i = 2 then x2 else (fun i => if i = 1 then x1 else (fun i => if i = 0 then x0 else (fun _ => 0) i) i) i))))])) t
                      refine XS.iload X122.here hx rfl (hb hby at_249) rfl ?_
                      show Steps p.tables e below (T122.setTop (mkF m 251 #[.val (.int p0), .val (.long q1), .second, .val (.long q2), .second, .val (.long q3), .second, .val (.long q4), .second, .val (.int v1), .val (.long x0), .second, .val (.long x1), .second, .val (.long x2), .second, .val (.ref b86), .val (.ref b94), .val (.ref b106), .val (.int (0 : Int32))] [(.int (0 : Int32)), (.int (Own.b2i (own_emp 3 (fun i => if i = 2 then x2 else (fun i => if i = 1 then x1 else (fun i => if i = 0 then x0 else (fun _ => 0) i) i) i))))])) t
                      exact k
                    have hc123 : (Own.b2i (own_emp 3 (fun i => if i = 2 then x2 else (fun i => if i = 1 then x1 else (fun i => if i = 0 then x0 else (fun _ => 0) i) i) i))) = (0 : Int32) := by simp [own_emp, Own.b2i, hc5, hc24, hc51, hc114, hc115, hc116, hc117, hc118, hc119]
                    refine hD _ (T122.setTop (mkF m 259 #[.val (.int p0), .val (.long q1), .second, .val (.long q2), .second, .val (.long q3), .second, .val (.long q4), .second, .val (.int v1), .val (.long x0), .second, .val (.long x1), .second, .val (.long x2), .second, .val (.ref b86), .val (.ref b94), .val (.ref b106), .val (.int (0 : Int32))] [(.int (1 : Int32))])) (fun t k => ?_) ?_
                    · show Steps p.tables e below (T122.setTop (mkF m 251 #[.val (.int p0), .val (.long q1), .second, .val (.long q2), .second, .val (.long q3), .second, .val (.long q4), .second, .val (.int v1), .val (.long x0), .second, .val (.long x1), .second, .val (.long x2), .second, .val (.ref b86), .val (.ref b94), .val (.ref b106), .val (.int (0 : Int32))] [(.int (0 : Int32)), (.int (Own.b2i (own_emp 3 (fun i => if i = 2 then x2 else (fun i => if i = 1 then x1 else (fun i => if i = 0 then x0 else (fun _ => 0) i) i) i))))])) t
                      refine XS.icmpNo X122.here hx rfl (hb hby at_251) rfl (teq hc123).2 ?_
                      show Steps p.tables e below (T122.setTop (mkF m 254 #[.val (.int p0), .val (.long q1), .second, .val (.long q2), .second, .val (.long q3), .second, .val (.long q4), .second, .val (.int v1), .val (.long x0), .second, .val (.long x1), .second, .val (.long x2), .second, .val (.ref b86), .val (.ref b94), .val (.ref b106), .val (.int (0 : Int32))] [])) t
                      refine XS.iconst X122.here hx rfl (hb hby at_254) ?_
                      show Steps p.tables e below (T122.setTop (mkF m 255 #[.val (.int p0), .val (.long q1), .second, .val (.long q2), .second, .val (.long q3), .second, .val (.long q4), .second, .val (.int v1), .val (.long x0), .second, .val (.long x1), .second, .val (.long x2), .second, .val (.ref b86), .val (.ref b94), .val (.ref b106), .val (.int (0 : Int32))] [(.int (1 : Int32))])) t
                      refine XS.goto X122.here hx rfl (pc0 := 255) (pc' := 259) rfl (hb hby at_255) (by decide) (by decide) ?_
                      show Steps p.tables e below (T122.setTop (mkF m 259 #[.val (.int p0), .val (.long q1), .second, .val (.long q2), .second, .val (.long q3), .second, .val (.long q4), .second, .val (.int v1), .val (.long x0), .second, .val (.long x1), .second, .val (.long x2), .second, .val (.ref b86), .val (.ref b94), .val (.ref b106), .val (.int (0 : Int32))] [(.int (1 : Int32))])) t
                      exact k
                    exact Own.retN hR X122 hx (t := .boolean) hret (by simp) (hb hby at_259) (by decide) (by decide) (by decide) ⟨rfl, N122⟩
                · obtain ⟨T124, _, L124, X124, ⟨rfl, Nq124, e124⟩, st124⟩ := Own.callV (y := (⟨"com/example/eurycleia/eurycleia/core/Query", "isEmpty", "()Z"⟩ : MethodName)) (W := 0) (argsL := []) (rest := []) (a := b106) X111 hx hZ hown (hw _ (List.mem_of_getElem? (i := 19) rfl)) (hw _ (List.mem_of_getElem? (i := 20) rfl)) (hw _ (List.mem_of_getElem? (i := 22) rfl)) (hw _ (List.mem_of_getElem? (i := 21) rfl)) (hw _ (List.mem_of_getElem? (i := 3) rfl)) (hw _ (List.mem_of_getElem? (i := 23) rfl)) (by decide) rfl E111 (rm13 l Z a0 hw [] b106 b86 (fun i => if i = 2 then x2 else (fun i => if i = 1 then x1 else (fun i => if i = 0 then x0 else (fun _ => 0) i) i) i) T111.heap n0 F111 f112) (by decide) (by decide) (by decide) (by decide) (g := (mkF m 246 #[.val (.int p0), .val (.long q1), .second, .val (.long q2), .second, .val (.long q3), .second, .val (.long q4), .second, .val (.int v1), .val (.long x0), .second, .val (.long x1), .second, .val (.long x2), .second, .val (.ref b86), .val (.ref b94), .val (.ref b106), .val (.int (0 : Int32))] [(.ref b106)])) rfl (by rw [hml]; rfl) (lenOf pd_2 rfl) rfl (by show 2 * 0 + _ ≤ _; exact Nat.le_of_eq rfl) (hb hby at_246)
                  have N124 := Fr.app N111 Nq124
                  refine hD _ (T124.setTop (mkF m 251 #[.val (.int p0), .val (.long q1), .second, .val (.long q2), .second, .val (.long q3), .second, .val (.long q4), .second, .val (.int v1), .val (.long x0), .second, .val (.long x1), .second, .val (.long x2), .second, .val (.ref b86), .val (.ref b94), .val (.ref b106), .val (.int (0 : Int32))] [(.int (0 : Int32)), (.int (Own.b2i (own_emp 3 (fun i => if i = 2 then x2 else (fun i => if i = 1 then x1 else (fun i => if i = 0 then x0 else (fun _ => 0) i) i) i))))])) (fun t k => ?_) ?_
                  · show Steps p.tables e below (T111.setTop (mkF m 221 #[.val (.int p0), .val (.long q1), .second, .val (.long q2), .second, .val (.long q3), .second, .val (.long q4), .second, .val (.int v1), .val (.long x0), .second, .val (.long x1), .second, .val (.long x2), .second, .val (.ref b86), .val (.ref b94), .val (.ref b106), .unset] [(.int (lcmpW x1 (0 : Int64)))])) t
                    refine XS.ifYes X111.here hx rfl (pc0 := 221) (pc' := 241) rfl (hb hby at_221) rfl ((if0 _ _).trans (feq (fun q => hc117 ((lw_eq x1 (0 : Int64)).mp q))).2) (by decide) (by decide) ?_
                    show Steps p.tables e below (T111.setTop (mkF m 241 #[.val (.int p0), .val (.long q1), .second, .val (.long q2), .second, .val (.long q3), .second, .val (.long q4), .second, .val (.int v1), .val (.long x0), .second, .val (.long x1), .second, .val (.long x2), .second, .val (.ref b86), .val (.ref b94), .val (.ref b106), .unset] [])) t
                    refine XS.iconst X111.here hx rfl (hb hby at_241) ?_
                    show Steps p.tables e below (T111.setTop (mkF m 242 #[.val (.int p0), .val (.long q1), .second, .val (.long q2), .second, .val (.long q3), .second, .val (.long q4), .second, .val (.int v1), .val (.long x0), .second, .val (.long x1), .second, .val (.long x2), .second, .val (.ref b86), .val (.ref b94), .val (.ref b106), .unset] [(.int (0 : Int32))])) t
                    refine XS.istore X111.here hx rfl (hb hby at_242) rfl (l' := #[.val (.int p0), .val (.long q1), .second, .val (.long q2), .second, .val (.long q3), .second, .val (.long q4), .second, .val (.int v1), .val (.long x0), .second, .val (.long x1), .second, .val (.long x2), .second, .val (.ref b86), .val (.ref b94), .val (.ref b106), .val (.int (0 : Int32))]) rfl ?_
                    show Steps p.tables e below (T111.setTop (mkF m 244 #[.val (.int p0), .val (.long q1), .second, .val (.long q2), .second, .val (.long q3), .second, .val (.long q4), .second, .val (.int v1), .val (.long x0), .second, .val (.long x1), .second, .val (.long x2), .second, .val (.ref b86), .val (.ref b94), .val (.ref b106), .val (.int (0 : Int32))] [])) t
                    refine XS.aload X111.here hx rfl (hb hby at_244) rfl rfl ?_
                    show Steps p.tables e below (T111.setTop (mkF m 246 #[.val (.int p0), .val (.long q1), .second, .val (.long q2), .second, .val (.long q3), .second, .val (.long q4), .second, .val (.int v1), .val (.long x0), .second, .val (.long x1), .second, .val (.long x2), .second, .val (.ref b86), .val (.ref b94), .val (.ref b106), .val (.int (0 : Int32))] [(.ref b106)])) t
                    refine st124 _ ?_
                    show Steps p.tables e below (T124.setTop (mkF m 249 #[.val (.int p0), .val (.long q1), .second, .val (.long q2), .second, .val (.long q3), .second, .val (.long q4), .second, .val (.int v1), .val (.long x0), .second, .val (.long x1), .second, .val (.long x2), .second, .val (.ref b86), .val (.ref b94), .val (.ref b106), .val (.int (0 : Int32))] [(.int (Own.b2i (own_emp 3 (fun i => if i = 2 then x2 else (fun i => if i = 1 then x1 else (fun i => if i = 0 then x0 else (fun _ => 0) i) i) i))))])) t
                    refine XS.iload X124.here hx rfl (hb hby at_249) rfl ?_
                    show Steps p.tables e below (T124.setTop (mkF m 251 #[.val (.int p0), .val (.long q1), .second, .val (.long q2), .second, .val (.long q3), .second, .val (.long q4), .second, .val (.int v1), .val (.long x0), .second, .val (.long x1), .second, .val (.long x2), .second, .val (.ref b86), .val (.ref b94), .val (.ref b106), .val (.int (0 : Int32))] [(.int (0 : Int32)), (.int (Own.b2i (own_emp 3 (fun i => if i = 2 then x2 else (fun i => if i = 1 then x1 else (fun i => if i = 0 then x0 else (fun _ => 0) i) i) i))))])) t
                    exact k
                  have hc125 : (Own.b2i (own_emp 3 (fun i => if i = 2 then x2 else (fun i => if i = 1 then x1 else (fun i => if i = 0 then x0 else (fun _ => 0) i) i) i))) = (0 : Int32) := by simp [own_emp, Own.b2i, hc5, hc24, hc51, hc114, hc115, hc116, hc117]
                  refine hD _ (T124.setTop (mkF m 259 #[.val (.int p0), .val (.long q1), .second, .val (.long q2), .second, .val (.long q3), .second, .val (.long q4), .second, .val (.int v1), .val (.long x0), .second, .val (.long x1), .second, .val (.long x2), .second, .val (.ref b86), .val (.ref b94), .val (.ref b106), .val (.int (0 : Int32))] [(.int (1 : Int32))])) (fun t k => ?_) ?_
                  · show Steps p.tables e below (T124.setTop (mkF m 251 #[.val (.int p0), .val (.long q1), .second, .val (.long q2), .second, .val (.long q3), .second, .val (.long q4), .second, .val (.int v1), .val (.long x0), .second, .val (.long x1), .second, .val (.long x2), .second, .val (.ref b86), .val (.ref b94), .val (.ref b106), .val (.int (0 : Int32))] [(.int (0 : Int32)), (.int (Own.b2i (own_emp 3 (fun i => if i = 2 then x2 else (fun i => if i = 1 then x1 else (fun i => if i = 0 then x0 else (fun _ => 0) i) i) i))))])) t
                    refine XS.icmpNo X124.here hx rfl (hb hby at_251) rfl (teq hc125).2 ?_
                    show Steps p.tables e below (T124.setTop (mkF m 254 #[.val (.int p0), .val (.long q1), .second, .val (.long q2), .second, .val (.long q3), .second, .val (.long q4), .second, .val (.int v1), .val (.long x0), .second, .val (.long x1), .second, .val (.long x2), .second, .val (.ref b86), .val (.ref b94), .val (.ref b106), .val (.int (0 : Int32))] [])) t
                    refine XS.iconst X124.here hx rfl (hb hby at_254) ?_
                    show Steps p.tables e below (T124.setTop (mkF m 255 #[.val (.int p0), .val (.long q1), .second, .val (.long q2), .second, .val (.long q3), .second, .val (.long q4), .second, .val (.int v1), .val (.long x0), .second, .val (.long x1), .second, .val (.long x2), .second, .val (.ref b86), .val (.ref b94), .val (.ref b106), .val (.int (0 : Int32))] [(.int (1 : Int32))])) t
                    refine XS.goto X124.here hx rfl (pc0 := 255) (pc' := 259) rfl (hb hby at_255) (by decide) (by decide) ?_
                    show Steps p.tables e below (T124.setTop (mkF m 259 #[.val (.int p0), .val (.long q1), .second, .val (.long q2), .second, .val (.long q3), .second, .val (.long q4), .second, .val (.int v1), .val (.long x0), .second, .val (.long x1), .second, .val (.long x2), .second, .val (.ref b86), .val (.ref b94), .val (.ref b106), .val (.int (0 : Int32))] [(.int (1 : Int32))])) t
                    exact k
                  exact Own.retN hR X124 hx (t := .boolean) hret (by simp) (hb hby at_259) (by decide) (by decide) (by decide) ⟨rfl, N124⟩
              · obtain ⟨T126, _, L126, X126, ⟨rfl, Nq126, e126⟩, st126⟩ := Own.callV (y := (⟨"com/example/eurycleia/eurycleia/core/Query", "isEmpty", "()Z"⟩ : MethodName)) (W := 0) (argsL := []) (rest := []) (a := b106) X111 hx hZ hown (hw _ (List.mem_of_getElem? (i := 19) rfl)) (hw _ (List.mem_of_getElem? (i := 20) rfl)) (hw _ (List.mem_of_getElem? (i := 22) rfl)) (hw _ (List.mem_of_getElem? (i := 21) rfl)) (hw _ (List.mem_of_getElem? (i := 3) rfl)) (hw _ (List.mem_of_getElem? (i := 23) rfl)) (by decide) rfl E111 (rm13 l Z a0 hw [] b106 b86 (fun i => if i = 2 then x2 else (fun i => if i = 1 then x1 else (fun i => if i = 0 then x0 else (fun _ => 0) i) i) i) T111.heap n0 F111 f112) (by decide) (by decide) (by decide) (by decide) (g := (mkF m 246 #[.val (.int p0), .val (.long q1), .second, .val (.long q2), .second, .val (.long q3), .second, .val (.long q4), .second, .val (.int v1), .val (.long x0), .second, .val (.long x1), .second, .val (.long x2), .second, .val (.ref b86), .val (.ref b94), .val (.ref b106), .val (.int (0 : Int32))] [(.ref b106)])) rfl (by rw [hml]; rfl) (lenOf pd_2 rfl) rfl (by show 2 * 0 + _ ≤ _; exact Nat.le_of_eq rfl) (hb hby at_246)
                have N126 := Fr.app N111 Nq126
                refine hD _ (T126.setTop (mkF m 251 #[.val (.int p0), .val (.long q1), .second, .val (.long q2), .second, .val (.long q3), .second, .val (.long q4), .second, .val (.int v1), .val (.long x0), .second, .val (.long x1), .second, .val (.long x2), .second, .val (.ref b86), .val (.ref b94), .val (.ref b106), .val (.int (0 : Int32))] [(.int (0 : Int32)), (.int (Own.b2i (own_emp 3 (fun i => if i = 2 then x2 else (fun i => if i = 1 then x1 else (fun i => if i = 0 then x0 else (fun _ => 0) i) i) i))))])) (fun t k => ?_) ?_
                · show Steps p.tables e below (T111.setTop (mkF m 208 #[.val (.int p0), .val (.long q1), .second, .val (.long q2), .second, .val (.long q3), .second, .val (.long q4), .second, .val (.int v1), .val (.long x0), .second, .val (.long x1), .second, .val (.long x2), .second, .val (.ref b86), .val (.ref b94), .val (.ref b106), .unset] [(.int (lcmpW x0 (0 : Int64)))])) t
                  refine XS.ifYes X111.here hx rfl (pc0 := 208) (pc' := 241) rfl (hb hby at_208) rfl ((if0 _ _).trans (feq (fun q => hc115 ((lw_eq x0 (0 : Int64)).mp q))).2) (by decide) (by decide) ?_
                  show Steps p.tables e below (T111.setTop (mkF m 241 #[.val (.int p0), .val (.long q1), .second, .val (.long q2), .second, .val (.long q3), .second, .val (.long q4), .second, .val (.int v1), .val (.long x0), .second, .val (.long x1), .second, .val (.long x2), .second, .val (.ref b86), .val (.ref b94), .val (.ref b106), .unset] [])) t
                  refine XS.iconst X111.here hx rfl (hb hby at_241) ?_
                  show Steps p.tables e below (T111.setTop (mkF m 242 #[.val (.int p0), .val (.long q1), .second, .val (.long q2), .second, .val (.long q3), .second, .val (.long q4), .second, .val (.int v1), .val (.long x0), .second, .val (.long x1), .second, .val (.long x2), .second, .val (.ref b86), .val (.ref b94), .val (.ref b106), .unset] [(.int (0 : Int32))])) t
                  refine XS.istore X111.here hx rfl (hb hby at_242) rfl (l' := #[.val (.int p0), .val (.long q1), .second, .val (.long q2), .second, .val (.long q3), .second, .val (.long q4), .second, .val (.int v1), .val (.long x0), .second, .val (.long x1), .second, .val (.long x2), .second, .val (.ref b86), .val (.ref b94), .val (.ref b106), .val (.int (0 : Int32))]) rfl ?_
                  show Steps p.tables e below (T111.setTop (mkF m 244 #[.val (.int p0), .val (.long q1), .second, .val (.long q2), .second, .val (.long q3), .second, .val (.long q4), .second, .val (.int v1), .val (.long x0), .second, .val (.long x1), .second, .val (.long x2), .second, .val (.ref b86), .val (.ref b94), .val (.ref b106), .val (.int (0 : Int32))] [])) t
                  refine XS.aload X111.here hx rfl (hb hby at_244) rfl rfl ?_
                  show Steps p.tables e below (T111.setTop (mkF m 246 #[.val (.int p0), .val (.long q1), .second, .val (.long q2), .second, .val (.long q3), .second, .val (.long q4), .second, .val (.int v1), .val (.long x0), .second, .val (.long x1), .second, .val (.long x2), .second, .val (.ref b86), .val (.ref b94), .val (.ref b106), .val (.int (0 : Int32))] [(.ref b106)])) t
                  refine st126 _ ?_
                  show Steps p.tables e below (T126.setTop (mkF m 249 #[.val (.int p0), .val (.long q1), .second, .val (.long q2), .second, .val (.long q3), .second, .val (.long q4), .second, .val (.int v1), .val (.long x0), .second, .val (.long x1), .second, .val (.long x2), .second, .val (.ref b86), .val (.ref b94), .val (.ref b106), .val (.int (0 : Int32))] [(.int (Own.b2i (own_emp 3 (fun i => if i = 2 then x2 else (fun i => if i = 1 then x1 else (fun i => if i = 0 then x0 else (fun _ => 0) i) i) i))))])) t
                  refine XS.iload X126.here hx rfl (hb hby at_249) rfl ?_
                  show Steps p.tables e below (T126.setTop (mkF m 251 #[.val (.int p0), .val (.long q1), .second, .val (.long q2), .second, .val (.long q3), .second, .val (.long q4), .second, .val (.int v1), .val (.long x0), .second, .val (.long x1), .second, .val (.long x2), .second, .val (.ref b86), .val (.ref b94), .val (.ref b106), .val (.int (0 : Int32))] [(.int (0 : Int32)), (.int (Own.b2i (own_emp 3 (fun i => if i = 2 then x2 else (fun i => if i = 1 then x1 else (fun i => if i = 0 then x0 else (fun _ => 0) i) i) i))))])) t
                  exact k
                have hc127 : (Own.b2i (own_emp 3 (fun i => if i = 2 then x2 else (fun i => if i = 1 then x1 else (fun i => if i = 0 then x0 else (fun _ => 0) i) i) i))) = (0 : Int32) := by simp [own_emp, Own.b2i, hc5, hc24, hc51, hc114, hc115]
                refine hD _ (T126.setTop (mkF m 259 #[.val (.int p0), .val (.long q1), .second, .val (.long q2), .second, .val (.long q3), .second, .val (.long q4), .second, .val (.int v1), .val (.long x0), .second, .val (.long x1), .second, .val (.long x2), .second, .val (.ref b86), .val (.ref b94), .val (.ref b106), .val (.int (0 : Int32))] [(.int (1 : Int32))])) (fun t k => ?_) ?_
                · show Steps p.tables e below (T126.setTop (mkF m 251 #[.val (.int p0), .val (.long q1), .second, .val (.long q2), .second, .val (.long q3), .second, .val (.long q4), .second, .val (.int v1), .val (.long x0), .second, .val (.long x1), .second, .val (.long x2), .second, .val (.ref b86), .val (.ref b94), .val (.ref b106), .val (.int (0 : Int32))] [(.int (0 : Int32)), (.int (Own.b2i (own_emp 3 (fun i => if i = 2 then x2 else (fun i => if i = 1 then x1 else (fun i => if i = 0 then x0 else (fun _ => 0) i) i) i))))])) t
                  refine XS.icmpNo X126.here hx rfl (hb hby at_251) rfl (teq hc127).2 ?_
                  show Steps p.tables e below (T126.setTop (mkF m 254 #[.val (.int p0), .val (.long q1), .second, .val (.long q2), .second, .val (.long q3), .second, .val (.long q4), .second, .val (.int v1), .val (.long x0), .second, .val (.long x1), .second, .val (.long x2), .second, .val (.ref b86), .val (.ref b94), .val (.ref b106), .val (.int (0 : Int32))] [])) t
                  refine XS.iconst X126.here hx rfl (hb hby at_254) ?_
                  show Steps p.tables e below (T126.setTop (mkF m 255 #[.val (.int p0), .val (.long q1), .second, .val (.long q2), .second, .val (.long q3), .second, .val (.long q4), .second, .val (.int v1), .val (.long x0), .second, .val (.long x1), .second, .val (.long x2), .second, .val (.ref b86), .val (.ref b94), .val (.ref b106), .val (.int (0 : Int32))] [(.int (1 : Int32))])) t
                  refine XS.goto X126.here hx rfl (pc0 := 255) (pc' := 259) rfl (hb hby at_255) (by decide) (by decide) ?_
                  show Steps p.tables e below (T126.setTop (mkF m 259 #[.val (.int p0), .val (.long q1), .second, .val (.long q2), .second, .val (.long q3), .second, .val (.long q4), .second, .val (.int v1), .val (.long x0), .second, .val (.long x1), .second, .val (.long x2), .second, .val (.ref b86), .val (.ref b94), .val (.ref b106), .val (.int (0 : Int32))] [(.int (1 : Int32))])) t
                  exact k
                exact Own.retN hR X126 hx (t := .boolean) hret (by simp) (hb hby at_259) (by decide) (by decide) (by decide) ⟨rfl, N126⟩
      refine hD _ (T3.setTop (mkF m 40 #[.val (.int p0), .val (.long q1), .second, .val (.long q2), .second, .val (.long q3), .second, .val (.long q4), .second, .val (.int v1), .val (.long x0), .second, .val (.long x1), .second, .unset, .unset, .unset, .unset, .unset, .unset] [(.int (((p0.toUInt32 >>> ((4 : Int32) &&& 31).toUInt32).toInt32) &&& (1 : Int32)))])) (fun t k => ?_) ?_
      · show Steps p.tables e below (T3.setTop (mkF m 35 #[.val (.int p0), .val (.long q1), .second, .val (.long q2), .second, .val (.long q3), .second, .val (.long q4), .second, .val (.int v1), .val (.long x0), .second, .val (.long x1), .second, .unset, .unset, .unset, .unset, .unset, .unset] [])) t
        refine XS.iloadN X3.here hx rfl (hb hby at_35) rfl ?_
        show Steps p.tables e below (T3.setTop (mkF m 36 #[.val (.int p0), .val (.long q1), .second, .val (.long q2), .second, .val (.long q3), .second, .val (.long q4), .second, .val (.int v1), .val (.long x0), .second, .val (.long x1), .second, .unset, .unset, .unset, .unset, .unset, .unset] [(.int p0)])) t
        refine XS.iconst X3.here hx rfl (hb hby at_36) ?_
        show Steps p.tables e below (T3.setTop (mkF m 37 #[.val (.int p0), .val (.long q1), .second, .val (.long q2), .second, .val (.long q3), .second, .val (.long q4), .second, .val (.int v1), .val (.long x0), .second, .val (.long x1), .second, .unset, .unset, .unset, .unset, .unset, .unset] [(.int (4 : Int32)), (.int p0)])) t
        refine XS.iushr X3.here hx rfl (hb hby at_37) rfl ?_
        show Steps p.tables e below (T3.setTop (mkF m 38 #[.val (.int p0), .val (.long q1), .second, .val (.long q2), .second, .val (.long q3), .second, .val (.long q4), .second, .val (.int v1), .val (.long x0), .second, .val (.long x1), .second, .unset, .unset, .unset, .unset, .unset, .unset] [(.int ((p0.toUInt32 >>> ((4 : Int32) &&& 31).toUInt32).toInt32))])) t
        refine XS.iconst X3.here hx rfl (hb hby at_38) ?_
        show Steps p.tables e below (T3.setTop (mkF m 39 #[.val (.int p0), .val (.long q1), .second, .val (.long q2), .second, .val (.long q3), .second, .val (.long q4), .second, .val (.int v1), .val (.long x0), .second, .val (.long x1), .second, .unset, .unset, .unset, .unset, .unset, .unset] [(.int (1 : Int32)), (.int ((p0.toUInt32 >>> ((4 : Int32) &&& 31).toUInt32).toInt32))])) t
        refine XS.iand X3.here hx rfl (hb hby at_39) rfl ?_
        show Steps p.tables e below (T3.setTop (mkF m 40 #[.val (.int p0), .val (.long q1), .second, .val (.long q2), .second, .val (.long q3), .second, .val (.long q4), .second, .val (.int v1), .val (.long x0), .second, .val (.long x1), .second, .unset, .unset, .unset, .unset, .unset, .unset] [(.int (((p0.toUInt32 >>> ((4 : Int32) &&& 31).toUInt32).toInt32) &&& (1 : Int32)))])) t
        exact k
      by_cases hc128 : (((p0.toUInt32 >>> ((4 : Int32) &&& 31).toUInt32).toInt32) &&& (1 : Int32)) = (0 : Int32)
      · refine hD _ (T3.setTop (mkF m 49 #[.val (.int p0), .val (.long q1), .second, .val (.long q2), .second, .val (.long q3), .second, .val (.long q4), .second, .val (.int v1), .val (.long x0), .second, .val (.long x1), .second, .unset, .unset, .unset, .unset, .unset, .unset] [(.long q3)])) (fun t k => ?_) ?_
        · show Steps p.tables e below (T3.setTop (mkF m 40 #[.val (.int p0), .val (.long q1), .second, .val (.long q2), .second, .val (.long q3), .second, .val (.long q4), .second, .val (.int v1), .val (.long x0), .second, .val (.long x1), .second, .unset, .unset, .unset, .unset, .unset, .unset] [(.int (((p0.toUInt32 >>> ((4 : Int32) &&& 31).toUInt32).toInt32) &&& (1 : Int32)))])) t
          refine XS.ifYes X3.here hx rfl (pc0 := 40) (pc' := 47) rfl (hb hby at_40) rfl ((if0 _ _).trans (teq hc128).1) (by decide) (by decide) ?_
          show Steps p.tables e below (T3.setTop (mkF m 47 #[.val (.int p0), .val (.long q1), .second, .val (.long q2), .second, .val (.long q3), .second, .val (.long q4), .second, .val (.int v1), .val (.long x0), .second, .val (.long x1), .second, .unset, .unset, .unset, .unset, .unset, .unset] [])) t
          refine XS.lload X3.here hx rfl (hb hby at_47) rfl ?_
          show Steps p.tables e below (T3.setTop (mkF m 49 #[.val (.int p0), .val (.long q1), .second, .val (.long q2), .second, .val (.long q3), .second, .val (.long q4), .second, .val (.int v1), .val (.long x0), .second, .val (.long x1), .second, .unset, .unset, .unset, .unset, .unset, .unset] [(.long q3)])) t
          exact k
        exact J49 T3 _ q3 X3 e3 N3 
      · refine hD _ (T3.setTop (mkF m 49 #[.val (.int p0), .val (.long q1), .second, .val (.long q2), .second, .val (.long q3), .second, .val (.long q4), .second, .val (.int v1), .val (.long x0), .second, .val (.long x1), .second, .unset, .unset, .unset, .unset, .unset, .unset] [(.long (0 : Int64))])) (fun t k => ?_) ?_
        · show Steps p.tables e below (T3.setTop (mkF m 40 #[.val (.int p0), .val (.long q1), .second, .val (.long q2), .second, .val (.long q3), .second, .val (.long q4), .second, .val (.int v1), .val (.long x0), .second, .val (.long x1), .second, .unset, .unset, .unset, .unset, .unset, .unset] [(.int (((p0.toUInt32 >>> ((4 : Int32) &&& 31).toUInt32).toInt32) &&& (1 : Int32)))])) t
          refine XS.ifNo X3.here hx rfl (hb hby at_40) rfl ((if0 _ _).trans (feq hc128).1) ?_
          show Steps p.tables e below (T3.setTop (mkF m 43 #[.val (.int p0), .val (.long q1), .second, .val (.long q2), .second, .val (.long q3), .second, .val (.long q4), .second, .val (.int v1), .val (.long x0), .second, .val (.long x1), .second, .unset, .unset, .unset, .unset, .unset, .unset] [])) t
          refine XS.lconst X3.here hx rfl (hb hby at_43) ?_
          show Steps p.tables e below (T3.setTop (mkF m 44 #[.val (.int p0), .val (.long q1), .second, .val (.long q2), .second, .val (.long q3), .second, .val (.long q4), .second, .val (.int v1), .val (.long x0), .second, .val (.long x1), .second, .unset, .unset, .unset, .unset, .unset, .unset] [(.long (0 : Int64))])) t
          refine XS.goto X3.here hx rfl (pc0 := 44) (pc' := 49) rfl (hb hby at_44) (by decide) (by decide) ?_
          show Steps p.tables e below (T3.setTop (mkF m 49 #[.val (.int p0), .val (.long q1), .second, .val (.long q2), .second, .val (.long q3), .second, .val (.long q4), .second, .val (.int v1), .val (.long x0), .second, .val (.long x1), .second, .unset, .unset, .unset, .unset, .unset, .unset] [(.long (0 : Int64))])) t
          exact k
        exact J49 T3 _ (0 : Int64) X3 e3 N3 
    refine hD _ (T2.setTop (mkF m 25 #[.val (.int p0), .val (.long q1), .second, .val (.long q2), .second, .val (.long q3), .second, .val (.long q4), .second, .val (.int v1), .val (.long x0), .second, .unset, .unset, .unset, .unset, .unset, .unset, .unset, .unset] [(.int (((p0.toUInt32 >>> ((3 : Int32) &&& 31).toUInt32).toInt32) &&& (1 : Int32)))])) (fun t k => ?_) ?_
    · show Steps p.tables e below (T2.setTop (mkF m 20 #[.val (.int p0), .val (.long q1), .second, .val (.long q2), .second, .val (.long q3), .second, .val (.long q4), .second, .val (.int v1), .val (.long x0), .second, .unset, .unset, .unset, .unset, .unset, .unset, .unset, .unset] [])) t
      refine XS.iloadN X2.here hx rfl (hb hby at_20) rfl ?_
      show Steps p.tables e below (T2.setTop (mkF m 21 #[.val (.int p0), .val (.long q1), .second, .val (.long q2), .second, .val (.long q3), .second, .val (.long q4), .second, .val (.int v1), .val (.long x0), .second, .unset, .unset, .unset, .unset, .unset, .unset, .unset, .unset] [(.int p0)])) t
      refine XS.iconst X2.here hx rfl (hb hby at_21) ?_
      show Steps p.tables e below (T2.setTop (mkF m 22 #[.val (.int p0), .val (.long q1), .second, .val (.long q2), .second, .val (.long q3), .second, .val (.long q4), .second, .val (.int v1), .val (.long x0), .second, .unset, .unset, .unset, .unset, .unset, .unset, .unset, .unset] [(.int (3 : Int32)), (.int p0)])) t
      refine XS.iushr X2.here hx rfl (hb hby at_22) rfl ?_
      show Steps p.tables e below (T2.setTop (mkF m 23 #[.val (.int p0), .val (.long q1), .second, .val (.long q2), .second, .val (.long q3), .second, .val (.long q4), .second, .val (.int v1), .val (.long x0), .second, .unset, .unset, .unset, .unset, .unset, .unset, .unset, .unset] [(.int ((p0.toUInt32 >>> ((3 : Int32) &&& 31).toUInt32).toInt32))])) t
      refine XS.iconst X2.here hx rfl (hb hby at_23) ?_
      show Steps p.tables e below (T2.setTop (mkF m 24 #[.val (.int p0), .val (.long q1), .second, .val (.long q2), .second, .val (.long q3), .second, .val (.long q4), .second, .val (.int v1), .val (.long x0), .second, .unset, .unset, .unset, .unset, .unset, .unset, .unset, .unset] [(.int (1 : Int32)), (.int ((p0.toUInt32 >>> ((3 : Int32) &&& 31).toUInt32).toInt32))])) t
      refine XS.iand X2.here hx rfl (hb hby at_24) rfl ?_
      show Steps p.tables e below (T2.setTop (mkF m 25 #[.val (.int p0), .val (.long q1), .second, .val (.long q2), .second, .val (.long q3), .second, .val (.long q4), .second, .val (.int v1), .val (.long x0), .second, .unset, .unset, .unset, .unset, .unset, .unset, .unset, .unset] [(.int (((p0.toUInt32 >>> ((3 : Int32) &&& 31).toUInt32).toInt32) &&& (1 : Int32)))])) t
      exact k
    by_cases hc129 : (((p0.toUInt32 >>> ((3 : Int32) &&& 31).toUInt32).toInt32) &&& (1 : Int32)) = (0 : Int32)
    · refine hD _ (T2.setTop (mkF m 33 #[.val (.int p0), .val (.long q1), .second, .val (.long q2), .second, .val (.long q3), .second, .val (.long q4), .second, .val (.int v1), .val (.long x0), .second, .unset, .unset, .unset, .unset, .unset, .unset, .unset, .unset] [(.long q2)])) (fun t k => ?_) ?_
      · show Steps p.tables e below (T2.setTop (mkF m 25 #[.val (.int p0), .val (.long q1), .second, .val (.long q2), .second, .val (.long q3), .second, .val (.long q4), .second, .val (.int v1), .val (.long x0), .second, .unset, .unset, .unset, .unset, .unset, .unset, .unset, .unset] [(.int (((p0.toUInt32 >>> ((3 : Int32) &&& 31).toUInt32).toInt32) &&& (1 : Int32)))])) t
        refine XS.ifYes X2.here hx rfl (pc0 := 25) (pc' := 32) rfl (hb hby at_25) rfl ((if0 _ _).trans (teq hc129).1) (by decide) (by decide) ?_
        show Steps p.tables e below (T2.setTop (mkF m 32 #[.val (.int p0), .val (.long q1), .second, .val (.long q2), .second, .val (.long q3), .second, .val (.long q4), .second, .val (.int v1), .val (.long x0), .second, .unset, .unset, .unset, .unset, .unset, .unset, .unset, .unset] [])) t
        refine XS.lloadN X2.here hx rfl (hb hby at_32) rfl ?_
        show Steps p.tables e below (T2.setTop (mkF m 33 #[.val (.int p0), .val (.long q1), .second, .val (.long q2), .second, .val (.long q3), .second, .val (.long q4), .second, .val (.int v1), .val (.long x0), .second, .unset, .unset, .unset, .unset, .unset, .unset, .unset, .unset] [(.long q2)])) t
        exact k
      exact J33 T2 _ q2 X2 e2 N2 
    · refine hD _ (T2.setTop (mkF m 33 #[.val (.int p0), .val (.long q1), .second, .val (.long q2), .second, .val (.long q3), .second, .val (.long q4), .second, .val (.int v1), .val (.long x0), .second, .unset, .unset, .unset, .unset, .unset, .unset, .unset, .unset] [(.long (0 : Int64))])) (fun t k => ?_) ?_
      · show Steps p.tables e below (T2.setTop (mkF m 25 #[.val (.int p0), .val (.long q1), .second, .val (.long q2), .second, .val (.long q3), .second, .val (.long q4), .second, .val (.int v1), .val (.long x0), .second, .unset, .unset, .unset, .unset, .unset, .unset, .unset, .unset] [(.int (((p0.toUInt32 >>> ((3 : Int32) &&& 31).toUInt32).toInt32) &&& (1 : Int32)))])) t
        refine XS.ifNo X2.here hx rfl (hb hby at_25) rfl ((if0 _ _).trans (feq hc129).1) ?_
        show Steps p.tables e below (T2.setTop (mkF m 28 #[.val (.int p0), .val (.long q1), .second, .val (.long q2), .second, .val (.long q3), .second, .val (.long q4), .second, .val (.int v1), .val (.long x0), .second, .unset, .unset, .unset, .unset, .unset, .unset, .unset, .unset] [])) t
        refine XS.lconst X2.here hx rfl (hb hby at_28) ?_
        show Steps p.tables e below (T2.setTop (mkF m 29 #[.val (.int p0), .val (.long q1), .second, .val (.long q2), .second, .val (.long q3), .second, .val (.long q4), .second, .val (.int v1), .val (.long x0), .second, .unset, .unset, .unset, .unset, .unset, .unset, .unset, .unset] [(.long (0 : Int64))])) t
        refine XS.goto X2.here hx rfl (pc0 := 29) (pc' := 33) rfl (hb hby at_29) (by decide) (by decide) ?_
        show Steps p.tables e below (T2.setTop (mkF m 33 #[.val (.int p0), .val (.long q1), .second, .val (.long q2), .second, .val (.long q3), .second, .val (.long q4), .second, .val (.int v1), .val (.long x0), .second, .unset, .unset, .unset, .unset, .unset, .unset, .unset, .unset] [(.long (0 : Int64))])) t
        exact k
      exact J33 T2 _ (0 : Int64) X2 e2 N2 
  refine hD _ (s₁.setTop (mkF m 10 #[.val (.int p0), .val (.long q1), .second, .val (.long q2), .second, .val (.long q3), .second, .val (.long q4), .second, .val (.int v1), .unset, .unset, .unset, .unset, .unset, .unset, .unset, .unset, .unset, .unset] [(.int (((p0.toUInt32 >>> ((2 : Int32) &&& 31).toUInt32).toInt32) &&& (1 : Int32)))])) (fun t k => ?_) ?_
  · show Steps p.tables e below (s₁.setTop (mkF m 5 #[.val (.int p0), .val (.long q1), .second, .val (.long q2), .second, .val (.long q3), .second, .val (.long q4), .second, .val (.int v1), .unset, .unset, .unset, .unset, .unset, .unset, .unset, .unset, .unset, .unset] [])) t
    refine XS.iloadN X0.here hx rfl (hb hby at_5) rfl ?_
    show Steps p.tables e below (s₁.setTop (mkF m 6 #[.val (.int p0), .val (.long q1), .second, .val (.long q2), .second, .val (.long q3), .second, .val (.long q4), .second, .val (.int v1), .unset, .unset, .unset, .unset, .unset, .unset, .unset, .unset, .unset, .unset] [(.int p0)])) t
    refine XS.iconst X0.here hx rfl (hb hby at_6) ?_
    show Steps p.tables e below (s₁.setTop (mkF m 7 #[.val (.int p0), .val (.long q1), .second, .val (.long q2), .second, .val (.long q3), .second, .val (.long q4), .second, .val (.int v1), .unset, .unset, .unset, .unset, .unset, .unset, .unset, .unset, .unset, .unset] [(.int (2 : Int32)), (.int p0)])) t
    refine XS.iushr X0.here hx rfl (hb hby at_7) rfl ?_
    show Steps p.tables e below (s₁.setTop (mkF m 8 #[.val (.int p0), .val (.long q1), .second, .val (.long q2), .second, .val (.long q3), .second, .val (.long q4), .second, .val (.int v1), .unset, .unset, .unset, .unset, .unset, .unset, .unset, .unset, .unset, .unset] [(.int ((p0.toUInt32 >>> ((2 : Int32) &&& 31).toUInt32).toInt32))])) t
    refine XS.iconst X0.here hx rfl (hb hby at_8) ?_
    show Steps p.tables e below (s₁.setTop (mkF m 9 #[.val (.int p0), .val (.long q1), .second, .val (.long q2), .second, .val (.long q3), .second, .val (.long q4), .second, .val (.int v1), .unset, .unset, .unset, .unset, .unset, .unset, .unset, .unset, .unset, .unset] [(.int (1 : Int32)), (.int ((p0.toUInt32 >>> ((2 : Int32) &&& 31).toUInt32).toInt32))])) t
    refine XS.iand X0.here hx rfl (hb hby at_9) rfl ?_
    show Steps p.tables e below (s₁.setTop (mkF m 10 #[.val (.int p0), .val (.long q1), .second, .val (.long q2), .second, .val (.long q3), .second, .val (.long q4), .second, .val (.int v1), .unset, .unset, .unset, .unset, .unset, .unset, .unset, .unset, .unset, .unset] [(.int (((p0.toUInt32 >>> ((2 : Int32) &&& 31).toUInt32).toInt32) &&& (1 : Int32)))])) t
    exact k
  by_cases hc130 : (((p0.toUInt32 >>> ((2 : Int32) &&& 31).toUInt32).toInt32) &&& (1 : Int32)) = (0 : Int32)
  · refine hD _ (s₁.setTop (mkF m 18 #[.val (.int p0), .val (.long q1), .second, .val (.long q2), .second, .val (.long q3), .second, .val (.long q4), .second, .val (.int v1), .unset, .unset, .unset, .unset, .unset, .unset, .unset, .unset, .unset, .unset] [(.long q1)])) (fun t k => ?_) ?_
    · show Steps p.tables e below (s₁.setTop (mkF m 10 #[.val (.int p0), .val (.long q1), .second, .val (.long q2), .second, .val (.long q3), .second, .val (.long q4), .second, .val (.int v1), .unset, .unset, .unset, .unset, .unset, .unset, .unset, .unset, .unset, .unset] [(.int (((p0.toUInt32 >>> ((2 : Int32) &&& 31).toUInt32).toInt32) &&& (1 : Int32)))])) t
      refine XS.ifYes X0.here hx rfl (pc0 := 10) (pc' := 17) rfl (hb hby at_10) rfl ((if0 _ _).trans (teq hc130).1) (by decide) (by decide) ?_
      show Steps p.tables e below (s₁.setTop (mkF m 17 #[.val (.int p0), .val (.long q1), .second, .val (.long q2), .second, .val (.long q3), .second, .val (.long q4), .second, .val (.int v1), .unset, .unset, .unset, .unset, .unset, .unset, .unset, .unset, .unset, .unset] [])) t
      refine XS.lloadN X0.here hx rfl (hb hby at_17) rfl ?_
      show Steps p.tables e below (s₁.setTop (mkF m 18 #[.val (.int p0), .val (.long q1), .second, .val (.long q2), .second, .val (.long q3), .second, .val (.long q4), .second, .val (.int v1), .unset, .unset, .unset, .unset, .unset, .unset, .unset, .unset, .unset, .unset] [(.long q1)])) t
      exact k
    exact J18 s₁ _ q1 X0 e0 N0 
  · refine hD _ (s₁.setTop (mkF m 18 #[.val (.int p0), .val (.long q1), .second, .val (.long q2), .second, .val (.long q3), .second, .val (.long q4), .second, .val (.int v1), .unset, .unset, .unset, .unset, .unset, .unset, .unset, .unset, .unset, .unset] [(.long (0 : Int64))])) (fun t k => ?_) ?_
    · show Steps p.tables e below (s₁.setTop (mkF m 10 #[.val (.int p0), .val (.long q1), .second, .val (.long q2), .second, .val (.long q3), .second, .val (.long q4), .second, .val (.int v1), .unset, .unset, .unset, .unset, .unset, .unset, .unset, .unset, .unset, .unset] [(.int (((p0.toUInt32 >>> ((2 : Int32) &&& 31).toUInt32).toInt32) &&& (1 : Int32)))])) t
      refine XS.ifNo X0.here hx rfl (hb hby at_10) rfl ((if0 _ _).trans (feq hc130).1) ?_
      show Steps p.tables e below (s₁.setTop (mkF m 13 #[.val (.int p0), .val (.long q1), .second, .val (.long q2), .second, .val (.long q3), .second, .val (.long q4), .second, .val (.int v1), .unset, .unset, .unset, .unset, .unset, .unset, .unset, .unset, .unset, .unset] [])) t
      refine XS.lconst X0.here hx rfl (hb hby at_13) ?_
      show Steps p.tables e below (s₁.setTop (mkF m 14 #[.val (.int p0), .val (.long q1), .second, .val (.long q2), .second, .val (.long q3), .second, .val (.long q4), .second, .val (.int v1), .unset, .unset, .unset, .unset, .unset, .unset, .unset, .unset, .unset, .unset] [(.long (0 : Int64))])) t
      refine XS.goto X0.here hx rfl (pc0 := 14) (pc' := 18) rfl (hb hby at_14) (by decide) (by decide) ?_
      show Steps p.tables e below (s₁.setTop (mkF m 18 #[.val (.int p0), .val (.long q1), .second, .val (.long q2), .second, .val (.long q3), .second, .val (.long q4), .second, .val (.int v1), .unset, .unset, .unset, .unset, .unset, .unset, .unset, .unset, .unset, .unset] [(.long (0 : Int64))])) t
      exact k
    exact J18 s₁ _ (0 : Int64) X0 e0 N0 
set_option maxRecDepth 65536 in
set_option maxHeartbeats 40000000 in
theorem comes_1 {Post : Tables → Env → Array Value → State → Outcome → State → Prop} (hpost : ∀ tb e args s v u, (limb_1_1.after args s (.returned v) u = true ∧ limb_1_2.after args s (.returned v) u = true ∧ True) → FrameEnd s (.returned v) u (Jvm.fieldLocs frame_1_writes args s ++ Jvm.arrayLocs frame_1_arrays args s ++ Jvm.staticLocs frame_1_statics s) 16 128 → Post tb e args s (.returned v) u) :
    ArmFor flags0 classFile x code maxLocals ret World_1 tables_1 room_1 Calls_1 rest_1 Pre_1 Post := by
  intro l hfl _ _ p e ha hc hk s m args below hf hA hF happ hP
  obtain ⟨hcalls, hrest, hpre⟩ := hP
  obtain ⟨-, -, -, hnamed, -, -, -, hat⟩ := (Spec.applies_iff hf).mp happ
  obtain ⟨hg, hn⟩ := and_e (Cond.before_iff.mp (show (Jvm.Cond.and given_1 narrow_1).before args s = true from hpre))
  obtain ⟨hcnt, hg0⟩ := and_e hg
  obtain ⟨ga0, hg1⟩ := and_e hg0
  obtain ⟨ga1, hg2⟩ := and_e hg1
  obtain ⟨ga2, hg3⟩ := and_e hg2
  obtain ⟨ga3, hg4⟩ := and_e hg3
  obtain ⟨w0, w1, w2, w3, w4, rfl⟩ : ∃ w0 w1 w2 w3 w4 : Value, args = #[w0, w1, w2, w3, w4] := by
    have hs : args.size = 5 := by simpa [Cond.value, given_1] using hcnt
    obtain ⟨L⟩ := args
    match L, hs with
    | [w0, w1, w2, w3, w4], _ => exact ⟨w0, w1, w2, w3, w4, rfl⟩
  have hw := fun d (hd : d ∈ tables_1) => atoms_spec (ws := Jvm.Cond.code x code maxLocals ret :: tables_1) hat d (List.mem_cons_of_mem _ hd)
  obtain ⟨i0, ei0⟩ := is_v ga0
  obtain rfl : w0 = (.int i0) := Option.some.inj ei0
  obtain ⟨i1, ei1⟩ := isL_v ga1
  obtain rfl : w1 = (.long i1) := Option.some.inj ei1
  obtain ⟨i2, ei2⟩ := isL_v ga2
  obtain rfl : w2 = (.long i2) := Option.some.inj ei2
  obtain ⟨i3, ei3⟩ := isL_v ga3
  obtain rfl : w3 = (.long i3) := Option.some.inj ei3
  obtain ⟨i4, ei4⟩ := isL_v hg4
  obtain rfl : w4 = (.long i4) := Option.some.inj ei4
  obtain ⟨n, o, h1, h2, h3, _, L, rfl, ⟨rfl, N⟩, hq⟩ := rm0 l s _ hw tables_1 i0 i1 i2 i3 i4 s.heap s.heap.size (Nat.le_refl _) p e ha hc hk s m _ below hf ((Spec.applies_iff_loose hf).mp happ).1 ⟨rfl, State.Warmed39.refl s, rfl⟩ trivial
  refine ⟨n, _, h1, h2, h3, hpost _ _ _ _ _ _ ⟨Cond.after_iff.mpr rfl, Cond.after_iff.mpr (eq_i res_at (Term.int_eval (1)) rfl), trivial⟩ ⟨hq.1, hq.2.1, (hq.2.2.sift fun y hy => Or.inr (N y hy)).mono (by decide) (by decide)⟩⟩
theorem main_1_1 : Claimed_1_1 := comes_1 fun _ _ _ _ _ _ h hF => ⟨h.1, hF⟩
theorem main_1_2 : Claimed_1_2 := comes_1 fun _ _ _ _ _ _ h hF => ⟨h.2.1, hF⟩
end Jvm.Pilot.@@N@@
namespace Jvm.Pilot.@@N@@
open Jvm Jvm.ClassFile Sem Op Lib Jvm.Free Jvm.Stand Jvm.Pilot.@@N@@.Jvm.D
/-! MADE BY PROGRAM (witnessworld.py) out of the Statement's table words and the real class files: 12 classes; the members and pool entries that the words name. The judged class is class 1, her method 1. -/
namespace start1
open Jvm.ClassFile
def u (s : String) : CpInfo := .utf8 (stringToUtf16 s)
/-- a pool by its gaps: so many unusable entries, then the entry; so many at the end -/
def gap : Nat → List CpInfo → List CpInfo
  | 0, r => r
  | n + 1, r => .unusable :: gap n r
def poolList (es : List (Nat × CpInfo)) (last : Nat) : List CpInfo := es.foldr (fun e r => gap e.1 (e.2 :: r)) (gap last [])
def pool (es : List (Nat × CpInfo)) (last : Nat) : Array CpInfo := ⟨poolList es last⟩
def fileOf (pool : Array CpInfo) (this : Nat) (attrs : Array Attribute := #[]) (ms : Array MethodInfo := #[]) (fl : Nat := 33) (sup : Nat := 0) (ifs : Array Nat := #[]) (fds : Array FieldInfo := #[]) : ClassFile where
  minorVersion := 0
  majorVersion := 65
  constantPool := pool
  accessFlags := fl
  thisClass := this
  superClass := sup
  interfaces := ifs
  fields := fds
  methods := ms
  attributes := attrs
def plain (name : String) (sup : Option ClassId) : Class where
  name := name
  kind := .ordinary
  loader := none
  accessFlags := 33
  super := sup
  interfaces := #[]
  cf := none
  fields := #[]
  methods := #[]
  instanceTypes := #[]
  staticTypes := #[]
  resolved := #[]
  callSites := []
  init := .initialized
  statics := none
  mirror := none

def pool0 : Array CpInfo := pool [(5, u "<init>"), (0, u "()V"), (1, .class_ 10), (1, u "java/lang/Object")] 113

def k0c0 : Code := { maxStack := 0, maxLocals := 1, code := object_method_1_code, exceptionTable := #[], attributes := #[] }
def k0m0 : Method := { name := "<init>", desc := "()V", sig := { parameters := [], returnType := none }, accessFlags := 1, code := some k0c0 }
/-- java/lang/Object -/
def k0 : Class := { plain "java/lang/Object" none with
  accessFlags := 33
  interfaces := #[]
  cf := some (fileOf pool0 8 #[] #[{ accessFlags := 1, nameIndex := 5, descriptorIndex := 6, attributes := #[] }] 33 0 #[] #[])
  fields := #[]
  methods := #[k0m0]
  instanceTypes := #[]
  staticTypes := #[]
  resolved := Array.replicate 124 none
  statics := none }

def pool1 : Array CpInfo := pool [(2, .class_ 4), (1, u "java/lang/Object"), (0, u "<init>"), (0, u "()V"), (0, .long 18446744073709551615), (1, .class_ 10), (0, u "com/example/eurycleia/eurycleia/core/Query"), (0, .methodref 9 12), (0, .nameAndType 5 13), (0, u "([J[J)V"), (0, .methodref 9 15), (0, .nameAndType 16 17), (0, u "isEmpty"), (0, u "()Z"), (0, .class_ 19), (0, u "com/example/eurycleia/eurycleia/core/QueryIsEmptyPinLaw"), (2, u "law"), (0, u "(IJJJJ)Z")] 5

def k1m0 : Method := { name := "<init>", desc := "()V", sig := { parameters := [], returnType := none }, accessFlags := 1, code := none }
def k1c1 : Code := { maxStack := 7, maxLocals := 20, code := code, exceptionTable := #[], attributes := #[] }
def k1m1 : Method := { name := "law", desc := "(IJJJJ)Z", sig := { parameters := [.int, .long, .long, .long, .long], returnType := some .boolean }, accessFlags := 9, code := some k1c1 }
/-- com/example/eurycleia/eurycleia/core/QueryIsEmptyPinLaw -/
def k1 : Class := { plain "com/example/eurycleia/eurycleia/core/QueryIsEmptyPinLaw" (some 0) with
  accessFlags := 49
  interfaces := #[]
  cf := some (fileOf pool1 18 #[] #[{ accessFlags := 1, nameIndex := 5, descriptorIndex := 6, attributes := #[] }, { accessFlags := 9, nameIndex := 22, descriptorIndex := 23, attributes := #[] }] 49 2 #[] #[])
  fields := #[]
  methods := #[k1m0, k1m1]
  instanceTypes := #[]
  staticTypes := #[]
  resolved := Array.replicate 29 none
  statics := none }

def pool2 : Array CpInfo := pool [(1, .methodref 2 3), (0, .class_ 4), (0, .nameAndType 5 6), (0, u "java/lang/Object"), (0, u "<init>"), (0, u "()V"), (0, .class_ 8), (0, u "java/lang/Record")] 13

def k2c0 : Code := { maxStack := 1, maxLocals := 1, code := jdk_30_method_1_code, exceptionTable := #[], attributes := #[] }
def k2m0 : Method := { name := "<init>", desc := "()V", sig := { parameters := [], returnType := none }, accessFlags := 4, code := some k2c0 }
/-- java/lang/Record -/
def k2 : Class := { plain "java/lang/Record" (some 0) with
  accessFlags := 1057
  interfaces := #[]
  cf := some (fileOf pool2 7 #[] #[{ accessFlags := 4, nameIndex := 5, descriptorIndex := 6, attributes := #[] }] 1057 2 #[] #[])
  fields := #[]
  methods := #[k2m0]
  instanceTypes := #[]
  staticTypes := #[]
  resolved := Array.replicate 22 none
  statics := none }

def pool3 : Array CpInfo := pool [(1, .methodref 2 3), (0, .class_ 4), (0, .nameAndType 5 6), (0, u "java/lang/Record"), (0, u "<init>"), (0, u "()V"), (9, .fieldref 17 18), (0, .class_ 19), (0, .nameAndType 20 21), (0, u "com/example/eurycleia/eurycleia/core/Query"), (0, u "bits"), (0, u "[J"), (0, .fieldref 17 23), (0, .nameAndType 24 21), (0, u "mask"), (10, u "([J[J)V"), (19, u "isEmpty"), (0, u "()Z")] 33

def k3c0 : Code := { maxStack := 4, maxLocals := 3, code := prog_21_method_1_code, exceptionTable := #[], attributes := #[] }
def k3m0 : Method := { name := "<init>", desc := "([J[J)V", sig := { parameters := [(.array .long), (.array .long)], returnType := none }, accessFlags := 1, code := some k3c0 }
def k3c1 : Code := { maxStack := 4, maxLocals := 6, code := prog_21_method_3_code, exceptionTable := #[], attributes := #[] }
def k3m1 : Method := { name := "isEmpty", desc := "()Z", sig := { parameters := [], returnType := some .boolean }, accessFlags := 1, code := some k3c1 }
/-- com/example/eurycleia/eurycleia/core/Query -/
def k3 : Class := { plain "com/example/eurycleia/eurycleia/core/Query" (some 2) with
  accessFlags := 49
  interfaces := #[]
  cf := some (fileOf pool3 17 #[] #[{ accessFlags := 1, nameIndex := 5, descriptorIndex := 35, attributes := #[] }, { accessFlags := 1, nameIndex := 55, descriptorIndex := 56, attributes := #[] }] 49 2 #[] #[{ accessFlags := 18, nameIndex := 20, descriptorIndex := 21, attributes := #[] }, { accessFlags := 18, nameIndex := 24, descriptorIndex := 21, attributes := #[] }])
  fields := #[{ name := "bits", type := (.array .long), accessFlags := 18, slot := 0, constantValue := 0 }, { name := "mask", type := (.array .long), accessFlags := 18, slot := 1, constantValue := 0 }]
  methods := #[k3m0, k3m1]
  instanceTypes := #[(.array .long), (.array .long)]
  staticTypes := #[]
  resolved := Array.replicate 90 none
  statics := none }

def pool4 : Array CpInfo := pool [(1, u "java/lang/Cloneable"), (0, .class_ 1), (0, u "java/lang/Object"), (0, .class_ 3)] 3

/-- java/lang/Cloneable -/
def k4 : Class := { plain "java/lang/Cloneable" (some 0) with
  accessFlags := 1537
  interfaces := #[]
  cf := some (fileOf pool4 2 #[] #[] 1537 4 #[] #[])
  fields := #[]
  methods := #[]
  instanceTypes := #[]
  staticTypes := #[]
  resolved := Array.replicate 8 none
  statics := none }

def pool5 : Array CpInfo := pool [(1, u "java/io/Serializable"), (0, .class_ 1), (0, u "java/lang/Object"), (0, .class_ 3)] 3

/-- java/io/Serializable -/
def k5 : Class := { plain "java/io/Serializable" (some 0) with
  accessFlags := 1537
  interfaces := #[]
  cf := some (fileOf pool5 2 #[] #[] 1537 4 #[] #[])
  fields := #[]
  methods := #[]
  instanceTypes := #[]
  staticTypes := #[]
  resolved := Array.replicate 8 none
  statics := none }

/-- the primitive byte -/
def k6 : Class := { plain "byte" none with kind := .primitive 'B', accessFlags := 0x411 }
/-- [B -/
def k7 : Class := { plain "[B" (some 0) with kind := .array 6 .byte, interfaces := #[4, 5], accessFlags := 1041 }

/-- the primitive int -/
def k8 : Class := { plain "int" none with kind := .primitive 'I', accessFlags := 0x411 }
/-- [I -/
def k9 : Class := { plain "[I" (some 0) with kind := .array 8 .int, interfaces := #[4, 5], accessFlags := 1041 }

/-- the primitive long -/
def k10 : Class := { plain "long" none with kind := .primitive 'J', accessFlags := 0x411 }
/-- [J -/
def k11 : Class := { plain "[J" (some 0) with kind := .array 10 .long, interfaces := #[4, 5], accessFlags := 1041 }

def heap : Heap := #[]
def classes : Array Class := #[k0, k1, k2, k3, k4, k5, k6, k7, k8, k9, k10, k11]
def interned : List (Array UInt16 × Addr) := []
def slotsUsed : Nat := 0
def theMethod : MethodId := ⟨1, 1⟩
def args0 : Array Value := #[.int 7, .long 1, .long 2, .long 3, .long 4]
def aboutOver (below : List Frame) : State where
  vm := { classes := classes, interned := interned.toArray }
  heap := heap
  slotsUsed := slotsUsed
  threads := #[{ frames := .invoking theMethod args0 :: below }]
def below0 : List Frame := [.native { method := ⟨0, 0⟩, args := #[] }]
def about1 : State := aboutOver below0
def p0 : Program := .bare "" "" ""
def e0 : Env := launch0.env 0 0 0
theorem w_frames : about1.frames = Frame.invoking theMethod args0 :: below0 := rfl
set_option maxRecDepth 65536 in
theorem w_args : argsFit about1.vm theMethod args0 = true := by decide +kernel
set_option maxRecDepth 65536 in
theorem w_heap : heapFits about1 = true := by decide +kernel
set_option maxRecDepth 65536 in
theorem w_runnable : about1.curStatus? = some .runnable := by decide +kernel
set_option maxRecDepth 65536 in
theorem w_alone : about1.alone = true := by decide +kernel
set_option maxRecDepth 65536 in
theorem w_named : about1.methodNamed? x = some theMethod := by decide +kernel
set_option maxRecDepth 65536 in
theorem w_hears : about1.hears theMethod below0 = true := by decide +kernel
set_option maxRecDepth 65536 in
theorem w_ripe : about1.ripe theMethod args0 below0 = true := by decide +kernel
theorem w_running : about1.status = .running := rfl
set_option maxRecDepth 65536 in
theorem w_room : about1.hasRoom e0.platform room_1 = true :=
  launch0.hasRoom_least _ room_1 (by decide +kernel) (by decide +kernel) (by decide +kernel) (by decide +kernel) (by decide +kernel) (by decide +kernel)
theorem allAtoms_all (ts : List Jvm.Cond) (a : Array Jvm.Value) (st : Jvm.State) : (allAtoms ts).before a st = ts.all (fun c => c.before a st) := by
  induction ts with
  | nil => rfl
  | cons c t ih =>
    show (Jvm.Cond.and c (allAtoms t)).before a st = _
    rw [Jvm.Cond.before_and, ih, List.all_cons]
def words1 : List Jvm.Cond := Jvm.Cond.code x code maxLocals ret :: tables_1
/-- a 'code' word, met by the world's own term for the bytes: nothing is compared byte by byte -/
theorem code_word {y : MethodName} {bytes : ByteArray} {mx : Nat} {rt : Option FieldType} {a : Array Value} {s : State} {m : MethodId} {meth : Method} {c : Code} (h1 : s.methodNamed? y = some m) (h2 : s.vm.method? m = some meth) (h3 : meth.code = some c) (h4 : c.code = bytes)
    (h5 : (c.maxLocals == mx && c.exceptionTable.isEmpty && decide (c.maxStack ≤ mostOperands) && decide (meth.sig.returnType = rt) && !meth.locks && decide (parseMethodDescriptor y.desc = some meth.sig)) = true) : (Jvm.Cond.code y bytes mx rt).before a s = true := by
  simp only [Bool.and_eq_true, beq_iff_eq, Bool.not_eq_true', decide_eq_true_eq] at h5
  obtain ⟨⟨⟨⟨⟨g1, g2⟩, g3⟩, g4⟩, g5⟩, g6⟩ := h5
  simp [Cond.before, Cond.holds, Cond.value, h1, h2, h3, h4, g1, g2, g3, g4, g5, g6]
def isCode : Jvm.Cond → Bool
  | .code _ _ _ _ => true
  | _ => false
theorem all_split {L : List Jvm.Cond} {P : Jvm.Cond → Bool} (h1 : L.all (fun c => isCode c || P c) = true) (h2 : ∀ c ∈ L.filter isCode, P c = true) : L.all P = true := by
  refine List.all_eq_true.mpr fun c hc => ?_
  have h := List.all_eq_true.mp h1 c hc
  rcases Bool.eq_false_or_eq_true (isCode c) with hi | hi
  · exact h2 c (List.mem_filter.mpr ⟨hc, hi⟩)
  · simpa [hi] using h
set_option maxRecDepth 65536 in
theorem w_c0 : (Jvm.Cond.code x code maxLocals ret).before args0 about1 = true := code_word (m := ⟨1, 1⟩) (meth := k1m1) (c := k1c1) (by decide +kernel) rfl rfl rfl (by decide +kernel)
set_option maxRecDepth 65536 in
theorem w_c1 : (Jvm.Cond.code ({ cls := "com/example/eurycleia/eurycleia/core/Query", name := "<init>", desc := "([J[J)V" } : Jvm.MethodName) prog_21_method_1_code (3 : Nat) (Option.none : Option Jvm.ClassFile.FieldType)).before args0 about1 = true := code_word (m := ⟨3, 0⟩) (meth := k3m0) (c := k3c0) (by decide +kernel) rfl rfl rfl (by decide +kernel)
set_option maxRecDepth 65536 in
theorem w_c2 : (Jvm.Cond.code ({ cls := "java/lang/Record", name := "<init>", desc := "()V" } : Jvm.MethodName) jdk_30_method_1_code (1 : Nat) (Option.none : Option Jvm.ClassFile.FieldType)).before args0 about1 = true := code_word (m := ⟨2, 0⟩) (meth := k2m0) (c := k2c0) (by decide +kernel) rfl rfl rfl (by decide +kernel)
set_option maxRecDepth 65536 in
theorem w_c3 : (Jvm.Cond.code ({ cls := "java/lang/Object", name := "<init>", desc := "()V" } : Jvm.MethodName) object_method_1_code (1 : Nat) (Option.none : Option Jvm.ClassFile.FieldType)).before args0 about1 = true := code_word (m := ⟨0, 0⟩) (meth := k0m0) (c := k0c0) (by decide +kernel) rfl rfl rfl (by decide +kernel)
set_option maxRecDepth 65536 in
theorem w_c4 : (Jvm.Cond.code ({ cls := "com/example/eurycleia/eurycleia/core/Query", name := "isEmpty", desc := "()Z" } : Jvm.MethodName) prog_21_method_3_code (6 : Nat) (Option.some Jvm.ClassFile.FieldType.boolean)).before args0 about1 = true := code_word (m := ⟨3, 1⟩) (meth := k3m1) (c := k3c1) (by decide +kernel) rfl rfl rfl (by decide +kernel)
def codes1 : List Jvm.Cond := [Jvm.Cond.code x code maxLocals ret, Jvm.Cond.code ({ cls := "com/example/eurycleia/eurycleia/core/Query", name := "<init>", desc := "([J[J)V" } : Jvm.MethodName) prog_21_method_1_code (3 : Nat) (Option.none : Option Jvm.ClassFile.FieldType), Jvm.Cond.code ({ cls := "java/lang/Record", name := "<init>", desc := "()V" } : Jvm.MethodName) jdk_30_method_1_code (1 : Nat) (Option.none : Option Jvm.ClassFile.FieldType), Jvm.Cond.code ({ cls := "java/lang/Object", name := "<init>", desc := "()V" } : Jvm.MethodName) object_method_1_code (1 : Nat) (Option.none : Option Jvm.ClassFile.FieldType), Jvm.Cond.code ({ cls := "com/example/eurycleia/eurycleia/core/Query", name := "isEmpty", desc := "()Z" } : Jvm.MethodName) prog_21_method_3_code (6 : Nat) (Option.some Jvm.ClassFile.FieldType.boolean)]
set_option maxRecDepth 65536 in
theorem codes_eq : words1.filter isCode = codes1 := rfl
theorem w_codes : ∀ c ∈ words1.filter isCode, c.before args0 about1 = true := by
  rw [codes_eq]
  intro c hc
  simp only [codes1, List.mem_cons, List.not_mem_nil, or_false] at hc
  rcases hc with rfl | rfl | rfl | rfl | rfl
  · exact w_c0
  · exact w_c1
  · exact w_c2
  · exact w_c3
  · exact w_c4
set_option maxRecDepth 65536 in
theorem w_t1 : (words1.take 24).all (fun c => isCode c || c.before args0 about1) = true := by decide +kernel
set_option maxRecDepth 65536 in
theorem w_t2 : (words1.drop 24).all (fun c => isCode c || c.before args0 about1) = true := by decide +kernel
theorem w_tables : (allAtoms (Jvm.Cond.code x code maxLocals ret :: tables_1)).before args0 about1 = true := by
  rw [allAtoms_all]
  show words1.all (fun c => c.before args0 about1) = true
  refine all_split ?_ w_codes
  rw [← List.take_append_drop 24 words1, List.all_append, w_t1, w_t2]
  rfl
set_option maxRecDepth 65536 in
theorem w_case : (Jvm.Cond.and given_1 narrow_1).before args0 about1 = true := by decide +kernel
theorem w_applies : (headSpec (Jvm.Cond.code x code maxLocals ret :: tables_1) room_1).applies x e0.platform about1 = true :=
  (Spec.applies_iff w_frames).mpr ⟨w_running, w_runnable, w_alone, w_named, w_hears, w_ripe, w_room, w_tables⟩
theorem atStart : AtStart classFile x code maxLocals ret World_1 tables_1 room_1 Calls_1 rest_1 Pre_1 launch0 p0 e0 about1 theMethod args0 below0 :=
  ⟨lists_1, trivial, launch0.admits_env _ _ _, launch0.least_env, fairChoices_fair.cas, fairChoices_fair.clock, w_frames, w_args, w_heap, w_applies, trivial, trivial, w_case⟩
end start1
theorem witness_1 : WitnessClaimed_1 := ⟨start1.p0, start1.e0, start1.about1, start1.theMethod, start1.args0, start1.below0, start1.atStart⟩
end Jvm.Pilot.@@N@@
