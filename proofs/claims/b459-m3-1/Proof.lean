import JvmDerived
import JvmDerived.Pilot.@@N@@Statement
import JvmDerived.Pilot.@@N@@Code
set_option linter.unusedVariables false
set_option linter.unusedSimpArgs false
@@BLOCK:NumsL.lean.txt@@
namespace Jvm.Own
open Sem ClassFile Op Lib Jvm.Stand Jvm.Free Jvm.LawKit Jvm.RoadKit
section Kit
variable {p : Program} {l : Launch} {e : Env} {R : Room} {s : State} {m : MethodId} {args : Array Value} {below : List Frame} {meth : Method} {c : Code} {T : State} {locs : List Loc} {cells slots : Nat} {Z : State} {a0 : Array Value} {h : Heap}
/-- D is closed under going back over steps -/
def Clo (p : Program) (e : Env) (below : List Frame) (D : State → Prop) : Prop := ∀ (U U' : State), (∀ t, Steps p.tables e below U' t → Steps p.tables e below U t) → D U' → D U
/-- D holds wherever the body returns with what Q says -/
def Ret (p : Program) (l : Launch) (e : Env) (R : Room) (s : State) (m : MethodId) (args : Array Value) (below : List Frame) (meth : Method) (c : Code) (Q : Option Value → Heap → List Loc → Prop) (C N : Nat) (D : State → Prop) : Prop :=
  ∀ (T : State) (locs : List Loc) (cells slots : Nat) (v : Option Value) (U : State), Stand p l e R s m args below meth c T locs cells slots → (meth.sig.returnType = none → v = none) → cells ≤ C → slots ≤ N → Q v T.heap locs →
    (∀ fs, (∀ (f : JFrame) (acts : List Action), f.method = m → f.locked = none → f.entered = [] → (doReturn e (T.setTop f) acts v).1 = T.setFrames fs) → Steps p.tables e below U (T.setFrames fs)) → D U
theorem enter {y : MethodName} {code : ByteArray} {maxL : Nat} {ret : Option FieldType} {ws : List Cond} {rm : Room} {as' : Array Value} {h0 : Heap} {Q : Option Value → Heap → List Loc → Prop} {C N : Nat} (hpl : plainFor y = true)
    (body : ∀ (p : Program) (e : Env) (s : State) (m : MethodId) (below : List Frame) (meth : Method) (c : Code) (s₁ : State) (D : State → Prop),
      p.tables.exec = Jvm.exec → c.code = code → c.maxLocals = maxL → s.vm.findClass y.cls = some m.cls → meth.name = y.name → meth.sig.returnType = ret → Z.Warmed39 s.vm → Stand p l e rm s m as' below meth c s₁ [] 0 0 → s₁.heap = h0 →
      Clo p e below D → Ret p l e rm s m as' below meth c Q C N D → D (s₁.setTop (entryFrame m as' maxL))) :
    MetFree l y (head1 (Jvm.Cond.code y code maxL ret :: ws) rm) (fun a U => a = as' ∧ Z.Warmed39 U.vm ∧ U.heap = h0) (fun _ _ _ _ _ => True) (fun _ U o U' => ∃ v L, o = .returned v ∧ Q v U'.heap L ∧ FrameEnd U o U' L C N) := by
  refine MetFree.of_bodySF hpl hisR ?_
  intro p e s m args below meth c s₁ Bd hml hP hK
  obtain ⟨rfl, hZ, hh⟩ := hP
  have X0 : Stand p l e rm s m args below meth c s₁ [] 0 0 := Stand.of_body Bd
  refine body p e s m below meth c s₁ (fun U => ∃ s₂ o, Steps p.tables e below U s₂ ∧ s₂.status = .running ∧ Ended s₂ below o ∧ ∃ v L, o = .returned v ∧ Q v s₂.heap L ∧ FrameEnd s o s₂ L C N) Bd.exec Bd.bytes hml (findClass_of_methodNamed Bd.named) (name_of_methodNamed Bd.named Bd.method).1 Bd.returns hZ X0 (by rw [← hh, Bd.state]; rfl) ?_ ?_
  · rintro U U' k ⟨s₂, o, st, r⟩
    exact ⟨s₂, o, k _ st, r⟩
  · intro T locs cells slots v U X hv hc hn hQ k
    obtain ⟨fs, hr, hrun, hended, hW, hsame⟩ := X.leave (v := v) hv
    exact ⟨_, _, k fs hr, hrun, hended, v, locs, rfl, hQ, ⟨_, rfl⟩, hW, hsame.mono hc hn⟩
theorem mono {c' n' : Nat} (X : Stand p l e R s m args below meth c T locs cells slots) (hc : cells ≤ c') (hn : slots ≤ n') : Stand p l e R s m args below meth c T locs c' n' :=
  { X with same := X.same.weaken (fun _ hy _ => hy) hc hn }
theorem forget {k : Nat} (X : Stand p l e R s m args below meth c T locs cells slots) (N : Fr k locs) (hk : s.heap.size ≤ k) : Stand p l e R s m args below meth c T [] cells slots :=
  { X with same := X.same.weaken (fun y hy hlt => absurd hlt (Nat.not_lt.mpr (Nat.le_trans hk (N y hy)))) (Nat.le_refl _) (Nat.le_refl _) }
variable {Q : Option Value → Heap → List Loc → Prop} {C N : Nat} {D : State → Prop}
theorem retI (hR : Ret p l e R s m args below meth c Q C N D) (X : Stand p l e R s m args below meth c T locs cells slots) (hx : p.tables.exec = Jvm.exec) {pc : Nat} {Ls : Array Slot} {z : Int32} {rest : List Value} (hret : meth.sig.returnType = some .int) (hd : decode c.code pc = .ok (.ireturn, 1)) (hc : cells ≤ C) (hn : slots ≤ N) (hQ : Q (some (.int z)) T.heap locs) : D (T.setTop (mkF m pc Ls (.int z :: rest))) := by
  refine hR T locs cells slots (some (.int z)) _ X (fun h => by rw [hret] at h; cases h) hc hn hQ fun fs hl => ?_
  have hm' : T.vm.method? m = some meth := X.method'
  have hn : narrow .int (.int z) = .int z := rfl
  show Steps p.tables e below (T.setTop { method := m, pc := pc, locals := Ls, stack := _ :: rest, locked := none }) _
  jvm_step X.here [X.here.top, hx, hd, hm', hret, hn]
  first | (intro acts; rw [hl _ acts rfl rfl rfl]) | rw [hl _ _ rfl rfl rfl]
  exact Steps.refl _
theorem retN (hR : Ret p l e R s m args below meth c Q C N D) (X : Stand p l e R s m args below meth c T locs cells slots) (hx : p.tables.exec = Jvm.exec) {pc : Nat} {Ls : Array Slot} {z : Int32} {t : FieldType} {rest : List Value} (hret : meth.sig.returnType = some t) (ht : t = .boolean ∨ t = .byte ∨ t = .char ∨ t = .short) (hd : decode c.code pc = .ok (.ireturn, 1)) (hc : cells ≤ C) (hn : slots ≤ N) (hz : nar t z = z) (hQ : Q (some (.int z)) T.heap locs) : D (T.setTop (mkF m pc Ls (.int z :: rest))) := by
  refine hR T locs cells slots (some (.int z)) _ X (fun h => by rw [hret] at h; cases h) hc hn hQ fun fs hl => ?_
  exact Jvm.RoadKit.retN X hx hret ht hd (by rw [hz]; exact hl)
theorem retJ (hR : Ret p l e R s m args below meth c Q C N D) (X : Stand p l e R s m args below meth c T locs cells slots) (hx : p.tables.exec = Jvm.exec) {pc : Nat} {Ls : Array Slot} {z : Int64} (hret : meth.sig.returnType = some .long) (hd : decode c.code pc = .ok (.lreturn, 1)) (hc : cells ≤ C) (hn : slots ≤ N) (hQ : Q (some (.long z)) T.heap locs) : D (T.setTop (mkF m pc Ls [.long z])) :=
  hR T locs cells slots (some (.long z)) _ X (fun h => by rw [hret] at h; cases h) hc hn hQ fun fs hl => X.lreturnOut hx hret hd hl
theorem retA (hR : Ret p l e R s m args below meth c Q C N D) (X : Stand p l e R s m args below meth c T locs cells slots) (hx : p.tables.exec = Jvm.exec) {pc : Nat} {Ls : Array Slot} {w : Value} {t : FieldType} (hw : w.isRef = true) (hret : meth.sig.returnType = some t) (ht : t.isReference = true) (hd : decode c.code pc = .ok (.areturn, 1)) (hc : cells ≤ C) (hn : slots ≤ N) (hQ : Q (some w) T.heap locs) : D (T.setTop (mkF m pc Ls [w])) :=
  hR T locs cells slots (some w) _ X (fun h => by rw [hret] at h; cases h) hc hn hQ fun fs hl => X.areturnOut hx hw hret ht hd hl
theorem retV (hR : Ret p l e R s m args below meth c Q C N D) (X : Stand p l e R s m args below meth c T locs cells slots) (hx : p.tables.exec = Jvm.exec) {pc : Nat} {Ls : Array Slot} (hret : meth.sig.returnType = none) (hd : decode c.code pc = .ok (.return_, 1)) (hc : cells ≤ C) (hn : slots ≤ N) (hQ : Q none T.heap locs) : D (T.setTop (mkF m pc Ls [])) :=
  hR T locs cells slots none _ X (fun _ => rfl) hc hn hQ fun fs hl => X.returnOut hx hret hd hl
/-! calls -/
variable {y z : MethodName} {bytes : ByteArray} {maxL : Nat} {ret : Option FieldType} {rm : Room} {W : Nat} {Qc : Option Value → Heap → List Loc → Prop} {own Cn : String} {index : Nat} {g : JFrame} {argsL rest : List Value} {a : Addr}
theorem callS (X : Stand p l e R s m args below meth c T locs cells slots) (hx : p.tables.exec = Jvm.exec) (hZ : Z.Warmed39 s.vm) (hown : s.vm.findClass own = some m.cls)
    (w1 : (Cond.methodLink own index y).before a0 Z = true) (w2 : (Cond.static y).before a0 Z = true) (w3 : (Cond.initialized y.cls).before a0 Z = true) (w4 : (Cond.code y bytes maxL ret).before a0 Z = true)
    (hy : y.cls ≠ "java/lang/invoke/MethodHandle" ∧ y.cls ≠ "java/lang/invoke/VarHandle") (e0 : T.heap = h)
    (hM : MetFree l y (head1 [Cond.code y bytes maxL ret] rm) (fun a U => a = argsL.toArray ∧ Z.Warmed39 U.vm ∧ U.heap = h) (fun _ _ _ _ _ => True) (fun _ U o U' => ∃ v L, o = .returned v ∧ Qc v U'.heap L ∧ FrameEnd U o U' L rm.cells rm.slots))
    (hf : rm.frames + 1 ≤ R.frames) (hl : W + (maxL + 11) + rm.locals ≤ R.locals) (hcells : cells + rm.cells ≤ R.cells) (hslots : slots + rm.slots ≤ R.slots)
    (hg : g.method = m) (hsize : g.locals.size = c.maxLocals) (hlen : ∀ sig, parseMethodDescriptor y.desc = some sig → argsL.length = sig.parameters.length)
    (hstack : g.stack = argsL.reverse ++ rest) (hW : 2 * g.monitorRoom + (rest.map fun v => v.category).sum ≤ W) (hdg : decode c.code g.pc = .ok (.invokestatic index, 3)) :
    ∃ (T' : State) (v : Option Value) (L : List Loc), Stand p l e R s m args below meth c T' (locs ++ L) (cells + rm.cells) (slots + rm.slots) ∧ Qc v T'.heap L ∧
      ∀ t, Steps p.tables e below (T'.setTop { g with pc := g.pc + 3, stack := v.toList ++ rest }) t → Steps p.tables e below (T.setTop g) t := by
  obtain ⟨v, _, ⟨T', L', k', n'⟩, -, X', ⟨Lc, hQ, l1, y1, z1⟩, st⟩ := Jvm.LawKit.callS X hx (y := y) hown (mvT hZ w1) (mvT hZ w2) (mvT hZ w3) (mvT hZ w4) hy (backOf (W := W) hM hZ w4 w3 hf hl) hg hsize hlen hstack hW hdg (fun _ _ => ⟨rfl, e0, hcells, hslots⟩)
  dsimp only [Pt.U, Pt.locs, Pt.cells, Pt.slots] at X' l1 y1 z1 st hQ
  subst l1 y1 z1
  exact ⟨T', v, Lc, X', hQ, st⟩
theorem callI (X : Stand p l e R s m args below meth c T locs cells slots) (hx : p.tables.exec = Jvm.exec) (hZ : Z.Warmed39 s.vm) (hown : s.vm.findClass own = some m.cls) (hy1 : y.name = "<init>")
    (w1 : (Cond.methodLink own index y).before a0 Z = true) (w2 : (Cond.instanceMethod y).before a0 Z = true) (w3 : (Cond.initialized y.cls).before a0 Z = true) (w4 : (Cond.code y bytes maxL none).before a0 Z = true)
    (hy : y.cls ≠ "java/lang/invoke/MethodHandle" ∧ y.cls ≠ "java/lang/invoke/VarHandle") (e0 : T.heap = h)
    (hM : MetFree l y (head1 [Cond.code y bytes maxL none] rm) (fun q U => q = (.ref a :: argsL).toArray ∧ Z.Warmed39 U.vm ∧ U.heap = h) (fun _ _ _ _ _ => True) (fun _ U o U' => ∃ v L, o = .returned v ∧ Qc v U'.heap L ∧ FrameEnd U o U' L rm.cells rm.slots))
    (hf : rm.frames + 1 ≤ R.frames) (hl : W + (maxL + 11) + rm.locals ≤ R.locals) (hcells : cells + rm.cells ≤ R.cells) (hslots : slots + rm.slots ≤ R.slots)
    (hg : g.method = m) (hsize : g.locals.size = c.maxLocals) (hlen : ∀ sig, parseMethodDescriptor y.desc = some sig → argsL.length = sig.parameters.length)
    (hstack : g.stack = argsL.reverse ++ .ref a :: rest) (hW : 2 * g.monitorRoom + (rest.map fun v => v.category).sum ≤ W) (hdg : decode c.code g.pc = .ok (.invokespecial index, 3)) :
    ∃ (T' : State) (v : Option Value) (L : List Loc), Stand p l e R s m args below meth c T' (locs ++ L) (cells + rm.cells) (slots + rm.slots) ∧ Qc v T'.heap L ∧
      ∀ t, Steps p.tables e below (T'.setTop { g with pc := g.pc + 3, stack := v.toList ++ rest }) t → Steps p.tables e below (T.setTop g) t := by
  obtain ⟨v, _, ⟨T', L', k', n'⟩, -, X', ⟨Lc, hQ, l1, y1, z1⟩, st⟩ := X.specialBack hx (y := y) hy1 hown (mvT hZ w1) (mvT hZ w2) (mvT hZ w4) hy (backOf (W := W) hM hZ w4 w3 hf hl) hg hsize (Steps.refl _) hlen hstack hW hdg (fun _ _ => ⟨rfl, e0, hcells, hslots⟩)
  dsimp only [Pt.U, Pt.locs, Pt.cells, Pt.slots] at X' l1 y1 z1 st hQ
  subst l1 y1 z1
  exact ⟨T', v, Lc, X', hQ, fun t k => st.trans k⟩
theorem callV (X : Stand p l e R s m args below meth c T locs cells slots) (hx : p.tables.exec = Jvm.exec) (hZ : Z.Warmed39 s.vm) (hown : s.vm.findClass own = some m.cls)
    (w1 : (Cond.methodLink own index y).before a0 Z = true) (w5 : (Cond.declares y).before a0 Z = true) (w6 : (Cond.selects Cn y y).before a0 Z = true) (w2 : (Cond.instanceMethod y).before a0 Z = true) (w3 : (Cond.initialized y.cls).before a0 Z = true) (w4 : (Cond.code y bytes maxL ret).before a0 Z = true)
    (hy : y.cls ≠ "java/lang/invoke/MethodHandle" ∧ y.cls ≠ "java/lang/invoke/VarHandle") (e0 : T.heap = h) (E : Exa Z h a Cn)
    (hM : MetFree l y (head1 [Cond.code y bytes maxL ret] rm) (fun q U => q = (.ref a :: argsL).toArray ∧ Z.Warmed39 U.vm ∧ U.heap = h) (fun _ _ _ _ _ => True) (fun _ U o U' => ∃ v L, o = .returned v ∧ Qc v U'.heap L ∧ FrameEnd U o U' L rm.cells rm.slots))
    (hf : rm.frames + 1 ≤ R.frames) (hl : W + (maxL + 11) + rm.locals ≤ R.locals) (hcells : cells + rm.cells ≤ R.cells) (hslots : slots + rm.slots ≤ R.slots)
    (hg : g.method = m) (hsize : g.locals.size = c.maxLocals) (hlen : ∀ sig, parseMethodDescriptor y.desc = some sig → argsL.length = sig.parameters.length)
    (hstack : g.stack = argsL.reverse ++ .ref a :: rest) (hW : 2 * g.monitorRoom + (rest.map fun v => v.category).sum ≤ W) (hdg : decode c.code g.pc = .ok (.invokevirtual index, 3)) :
    ∃ (T' : State) (v : Option Value) (L : List Loc), Stand p l e R s m args below meth c T' (locs ++ L) (cells + rm.cells) (slots + rm.slots) ∧ Qc v T'.heap L ∧
      ∀ t, Steps p.tables e below (T'.setTop { g with pc := g.pc + 3, stack := v.toList ++ rest }) t → Steps p.tables e below (T.setTop g) t := by
  obtain ⟨cq, kq, q1, q2, q3⟩ := isOf hZ e0 E
  obtain ⟨v, _, ⟨T', L', k', n'⟩, -, X', ⟨Lc, hQ, l1, y1, z1⟩, st⟩ := X.virtualBack hx (y := y) (z := y) hown (mvT hZ w1) (mvT hZ w5) (notFace_of_selects (args := #[]) (mvT hZ w6)) (mvT hZ w6) (mvT hZ w2) hy (backOf (W := W) hM hZ w4 w3 hf hl) q1 q3 hg hsize (Steps.refl _) hlen hstack hW hdg (fun _ _ => ⟨rfl, e0, hcells, hslots⟩)
  dsimp only [Pt.U, Pt.locs, Pt.cells, Pt.slots] at X' l1 y1 z1 st hQ
  subst l1 y1 z1
  exact ⟨T', v, Lc, X', hQ, fun t k => st.trans k⟩
/-! arrays, as functions of the place -/
def AvI (Z : State) (h : Heap) (a : Addr) (ty : FieldType) (n : Nat) (f : Nat → Int32) : Prop := ∃ c : Cell, Arr Z h a c ty ∧ c.slots.size = n ∧ n < 2 ^ 31 ∧ ∀ i, i < n → c.slots[i]? = some (.int (f i))
def AvJ (Z : State) (h : Heap) (a : Addr) (n : Nat) (f : Nat → Int64) : Prop := ∃ c : Cell, Arr Z h a c .long ∧ c.slots.size = n ∧ n < 2 ^ 31 ∧ ∀ i, i < n → c.slots[i]? = some (.long (f i))
variable {h' : Heap} {ty : FieldType} {n : Nat} {f f' : Nat → Int32} {fj fj' : Nat → Int64} {j x : Int32} {xl : Int64} {b : Addr} {sl : Nat} {v : Value} {ws : List Addr}
theorem clamp (hj : 0 ≤ j.toInt ∧ j.toInt < n) : j.toNatClampNeg = j.toInt.toNat ∧ ¬ j < 0 := by
  refine ⟨rfl, ?_⟩
  rw [Int32.lt_iff_toInt_lt, Int32.toInt_zero]; omega
theorem inb {c : Cell} (S : c.slots.size = n) (hj : 0 ≤ j.toInt ∧ j.toInt < n) : ¬ (j < 0 ∨ c.slots.size ≤ j.toNatClampNeg) := by
  have q := clamp hj
  rw [q.1, S]
  intro w
  rcases w with w | w
  · exact q.2 w
  · omega
theorem AvI.lt (A : AvI Z h a ty n f) : a < h.size := by obtain ⟨c, A, -⟩ := A; exact A.lt
theorem AvJ.lt (A : AvJ Z h a n fj) : a < h.size := by obtain ⟨c, A, -⟩ := A; exact A.lt
theorem AvI.ext (A : AvI Z h a ty n f) (E : Ext h h') : AvI Z h' a ty n f := by obtain ⟨c, A, r⟩ := A; exact ⟨c, A.ext E, r⟩
theorem AvJ.ext (A : AvJ Z h a n fj) (E : Ext h h') : AvJ Z h' a n fj := by obtain ⟨c, A, r⟩ := A; exact ⟨c, A.ext E, r⟩
theorem AvI.other (A : AvI Z h b ty n f) (W : Wr h h' a sl v) (q : b ≠ a) : AvI Z h' b ty n f := by obtain ⟨c, A, r⟩ := A; exact ⟨c, A.other W q, r⟩
theorem AvJ.other (A : AvJ Z h b n fj) (W : Wr h h' a sl v) (q : b ≠ a) : AvJ Z h' b n fj := by obtain ⟨c, A, r⟩ := A; exact ⟨c, A.other W q, r⟩
theorem AvI.keep (A : AvI Z h a ty n f) (K : Keep h h' ws) (q : a ∉ ws) : AvI Z h' a ty n f := by obtain ⟨c, A, r⟩ := A; exact ⟨c, ⟨K.2.1 a c A.1 q, A.2⟩, r⟩
theorem AvJ.keep (A : AvJ Z h a n fj) (K : Keep h h' ws) (q : a ∉ ws) : AvJ Z h' a n fj := by obtain ⟨c, A, r⟩ := A; exact ⟨c, ⟨K.2.1 a c A.1 q, A.2⟩, r⟩
theorem AvI.congr (A : AvI Z h a ty n f) (q : ∀ i, i < n → f' i = f i) : AvI Z h a ty n f' := by obtain ⟨c, A, S, M, H⟩ := A; exact ⟨c, A, S, M, fun i hi => by rw [q i hi]; exact H i hi⟩
theorem AvJ.congr (A : AvJ Z h a n fj) (q : ∀ i, i < n → fj' i = fj i) : AvJ Z h a n fj' := by obtain ⟨c, A, S, M, H⟩ := A; exact ⟨c, A, S, M, fun i hi => by rw [q i hi]; exact H i hi⟩
theorem AvI.new {cA : ClassId} {z : Int32} (A : Arr Z h a (newA cA ty z) ty) (hz : z.toInt = n) (hd : defaultValue ty = .int 0) : AvI Z h a ty n (fun _ => 0) := by
  have q : z.toNatClampNeg = n := by show z.toInt.toNat = n; omega
  refine ⟨_, A, by rw [sz_new]; exact q, by have := z.toInt_lt; omega, fun i hi => ?_⟩
  simp [newA, q, hi, hd]
theorem AvJ.new {cA : ClassId} {z : Int32} (A : Arr Z h a (newA cA .long z) .long) (hz : z.toInt = n) : AvJ Z h a n (fun _ => 0) := by
  have q : z.toNatClampNeg = n := by show z.toInt.toNat = n; omega
  refine ⟨_, A, by rw [sz_new]; exact q, by have := z.toInt_lt; omega, fun i hi => ?_⟩
  simp [newA, q, hi, defaultValue]
theorem len_nat {c : Cell} (S : c.slots.size = n) (M : n < 2 ^ 31) : c.slots.size.toInt32 = Int32.ofNat n := by rw [S]
theorem lenI (X : Stand p l e R s m args below meth c T locs cells slots) (hx : p.tables.exec = Jvm.exec) (hZ : Z.Warmed39 s.vm) (e0 : T.heap = h) (A : AvI Z h a ty n f) (hg : g.method = m) (hs : g.stack = .ref a :: rest) (hd : decode c.code g.pc = .ok (.arraylength, 1)) :
    ∀ t, Steps p.tables e below (T.setTop { g with pc := g.pc + 1, stack := .int (Int32.ofNat n) :: rest }) t → Steps p.tables e below (T.setTop g) t := by
  obtain ⟨c, A, S, M, H⟩ := A
  intro t k
  refine X.arraylength hx (by rw [e0]; exact A.1) (State.isArrayOf_alike hZ.alike A.2.1) hg hs hd _ ?_
  rw [len_nat S M]; exact k
theorem lenJ (X : Stand p l e R s m args below meth c T locs cells slots) (hx : p.tables.exec = Jvm.exec) (hZ : Z.Warmed39 s.vm) (e0 : T.heap = h) (A : AvJ Z h a n fj) (hg : g.method = m) (hs : g.stack = .ref a :: rest) (hd : decode c.code g.pc = .ok (.arraylength, 1)) :
    ∀ t, Steps p.tables e below (T.setTop { g with pc := g.pc + 1, stack := .int (Int32.ofNat n) :: rest }) t → Steps p.tables e below (T.setTop g) t := by
  obtain ⟨c, A, S, M, H⟩ := A
  intro t k
  refine X.arraylength hx (by rw [e0]; exact A.1) (State.isArrayOf_alike hZ.alike A.2.1) hg hs hd _ ?_
  rw [len_nat S M]; exact k
theorem ldI (X : Stand p l e R s m args below meth c T locs cells slots) (hx : p.tables.exec = Jvm.exec) (hZ : Z.Warmed39 s.vm) (e0 : T.heap = h) (A : AvI Z h a .int n f) (hj : 0 ≤ j.toInt ∧ j.toInt < n) (hg : g.method = m) (hs : g.stack = .int j :: .ref a :: rest) (hd : decode c.code g.pc = .ok (.iaload, 1)) :
    ∀ t, Steps p.tables e below (T.setTop { g with pc := g.pc + 1, stack := .int (f j.toInt.toNat) :: rest }) t → Steps p.tables e below (T.setTop g) t := by
  obtain ⟨c, A, S, M, H⟩ := A
  exact fun t k => X.iaload hx (by rw [e0]; exact A.1) (State.isArrayOf_alike hZ.alike A.2.1) A.2.2 (inb S hj) (by rw [(clamp hj).1]; exact H _ (by omega)) hg hs hd _ k
theorem ldJ (X : Stand p l e R s m args below meth c T locs cells slots) (hx : p.tables.exec = Jvm.exec) (hZ : Z.Warmed39 s.vm) (e0 : T.heap = h) (A : AvJ Z h a n fj) (hj : 0 ≤ j.toInt ∧ j.toInt < n) (hg : g.method = m) (hs : g.stack = .int j :: .ref a :: rest) (hd : decode c.code g.pc = .ok (.laload, 1)) :
    ∀ t, Steps p.tables e below (T.setTop { g with pc := g.pc + 1, stack := .long (fj j.toInt.toNat) :: rest }) t → Steps p.tables e below (T.setTop g) t := by
  obtain ⟨c, A, S, M, H⟩ := A
  exact fun t k => X.laload hx (by rw [e0]; exact A.1) (State.isArrayOf_alike hZ.alike A.2.1) A.2.2 (inb S hj) (by rw [(clamp hj).1]; exact H _ (by omega)) hg hs hd _ k
theorem ldB (X : Stand p l e R s m args below meth c T locs cells slots) (hx : p.tables.exec = Jvm.exec) (hZ : Z.Warmed39 s.vm) (e0 : T.heap = h) (A : AvI Z h a .byte n f) (hj : 0 ≤ j.toInt ∧ j.toInt < n) (hg : g.method = m) (hs : g.stack = .int j :: .ref a :: rest) (hd : decode c.code g.pc = .ok (.baload, 1)) :
    ∀ t, Steps p.tables e below (T.setTop { g with pc := g.pc + 1, stack := .int (f j.toInt.toNat) :: rest }) t → Steps p.tables e below (T.setTop g) t := by
  obtain ⟨c, A, S, M, H⟩ := A
  exact fun t k => X.baloadBytes hx (by rw [e0]; exact A.1) (State.isArrayOf_alike hZ.alike A.2.1) A.2.2 (inb S hj) (by rw [(clamp hj).1]; exact H _ (by omega)) hg hs hd _ k
theorem AvI.set (A : AvI Z h a ty n f) (hj : 0 ≤ j.toInt ∧ j.toInt < n) (W : Wr h h' a j.toNatClampNeg (.int x)) : AvI Z h' a ty n (fun i => if i = j.toInt.toNat then x else f i) := by
  obtain ⟨c, A, S, M, H⟩ := A
  refine ⟨_, A.same W, by rw [sz_set]; exact S, M, fun i hi => ?_⟩
  rw [(clamp hj).1]
  by_cases q : i = j.toInt.toNat
  · subst q
    simp only [Cell.setSlot, if_true]
    show (c.slots.setIfInBounds j.toInt.toNat _)[j.toInt.toNat]? = _
    rw [Array.getElem?_setIfInBounds, if_pos rfl, if_pos (by rw [S]; exact hi)]
  · simp only [Cell.setSlot, q, if_false]
    rw [Array.getElem?_setIfInBounds_ne (Ne.symm q)]; exact H i hi
theorem AvJ.set (A : AvJ Z h a n fj) (hj : 0 ≤ j.toInt ∧ j.toInt < n) (W : Wr h h' a j.toNatClampNeg (.long xl)) : AvJ Z h' a n (fun i => if i = j.toInt.toNat then xl else fj i) := by
  obtain ⟨c, A, S, M, H⟩ := A
  refine ⟨_, A.same W, by rw [sz_set]; exact S, M, fun i hi => ?_⟩
  rw [(clamp hj).1]
  by_cases q : i = j.toInt.toNat
  · subst q
    simp only [Cell.setSlot, if_true]
    show (c.slots.setIfInBounds j.toInt.toNat _)[j.toInt.toNat]? = _
    rw [Array.getElem?_setIfInBounds, if_pos rfl, if_pos (by rw [S]; exact hi)]
  · simp only [Cell.setSlot, q, if_false]
    rw [Array.getElem?_setIfInBounds_ne (Ne.symm q)]; exact H i hi
theorem stoI (X : Stand p l e R s m args below meth c T locs cells slots) (hx : p.tables.exec = Jvm.exec) (hZ : Z.Warmed39 s.vm) (e0 : T.heap = h) (A : AvI Z h a .int n f) (hj : 0 ≤ j.toInt ∧ j.toInt < n) (hg : g.method = m) (hs : g.stack = .int x :: .int j :: .ref a :: rest) (hd : decode c.code g.pc = .ok (.iastore, 1)) :
    ∃ T' h', Stand p l e R s m args below meth c T' (locs ++ [⟨a, j.toNatClampNeg⟩]) cells slots ∧ T'.heap = h' ∧ AvI Z h' a .int n (fun i => if i = j.toInt.toNat then x else f i) ∧ Wr h h' a j.toNatClampNeg (.int x) ∧ ∀ t, Steps p.tables e below (T'.setTop { g with pc := g.pc + 1, stack := rest }) t → Steps p.tables e below (T.setTop g) t := by
  obtain ⟨c, A', S, M, H⟩ := id A
  obtain ⟨T', h', X', e', W, st⟩ := stI X hx hZ e0 A' (inb S hj) hg hs hd
  exact ⟨T', h', X', e', A.set hj W, W, st⟩
theorem stoJ (X : Stand p l e R s m args below meth c T locs cells slots) (hx : p.tables.exec = Jvm.exec) (hZ : Z.Warmed39 s.vm) (e0 : T.heap = h) (A : AvJ Z h a n fj) (hj : 0 ≤ j.toInt ∧ j.toInt < n) (hg : g.method = m) (hs : g.stack = .long xl :: .int j :: .ref a :: rest) (hd : decode c.code g.pc = .ok (.lastore, 1)) :
    ∃ T' h', Stand p l e R s m args below meth c T' (locs ++ [⟨a, j.toNatClampNeg⟩]) cells slots ∧ T'.heap = h' ∧ AvJ Z h' a n (fun i => if i = j.toInt.toNat then xl else fj i) ∧ Wr h h' a j.toNatClampNeg (.long xl) ∧ ∀ t, Steps p.tables e below (T'.setTop { g with pc := g.pc + 1, stack := rest }) t → Steps p.tables e below (T.setTop g) t := by
  obtain ⟨c, A', S, M, H⟩ := id A
  obtain ⟨T', h', X', e', W, st⟩ := stJ X hx hZ e0 A' (inb S hj) hg hs hd
  exact ⟨T', h', X', e', A.set hj W, W, st⟩
theorem stoB (X : Stand p l e R s m args below meth c T locs cells slots) (hx : p.tables.exec = Jvm.exec) (hZ : Z.Warmed39 s.vm) (e0 : T.heap = h) (A : AvI Z h a .byte n f) (hj : 0 ≤ j.toInt ∧ j.toInt < n) (hg : g.method = m) (hs : g.stack = .int x :: .int j :: .ref a :: rest) (hd : decode c.code g.pc = .ok (.bastore, 1)) :
    ∃ T' h', Stand p l e R s m args below meth c T' (locs ++ [⟨a, j.toNatClampNeg⟩]) cells slots ∧ T'.heap = h' ∧ AvI Z h' a .byte n (fun i => if i = j.toInt.toNat then nar .byte x else f i) ∧ Wr h h' a j.toNatClampNeg (.int (nar .byte x)) ∧ ∀ t, Steps p.tables e below (T'.setTop { g with pc := g.pc + 1, stack := rest }) t → Steps p.tables e below (T.setTop g) t := by
  obtain ⟨c, A', S, M, H⟩ := id A
  obtain ⟨T', h', X', e', W, st⟩ := stB X hx hZ e0 A' (inb S hj) hg hs hd
  exact ⟨T', h', X', e', A.set hj W, W, st⟩
theorem stoZ (X : Stand p l e R s m args below meth c T locs cells slots) (hx : p.tables.exec = Jvm.exec) (hZ : Z.Warmed39 s.vm) (e0 : T.heap = h) (A : AvI Z h a .boolean n f) (hj : 0 ≤ j.toInt ∧ j.toInt < n) (hg : g.method = m) (hs : g.stack = .int x :: .int j :: .ref a :: rest) (hd : decode c.code g.pc = .ok (.bastore, 1)) :
    ∃ T' h', Stand p l e R s m args below meth c T' (locs ++ [⟨a, j.toNatClampNeg⟩]) cells slots ∧ T'.heap = h' ∧ AvI Z h' a .boolean n (fun i => if i = j.toInt.toNat then nar .boolean x else f i) ∧ Wr h h' a j.toNatClampNeg (.int (nar .boolean x)) ∧ ∀ t, Steps p.tables e below (T'.setTop { g with pc := g.pc + 1, stack := rest }) t → Steps p.tables e below (T.setTop g) t := by
  obtain ⟨c, A', S, M, H⟩ := id A
  obtain ⟨T', h', X', e', W, st⟩ := stZ X hx hZ e0 A' (inb S hj) hg hs hd
  exact ⟨T', h', X', e', A.set hj W, W, st⟩
theorem snoc {k : Nat} (N : Fr k locs) (q : k ≤ a) : Fr k (locs ++ [⟨a, sl⟩]) := N.app fun y hy => by cases List.mem_singleton.mp hy; exact q
theorem nmI {v x : Int32} {pc : Nat} {ls : Array Slot} {st : List Value} {t : State} (q : v = x) (k : Steps p.tables e below (T.setTop (mkF m pc ls (.int v :: st))) t) : Steps p.tables e below (T.setTop (mkF m pc ls (.int x :: st))) t := by subst q; exact k
theorem nmJ {v x : Int64} {pc : Nat} {ls : Array Slot} {st : List Value} {t : State} (q : v = x) (k : Steps p.tables e below (T.setTop (mkF m pc ls (.long v :: st))) t) : Steps p.tables e below (T.setTop (mkF m pc ls (.long x :: st))) t := by subst q; exact k
theorem ne_of {x y : Nat} (q : @Ne Nat x y) : @Ne Addr x y := q
theorem ldZ (X : Stand p l e R s m args below meth c T locs cells slots) (hx : p.tables.exec = Jvm.exec) (hZ : Z.Warmed39 s.vm) (e0 : T.heap = h) (A : AvI Z h a .boolean n f) (hj : 0 ≤ j.toInt ∧ j.toInt < n) (hg : g.method = m) (hs : g.stack = .int j :: .ref a :: rest) (hd : decode c.code g.pc = .ok (.baload, 1)) :
    ∀ t, Steps p.tables e below (T.setTop { g with pc := g.pc + 1, stack := .int (f j.toInt.toNat) :: rest }) t → Steps p.tables e below (T.setTop g) t := by
  obtain ⟨c, A, S, M, H⟩ := A
  exact fun t k => X.baloadBooleans hx (by rw [e0]; exact A.1) (State.isArrayOf_alike hZ.alike A.2.1) A.2.2 (inb S hj) (by rw [(clamp hj).1]; exact H _ (by omega)) hg hs hd _ k
theorem lrem_eq (x y : Int64) : x - x / y * y = x % y := by
  apply Int64.toInt_inj.mp
  have hy := Int64.toInt_mod x y
  have q := Int64.toInt_div x y
  rw [hy, Int64.toInt_sub, Int64.toInt_mul, q]
  have h1 := Int.tmod_add_mul_tdiv x.toInt y.toInt
  have h2 : x.toInt.tmod y.toInt = x.toInt - x.toInt.tdiv y.toInt * y.toInt := by rw [Int.mul_comm]; omega
  have h3 := rng64 x
  have h4 := rng64 y
  have h5 : (x.toInt.tmod y.toInt) % (2 ^ 64) = (x.toInt - x.toInt.tdiv y.toInt * y.toInt) % (2 ^ 64) := by rw [h2]
  have h6 : -2 ^ 63 ≤ x.toInt.tmod y.toInt ∧ x.toInt.tmod y.toInt < 2 ^ 63 := by rw [← hy]; exact ⟨(x % y).le_toInt, (x % y).toInt_lt⟩
  rw [← Int.bmod_eq_of_le (n := x.toInt.tmod y.toInt) (m := 2 ^ 64) (by omega) (by omega), h2]
  simp only [Int.bmod_sub_bmod, Int.sub_bmod_bmod, Int.bmod_mul_bmod, Int.mul_bmod_bmod]
theorem lremM {t : State} (X : Stand p l e R s m args below meth c T locs cells slots) (hx : p.tables.exec = Jvm.exec) (hg : g.method = m) {x y : Int64} (hd : decode c.code g.pc = .ok (.lrem, 1)) (hs : g.stack = .long y :: .long x :: rest) (hy : y ≠ 0)
    (hr : Steps p.tables e below (T.setTop { g with pc := g.pc + 1, stack := .long (x % y) :: rest }) t) : Steps p.tables e below (T.setTop g) t :=
  XS.lrem X.here hx hg hd hs hy (by rw [lrem_eq]; exact hr)
/-- a boolean as an int -/
def b2i (b : Bool) : Int32 := if b then 1 else 0
theorem b2i_t : b2i true = 1 := rfl
theorem b2i_f : b2i false = 0 := rfl
theorem b2i_nar (b : Bool) : nar .boolean (b2i b) = b2i b := by cases b <;> decide
theorem b2i_eq0 {b : Bool} : b2i b = 0 ↔ ¬ b = true := by cases b <;> decide
theorem b2i_inj {b b' : Bool} : b2i b = b2i b' ↔ b = b' := by cases b <;> cases b' <;> decide
end Kit
end Jvm.Own
namespace Jvm.Pilot.@@N@@
open Jvm Jvm.ClassFile Sem Op Lib Jvm.Free Jvm.Stand Jvm.LawKit Jvm.RoadKit Bundle Jvm.Pilot.@@N@@.Jvm.D
def own_FS (Z : State) (h : Heap) (a r n : Nat) (w : Nat → Int64) : Prop :=
  Exa Z h a "com/example/sluice/sluice/FieldSet" ∧ Fld Z h a "com/example/sluice/sluice/FieldSet" "first" "J" (.long (w 0)) ∧ n ≤ 3 ∧ ((n = 0 ∧ r = a ∧ Fld Z h a "com/example/sluice/sluice/FieldSet" "rest" "[J" .null) ∨ (0 < n ∧ @Ne Nat a r ∧ Fld Z h a "com/example/sluice/sluice/FieldSet" "rest" "[J" (.ref r) ∧ Own.AvJ Z h r n (fun k => w (k + 1))))
section FS
variable {Z : State} {h h' : Heap} {a r n : Nat} {w : Nat → Int64} {ws : List Addr}
theorem own_FS.ext (F : own_FS Z h a r n w) (E : Ext h h') : own_FS Z h' a r n w := by
  obtain ⟨f1, f2, f3, f4⟩ := F
  refine ⟨f1.ext E, f2.ext E, f3, ?_⟩
  rcases f4 with ⟨q1, q2, q3⟩ | ⟨q1, q2, q3, q4⟩
  · exact Or.inl ⟨q1, q2, q3.ext E⟩
  · exact Or.inr ⟨q1, q2, q3.ext E, q4.ext E⟩
theorem own_FS.keep (F : own_FS Z h a r n w) (K : Keep h h' ws) (ha : a ∉ ws) (hr : r ∉ ws) : own_FS Z h' a r n w := by
  obtain ⟨f1, f2, f3, f4⟩ := F
  refine ⟨f1.keep K, f2.keep K ha, f3, ?_⟩
  rcases f4 with ⟨q1, q2, q3⟩ | ⟨q1, q2, q3, q4⟩
  · exact Or.inl ⟨q1, q2, q3.keep K ha⟩
  · exact Or.inr ⟨q1, q2, q3.keep K ha, q4.keep K hr⟩
theorem own_FS.lt0 (F : own_FS Z h a r n w) : a < h.size := F.1.lt
theorem own_FS.lt1 (F : own_FS Z h a r n w) : r < h.size := by
  obtain ⟨f1, f2, f3, f4⟩ := F
  rcases f4 with ⟨q1, q2, q3⟩ | ⟨q1, q2, q3, q4⟩
  · rw [q2]; exact f1.lt
  · exact q4.lt
end FS
theorem own_eq {a b : Int32} : a = b ↔ a.toInt = b.toInt := Int32.toInt_inj.symm
theorem own_lt {a b : Int32} : a < b ↔ a.toInt < b.toInt := Int32.lt_iff_toInt_lt
def own_bit (i : Int32) : Int64 := (1 : Int64) <<< (i &&& 0x3f).toInt64
def own_ix (i : Int32) : Nat := (i.toInt / 64).toNat
def own_add (w : Nat → Int64) (i : Int32) : Nat → Int64 := fun k => if k = own_ix i then w k ||| own_bit i else w k
def own_has (w : Nat → Int64) (i : Int32) : Bool := decide (¬ w (own_ix i) &&& own_bit i = 0)
theorem own_k64 : (64 : Int32).toInt = 64 := by decide
theorem own_k1 : (1 : Int32).toInt = 1 := by decide
theorem own_div {i : Int32} (hi : 0 ≤ i.toInt) : (i / 64).toInt = i.toInt / 64 := by
  rw [Jvm.Kit.i32_div (by rw [own_k64]; omega), own_k64, Int.tdiv_eq_ediv_of_nonneg hi]
theorem own_dv1 {i : Int32} (hi : 0 ≤ i.toInt) : (i / 64 - 1).toInt = i.toInt / 64 - 1 := by
  have := rng32 i
  rw [Jvm.Kit.i32_sub, own_div hi, own_k1] <;> (try rw [own_div hi, own_k1]) <;> omega
theorem own_k {p : Int32} (h1 : 1 ≤ p.toInt ∧ p.toInt ≤ 256) (hc : (64 : Int32) < p) : ∃ k : Nat, ((p - 1) / 64).toInt = k ∧ 0 < k ∧ k ≤ 3 ∧ (k : Int) = (p.toInt - 1) / 64 := by
  rw [own_lt, own_k64] at hc
  have e1 : (p - 1).toInt = p.toInt - 1 := by rw [Jvm.Kit.i32_sub, own_k1] <;> (try rw [own_k1]) <;> omega
  have e2 : ((p - 1) / 64).toInt = (p.toInt - 1) / 64 := by rw [own_div (by omega), e1]
  exact ⟨((p.toInt - 1) / 64).toNat, by rw [e2]; omega, by omega, by omega, by omega⟩
theorem own_nn {z : Int32} {k : Nat} (h : z.toInt = k) : ¬ z < 0 := by
  rw [own_lt, h]; have : (0 : Int32).toInt = 0 := by decide
  rw [this]; omega
theorem own_cl {z : Int32} {k c : Nat} (h : z.toInt = k) (hk : k ≤ c) : z.toNatClampNeg ≤ c := by show z.toInt.toNat ≤ c; omega
theorem own_ix0 {i : Int32} (hi : 0 ≤ i.toInt) (h : i < 64) : own_ix i = 0 := by rw [own_lt, own_k64] at h; unfold own_ix; omega
theorem own_smod : ∀ m : Fin 64, ((Int32.ofNat m.val).toInt64.toBitVec.smod 64).toNat = m.val := by decide +kernel
theorem own_and63 (i : Int32) : (i &&& 0x3f) = Int32.ofNat (i.toInt % 64).toNat := by
  rw [own_eq, show (0x3f : Int32) = 63 from rfl, Jvm.Kit.i32_mask i 63 (k := 6) (by decide) (by decide), Int32.toInt_ofNat_of_lt (by omega)]
  omega
theorem own_bitB (i : Int32) : (own_bit i).toBitVec = BitVec.twoPow 64 (i.toInt % 64).toNat := by
  have h := own_smod ⟨(i.toInt % 64).toNat, by omega⟩
  unfold own_bit
  rw [own_and63, Int64.toBitVec_shiftLeft, BitVec.shiftLeft_eq', h, BitVec.twoPow]
  rfl
theorem own_and0 (x : BitVec 64) (m : Nat) (hm : m < 64) : x &&& BitVec.twoPow 64 m = 0#64 ↔ x.getLsbD m = false := by
  rw [BitVec.and_twoPow]
  cases h : x.getLsbD m
  · simp
  · simp only [if_true, Bool.true_eq_false, iff_false]
    intro q
    have := congrArg (fun z => z.getLsbD m) q
    simp [BitVec.getLsbD_twoPow, hm] at this
theorem own_hasB (w : Nat → Int64) (i : Int32) : own_has w i = (w (own_ix i)).toBitVec.getLsbD (i.toInt % 64).toNat := by
  unfold own_has
  have e : (w (own_ix i) &&& own_bit i = 0) ↔ (w (own_ix i)).toBitVec &&& BitVec.twoPow 64 (i.toInt % 64).toNat = 0#64 := by
    rw [← Int64.toBitVec_inj, Int64.toBitVec_and, own_bitB]; rfl
  have e2 := e.trans (own_and0 _ _ (by omega))
  cases hb : (w (own_ix i)).toBitVec.getLsbD (i.toInt % 64).toNat
  · exact decide_eq_false (fun q => q (e2.mpr hb))
  · exact decide_eq_true (fun q => by rw [e2.mp q] at hb; cases hb)
theorem own_hadd (w : Nat → Int64) {i j : Int32} (hi : 0 ≤ i.toInt) (hj : 0 ≤ j.toInt) : own_has (own_add w i) j = (own_has w j || decide (j = i)) := by
  rw [own_hasB, own_hasB]
  unfold own_add
  by_cases q : own_ix j = own_ix i
  · rw [if_pos q, Int64.toBitVec_or, BitVec.getLsbD_or, own_bitB, BitVec.getLsbD_twoPow]
    congr 1
    have : (i.toInt % 64).toNat = (j.toInt % 64).toNat ↔ j = i := by
      rw [own_eq]; unfold own_ix at q; omega
    simp [this]; omega
  · rw [if_neg q]
    have : ¬ j = i := fun e => q (by rw [e])
    simp [this]
theorem own_has0 (j : Int32) : own_has (fun _ => 0) j = false := by
  rw [own_hasB]; simp
theorem own_rem {v x n : Int32} (hn : 1 ≤ n.toInt) (h : v = (x &&& 2147483647) % n) : 0 ≤ v.toInt ∧ v.toInt < n.toInt := by
  have hm : (x &&& 2147483647).toInt = x.toInt % 2 ^ 31 := Jvm.Kit.i32_mask x 2147483647 (k := 31) (by decide) (by decide)
  rw [h, Jvm.Kit.i32_rem_nonneg (by omega)]
  exact ⟨Int.emod_nonneg _ (by omega), Int.emod_lt_of_pos _ (by omega)⟩
theorem own_nz {n : Int32} (hn : 1 ≤ n.toInt) : n ≠ 0 := fun q => by rw [q] at hn; exact absurd hn (by decide)
theorem own_in {v n : Int32} {k : Nat} (hv : 0 ≤ v.toInt ∧ v.toInt < n.toInt) (hk : (k : Int) = (n.toInt - 1) / 64) : 0 ≤ v.toInt ∧ v.toInt / 64 ≤ k := by omega
theorem own_cases {Z : State} {h : Heap} {a r n : Nat} {w : Nat → Int64} (F : own_FS Z h a r n w) : (n = 0 ∧ Fld Z h a "com/example/sluice/sluice/FieldSet" "rest" "[J" .null) ∨ (n = 1 ∧ Fld Z h a "com/example/sluice/sluice/FieldSet" "rest" "[J" (.ref r) ∧ Own.AvJ Z h r 1 (fun k => w (k + 1))) ∨ (n = 2 ∧ Fld Z h a "com/example/sluice/sluice/FieldSet" "rest" "[J" (.ref r) ∧ Own.AvJ Z h r 2 (fun k => w (k + 1))) ∨ (n = 3 ∧ Fld Z h a "com/example/sluice/sluice/FieldSet" "rest" "[J" (.ref r) ∧ Own.AvJ Z h r 3 (fun k => w (k + 1))) := by
  obtain ⟨-, -, h3, ⟨q1, -, q3⟩ | ⟨q1, -, q3, q4⟩⟩ := F
  · exact Or.inl ⟨q1, q3⟩
  · rcases (show n = 1 ∨ n = 2 ∨ n = 3 by omega) with rfl | rfl | rfl
    · exact Or.inr (Or.inl ⟨rfl, q3, q4⟩)
    · exact Or.inr (Or.inr (Or.inl ⟨rfl, q3, q4⟩))
    · exact Or.inr (Or.inr (Or.inr ⟨rfl, q3, q4⟩))

theorem d1_0 : decode prog_7_method_1_code 0 = .ok (.aload_n 0, 1) := by decide +kernel
theorem d1_1 : decode prog_7_method_1_code 1 = .ok (.invokespecial 1, 3) := by decide +kernel
theorem d1_4 : decode prog_7_method_1_code 4 = .ok (.aload_n 0, 1) := by decide +kernel
theorem d1_5 : decode prog_7_method_1_code 5 = .ok (.iload_n 1, 1) := by decide +kernel
theorem d1_6 : decode prog_7_method_1_code 6 = .ok (.bipush 64, 2) := by decide +kernel
theorem d1_8 : decode prog_7_method_1_code 8 = .ok (.if_icmp .le 14, 3) := by decide +kernel
theorem d1_11 : decode prog_7_method_1_code 11 = .ok (.iload_n 1, 1) := by decide +kernel
theorem d1_12 : decode prog_7_method_1_code 12 = .ok (.iconst 1, 1) := by decide +kernel
theorem d1_13 : decode prog_7_method_1_code 13 = .ok (.isub, 1) := by decide +kernel
theorem d1_14 : decode prog_7_method_1_code 14 = .ok (.bipush 64, 2) := by decide +kernel
theorem d1_16 : decode prog_7_method_1_code 16 = .ok (.idiv, 1) := by decide +kernel
theorem d1_17 : decode prog_7_method_1_code 17 = .ok (.newarray .long, 2) := by decide +kernel
theorem d1_19 : decode prog_7_method_1_code 19 = .ok (.goto 4, 3) := by decide +kernel
theorem d1_22 : decode prog_7_method_1_code 22 = .ok (.aconst_null, 1) := by decide +kernel
theorem d1_23 : decode prog_7_method_1_code 23 = .ok (.putfield 9, 3) := by decide +kernel
theorem d1_26 : decode prog_7_method_1_code 26 = .ok (.return_, 1) := by decide +kernel
theorem pn_0 : plainName "com/example/sluice/sluice/FieldSet" = true := by first | (simp [plainName, overriddenIn]; done) | decide +kernel
theorem ef_1 (m : MethodId) (o0 : Addr) (p1 : Int32) : entryFrame m #[(.ref o0), (.int p1)] 2 = mkF m 0 #[.val (.ref o0), .val (.int p1)] [] := by first | (simp [entryFrame, mkF, argsToLocals, Value.category]; done) | rfl
def Q1 (Z : State) (o0 : Nat) (p1 : Int32) (h0 : Heap) (n0 : Nat) (v : Option Value) (h : Heap) (L : List Loc) : Prop := v = none ∧ Fr n0 L ∧ Keep h0 h [o0] ∧ ∃ r n : Nat, own_FS Z h o0 r n (fun _ => 0) ∧ (n : Int) = (p1.toInt - 1) / 64 ∧ (r = o0 ∨ h0.size ≤ r)
set_option maxRecDepth 65536 in
set_option maxHeartbeats 40000000 in
theorem rm1 (l : Launch) (Z : State) (a0 : Array Value) (hw : ∀ d ∈ tables_1, d.before a0 Z = true) (ws : List Jvm.Cond) (o0 : Nat) (p1 : Int32) (h0 : Heap) (n0 : Nat) (Z0 : n0 ≤ h0.size) (g0 : n0 ≤ o0) (hs : 1 ≤ p1.toInt ∧ p1.toInt ≤ 256) (E_a0 : Exa Z h0 o0 "com/example/sluice/sluice/FieldSet") (F_first : Fld Z h0 o0 "com/example/sluice/sluice/FieldSet" "first" "J" (.long (0 : Int64))) (F_rest : Fld Z h0 o0 "com/example/sluice/sluice/FieldSet" "rest" "[J" .null) :
    MetFree l (⟨"com/example/sluice/sluice/FieldSet", "<init>", "(I)V"⟩ : MethodName) (head1 (Jvm.Cond.code (⟨"com/example/sluice/sluice/FieldSet", "<init>", "(I)V"⟩ : MethodName) prog_7_method_1_code 2 none :: ws) ({ frames := 1, cells := 1, slots := 3, locals := 12 } : Room)) (fun a U => a = #[(.ref o0), (.int p1)] ∧ Z.Warmed39 U.vm ∧ U.heap = h0) (fun _ _ _ _ _ => True) (fun _ U o U' => ∃ v L, o = .returned v ∧ Q1 Z o0 p1 h0 n0 v U'.heap L ∧ FrameEnd U o U' L ({ frames := 1, cells := 1, slots := 3, locals := 12 } : Room).cells ({ frames := 1, cells := 1, slots := 3, locals := 12 } : Room).slots) := by
  refine Own.enter (Q := Q1 Z o0 p1 h0 n0) (plainFor_of_name pn_0) ?_
  intro p e s m below meth c s₁ D hx hby hml hown hnm hret hZ X0 e0 hD hR
  have N0 := Fr.nil n0
  have K0 : Keep h0 h0 [o0] := Keep.refl h0 _
  rw [show entryFrame m #[(.ref o0), (.int p1)] 2 = mkF m 0 #[.val (.ref o0), .val (.int p1)] [] from ef_1 m o0 p1]
  obtain ⟨T1, X1, e1, st1⟩ := initO X0 hx hZ hown (hw _ (List.mem_of_getElem? (i := 7) rfl)) (hw _ (List.mem_of_getElem? (i := 8) rfl)) (hw _ (List.mem_of_getElem? (i := 9) rfl)) e0 (g := (mkF m 1 #[.val (.ref o0), .val (.int p1)] [(.ref o0)])) rfl (by rw [hml]; rfl) rfl (hb hby d1_1) (by decide) (W := 0) (by show 2 * 0 + _ ≤ _; exact Nat.le_of_eq rfl) (by decide)
  refine hD _ (T1.setTop (mkF m 8 #[.val (.ref o0), .val (.int p1)] [(.int (64 : Int32)), (.int p1), (.ref o0)])) (fun t k => ?_) ?_
  · show Steps p.tables e below (s₁.setTop (mkF m 0 #[.val (.ref o0), .val (.int p1)] [])) t
    refine XS.aloadN X0.here hx rfl (hb hby d1_0) rfl rfl ?_
    show Steps p.tables e below (s₁.setTop (mkF m 1 #[.val (.ref o0), .val (.int p1)] [(.ref o0)])) t
    refine st1 _ ?_
    show Steps p.tables e below (T1.setTop (mkF m 4 #[.val (.ref o0), .val (.int p1)] [])) t
    refine XS.aloadN X1.here hx rfl (hb hby d1_4) rfl rfl ?_
    show Steps p.tables e below (T1.setTop (mkF m 5 #[.val (.ref o0), .val (.int p1)] [(.ref o0)])) t
    refine XS.iloadN X1.here hx rfl (hb hby d1_5) rfl ?_
    show Steps p.tables e below (T1.setTop (mkF m 6 #[.val (.ref o0), .val (.int p1)] [(.int p1), (.ref o0)])) t
    refine XS.bipush X1.here hx rfl (hb hby d1_6) ?_
    show Steps p.tables e below (T1.setTop (mkF m 8 #[.val (.ref o0), .val (.int p1)] [(.int (64 : Int32)), (.int p1), (.ref o0)])) t
    exact k
  by_cases hc2 : (64 : Int32) < p1
  · have hnz3 : (64 : Int32) ≠ 0 := by decide
    obtain ⟨k, hk1, hk2, hk3, hk4⟩ := own_k hs hc2
    obtain ⟨T4, h4, k4, X4, e4, E4, A4, st4⟩ := newP X1 hx hZ (hw _ (List.mem_of_getElem? (i := 36) rfl)) e1 (g := (mkF m 17 #[.val (.ref o0), .val (.int p1)] [(.int ((p1 - (1 : Int32)) / (64 : Int32))), (.ref o0)])) rfl (hb hby d1_17) rfl (own_nn hk1) (cap := 3) (own_cl hk1 hk3) (by decide) (by decide) (by decide)
    obtain ⟨b4, g_b4⟩ : ∃ z : Nat, z = h0.size := ⟨_, rfl⟩
    rw [← g_b4] at A4 st4
    have lt_o0_b4 : (o0 : Nat) < b4 := by rw [g_b4]; exact E_a0.lt
    have g0_b4 : n0 ≤ b4 := by rw [g_b4]; exact Z0
    have gk_b4 : h0.size ≤ b4 := by rw [g_b4]; exact K0.1
    have f5 : Exa Z h4 o0 "com/example/sluice/sluice/FieldSet" := (E_a0.ext E4)
    have f6 : Fld Z h4 o0 "com/example/sluice/sluice/FieldSet" "first" "J" (.long (0 : Int64)) := (F_first.ext E4)
    have f7 : Fld Z h4 o0 "com/example/sluice/sluice/FieldSet" "rest" "[J" .null := (F_rest.ext E4)
    have f8 : Own.AvJ Z h4 b4 k (fun _ => 0) := Own.AvJ.new A4 hk1
    have Z4 : n0 ≤ h4.size := Nat.le_trans Z0 E4.1
    have K4 : Keep h0 h4 [o0] := K0.ext E4
    obtain ⟨T9, h9, X9, e9, W9, st9⟩ := putF X4 hx hZ hown (host := "") (Or.inl (hw _ (List.mem_of_getElem? (i := 10) rfl))) Via.refl e4 f7 f5 (Or.inr ⟨(hw _ (List.mem_of_getElem? (i := 11) rfl)), rfl, hnm⟩) (hw _ (List.mem_of_getElem? (i := 2) rfl)) (ty := (.array .long)) (by decide) rfl rfl (g := (mkF m 23 #[.val (.ref o0), .val (.int p1)] [(.ref b4), (.ref o0)])) rfl rfl (hb hby d1_23)
    have f10 : Fld Z h9 o0 "com/example/sluice/sluice/FieldSet" "rest" "[J" (.ref b4) := f7.same W9
    have f11 : Exa Z h9 o0 "com/example/sluice/sluice/FieldSet" := f5.wr W9
    have f12 : Fld Z h9 o0 "com/example/sluice/sluice/FieldSet" "first" "J" (.long (0 : Int64)) := f6.other W9 (Or.inr (slot_ne (Or.inl (hw _ (List.mem_of_getElem? (i := 18) rfl))) (Or.inr (hw _ (List.mem_of_getElem? (i := 11) rfl))) (by decide) (t := .long) (t' := (.array .long)) (by decide) (by decide)))
    have f13 : Own.AvJ Z h9 b4 k (fun _ => 0) := f8.other W9 (Own.ne_of (by omega))
    have N9 := Fr.snoc X9 N0 (show n0 ≤ o0 by omega)
    have Z9 : n0 ≤ h9.size := Nat.le_trans Z4 (Keep.of_wr W9).1
    have K9 : Keep h0 h9 [o0] := K4.wr W9 (Or.inl (List.mem_of_getElem? (i := 0) rfl))
    refine hD _ (T9.setTop (mkF m 26 #[.val (.ref o0), .val (.int p1)] [])) (fun t k => ?_) ?_
    · show Steps p.tables e below (T1.setTop (mkF m 8 #[.val (.ref o0), .val (.int p1)] [(.int (64 : Int32)), (.int p1), (.ref o0)])) t
      refine XS.icmpNo X1.here hx rfl (hb hby d1_8) rfl (tlt hc2).2.2.2 ?_
      show Steps p.tables e below (T1.setTop (mkF m 11 #[.val (.ref o0), .val (.int p1)] [(.ref o0)])) t
      refine XS.iloadN X1.here hx rfl (hb hby d1_11) rfl ?_
      show Steps p.tables e below (T1.setTop (mkF m 12 #[.val (.ref o0), .val (.int p1)] [(.int p1), (.ref o0)])) t
      refine XS.iconst X1.here hx rfl (hb hby d1_12) ?_
      show Steps p.tables e below (T1.setTop (mkF m 13 #[.val (.ref o0), .val (.int p1)] [(.int (1 : Int32)), (.int p1), (.ref o0)])) t
      refine XS.isub X1.here hx rfl (hb hby d1_13) rfl ?_
      show Steps p.tables e below (T1.setTop (mkF m 14 #[.val (.ref o0), .val (.int p1)] [(.int (p1 - (1 : Int32))), (.ref o0)])) t
      refine XS.bipush X1.here hx rfl (hb hby d1_14) ?_
      show Steps p.tables e below (T1.setTop (mkF m 16 #[.val (.ref o0), .val (.int p1)] [(.int (64 : Int32)), (.int (p1 - (1 : Int32))), (.ref o0)])) t
      refine XS.idiv X1.here hx rfl (hb hby d1_16) rfl hnz3 ?_
      show Steps p.tables e below (T1.setTop (mkF m 17 #[.val (.ref o0), .val (.int p1)] [(.int ((p1 - (1 : Int32)) / (64 : Int32))), (.ref o0)])) t
      refine st4 _ ?_
      show Steps p.tables e below (T4.setTop (mkF m 19 #[.val (.ref o0), .val (.int p1)] [(.ref b4), (.ref o0)])) t
      refine XS.goto X4.here hx rfl (pc0 := 19) (pc' := 23) rfl (hb hby d1_19) (by decide) (by decide) ?_
      show Steps p.tables e below (T4.setTop (mkF m 23 #[.val (.ref o0), .val (.int p1)] [(.ref b4), (.ref o0)])) t
      refine st9 _ ?_
      show Steps p.tables e below (T9.setTop (mkF m 26 #[.val (.ref o0), .val (.int p1)] [])) t
      exact k
    exact Own.retV hR X9 hx hret (hb hby d1_26) (by decide) (by decide) ⟨rfl, N9, by rw [e9]; exact K9, b4, k, by rw [e9]; exact ⟨f11, f12, hk3, Or.inr ⟨hk2, (show (o0 : Nat) ≠ b4 by omega), f10, f13⟩⟩, hk4, Or.inr gk_b4⟩
  · obtain ⟨T14, h14, X14, e14, W14, st14⟩ := putF X1 hx hZ hown (host := "") (Or.inl (hw _ (List.mem_of_getElem? (i := 10) rfl))) Via.refl e1 F_rest E_a0 (Or.inr ⟨(hw _ (List.mem_of_getElem? (i := 11) rfl)), rfl, hnm⟩) (hw _ (List.mem_of_getElem? (i := 2) rfl)) (ty := (.array .long)) (by decide) rfl rfl (g := (mkF m 23 #[.val (.ref o0), .val (.int p1)] [.null, (.ref o0)])) rfl rfl (hb hby d1_23)
    have f15 : Fld Z h14 o0 "com/example/sluice/sluice/FieldSet" "rest" "[J" .null := F_rest.same W14
    have f16 : Exa Z h14 o0 "com/example/sluice/sluice/FieldSet" := E_a0.wr W14
    have f17 : Fld Z h14 o0 "com/example/sluice/sluice/FieldSet" "first" "J" (.long (0 : Int64)) := F_first.other W14 (Or.inr (slot_ne (Or.inl (hw _ (List.mem_of_getElem? (i := 18) rfl))) (Or.inr (hw _ (List.mem_of_getElem? (i := 11) rfl))) (by decide) (t := .long) (t' := (.array .long)) (by decide) (by decide)))
    have N14 := Fr.snoc X14 N0 (show n0 ≤ o0 by omega)
    have Z14 : n0 ≤ h14.size := Nat.le_trans Z0 (Keep.of_wr W14).1
    have K14 : Keep h0 h14 [o0] := K0.wr W14 (Or.inl (List.mem_of_getElem? (i := 0) rfl))
    refine hD _ (T14.setTop (mkF m 26 #[.val (.ref o0), .val (.int p1)] [])) (fun t k => ?_) ?_
    · show Steps p.tables e below (T1.setTop (mkF m 8 #[.val (.ref o0), .val (.int p1)] [(.int (64 : Int32)), (.int p1), (.ref o0)])) t
      refine XS.icmpYes X1.here hx rfl (pc0 := 8) (pc' := 22) rfl (hb hby d1_8) rfl (flt hc2).2.2.2 (by decide) (by decide) ?_
      show Steps p.tables e below (T1.setTop (mkF m 22 #[.val (.ref o0), .val (.int p1)] [(.ref o0)])) t
      refine XS.aconstNull X1.here hx rfl (hb hby d1_22) ?_
      show Steps p.tables e below (T1.setTop (mkF m 23 #[.val (.ref o0), .val (.int p1)] [.null, (.ref o0)])) t
      refine st14 _ ?_
      show Steps p.tables e below (T14.setTop (mkF m 26 #[.val (.ref o0), .val (.int p1)] [])) t
      exact k
    have hle := hc2
    rw [own_lt, own_k64] at hle
    exact Own.retV hR X14 hx hret (hb hby d1_26) (by decide) (by decide) ⟨rfl, N14, by rw [e14]; exact K14, o0, 0, by rw [e14]; exact ⟨f16, f17, by decide, Or.inl ⟨rfl, rfl, f15⟩⟩, by omega, Or.inl rfl⟩
theorem d2_0 : decode prog_7_method_3_code 0 = .ok (.iload_n 1, 1) := by decide +kernel
theorem d2_1 : decode prog_7_method_3_code 1 = .ok (.bipush 64, 2) := by decide +kernel
theorem d2_3 : decode prog_7_method_3_code 3 = .ok (.if_icmp .ge 18, 3) := by decide +kernel
theorem d2_6 : decode prog_7_method_3_code 6 = .ok (.aload_n 0, 1) := by decide +kernel
theorem d2_7 : decode prog_7_method_3_code 7 = .ok (.dup, 1) := by decide +kernel
theorem d2_8 : decode prog_7_method_3_code 8 = .ok (.getfield 15, 3) := by decide +kernel
theorem d2_11 : decode prog_7_method_3_code 11 = .ok (.lconst 1, 1) := by decide +kernel
theorem d2_12 : decode prog_7_method_3_code 12 = .ok (.iload_n 1, 1) := by decide +kernel
theorem d2_13 : decode prog_7_method_3_code 13 = .ok (.lshl, 1) := by decide +kernel
theorem d2_14 : decode prog_7_method_3_code 14 = .ok (.lor, 1) := by decide +kernel
theorem d2_15 : decode prog_7_method_3_code 15 = .ok (.putfield 15, 3) := by decide +kernel
theorem d2_18 : decode prog_7_method_3_code 18 = .ok (.goto 20, 3) := by decide +kernel
theorem d2_21 : decode prog_7_method_3_code 21 = .ok (.aload_n 0, 1) := by decide +kernel
theorem d2_22 : decode prog_7_method_3_code 22 = .ok (.getfield 9, 3) := by decide +kernel
theorem d2_25 : decode prog_7_method_3_code 25 = .ok (.iload_n 1, 1) := by decide +kernel
theorem d2_26 : decode prog_7_method_3_code 26 = .ok (.bipush 64, 2) := by decide +kernel
theorem d2_28 : decode prog_7_method_3_code 28 = .ok (.idiv, 1) := by decide +kernel
theorem d2_29 : decode prog_7_method_3_code 29 = .ok (.iconst 1, 1) := by decide +kernel
theorem d2_30 : decode prog_7_method_3_code 30 = .ok (.isub, 1) := by decide +kernel
theorem d2_31 : decode prog_7_method_3_code 31 = .ok (.dup2, 1) := by decide +kernel
theorem d2_32 : decode prog_7_method_3_code 32 = .ok (.laload, 1) := by decide +kernel
theorem d2_33 : decode prog_7_method_3_code 33 = .ok (.lconst 1, 1) := by decide +kernel
theorem d2_34 : decode prog_7_method_3_code 34 = .ok (.iload_n 1, 1) := by decide +kernel
theorem d2_35 : decode prog_7_method_3_code 35 = .ok (.lshl, 1) := by decide +kernel
theorem d2_36 : decode prog_7_method_3_code 36 = .ok (.lor, 1) := by decide +kernel
theorem d2_37 : decode prog_7_method_3_code 37 = .ok (.lastore, 1) := by decide +kernel
theorem d2_38 : decode prog_7_method_3_code 38 = .ok (.return_, 1) := by decide +kernel
theorem ef_2 (m : MethodId) (o0 : Addr) (p1 : Int32) : entryFrame m #[(.ref o0), (.int p1)] 2 = mkF m 0 #[.val (.ref o0), .val (.int p1)] [] := by first | (simp [entryFrame, mkF, argsToLocals, Value.category]; done) | rfl
def Q2 (Z : State) (o0 : Nat) (p1 : Int32) (r n : Nat) (w : Nat → Int64) (h0 : Heap) (n0 : Nat) (v : Option Value) (h : Heap) (L : List Loc) : Prop := v = none ∧ Fr n0 L ∧ Keep h0 h [o0, r] ∧ own_FS Z h o0 r n (own_add w p1)
set_option maxRecDepth 65536 in
set_option maxHeartbeats 40000000 in
theorem rm2 (l : Launch) (Z : State) (a0 : Array Value) (hw : ∀ d ∈ tables_1, d.before a0 Z = true) (ws : List Jvm.Cond) (o0 : Nat) (p1 : Int32) (r n : Nat) (w : Nat → Int64) (h0 : Heap) (n0 : Nat) (Z0 : n0 ≤ h0.size) (g0 : n0 ≤ o0) (gr : n0 ≤ r) (hi : 0 ≤ p1.toInt ∧ p1.toInt / 64 ≤ n) (F : own_FS Z h0 o0 r n w) :
    MetFree l (⟨"com/example/sluice/sluice/FieldSet", "add", "(I)V"⟩ : MethodName) (head1 (Jvm.Cond.code (⟨"com/example/sluice/sluice/FieldSet", "add", "(I)V"⟩ : MethodName) prog_7_method_3_code 2 none :: ws) ({ frames := 0, cells := 0, slots := 0, locals := 0 } : Room)) (fun a U => a = #[(.ref o0), (.int p1)] ∧ Z.Warmed39 U.vm ∧ U.heap = h0) (fun _ _ _ _ _ => True) (fun _ U o U' => ∃ v L, o = .returned v ∧ Q2 Z o0 p1 r n w h0 n0 v U'.heap L ∧ FrameEnd U o U' L ({ frames := 0, cells := 0, slots := 0, locals := 0 } : Room).cells ({ frames := 0, cells := 0, slots := 0, locals := 0 } : Room).slots) := by
  refine Own.enter (Q := Q2 Z o0 p1 r n w h0 n0) (plainFor_of_name pn_0) ?_
  intro p e s m below meth c s₁ D hx hby hml hown hnm hret hZ X0 e0 hD hR
  have N0 := Fr.nil n0
  have K0 : Keep h0 h0 [o0, r] := Keep.refl h0 _
  rw [show entryFrame m #[(.ref o0), (.int p1)] 2 = mkF m 0 #[.val (.ref o0), .val (.int p1)] [] from ef_2 m o0 p1]
  obtain ⟨E_a0, F_first, hn3, hrest⟩ := F
  refine hD _ (s₁.setTop (mkF m 3 #[.val (.ref o0), .val (.int p1)] [(.int (64 : Int32)), (.int p1)])) (fun t k => ?_) ?_
  · show Steps p.tables e below (s₁.setTop (mkF m 0 #[.val (.ref o0), .val (.int p1)] [])) t
    refine XS.iloadN X0.here hx rfl (hb hby d2_0) rfl ?_
    show Steps p.tables e below (s₁.setTop (mkF m 1 #[.val (.ref o0), .val (.int p1)] [(.int p1)])) t
    refine XS.bipush X0.here hx rfl (hb hby d2_1) ?_
    show Steps p.tables e below (s₁.setTop (mkF m 3 #[.val (.ref o0), .val (.int p1)] [(.int (64 : Int32)), (.int p1)])) t
    exact k
  by_cases hc1 : p1 < (64 : Int32)
  · obtain ⟨T2, X2, e2, st2⟩ := getF X0 hx hZ hown (host := "") (Or.inl (hw _ (List.mem_of_getElem? (i := 17) rfl))) Via.refl e0 F_first (g := (mkF m 8 #[.val (.ref o0), .val (.int p1)] [(.ref o0), (.ref o0)])) rfl rfl (hb hby d2_8)
    obtain ⟨T3, h3, X3, e3, W3, st3⟩ := putF X2 hx hZ hown (host := "") (Or.inl (hw _ (List.mem_of_getElem? (i := 17) rfl))) Via.refl e2 F_first E_a0 (Or.inl (hw _ (List.mem_of_getElem? (i := 18) rfl))) (hw _ (List.mem_of_getElem? (i := 2) rfl)) (ty := .long) (by decide) rfl rfl (g := (mkF m 15 #[.val (.ref o0), .val (.int p1)] [(.long ((w 0) ||| ((1 : Int64) <<< (p1 &&& 0x3f).toInt64))), (.ref o0)])) rfl rfl (hb hby d2_15)
    have f4 : Fld Z h3 o0 "com/example/sluice/sluice/FieldSet" "first" "J" (.long ((w 0) ||| ((1 : Int64) <<< (p1 &&& 0x3f).toInt64))) := F_first.same W3
    have f5 : Exa Z h3 o0 "com/example/sluice/sluice/FieldSet" := E_a0.wr W3
    have N3 := Fr.snoc X3 N0 (show n0 ≤ o0 by omega)
    have Z3 : n0 ≤ h3.size := Nat.le_trans Z0 (Keep.of_wr W3).1
    have K3 : Keep h0 h3 [o0, r] := K0.wr W3 (Or.inl (List.mem_of_getElem? (i := 0) rfl))
    refine hD _ (T3.setTop (mkF m 38 #[.val (.ref o0), .val (.int p1)] [])) (fun t k => ?_) ?_
    · show Steps p.tables e below (s₁.setTop (mkF m 3 #[.val (.ref o0), .val (.int p1)] [(.int (64 : Int32)), (.int p1)])) t
      refine XS.icmpNo X0.here hx rfl (hb hby d2_3) rfl (tlt hc1).2.1 ?_
      show Steps p.tables e below (s₁.setTop (mkF m 6 #[.val (.ref o0), .val (.int p1)] [])) t
      refine XS.aloadN X0.here hx rfl (hb hby d2_6) rfl rfl ?_
      show Steps p.tables e below (s₁.setTop (mkF m 7 #[.val (.ref o0), .val (.int p1)] [(.ref o0)])) t
      refine XS.dup X0.here hx rfl (hb hby d2_7) rfl rfl ?_
      show Steps p.tables e below (s₁.setTop (mkF m 8 #[.val (.ref o0), .val (.int p1)] [(.ref o0), (.ref o0)])) t
      refine st2 _ ?_
      show Steps p.tables e below (T2.setTop (mkF m 11 #[.val (.ref o0), .val (.int p1)] [(.long (w 0)), (.ref o0)])) t
      refine XS.lconst X2.here hx rfl (hb hby d2_11) ?_
      show Steps p.tables e below (T2.setTop (mkF m 12 #[.val (.ref o0), .val (.int p1)] [(.long (1 : Int64)), (.long (w 0)), (.ref o0)])) t
      refine XS.iloadN X2.here hx rfl (hb hby d2_12) rfl ?_
      show Steps p.tables e below (T2.setTop (mkF m 13 #[.val (.ref o0), .val (.int p1)] [(.int p1), (.long (1 : Int64)), (.long (w 0)), (.ref o0)])) t
      refine XS.lshl X2.here hx rfl (hb hby d2_13) rfl ?_
      show Steps p.tables e below (T2.setTop (mkF m 14 #[.val (.ref o0), .val (.int p1)] [(.long ((1 : Int64) <<< (p1 &&& 0x3f).toInt64)), (.long (w 0)), (.ref o0)])) t
      refine XS.lor X2.here hx rfl (hb hby d2_14) rfl ?_
      show Steps p.tables e below (T2.setTop (mkF m 15 #[.val (.ref o0), .val (.int p1)] [(.long ((w 0) ||| ((1 : Int64) <<< (p1 &&& 0x3f).toInt64))), (.ref o0)])) t
      refine st3 _ ?_
      show Steps p.tables e below (T3.setTop (mkF m 18 #[.val (.ref o0), .val (.int p1)] [])) t
      refine XS.goto X3.here hx rfl (pc0 := 18) (pc' := 38) rfl (hb hby d2_18) (by decide) (by decide) ?_
      show Steps p.tables e below (T3.setTop (mkF m 38 #[.val (.ref o0), .val (.int p1)] [])) t
      exact k
    have hix := own_ix0 hi.1 hc1
    have hnew : own_FS Z h3 o0 r n (own_add w p1) := by
      refine ⟨f5, ?_, hn3, ?_⟩
      · rw [show own_add w p1 0 = w 0 ||| own_bit p1 from if_pos hix.symm]; exact f4
      · have hfun : (fun k => own_add w p1 (k + 1)) = fun k => w (k + 1) := by funext k; exact if_neg (by omega)
        rw [hfun]
        rcases hrest with ⟨q1, q2, q3⟩ | ⟨q1, q2, q3, q4⟩
        · exact Or.inl ⟨q1, q2, q3.other W3 (Or.inr (slot_ne (Or.inr (hw _ (List.mem_of_getElem? (i := 11) rfl))) (Or.inl (hw _ (List.mem_of_getElem? (i := 18) rfl))) (by decide) (t := (.array .long)) (t' := .long) (by decide) (by decide)))⟩
        · exact Or.inr ⟨q1, q2, q3.other W3 (Or.inr (slot_ne (Or.inr (hw _ (List.mem_of_getElem? (i := 11) rfl))) (Or.inl (hw _ (List.mem_of_getElem? (i := 18) rfl))) (by decide) (t := (.array .long)) (t' := .long) (by decide) (by decide))), q4.other W3 (Ne.symm (Own.ne_of q2))⟩
    exact Own.retV hR X3 hx hret (hb hby d2_38) (by decide) (by decide) ⟨rfl, N3, by rw [e3]; exact ⟨K3, hnew⟩⟩
  · have hge := hc1
    rw [own_lt, own_k64] at hge
    obtain ⟨q1, q2, F_rest, A_r⟩ : 0 < n ∧ @Ne Nat o0 r ∧ Fld Z h0 o0 "com/example/sluice/sluice/FieldSet" "rest" "[J" (.ref r) ∧ Own.AvJ Z h0 r n (fun k => w (k + 1)) := hrest.resolve_left (fun q => by omega)
    obtain ⟨T6, X6, e6, st6⟩ := getF X0 hx hZ hown (host := "") (Or.inl (hw _ (List.mem_of_getElem? (i := 10) rfl))) Via.refl e0 F_rest (g := (mkF m 22 #[.val (.ref o0), .val (.int p1)] [(.ref o0)])) rfl rfl (hb hby d2_22)
    have hnz7 : (64 : Int32) ≠ 0 := by decide
    have hj8 : 0 ≤ ((p1 / (64 : Int32)) - (1 : Int32)).toInt ∧ ((p1 / (64 : Int32)) - (1 : Int32)).toInt < (n : Nat) := by rw [own_dv1 hi.1]; omega
    have hj9 : 0 ≤ ((p1 / (64 : Int32)) - (1 : Int32)).toInt ∧ ((p1 / (64 : Int32)) - (1 : Int32)).toInt < (n : Nat) := by rw [own_dv1 hi.1]; omega
    obtain ⟨T10, h10, X10, e10, A10, W10, st10⟩ := Own.stoJ X6 hx hZ e6 A_r hj9 (g := (mkF m 37 #[.val (.ref o0), .val (.int p1)] [(.long (((fun k => w (k + 1)) ((p1 / (64 : Int32)) - (1 : Int32)).toInt.toNat) ||| ((1 : Int64) <<< (p1 &&& 0x3f).toInt64))), (.int ((p1 / (64 : Int32)) - (1 : Int32))), (.ref r)])) rfl rfl (hb hby d2_37)
    have f11 : Exa Z h10 o0 "com/example/sluice/sluice/FieldSet" := E_a0.wr W10
    have f12 : Fld Z h10 o0 "com/example/sluice/sluice/FieldSet" "first" "J" (.long (w 0)) := F_first.other W10 (Or.inl (Own.ne_of (by omega)))
    have f13 : Fld Z h10 o0 "com/example/sluice/sluice/FieldSet" "rest" "[J" (.ref r) := F_rest.other W10 (Or.inl (Own.ne_of (by omega)))
    have N10 := Fr.snoc X10 N0 (show n0 ≤ r by omega)
    have Z10 : n0 ≤ h10.size := Nat.le_trans Z0 (Keep.of_wr W10).1
    have K10 : Keep h0 h10 [o0, r] := K0.wr W10 (Or.inl (List.mem_of_getElem? (i := 1) rfl))
    refine hD _ (T10.setTop (mkF m 38 #[.val (.ref o0), .val (.int p1)] [])) (fun t k => ?_) ?_
    · show Steps p.tables e below (s₁.setTop (mkF m 3 #[.val (.ref o0), .val (.int p1)] [(.int (64 : Int32)), (.int p1)])) t
      refine XS.icmpYes X0.here hx rfl (pc0 := 3) (pc' := 21) rfl (hb hby d2_3) rfl (flt hc1).2.1 (by decide) (by decide) ?_
      show Steps p.tables e below (s₁.setTop (mkF m 21 #[.val (.ref o0), .val (.int p1)] [])) t
      refine XS.aloadN X0.here hx rfl (hb hby d2_21) rfl rfl ?_
      show Steps p.tables e below (s₁.setTop (mkF m 22 #[.val (.ref o0), .val (.int p1)] [(.ref o0)])) t
      refine st6 _ ?_
      show Steps p.tables e below (T6.setTop (mkF m 25 #[.val (.ref o0), .val (.int p1)] [(.ref r)])) t
      refine XS.iloadN X6.here hx rfl (hb hby d2_25) rfl ?_
      show Steps p.tables e below (T6.setTop (mkF m 26 #[.val (.ref o0), .val (.int p1)] [(.int p1), (.ref r)])) t
      refine XS.bipush X6.here hx rfl (hb hby d2_26) ?_
      show Steps p.tables e below (T6.setTop (mkF m 28 #[.val (.ref o0), .val (.int p1)] [(.int (64 : Int32)), (.int p1), (.ref r)])) t
      refine XS.idiv X6.here hx rfl (hb hby d2_28) rfl hnz7 ?_
      show Steps p.tables e below (T6.setTop (mkF m 29 #[.val (.ref o0), .val (.int p1)] [(.int (p1 / (64 : Int32))), (.ref r)])) t
      refine XS.iconst X6.here hx rfl (hb hby d2_29) ?_
      show Steps p.tables e below (T6.setTop (mkF m 30 #[.val (.ref o0), .val (.int p1)] [(.int (1 : Int32)), (.int (p1 / (64 : Int32))), (.ref r)])) t
      refine XS.isub X6.here hx rfl (hb hby d2_30) rfl ?_
      show Steps p.tables e below (T6.setTop (mkF m 31 #[.val (.ref o0), .val (.int p1)] [(.int ((p1 / (64 : Int32)) - (1 : Int32))), (.ref r)])) t
      refine XT.dup2 X6.here hx rfl (hb hby d2_31) rfl rfl rfl ?_
      show Steps p.tables e below (T6.setTop (mkF m 32 #[.val (.ref o0), .val (.int p1)] [(.int ((p1 / (64 : Int32)) - (1 : Int32))), (.ref r), (.int ((p1 / (64 : Int32)) - (1 : Int32))), (.ref r)])) t
      refine Own.ldJ X6 hx hZ e6 A_r hj8 (g := (mkF m 32 #[.val (.ref o0), .val (.int p1)] [(.int ((p1 / (64 : Int32)) - (1 : Int32))), (.ref r), (.int ((p1 / (64 : Int32)) - (1 : Int32))), (.ref r)])) rfl rfl (hb hby d2_32) _ ?_
      show Steps p.tables e below (T6.setTop (mkF m 33 #[.val (.ref o0), .val (.int p1)] [(.long ((fun k => w (k + 1)) ((p1 / (64 : Int32)) - (1 : Int32)).toInt.toNat)), (.int ((p1 / (64 : Int32)) - (1 : Int32))), (.ref r)])) t
      refine XS.lconst X6.here hx rfl (hb hby d2_33) ?_
      show Steps p.tables e below (T6.setTop (mkF m 34 #[.val (.ref o0), .val (.int p1)] [(.long (1 : Int64)), (.long ((fun k => w (k + 1)) ((p1 / (64 : Int32)) - (1 : Int32)).toInt.toNat)), (.int ((p1 / (64 : Int32)) - (1 : Int32))), (.ref r)])) t
      refine XS.iloadN X6.here hx rfl (hb hby d2_34) rfl ?_
      show Steps p.tables e below (T6.setTop (mkF m 35 #[.val (.ref o0), .val (.int p1)] [(.int p1), (.long (1 : Int64)), (.long ((fun k => w (k + 1)) ((p1 / (64 : Int32)) - (1 : Int32)).toInt.toNat)), (.int ((p1 / (64 : Int32)) - (1 : Int32))), (.ref r)])) t
      refine XS.lshl X6.here hx rfl (hb hby d2_35) rfl ?_
      show Steps p.tables e below (T6.setTop (mkF m 36 #[.val (.ref o0), .val (.int p1)] [(.long ((1 : Int64) <<< (p1 &&& 0x3f).toInt64)), (.long ((fun k => w (k + 1)) ((p1 / (64 : Int32)) - (1 : Int32)).toInt.toNat)), (.int ((p1 / (64 : Int32)) - (1 : Int32))), (.ref r)])) t
      refine XS.lor X6.here hx rfl (hb hby d2_36) rfl ?_
      show Steps p.tables e below (T6.setTop (mkF m 37 #[.val (.ref o0), .val (.int p1)] [(.long (((fun k => w (k + 1)) ((p1 / (64 : Int32)) - (1 : Int32)).toInt.toNat) ||| ((1 : Int64) <<< (p1 &&& 0x3f).toInt64))), (.int ((p1 / (64 : Int32)) - (1 : Int32))), (.ref r)])) t
      refine st10 _ ?_
      show Steps p.tables e below (T10.setTop (mkF m 38 #[.val (.ref o0), .val (.int p1)] [])) t
      exact k
    have hnew : own_FS Z h10 o0 r n (own_add w p1) := by
      have hix : own_ix p1 = (p1 / 64 - 1).toInt.toNat + 1 := by rw [own_dv1 hi.1]; unfold own_ix; omega
      refine ⟨f11, ?_, hn3, Or.inr ⟨q1, q2, f13, A10.congr fun i hi' => ?_⟩⟩
      · rw [show own_add w p1 0 = w 0 from if_neg (by omega)]; exact f12
      · unfold own_add; rw [hix]
        show (if i + 1 = (p1 / 64 - 1).toInt.toNat + 1 then w (i + 1) ||| own_bit p1 else w (i + 1)) = if i = (p1 / 64 - 1).toInt.toNat then w ((p1 / 64 - 1).toInt.toNat + 1) ||| own_bit p1 else w (i + 1)
        by_cases e : i = (p1 / 64 - 1).toInt.toNat
        · rw [if_pos (by omega), if_pos e, e]
        · rw [if_neg (by omega), if_neg e]
    exact Own.retV hR X10 hx hret (hb hby d2_38) (by decide) (by decide) ⟨rfl, N10, by rw [e10]; exact ⟨K10, hnew⟩⟩
theorem d3_0 : decode prog_7_method_2_code 0 = .ok (.iload_n 1, 1) := by decide +kernel
theorem d3_1 : decode prog_7_method_2_code 1 = .ok (.bipush 64, 2) := by decide +kernel
theorem d3_3 : decode prog_7_method_2_code 3 = .ok (.if_icmp .ge 10, 3) := by decide +kernel
theorem d3_6 : decode prog_7_method_2_code 6 = .ok (.aload_n 0, 1) := by decide +kernel
theorem d3_7 : decode prog_7_method_2_code 7 = .ok (.getfield 15, 3) := by decide +kernel
theorem d3_10 : decode prog_7_method_2_code 10 = .ok (.goto 14, 3) := by decide +kernel
theorem d3_13 : decode prog_7_method_2_code 13 = .ok (.aload_n 0, 1) := by decide +kernel
theorem d3_14 : decode prog_7_method_2_code 14 = .ok (.getfield 9, 3) := by decide +kernel
theorem d3_17 : decode prog_7_method_2_code 17 = .ok (.iload_n 1, 1) := by decide +kernel
theorem d3_18 : decode prog_7_method_2_code 18 = .ok (.bipush 64, 2) := by decide +kernel
theorem d3_20 : decode prog_7_method_2_code 20 = .ok (.idiv, 1) := by decide +kernel
theorem d3_21 : decode prog_7_method_2_code 21 = .ok (.iconst 1, 1) := by decide +kernel
theorem d3_22 : decode prog_7_method_2_code 22 = .ok (.isub, 1) := by decide +kernel
theorem d3_23 : decode prog_7_method_2_code 23 = .ok (.laload, 1) := by decide +kernel
theorem d3_24 : decode prog_7_method_2_code 24 = .ok (.lstore_n 2, 1) := by decide +kernel
theorem d3_25 : decode prog_7_method_2_code 25 = .ok (.lload_n 2, 1) := by decide +kernel
theorem d3_26 : decode prog_7_method_2_code 26 = .ok (.lconst 1, 1) := by decide +kernel
theorem d3_27 : decode prog_7_method_2_code 27 = .ok (.iload_n 1, 1) := by decide +kernel
theorem d3_28 : decode prog_7_method_2_code 28 = .ok (.lshl, 1) := by decide +kernel
theorem d3_29 : decode prog_7_method_2_code 29 = .ok (.land, 1) := by decide +kernel
theorem d3_30 : decode prog_7_method_2_code 30 = .ok (.lconst 0, 1) := by decide +kernel
theorem d3_31 : decode prog_7_method_2_code 31 = .ok (.lcmp, 1) := by decide +kernel
theorem d3_32 : decode prog_7_method_2_code 32 = .ok (.ifCond .eq 7, 3) := by decide +kernel
theorem d3_35 : decode prog_7_method_2_code 35 = .ok (.iconst 1, 1) := by decide +kernel
theorem d3_36 : decode prog_7_method_2_code 36 = .ok (.goto 4, 3) := by decide +kernel
theorem d3_39 : decode prog_7_method_2_code 39 = .ok (.iconst 0, 1) := by decide +kernel
theorem d3_40 : decode prog_7_method_2_code 40 = .ok (.ireturn, 1) := by decide +kernel
theorem ef_3 (m : MethodId) (o0 : Addr) (p1 : Int32) : entryFrame m #[(.ref o0), (.int p1)] 4 = mkF m 0 #[.val (.ref o0), .val (.int p1), .unset, .unset] [] := by first | (simp [entryFrame, mkF, argsToLocals, Value.category]; done) | rfl
def Q3 (Z : State) (o0 : Nat) (p1 : Int32) (r n : Nat) (w : Nat → Int64) (h0 : Heap) (n0 : Nat) (v : Option Value) (h : Heap) (L : List Loc) : Prop := v = some (.int (Own.b2i (own_has w p1))) ∧ Fr n0 L ∧ h = h0
set_option maxRecDepth 65536 in
set_option maxHeartbeats 40000000 in
theorem rm3 (l : Launch) (Z : State) (a0 : Array Value) (hw : ∀ d ∈ tables_1, d.before a0 Z = true) (ws : List Jvm.Cond) (o0 : Nat) (p1 : Int32) (r n : Nat) (w : Nat → Int64) (h0 : Heap) (n0 : Nat) (hi : 0 ≤ p1.toInt ∧ p1.toInt / 64 ≤ n) (F : own_FS Z h0 o0 r n w) :
    MetFree l (⟨"com/example/sluice/sluice/FieldSet", "contains", "(I)Z"⟩ : MethodName) (head1 (Jvm.Cond.code (⟨"com/example/sluice/sluice/FieldSet", "contains", "(I)Z"⟩ : MethodName) prog_7_method_2_code 4 (some .boolean) :: ws) ({ frames := 0, cells := 0, slots := 0, locals := 0 } : Room)) (fun a U => a = #[(.ref o0), (.int p1)] ∧ Z.Warmed39 U.vm ∧ U.heap = h0) (fun _ _ _ _ _ => True) (fun _ U o U' => ∃ v L, o = .returned v ∧ Q3 Z o0 p1 r n w h0 n0 v U'.heap L ∧ FrameEnd U o U' L ({ frames := 0, cells := 0, slots := 0, locals := 0 } : Room).cells ({ frames := 0, cells := 0, slots := 0, locals := 0 } : Room).slots) := by
  refine Own.enter (Q := Q3 Z o0 p1 r n w h0 n0) (plainFor_of_name pn_0) ?_
  intro p e s m below meth c s₁ D hx hby hml hown hnm hret hZ X0 e0 hD hR
  have N0 := Fr.nil n0
  rw [show entryFrame m #[(.ref o0), (.int p1)] 4 = mkF m 0 #[.val (.ref o0), .val (.int p1), .unset, .unset] [] from ef_3 m o0 p1]
  obtain ⟨E_a0, F_first, hn3, hrest⟩ := F
  refine hD _ (s₁.setTop (mkF m 3 #[.val (.ref o0), .val (.int p1), .unset, .unset] [(.int (64 : Int32)), (.int p1)])) (fun t k => ?_) ?_
  · show Steps p.tables e below (s₁.setTop (mkF m 0 #[.val (.ref o0), .val (.int p1), .unset, .unset] [])) t
    refine XS.iloadN X0.here hx rfl (hb hby d3_0) rfl ?_
    show Steps p.tables e below (s₁.setTop (mkF m 1 #[.val (.ref o0), .val (.int p1), .unset, .unset] [(.int p1)])) t
    refine XS.bipush X0.here hx rfl (hb hby d3_1) ?_
    show Steps p.tables e below (s₁.setTop (mkF m 3 #[.val (.ref o0), .val (.int p1), .unset, .unset] [(.int (64 : Int32)), (.int p1)])) t
    exact k
  by_cases hc1 : p1 < (64 : Int32)
  · obtain ⟨T2, X2, e2, st2⟩ := getF X0 hx hZ hown (host := "") (Or.inl (hw _ (List.mem_of_getElem? (i := 17) rfl))) Via.refl e0 F_first (g := (mkF m 7 #[.val (.ref o0), .val (.int p1), .unset, .unset] [(.ref o0)])) rfl rfl (hb hby d3_7)
    obtain ⟨v3, hv3⟩ : ∃ z : Int64, z = (w 0) := ⟨_, rfl⟩
    refine hD _ (T2.setTop (mkF m 32 #[.val (.ref o0), .val (.int p1), .val (.long v3), .second] [(.int (lcmpW (v3 &&& ((1 : Int64) <<< (p1 &&& 0x3f).toInt64)) (0 : Int64)))])) (fun t k => ?_) ?_
    · show Steps p.tables e below (s₁.setTop (mkF m 3 #[.val (.ref o0), .val (.int p1), .unset, .unset] [(.int (64 : Int32)), (.int p1)])) t
      refine XS.icmpNo X0.here hx rfl (hb hby d3_3) rfl (tlt hc1).2.1 ?_
      show Steps p.tables e below (s₁.setTop (mkF m 6 #[.val (.ref o0), .val (.int p1), .unset, .unset] [])) t
      refine XS.aloadN X0.here hx rfl (hb hby d3_6) rfl rfl ?_
      show Steps p.tables e below (s₁.setTop (mkF m 7 #[.val (.ref o0), .val (.int p1), .unset, .unset] [(.ref o0)])) t
      refine st2 _ ?_
      show Steps p.tables e below (T2.setTop (mkF m 10 #[.val (.ref o0), .val (.int p1), .unset, .unset] [(.long (w 0))])) t
      refine XS.goto X2.here hx rfl (pc0 := 10) (pc' := 24) rfl (hb hby d3_10) (by decide) (by decide) ?_
      show Steps p.tables e below (T2.setTop (mkF m 24 #[.val (.ref o0), .val (.int p1), .unset, .unset] [(.long (w 0))])) t
      refine Own.nmJ hv3 ?_
      show Steps p.tables e below (T2.setTop (mkF m 24 #[.val (.ref o0), .val (.int p1), .unset, .unset] [(.long v3)])) t
      refine XS.lstoreN X2.here hx rfl (hb hby d3_24) rfl (l' := #[.val (.ref o0), .val (.int p1), .val (.long v3), .second]) rfl ?_
      show Steps p.tables e below (T2.setTop (mkF m 25 #[.val (.ref o0), .val (.int p1), .val (.long v3), .second] [])) t
      refine XS.lloadN X2.here hx rfl (hb hby d3_25) rfl ?_
      show Steps p.tables e below (T2.setTop (mkF m 26 #[.val (.ref o0), .val (.int p1), .val (.long v3), .second] [(.long v3)])) t
      refine XS.lconst X2.here hx rfl (hb hby d3_26) ?_
      show Steps p.tables e below (T2.setTop (mkF m 27 #[.val (.ref o0), .val (.int p1), .val (.long v3), .second] [(.long (1 : Int64)), (.long v3)])) t
      refine XS.iloadN X2.here hx rfl (hb hby d3_27) rfl ?_
      show Steps p.tables e below (T2.setTop (mkF m 28 #[.val (.ref o0), .val (.int p1), .val (.long v3), .second] [(.int p1), (.long (1 : Int64)), (.long v3)])) t
      refine XS.lshl X2.here hx rfl (hb hby d3_28) rfl ?_
      show Steps p.tables e below (T2.setTop (mkF m 29 #[.val (.ref o0), .val (.int p1), .val (.long v3), .second] [(.long ((1 : Int64) <<< (p1 &&& 0x3f).toInt64)), (.long v3)])) t
      refine XS.land X2.here hx rfl (hb hby d3_29) rfl ?_
      show Steps p.tables e below (T2.setTop (mkF m 30 #[.val (.ref o0), .val (.int p1), .val (.long v3), .second] [(.long (v3 &&& ((1 : Int64) <<< (p1 &&& 0x3f).toInt64)))])) t
      refine XS.lconst X2.here hx rfl (hb hby d3_30) ?_
      show Steps p.tables e below (T2.setTop (mkF m 31 #[.val (.ref o0), .val (.int p1), .val (.long v3), .second] [(.long (0 : Int64)), (.long (v3 &&& ((1 : Int64) <<< (p1 &&& 0x3f).toInt64)))])) t
      refine XS.lcmp X2.here hx rfl (hb hby d3_31) rfl ?_
      show Steps p.tables e below (T2.setTop (mkF m 32 #[.val (.ref o0), .val (.int p1), .val (.long v3), .second] [(.int (lcmpW (v3 &&& ((1 : Int64) <<< (p1 &&& 0x3f).toInt64)) (0 : Int64)))])) t
      exact k
    by_cases hc4 : (v3 &&& ((1 : Int64) <<< (p1 &&& 0x3f).toInt64)) = (0 : Int64)
    · refine hD _ (T2.setTop (mkF m 40 #[.val (.ref o0), .val (.int p1), .val (.long v3), .second] [(.int (0 : Int32))])) (fun t k => ?_) ?_
      · show Steps p.tables e below (T2.setTop (mkF m 32 #[.val (.ref o0), .val (.int p1), .val (.long v3), .second] [(.int (lcmpW (v3 &&& ((1 : Int64) <<< (p1 &&& 0x3f).toInt64)) (0 : Int64)))])) t
        refine XS.ifYes X2.here hx rfl (pc0 := 32) (pc' := 39) rfl (hb hby d3_32) rfl ((if0 _ _).trans (teq ((lw_eq (v3 &&& ((1 : Int64) <<< (p1 &&& 0x3f).toInt64)) (0 : Int64)).mpr hc4)).1) (by decide) (by decide) ?_
        show Steps p.tables e below (T2.setTop (mkF m 39 #[.val (.ref o0), .val (.int p1), .val (.long v3), .second] [])) t
        refine XS.iconst X2.here hx rfl (hb hby d3_39) ?_
        show Steps p.tables e below (T2.setTop (mkF m 40 #[.val (.ref o0), .val (.int p1), .val (.long v3), .second] [(.int (0 : Int32))])) t
        exact k
      have hix := own_ix0 hi.1 hc1
      have hv : v3 = w (own_ix p1) := by rw [hix]; exact hv3
      exact Own.retN hR X2 hx (t := .boolean) hret (by simp) (hb hby d3_40) (by decide) (by decide) (by decide) ⟨by rw [show own_has w p1 = false from decide_eq_false (fun q => q (by rw [← hv]; exact hc4))]; rfl, N0, e2⟩
    · refine hD _ (T2.setTop (mkF m 40 #[.val (.ref o0), .val (.int p1), .val (.long v3), .second] [(.int (1 : Int32))])) (fun t k => ?_) ?_
      · show Steps p.tables e below (T2.setTop (mkF m 32 #[.val (.ref o0), .val (.int p1), .val (.long v3), .second] [(.int (lcmpW (v3 &&& ((1 : Int64) <<< (p1 &&& 0x3f).toInt64)) (0 : Int64)))])) t
        refine XS.ifNo X2.here hx rfl (hb hby d3_32) rfl ((if0 _ _).trans (feq (fun q => hc4 ((lw_eq (v3 &&& ((1 : Int64) <<< (p1 &&& 0x3f).toInt64)) (0 : Int64)).mp q))).1) ?_
        show Steps p.tables e below (T2.setTop (mkF m 35 #[.val (.ref o0), .val (.int p1), .val (.long v3), .second] [])) t
        refine XS.iconst X2.here hx rfl (hb hby d3_35) ?_
        show Steps p.tables e below (T2.setTop (mkF m 36 #[.val (.ref o0), .val (.int p1), .val (.long v3), .second] [(.int (1 : Int32))])) t
        refine XS.goto X2.here hx rfl (pc0 := 36) (pc' := 40) rfl (hb hby d3_36) (by decide) (by decide) ?_
        show Steps p.tables e below (T2.setTop (mkF m 40 #[.val (.ref o0), .val (.int p1), .val (.long v3), .second] [(.int (1 : Int32))])) t
        exact k
      have hix := own_ix0 hi.1 hc1
      have hv : v3 = w (own_ix p1) := by rw [hix]; exact hv3
      exact Own.retN hR X2 hx (t := .boolean) hret (by simp) (hb hby d3_40) (by decide) (by decide) (by decide) ⟨by rw [show own_has w p1 = true from decide_eq_true (fun q => hc4 (by rw [hv]; exact q))]; rfl, N0, e2⟩
  · have hge := hc1
    rw [own_lt, own_k64] at hge
    obtain ⟨q1, q2, F_rest, A_r⟩ : 0 < n ∧ @Ne Nat o0 r ∧ Fld Z h0 o0 "com/example/sluice/sluice/FieldSet" "rest" "[J" (.ref r) ∧ Own.AvJ Z h0 r n (fun k => w (k + 1)) := hrest.resolve_left (fun q => by omega)
    obtain ⟨T5, X5, e5, st5⟩ := getF X0 hx hZ hown (host := "") (Or.inl (hw _ (List.mem_of_getElem? (i := 10) rfl))) Via.refl e0 F_rest (g := (mkF m 14 #[.val (.ref o0), .val (.int p1), .unset, .unset] [(.ref o0)])) rfl rfl (hb hby d3_14)
    have hnz6 : (64 : Int32) ≠ 0 := by decide
    have hj7 : 0 ≤ ((p1 / (64 : Int32)) - (1 : Int32)).toInt ∧ ((p1 / (64 : Int32)) - (1 : Int32)).toInt < (n : Nat) := by rw [own_dv1 hi.1]; omega
    obtain ⟨v8, hv8⟩ : ∃ z : Int64, z = ((fun k => w (k + 1)) ((p1 / (64 : Int32)) - (1 : Int32)).toInt.toNat) := ⟨_, rfl⟩
    refine hD _ (T5.setTop (mkF m 32 #[.val (.ref o0), .val (.int p1), .val (.long v8), .second] [(.int (lcmpW (v8 &&& ((1 : Int64) <<< (p1 &&& 0x3f).toInt64)) (0 : Int64)))])) (fun t k => ?_) ?_
    · show Steps p.tables e below (s₁.setTop (mkF m 3 #[.val (.ref o0), .val (.int p1), .unset, .unset] [(.int (64 : Int32)), (.int p1)])) t
      refine XS.icmpYes X0.here hx rfl (pc0 := 3) (pc' := 13) rfl (hb hby d3_3) rfl (flt hc1).2.1 (by decide) (by decide) ?_
      show Steps p.tables e below (s₁.setTop (mkF m 13 #[.val (.ref o0), .val (.int p1), .unset, .unset] [])) t
      refine XS.aloadN X0.here hx rfl (hb hby d3_13) rfl rfl ?_
      show Steps p.tables e below (s₁.setTop (mkF m 14 #[.val (.ref o0), .val (.int p1), .unset, .unset] [(.ref o0)])) t
      refine st5 _ ?_
      show Steps p.tables e below (T5.setTop (mkF m 17 #[.val (.ref o0), .val (.int p1), .unset, .unset] [(.ref r)])) t
      refine XS.iloadN X5.here hx rfl (hb hby d3_17) rfl ?_
      show Steps p.tables e below (T5.setTop (mkF m 18 #[.val (.ref o0), .val (.int p1), .unset, .unset] [(.int p1), (.ref r)])) t
      refine XS.bipush X5.here hx rfl (hb hby d3_18) ?_
      show Steps p.tables e below (T5.setTop (mkF m 20 #[.val (.ref o0), .val (.int p1), .unset, .unset] [(.int (64 : Int32)), (.int p1), (.ref r)])) t
      refine XS.idiv X5.here hx rfl (hb hby d3_20) rfl hnz6 ?_
      show Steps p.tables e below (T5.setTop (mkF m 21 #[.val (.ref o0), .val (.int p1), .unset, .unset] [(.int (p1 / (64 : Int32))), (.ref r)])) t
      refine XS.iconst X5.here hx rfl (hb hby d3_21) ?_
      show Steps p.tables e below (T5.setTop (mkF m 22 #[.val (.ref o0), .val (.int p1), .unset, .unset] [(.int (1 : Int32)), (.int (p1 / (64 : Int32))), (.ref r)])) t
      refine XS.isub X5.here hx rfl (hb hby d3_22) rfl ?_
      show Steps p.tables e below (T5.setTop (mkF m 23 #[.val (.ref o0), .val (.int p1), .unset, .unset] [(.int ((p1 / (64 : Int32)) - (1 : Int32))), (.ref r)])) t
      refine Own.ldJ X5 hx hZ e5 A_r hj7 (g := (mkF m 23 #[.val (.ref o0), .val (.int p1), .unset, .unset] [(.int ((p1 / (64 : Int32)) - (1 : Int32))), (.ref r)])) rfl rfl (hb hby d3_23) _ ?_
      show Steps p.tables e below (T5.setTop (mkF m 24 #[.val (.ref o0), .val (.int p1), .unset, .unset] [(.long ((fun k => w (k + 1)) ((p1 / (64 : Int32)) - (1 : Int32)).toInt.toNat))])) t
      refine Own.nmJ hv8 ?_
      show Steps p.tables e below (T5.setTop (mkF m 24 #[.val (.ref o0), .val (.int p1), .unset, .unset] [(.long v8)])) t
      refine XS.lstoreN X5.here hx rfl (hb hby d3_24) rfl (l' := #[.val (.ref o0), .val (.int p1), .val (.long v8), .second]) rfl ?_
      show Steps p.tables e below (T5.setTop (mkF m 25 #[.val (.ref o0), .val (.int p1), .val (.long v8), .second] [])) t
      refine XS.lloadN X5.here hx rfl (hb hby d3_25) rfl ?_
      show Steps p.tables e below (T5.setTop (mkF m 26 #[.val (.ref o0), .val (.int p1), .val (.long v8), .second] [(.long v8)])) t
      refine XS.lconst X5.here hx rfl (hb hby d3_26) ?_
      show Steps p.tables e below (T5.setTop (mkF m 27 #[.val (.ref o0), .val (.int p1), .val (.long v8), .second] [(.long (1 : Int64)), (.long v8)])) t
      refine XS.iloadN X5.here hx rfl (hb hby d3_27) rfl ?_
      show Steps p.tables e below (T5.setTop (mkF m 28 #[.val (.ref o0), .val (.int p1), .val (.long v8), .second] [(.int p1), (.long (1 : Int64)), (.long v8)])) t
      refine XS.lshl X5.here hx rfl (hb hby d3_28) rfl ?_
      show Steps p.tables e below (T5.setTop (mkF m 29 #[.val (.ref o0), .val (.int p1), .val (.long v8), .second] [(.long ((1 : Int64) <<< (p1 &&& 0x3f).toInt64)), (.long v8)])) t
      refine XS.land X5.here hx rfl (hb hby d3_29) rfl ?_
      show Steps p.tables e below (T5.setTop (mkF m 30 #[.val (.ref o0), .val (.int p1), .val (.long v8), .second] [(.long (v8 &&& ((1 : Int64) <<< (p1 &&& 0x3f).toInt64)))])) t
      refine XS.lconst X5.here hx rfl (hb hby d3_30) ?_
      show Steps p.tables e below (T5.setTop (mkF m 31 #[.val (.ref o0), .val (.int p1), .val (.long v8), .second] [(.long (0 : Int64)), (.long (v8 &&& ((1 : Int64) <<< (p1 &&& 0x3f).toInt64)))])) t
      refine XS.lcmp X5.here hx rfl (hb hby d3_31) rfl ?_
      show Steps p.tables e below (T5.setTop (mkF m 32 #[.val (.ref o0), .val (.int p1), .val (.long v8), .second] [(.int (lcmpW (v8 &&& ((1 : Int64) <<< (p1 &&& 0x3f).toInt64)) (0 : Int64)))])) t
      exact k
    by_cases hc9 : (v8 &&& ((1 : Int64) <<< (p1 &&& 0x3f).toInt64)) = (0 : Int64)
    · refine hD _ (T5.setTop (mkF m 40 #[.val (.ref o0), .val (.int p1), .val (.long v8), .second] [(.int (0 : Int32))])) (fun t k => ?_) ?_
      · show Steps p.tables e below (T5.setTop (mkF m 32 #[.val (.ref o0), .val (.int p1), .val (.long v8), .second] [(.int (lcmpW (v8 &&& ((1 : Int64) <<< (p1 &&& 0x3f).toInt64)) (0 : Int64)))])) t
        refine XS.ifYes X5.here hx rfl (pc0 := 32) (pc' := 39) rfl (hb hby d3_32) rfl ((if0 _ _).trans (teq ((lw_eq (v8 &&& ((1 : Int64) <<< (p1 &&& 0x3f).toInt64)) (0 : Int64)).mpr hc9)).1) (by decide) (by decide) ?_
        show Steps p.tables e below (T5.setTop (mkF m 39 #[.val (.ref o0), .val (.int p1), .val (.long v8), .second] [])) t
        refine XS.iconst X5.here hx rfl (hb hby d3_39) ?_
        show Steps p.tables e below (T5.setTop (mkF m 40 #[.val (.ref o0), .val (.int p1), .val (.long v8), .second] [(.int (0 : Int32))])) t
        exact k
      have hix : own_ix p1 = (p1 / 64 - 1).toInt.toNat + 1 := by rw [own_dv1 hi.1]; unfold own_ix; omega
      have hv : v8 = w (own_ix p1) := by rw [hix]; exact hv8
      exact Own.retN hR X5 hx (t := .boolean) hret (by simp) (hb hby d3_40) (by decide) (by decide) (by decide) ⟨by rw [show own_has w p1 = false from decide_eq_false (fun q => q (by rw [← hv]; exact hc9))]; rfl, N0, e5⟩
    · refine hD _ (T5.setTop (mkF m 40 #[.val (.ref o0), .val (.int p1), .val (.long v8), .second] [(.int (1 : Int32))])) (fun t k => ?_) ?_
      · show Steps p.tables e below (T5.setTop (mkF m 32 #[.val (.ref o0), .val (.int p1), .val (.long v8), .second] [(.int (lcmpW (v8 &&& ((1 : Int64) <<< (p1 &&& 0x3f).toInt64)) (0 : Int64)))])) t
        refine XS.ifNo X5.here hx rfl (hb hby d3_32) rfl ((if0 _ _).trans (feq (fun q => hc9 ((lw_eq (v8 &&& ((1 : Int64) <<< (p1 &&& 0x3f).toInt64)) (0 : Int64)).mp q))).1) ?_
        show Steps p.tables e below (T5.setTop (mkF m 35 #[.val (.ref o0), .val (.int p1), .val (.long v8), .second] [])) t
        refine XS.iconst X5.here hx rfl (hb hby d3_35) ?_
        show Steps p.tables e below (T5.setTop (mkF m 36 #[.val (.ref o0), .val (.int p1), .val (.long v8), .second] [(.int (1 : Int32))])) t
        refine XS.goto X5.here hx rfl (pc0 := 36) (pc' := 40) rfl (hb hby d3_36) (by decide) (by decide) ?_
        show Steps p.tables e below (T5.setTop (mkF m 40 #[.val (.ref o0), .val (.int p1), .val (.long v8), .second] [(.int (1 : Int32))])) t
        exact k
      have hix : own_ix p1 = (p1 / 64 - 1).toInt.toNat + 1 := by rw [own_dv1 hi.1]; unfold own_ix; omega
      have hv : v8 = w (own_ix p1) := by rw [hix]; exact hv8
      exact Own.retN hR X5 hx (t := .boolean) hret (by simp) (hb hby d3_40) (by decide) (by decide) (by decide) ⟨by rw [show own_has w p1 = true from decide_eq_true (fun q => hc9 (by rw [hv]; exact q))]; rfl, N0, e5⟩
theorem own_size {v x : Int32} (h : v = 1 + (x &&& 255)) : 1 ≤ v.toInt ∧ v.toInt ≤ 256 := by
  have e : (x &&& 255).toInt = x.toInt % 2 ^ 8 := Jvm.Kit.i32_mask x 255 (k := 8) (by decide) (by decide)
  rw [h, Jvm.Kit.i32_add, e, own_k1] <;> (try rw [e, own_k1]) <;> omega
def own_us (x : Int64) (k : Int32) : Int64 := (x.toUInt64 >>> (k &&& 0x3f).toInt64.toUInt64).toInt64
def own_b1 (x : Int64) : Int64 := x - (own_us x 1 &&& 6148914691236517205)
def own_b2 (x : Int64) : Int64 := (x &&& 3689348814741910323) + (own_us x 2 &&& 3689348814741910323)
def own_b3 (x : Int64) : Int64 := (x + own_us x 4) &&& 1085102592571150095
def own_b4 (x : Int64) : Int64 := x + own_us x 8
def own_b5 (x : Int64) : Int64 := x + own_us x 16
def own_b6 (x : Int64) : Int64 := x + own_us x 32
def own_bc (x : Int64) : Int32 := (own_b6 (own_b5 (own_b4 (own_b3 (own_b2 (own_b1 x)))))).toInt32 &&& 127
def own_sz : Nat → (Nat → Int64) → Int32
  | 0, w => own_bc (w 0)
  | k + 1, w => own_sz k w + own_bc (w (k + 1))
def own_bN (m : Nat) : Int64 := (1 : Int64) <<< (Int32.ofNat m).toInt64
theorem own_bNe (i : Int32) : own_bit i = own_bN (i.toInt % 64).toNat := by unfold own_bit; rw [own_and63]; rfl
theorem own_bc0 : own_bc 0 = 0 := by decide +kernel
theorem own_bc1 : ∀ a : Fin 64, own_bc (0 ||| own_bN a.val) = 1 := by decide +kernel
theorem own_bc2 : ∀ a b : Fin 64, own_bc ((0 ||| own_bN a.val) ||| own_bN b.val) = if a = b then 1 else 2 := by decide +kernel
theorem own_c1 (i : Int32) : own_bc (0 ||| own_bit i) = 1 := by rw [own_bNe]; exact own_bc1 ⟨(i.toInt % 64).toNat, by omega⟩
theorem own_c2 (i j : Int32) : own_bc ((0 ||| own_bit i) ||| own_bit j) = if (i.toInt % 64) = (j.toInt % 64) then 1 else 2 := by
  rw [own_bNe, own_bNe, own_bc2 ⟨(i.toInt % 64).toNat, by omega⟩ ⟨(j.toInt % 64).toNat, by omega⟩]
  have : ((⟨(i.toInt % 64).toNat, by omega⟩ : Fin 64) = ⟨(j.toInt % 64).toNat, by omega⟩) ↔ (i.toInt % 64) = (j.toInt % 64) := by rw [Fin.mk.injEq]; omega
  simp only [this]
theorem own_szc {n : Nat} {w w' : Nat → Int64} (h : ∀ k, k ≤ n → w k = w' k) : own_sz n w = own_sz n w' := by
  induction n with
  | zero => simp only [own_sz, h 0 (Nat.le_refl _)]
  | succ n ih => simp only [own_sz, h (n + 1) (Nat.le_refl _), ih fun k hk => h k (by omega)]
theorem own_sz0 (n : Nat) : own_sz n (fun _ => 0) = 0 := by
  induction n with
  | zero => exact own_bc0
  | succ n ih => simp only [own_sz, ih, own_bc0]; rfl
theorem own_a0 {w : Nat → Int64} {i : Int32} {k : Nat} (q : k = own_ix i) : own_add w i k = w k ||| own_bit i := if_pos q
theorem own_a1 {w : Nat → Int64} {i : Int32} {k : Nat} (q : ¬ k = own_ix i) : own_add w i k = w k := if_neg q
theorem own_sz1 {n : Nat} {i : Int32} (h : own_ix i ≤ n) : own_sz n (own_add (fun _ => 0) i) = 1 := by
  induction n with
  | zero => rw [own_sz, own_a0 (by omega)]; exact own_c1 i
  | succ n ih =>
    rw [own_sz]
    by_cases q : own_ix i = n + 1
    · have e : own_sz n (own_add (fun _ => 0) i) = own_sz n (fun _ => 0) := own_szc fun k hk => own_a1 (by omega)
      rw [own_a0 q.symm, own_c1, e, own_sz0]; rfl
    · rw [own_a1 (by omega), ih (by omega), own_bc0]; rfl
theorem own_sz2 {n : Nat} {i j : Int32} (h : own_ix i ≤ n) (h' : own_ix j ≤ n) : own_sz n (own_add (own_add (fun _ => 0) i) j) = if own_ix i = own_ix j ∧ (i.toInt % 64) = (j.toInt % 64) then 1 else 2 := by
  induction n with
  | zero =>
    rw [own_sz, own_a0 (show 0 = own_ix j by omega), own_a0 (show 0 = own_ix i by omega), own_c2]
    have : own_ix i = own_ix j := by omega
    simp only [this, true_and]
  | succ n ih =>
    rw [own_sz]
    by_cases q : own_ix i = n + 1 <;> by_cases q' : own_ix j = n + 1
    · have e : own_sz n (own_add (own_add (fun _ => 0) i) j) = own_sz n (fun _ => 0) := own_szc fun k hk => by rw [own_a1 (show ¬ k = own_ix j by omega), own_a1 (show ¬ k = own_ix i by omega)]
      rw [own_a0 q'.symm, own_a0 q.symm, own_c2, e, own_sz0]
      have : own_ix i = own_ix j := by omega
      simp only [this, true_and]
      exact Int32.zero_add _
    · have e : own_sz n (own_add (own_add (fun _ => 0) i) j) = own_sz n (own_add (fun _ => 0) j) := own_szc fun k hk => by unfold own_add; rw [if_neg (show ¬ k = own_ix i by omega)]
      rw [own_a1 (show ¬ n + 1 = own_ix j by omega), own_a0 q.symm, own_c1, e, own_sz1 (by omega), if_neg (by omega)]; rfl
    · have e : own_sz n (own_add (own_add (fun _ => 0) i) j) = own_sz n (own_add (fun _ => 0) i) := own_szc fun k hk => own_a1 (by omega)
      rw [own_a0 q'.symm, own_a1 (show ¬ n + 1 = own_ix i by omega), own_c1, e, own_sz1 (by omega), if_neg (by omega)]; rfl
    · rw [own_a1 (show ¬ n + 1 = own_ix j by omega), own_a1 (show ¬ n + 1 = own_ix i by omega), own_bc0, ih (by omega) (by omega)]
      exact Int32.add_zero _
theorem own_szT {n : Nat} {i j : Int32} (h : 0 ≤ i.toInt ∧ i.toInt / 64 ≤ n) (h' : 0 ≤ j.toInt ∧ j.toInt / 64 ≤ n) : own_sz n (own_add (own_add (fun _ => 0) i) j) = if i = j then 1 else 2 := by
  rw [own_sz2 (by unfold own_ix; omega) (by unfold own_ix; omega)]
  have : (own_ix i = own_ix j ∧ (i.toInt % 64) = (j.toInt % 64)) ↔ i = j := by rw [own_eq]; unfold own_ix; omega
  simp only [this]
theorem own_szS {n : Nat} {i : Int32} (h : 0 ≤ i.toInt ∧ i.toInt / 64 ≤ n) : own_sz n (own_add (fun _ => 0) i) = 1 := own_sz1 (by unfold own_ix; omega)
theorem own_h1 {i k : Int32} (hi : 0 ≤ i.toInt) (hk : 0 ≤ k.toInt) : own_has (own_add (fun _ => 0) i) k = decide (k = i) := by
  rw [own_hadd _ hi hk, own_has0, Bool.false_or]
theorem own_h2 {i j k : Int32} (hi : 0 ≤ i.toInt) (hj : 0 ≤ j.toInt) (hk : 0 ≤ k.toInt) : own_has (own_add (own_add (fun _ => 0) i) j) k = (decide (k = i) || decide (k = j)) := by
  rw [own_hadd _ hj hk, own_h1 hi hk]
theorem d4_0 : decode jdk_35_method_50_code 0 = .ok (.lload_n 0, 1) := by decide +kernel
theorem d4_1 : decode jdk_35_method_50_code 1 = .ok (.lload_n 0, 1) := by decide +kernel
theorem d4_2 : decode jdk_35_method_50_code 2 = .ok (.iconst 1, 1) := by decide +kernel
theorem d4_3 : decode jdk_35_method_50_code 3 = .ok (.lushr, 1) := by decide +kernel
theorem d4_4 : decode jdk_35_method_50_code 4 = .ok (.ldc2_w 314, 3) := by decide +kernel
theorem d4_7 : decode jdk_35_method_50_code 7 = .ok (.land, 1) := by decide +kernel
theorem d4_8 : decode jdk_35_method_50_code 8 = .ok (.lsub, 1) := by decide +kernel
theorem d4_9 : decode jdk_35_method_50_code 9 = .ok (.lstore_n 0, 1) := by decide +kernel
theorem d4_10 : decode jdk_35_method_50_code 10 = .ok (.lload_n 0, 1) := by decide +kernel
theorem d4_11 : decode jdk_35_method_50_code 11 = .ok (.ldc2_w 316, 3) := by decide +kernel
theorem d4_14 : decode jdk_35_method_50_code 14 = .ok (.land, 1) := by decide +kernel
theorem d4_15 : decode jdk_35_method_50_code 15 = .ok (.lload_n 0, 1) := by decide +kernel
theorem d4_16 : decode jdk_35_method_50_code 16 = .ok (.iconst 2, 1) := by decide +kernel
theorem d4_17 : decode jdk_35_method_50_code 17 = .ok (.lushr, 1) := by decide +kernel
theorem d4_18 : decode jdk_35_method_50_code 18 = .ok (.ldc2_w 316, 3) := by decide +kernel
theorem d4_21 : decode jdk_35_method_50_code 21 = .ok (.land, 1) := by decide +kernel
theorem d4_22 : decode jdk_35_method_50_code 22 = .ok (.ladd, 1) := by decide +kernel
theorem d4_23 : decode jdk_35_method_50_code 23 = .ok (.lstore_n 0, 1) := by decide +kernel
theorem d4_24 : decode jdk_35_method_50_code 24 = .ok (.lload_n 0, 1) := by decide +kernel
theorem d4_25 : decode jdk_35_method_50_code 25 = .ok (.lload_n 0, 1) := by decide +kernel
theorem d4_26 : decode jdk_35_method_50_code 26 = .ok (.iconst 4, 1) := by decide +kernel
theorem d4_27 : decode jdk_35_method_50_code 27 = .ok (.lushr, 1) := by decide +kernel
theorem d4_28 : decode jdk_35_method_50_code 28 = .ok (.ladd, 1) := by decide +kernel
theorem d4_29 : decode jdk_35_method_50_code 29 = .ok (.ldc2_w 318, 3) := by decide +kernel
theorem d4_32 : decode jdk_35_method_50_code 32 = .ok (.land, 1) := by decide +kernel
theorem d4_33 : decode jdk_35_method_50_code 33 = .ok (.lstore_n 0, 1) := by decide +kernel
theorem d4_34 : decode jdk_35_method_50_code 34 = .ok (.lload_n 0, 1) := by decide +kernel
theorem d4_35 : decode jdk_35_method_50_code 35 = .ok (.lload_n 0, 1) := by decide +kernel
theorem d4_36 : decode jdk_35_method_50_code 36 = .ok (.bipush 8, 2) := by decide +kernel
theorem d4_38 : decode jdk_35_method_50_code 38 = .ok (.lushr, 1) := by decide +kernel
theorem d4_39 : decode jdk_35_method_50_code 39 = .ok (.ladd, 1) := by decide +kernel
theorem d4_40 : decode jdk_35_method_50_code 40 = .ok (.lstore_n 0, 1) := by decide +kernel
theorem d4_41 : decode jdk_35_method_50_code 41 = .ok (.lload_n 0, 1) := by decide +kernel
theorem d4_42 : decode jdk_35_method_50_code 42 = .ok (.lload_n 0, 1) := by decide +kernel
theorem d4_43 : decode jdk_35_method_50_code 43 = .ok (.bipush 16, 2) := by decide +kernel
theorem d4_45 : decode jdk_35_method_50_code 45 = .ok (.lushr, 1) := by decide +kernel
theorem d4_46 : decode jdk_35_method_50_code 46 = .ok (.ladd, 1) := by decide +kernel
theorem d4_47 : decode jdk_35_method_50_code 47 = .ok (.lstore_n 0, 1) := by decide +kernel
theorem d4_48 : decode jdk_35_method_50_code 48 = .ok (.lload_n 0, 1) := by decide +kernel
theorem d4_49 : decode jdk_35_method_50_code 49 = .ok (.lload_n 0, 1) := by decide +kernel
theorem d4_50 : decode jdk_35_method_50_code 50 = .ok (.bipush 32, 2) := by decide +kernel
theorem d4_52 : decode jdk_35_method_50_code 52 = .ok (.lushr, 1) := by decide +kernel
theorem d4_53 : decode jdk_35_method_50_code 53 = .ok (.ladd, 1) := by decide +kernel
theorem d4_54 : decode jdk_35_method_50_code 54 = .ok (.lstore_n 0, 1) := by decide +kernel
theorem d4_55 : decode jdk_35_method_50_code 55 = .ok (.lload_n 0, 1) := by decide +kernel
theorem d4_56 : decode jdk_35_method_50_code 56 = .ok (.l2i, 1) := by decide +kernel
theorem d4_57 : decode jdk_35_method_50_code 57 = .ok (.bipush 127, 2) := by decide +kernel
theorem d4_59 : decode jdk_35_method_50_code 59 = .ok (.iand, 1) := by decide +kernel
theorem d4_60 : decode jdk_35_method_50_code 60 = .ok (.ireturn, 1) := by decide +kernel
theorem pn_1 : plainName "java/lang/Long" = true := by first | (simp [plainName, overriddenIn]; done) | decide +kernel
theorem ef_4 (m : MethodId) (q0 : Int64) : entryFrame m #[(.long q0)] 2 = mkF m 0 #[.val (.long q0), .second] [] := by first | (simp [entryFrame, mkF, argsToLocals, Value.category]; done) | rfl
def Q4 (Z : State) (q0 : Int64) (h0 : Heap) (n0 : Nat) (v : Option Value) (h : Heap) (L : List Loc) : Prop := v = some (.int (own_bc q0)) ∧ Fr n0 L ∧ h = h0
set_option maxRecDepth 65536 in
set_option maxHeartbeats 40000000 in
theorem rm4 (l : Launch) (Z : State) (a0 : Array Value) (hw : ∀ d ∈ tables_1, d.before a0 Z = true) (ws : List Jvm.Cond) (q0 : Int64) (h0 : Heap) (n0 : Nat) :
    MetFree l (⟨"java/lang/Long", "bitCount", "(J)I"⟩ : MethodName) (head1 (Jvm.Cond.code (⟨"java/lang/Long", "bitCount", "(J)I"⟩ : MethodName) jdk_35_method_50_code 2 (some .int) :: ws) ({ frames := 0, cells := 0, slots := 0, locals := 0 } : Room)) (fun a U => a = #[(.long q0)] ∧ Z.Warmed39 U.vm ∧ U.heap = h0) (fun _ _ _ _ _ => True) (fun _ U o U' => ∃ v L, o = .returned v ∧ Q4 Z q0 h0 n0 v U'.heap L ∧ FrameEnd U o U' L ({ frames := 0, cells := 0, slots := 0, locals := 0 } : Room).cells ({ frames := 0, cells := 0, slots := 0, locals := 0 } : Room).slots) := by
  refine Own.enter (Q := Q4 Z q0 h0 n0) (plainFor_of_name pn_1) ?_
  intro p e s m below meth c s₁ D hx hby hml hown hnm hret hZ X0 e0 hD hR
  have N0 := Fr.nil n0
  rw [show entryFrame m #[(.long q0)] 2 = mkF m 0 #[.val (.long q0), .second] [] from ef_4 m q0]
  obtain ⟨v1, hv1⟩ : ∃ z : Int64, z = (q0 - (((q0.toUInt64 >>> ((1 : Int32) &&& 0x3f).toInt64.toUInt64).toInt64) &&& (6148914691236517205 : Int64))) := ⟨_, rfl⟩
  obtain ⟨v2, hv2⟩ : ∃ z : Int64, z = ((v1 &&& (3689348814741910323 : Int64)) + (((v1.toUInt64 >>> ((2 : Int32) &&& 0x3f).toInt64.toUInt64).toInt64) &&& (3689348814741910323 : Int64))) := ⟨_, rfl⟩
  obtain ⟨v3, hv3⟩ : ∃ z : Int64, z = ((v2 + ((v2.toUInt64 >>> ((4 : Int32) &&& 0x3f).toInt64.toUInt64).toInt64)) &&& (1085102592571150095 : Int64)) := ⟨_, rfl⟩
  obtain ⟨v4, hv4⟩ : ∃ z : Int64, z = (v3 + ((v3.toUInt64 >>> ((8 : Int32) &&& 0x3f).toInt64.toUInt64).toInt64)) := ⟨_, rfl⟩
  obtain ⟨v5, hv5⟩ : ∃ z : Int64, z = (v4 + ((v4.toUInt64 >>> ((16 : Int32) &&& 0x3f).toInt64.toUInt64).toInt64)) := ⟨_, rfl⟩
  obtain ⟨v6, hv6⟩ : ∃ z : Int64, z = (v5 + ((v5.toUInt64 >>> ((32 : Int32) &&& 0x3f).toInt64.toUInt64).toInt64)) := ⟨_, rfl⟩
  refine hD _ (s₁.setTop (mkF m 60 #[.val (.long v6), .second] [(.int ((v6.toInt32) &&& (127 : Int32)))])) (fun t k => ?_) ?_
  · show Steps p.tables e below (s₁.setTop (mkF m 0 #[.val (.long q0), .second] [])) t
    refine XS.lloadN X0.here hx rfl (hb hby d4_0) rfl ?_
    show Steps p.tables e below (s₁.setTop (mkF m 1 #[.val (.long q0), .second] [(.long q0)])) t
    refine XS.lloadN X0.here hx rfl (hb hby d4_1) rfl ?_
    show Steps p.tables e below (s₁.setTop (mkF m 2 #[.val (.long q0), .second] [(.long q0), (.long q0)])) t
    refine XS.iconst X0.here hx rfl (hb hby d4_2) ?_
    show Steps p.tables e below (s₁.setTop (mkF m 3 #[.val (.long q0), .second] [(.int (1 : Int32)), (.long q0), (.long q0)])) t
    refine XS.lushr X0.here hx rfl (hb hby d4_3) rfl ?_
    show Steps p.tables e below (s₁.setTop (mkF m 4 #[.val (.long q0), .second] [(.long ((q0.toUInt64 >>> ((1 : Int32) &&& 0x3f).toInt64.toUInt64).toInt64)), (.long q0)])) t
    refine X0.ldc2Long hx hown (mvT hZ (hw _ (List.mem_of_getElem? (i := 33) rfl))) (g := (mkF m 4 #[.val (.long q0), .second] [(.long ((q0.toUInt64 >>> ((1 : Int32) &&& 0x3f).toInt64.toUInt64).toInt64)), (.long q0)])) rfl (hb hby d4_4) _ ?_
    show Steps p.tables e below (s₁.setTop (mkF m 7 #[.val (.long q0), .second] [(.long (6148914691236517205 : Int64)), (.long ((q0.toUInt64 >>> ((1 : Int32) &&& 0x3f).toInt64.toUInt64).toInt64)), (.long q0)])) t
    refine XS.land X0.here hx rfl (hb hby d4_7) rfl ?_
    show Steps p.tables e below (s₁.setTop (mkF m 8 #[.val (.long q0), .second] [(.long (((q0.toUInt64 >>> ((1 : Int32) &&& 0x3f).toInt64.toUInt64).toInt64) &&& (6148914691236517205 : Int64))), (.long q0)])) t
    refine XS.lsub X0.here hx rfl (hb hby d4_8) rfl ?_
    show Steps p.tables e below (s₁.setTop (mkF m 9 #[.val (.long q0), .second] [(.long (q0 - (((q0.toUInt64 >>> ((1 : Int32) &&& 0x3f).toInt64.toUInt64).toInt64) &&& (6148914691236517205 : Int64))))])) t
    refine Own.nmJ hv1 ?_
    show Steps p.tables e below (s₁.setTop (mkF m 9 #[.val (.long q0), .second] [(.long v1)])) t
    refine XS.lstoreN X0.here hx rfl (hb hby d4_9) rfl (l' := #[.val (.long v1), .second]) rfl ?_
    show Steps p.tables e below (s₁.setTop (mkF m 10 #[.val (.long v1), .second] [])) t
    refine XS.lloadN X0.here hx rfl (hb hby d4_10) rfl ?_
    show Steps p.tables e below (s₁.setTop (mkF m 11 #[.val (.long v1), .second] [(.long v1)])) t
    refine X0.ldc2Long hx hown (mvT hZ (hw _ (List.mem_of_getElem? (i := 34) rfl))) (g := (mkF m 11 #[.val (.long v1), .second] [(.long v1)])) rfl (hb hby d4_11) _ ?_
    show Steps p.tables e below (s₁.setTop (mkF m 14 #[.val (.long v1), .second] [(.long (3689348814741910323 : Int64)), (.long v1)])) t
    refine XS.land X0.here hx rfl (hb hby d4_14) rfl ?_
    show Steps p.tables e below (s₁.setTop (mkF m 15 #[.val (.long v1), .second] [(.long (v1 &&& (3689348814741910323 : Int64)))])) t
    refine XS.lloadN X0.here hx rfl (hb hby d4_15) rfl ?_
    show Steps p.tables e below (s₁.setTop (mkF m 16 #[.val (.long v1), .second] [(.long v1), (.long (v1 &&& (3689348814741910323 : Int64)))])) t
    refine XS.iconst X0.here hx rfl (hb hby d4_16) ?_
    show Steps p.tables e below (s₁.setTop (mkF m 17 #[.val (.long v1), .second] [(.int (2 : Int32)), (.long v1), (.long (v1 &&& (3689348814741910323 : Int64)))])) t
    refine XS.lushr X0.here hx rfl (hb hby d4_17) rfl ?_
    show Steps p.tables e below (s₁.setTop (mkF m 18 #[.val (.long v1), .second] [(.long ((v1.toUInt64 >>> ((2 : Int32) &&& 0x3f).toInt64.toUInt64).toInt64)), (.long (v1 &&& (3689348814741910323 : Int64)))])) t
    refine X0.ldc2Long hx hown (mvT hZ (hw _ (List.mem_of_getElem? (i := 34) rfl))) (g := (mkF m 18 #[.val (.long v1), .second] [(.long ((v1.toUInt64 >>> ((2 : Int32) &&& 0x3f).toInt64.toUInt64).toInt64)), (.long (v1 &&& (3689348814741910323 : Int64)))])) rfl (hb hby d4_18) _ ?_
    show Steps p.tables e below (s₁.setTop (mkF m 21 #[.val (.long v1), .second] [(.long (3689348814741910323 : Int64)), (.long ((v1.toUInt64 >>> ((2 : Int32) &&& 0x3f).toInt64.toUInt64).toInt64)), (.long (v1 &&& (3689348814741910323 : Int64)))])) t
    refine XS.land X0.here hx rfl (hb hby d4_21) rfl ?_
    show Steps p.tables e below (s₁.setTop (mkF m 22 #[.val (.long v1), .second] [(.long (((v1.toUInt64 >>> ((2 : Int32) &&& 0x3f).toInt64.toUInt64).toInt64) &&& (3689348814741910323 : Int64))), (.long (v1 &&& (3689348814741910323 : Int64)))])) t
    refine XS.ladd X0.here hx rfl (hb hby d4_22) rfl ?_
    show Steps p.tables e below (s₁.setTop (mkF m 23 #[.val (.long v1), .second] [(.long ((v1 &&& (3689348814741910323 : Int64)) + (((v1.toUInt64 >>> ((2 : Int32) &&& 0x3f).toInt64.toUInt64).toInt64) &&& (3689348814741910323 : Int64))))])) t
    refine Own.nmJ hv2 ?_
    show Steps p.tables e below (s₁.setTop (mkF m 23 #[.val (.long v1), .second] [(.long v2)])) t
    refine XS.lstoreN X0.here hx rfl (hb hby d4_23) rfl (l' := #[.val (.long v2), .second]) rfl ?_
    show Steps p.tables e below (s₁.setTop (mkF m 24 #[.val (.long v2), .second] [])) t
    refine XS.lloadN X0.here hx rfl (hb hby d4_24) rfl ?_
    show Steps p.tables e below (s₁.setTop (mkF m 25 #[.val (.long v2), .second] [(.long v2)])) t
    refine XS.lloadN X0.here hx rfl (hb hby d4_25) rfl ?_
    show Steps p.tables e below (s₁.setTop (mkF m 26 #[.val (.long v2), .second] [(.long v2), (.long v2)])) t
    refine XS.iconst X0.here hx rfl (hb hby d4_26) ?_
    show Steps p.tables e below (s₁.setTop (mkF m 27 #[.val (.long v2), .second] [(.int (4 : Int32)), (.long v2), (.long v2)])) t
    refine XS.lushr X0.here hx rfl (hb hby d4_27) rfl ?_
    show Steps p.tables e below (s₁.setTop (mkF m 28 #[.val (.long v2), .second] [(.long ((v2.toUInt64 >>> ((4 : Int32) &&& 0x3f).toInt64.toUInt64).toInt64)), (.long v2)])) t
    refine XS.ladd X0.here hx rfl (hb hby d4_28) rfl ?_
    show Steps p.tables e below (s₁.setTop (mkF m 29 #[.val (.long v2), .second] [(.long (v2 + ((v2.toUInt64 >>> ((4 : Int32) &&& 0x3f).toInt64.toUInt64).toInt64)))])) t
    refine X0.ldc2Long hx hown (mvT hZ (hw _ (List.mem_of_getElem? (i := 35) rfl))) (g := (mkF m 29 #[.val (.long v2), .second] [(.long (v2 + ((v2.toUInt64 >>> ((4 : Int32) &&& 0x3f).toInt64.toUInt64).toInt64)))])) rfl (hb hby d4_29) _ ?_
    show Steps p.tables e below (s₁.setTop (mkF m 32 #[.val (.long v2), .second] [(.long (1085102592571150095 : Int64)), (.long (v2 + ((v2.toUInt64 >>> ((4 : Int32) &&& 0x3f).toInt64.toUInt64).toInt64)))])) t
    refine XS.land X0.here hx rfl (hb hby d4_32) rfl ?_
    show Steps p.tables e below (s₁.setTop (mkF m 33 #[.val (.long v2), .second] [(.long ((v2 + ((v2.toUInt64 >>> ((4 : Int32) &&& 0x3f).toInt64.toUInt64).toInt64)) &&& (1085102592571150095 : Int64)))])) t
    refine Own.nmJ hv3 ?_
    show Steps p.tables e below (s₁.setTop (mkF m 33 #[.val (.long v2), .second] [(.long v3)])) t
    refine XS.lstoreN X0.here hx rfl (hb hby d4_33) rfl (l' := #[.val (.long v3), .second]) rfl ?_
    show Steps p.tables e below (s₁.setTop (mkF m 34 #[.val (.long v3), .second] [])) t
    refine XS.lloadN X0.here hx rfl (hb hby d4_34) rfl ?_
    show Steps p.tables e below (s₁.setTop (mkF m 35 #[.val (.long v3), .second] [(.long v3)])) t
    refine XS.lloadN X0.here hx rfl (hb hby d4_35) rfl ?_
    show Steps p.tables e below (s₁.setTop (mkF m 36 #[.val (.long v3), .second] [(.long v3), (.long v3)])) t
    refine XS.bipush X0.here hx rfl (hb hby d4_36) ?_
    show Steps p.tables e below (s₁.setTop (mkF m 38 #[.val (.long v3), .second] [(.int (8 : Int32)), (.long v3), (.long v3)])) t
    refine XS.lushr X0.here hx rfl (hb hby d4_38) rfl ?_
    show Steps p.tables e below (s₁.setTop (mkF m 39 #[.val (.long v3), .second] [(.long ((v3.toUInt64 >>> ((8 : Int32) &&& 0x3f).toInt64.toUInt64).toInt64)), (.long v3)])) t
    refine XS.ladd X0.here hx rfl (hb hby d4_39) rfl ?_
    show Steps p.tables e below (s₁.setTop (mkF m 40 #[.val (.long v3), .second] [(.long (v3 + ((v3.toUInt64 >>> ((8 : Int32) &&& 0x3f).toInt64.toUInt64).toInt64)))])) t
    refine Own.nmJ hv4 ?_
    show Steps p.tables e below (s₁.setTop (mkF m 40 #[.val (.long v3), .second] [(.long v4)])) t
    refine XS.lstoreN X0.here hx rfl (hb hby d4_40) rfl (l' := #[.val (.long v4), .second]) rfl ?_
    show Steps p.tables e below (s₁.setTop (mkF m 41 #[.val (.long v4), .second] [])) t
    refine XS.lloadN X0.here hx rfl (hb hby d4_41) rfl ?_
    show Steps p.tables e below (s₁.setTop (mkF m 42 #[.val (.long v4), .second] [(.long v4)])) t
    refine XS.lloadN X0.here hx rfl (hb hby d4_42) rfl ?_
    show Steps p.tables e below (s₁.setTop (mkF m 43 #[.val (.long v4), .second] [(.long v4), (.long v4)])) t
    refine XS.bipush X0.here hx rfl (hb hby d4_43) ?_
    show Steps p.tables e below (s₁.setTop (mkF m 45 #[.val (.long v4), .second] [(.int (16 : Int32)), (.long v4), (.long v4)])) t
    refine XS.lushr X0.here hx rfl (hb hby d4_45) rfl ?_
    show Steps p.tables e below (s₁.setTop (mkF m 46 #[.val (.long v4), .second] [(.long ((v4.toUInt64 >>> ((16 : Int32) &&& 0x3f).toInt64.toUInt64).toInt64)), (.long v4)])) t
    refine XS.ladd X0.here hx rfl (hb hby d4_46) rfl ?_
    show Steps p.tables e below (s₁.setTop (mkF m 47 #[.val (.long v4), .second] [(.long (v4 + ((v4.toUInt64 >>> ((16 : Int32) &&& 0x3f).toInt64.toUInt64).toInt64)))])) t
    refine Own.nmJ hv5 ?_
    show Steps p.tables e below (s₁.setTop (mkF m 47 #[.val (.long v4), .second] [(.long v5)])) t
    refine XS.lstoreN X0.here hx rfl (hb hby d4_47) rfl (l' := #[.val (.long v5), .second]) rfl ?_
    show Steps p.tables e below (s₁.setTop (mkF m 48 #[.val (.long v5), .second] [])) t
    refine XS.lloadN X0.here hx rfl (hb hby d4_48) rfl ?_
    show Steps p.tables e below (s₁.setTop (mkF m 49 #[.val (.long v5), .second] [(.long v5)])) t
    refine XS.lloadN X0.here hx rfl (hb hby d4_49) rfl ?_
    show Steps p.tables e below (s₁.setTop (mkF m 50 #[.val (.long v5), .second] [(.long v5), (.long v5)])) t
    refine XS.bipush X0.here hx rfl (hb hby d4_50) ?_
    show Steps p.tables e below (s₁.setTop (mkF m 52 #[.val (.long v5), .second] [(.int (32 : Int32)), (.long v5), (.long v5)])) t
    refine XS.lushr X0.here hx rfl (hb hby d4_52) rfl ?_
    show Steps p.tables e below (s₁.setTop (mkF m 53 #[.val (.long v5), .second] [(.long ((v5.toUInt64 >>> ((32 : Int32) &&& 0x3f).toInt64.toUInt64).toInt64)), (.long v5)])) t
    refine XS.ladd X0.here hx rfl (hb hby d4_53) rfl ?_
    show Steps p.tables e below (s₁.setTop (mkF m 54 #[.val (.long v5), .second] [(.long (v5 + ((v5.toUInt64 >>> ((32 : Int32) &&& 0x3f).toInt64.toUInt64).toInt64)))])) t
    refine Own.nmJ hv6 ?_
    show Steps p.tables e below (s₁.setTop (mkF m 54 #[.val (.long v5), .second] [(.long v6)])) t
    refine XS.lstoreN X0.here hx rfl (hb hby d4_54) rfl (l' := #[.val (.long v6), .second]) rfl ?_
    show Steps p.tables e below (s₁.setTop (mkF m 55 #[.val (.long v6), .second] [])) t
    refine XS.lloadN X0.here hx rfl (hb hby d4_55) rfl ?_
    show Steps p.tables e below (s₁.setTop (mkF m 56 #[.val (.long v6), .second] [(.long v6)])) t
    refine XS.l2i X0.here hx rfl (hb hby d4_56) rfl ?_
    show Steps p.tables e below (s₁.setTop (mkF m 57 #[.val (.long v6), .second] [(.int (v6.toInt32))])) t
    refine XS.bipush X0.here hx rfl (hb hby d4_57) ?_
    show Steps p.tables e below (s₁.setTop (mkF m 59 #[.val (.long v6), .second] [(.int (127 : Int32)), (.int (v6.toInt32))])) t
    refine XS.iand X0.here hx rfl (hb hby d4_59) rfl ?_
    show Steps p.tables e below (s₁.setTop (mkF m 60 #[.val (.long v6), .second] [(.int ((v6.toInt32) &&& (127 : Int32)))])) t
    exact k
  exact Own.retI hR X0 hx hret (hb hby d4_60) (by decide) (by decide) ⟨by subst hv6; subst hv5; subst hv4; subst hv3; subst hv2; subst hv1; rfl, N0, e0⟩
theorem d5_0 : decode prog_7_method_4_code 0 = .ok (.aload_n 0, 1) := by decide +kernel
theorem d5_1 : decode prog_7_method_4_code 1 = .ok (.getfield 15, 3) := by decide +kernel
theorem d5_4 : decode prog_7_method_4_code 4 = .ok (.invokestatic 19, 3) := by decide +kernel
theorem d5_7 : decode prog_7_method_4_code 7 = .ok (.istore_n 1, 1) := by decide +kernel
theorem d5_8 : decode prog_7_method_4_code 8 = .ok (.aload_n 0, 1) := by decide +kernel
theorem d5_9 : decode prog_7_method_4_code 9 = .ok (.getfield 9, 3) := by decide +kernel
theorem d5_12 : decode prog_7_method_4_code 12 = .ok (.ifnull 40, 3) := by decide +kernel
theorem d5_15 : decode prog_7_method_4_code 15 = .ok (.aload_n 0, 1) := by decide +kernel
theorem d5_16 : decode prog_7_method_4_code 16 = .ok (.getfield 9, 3) := by decide +kernel
theorem d5_19 : decode prog_7_method_4_code 19 = .ok (.astore_n 2, 1) := by decide +kernel
theorem d5_20 : decode prog_7_method_4_code 20 = .ok (.aload_n 2, 1) := by decide +kernel
theorem d5_21 : decode prog_7_method_4_code 21 = .ok (.arraylength, 1) := by decide +kernel
theorem d5_22 : decode prog_7_method_4_code 22 = .ok (.istore_n 3, 1) := by decide +kernel
theorem d5_23 : decode prog_7_method_4_code 23 = .ok (.iconst 0, 1) := by decide +kernel
theorem d5_24 : decode prog_7_method_4_code 24 = .ok (.istore 4, 2) := by decide +kernel
theorem d5_26 : decode prog_7_method_4_code 26 = .ok (.iload 4, 2) := by decide +kernel
theorem d5_28 : decode prog_7_method_4_code 28 = .ok (.iload_n 3, 1) := by decide +kernel
theorem d5_29 : decode prog_7_method_4_code 29 = .ok (.if_icmp .ge 23, 3) := by decide +kernel
theorem d5_32 : decode prog_7_method_4_code 32 = .ok (.aload_n 2, 1) := by decide +kernel
theorem d5_33 : decode prog_7_method_4_code 33 = .ok (.iload 4, 2) := by decide +kernel
theorem d5_35 : decode prog_7_method_4_code 35 = .ok (.laload, 1) := by decide +kernel
theorem d5_36 : decode prog_7_method_4_code 36 = .ok (.lstore 5, 2) := by decide +kernel
theorem d5_38 : decode prog_7_method_4_code 38 = .ok (.iload_n 1, 1) := by decide +kernel
theorem d5_39 : decode prog_7_method_4_code 39 = .ok (.lload 5, 2) := by decide +kernel
theorem d5_41 : decode prog_7_method_4_code 41 = .ok (.invokestatic 19, 3) := by decide +kernel
theorem d5_44 : decode prog_7_method_4_code 44 = .ok (.iadd, 1) := by decide +kernel
theorem d5_45 : decode prog_7_method_4_code 45 = .ok (.istore_n 1, 1) := by decide +kernel
theorem d5_46 : decode prog_7_method_4_code 46 = .ok (.iinc 4 1, 3) := by decide +kernel
theorem d5_49 : decode prog_7_method_4_code 49 = .ok (.goto (-23), 3) := by decide +kernel
theorem d5_52 : decode prog_7_method_4_code 52 = .ok (.iload_n 1, 1) := by decide +kernel
theorem d5_53 : decode prog_7_method_4_code 53 = .ok (.ireturn, 1) := by decide +kernel
theorem pd_0 : parseMethodDescriptor "(J)I" = some ⟨[.long], some .int⟩ := by decide +kernel
theorem ef_5 (m : MethodId) (o0 : Addr) : entryFrame m #[(.ref o0)] 7 = mkF m 0 #[.val (.ref o0), .unset, .unset, .unset, .unset, .unset, .unset] [] := by first | (simp [entryFrame, mkF, argsToLocals, Value.category]; done) | rfl
def Q5 (Z : State) (o0 : Nat) (r n : Nat) (w : Nat → Int64) (h0 : Heap) (n0 : Nat) (v : Option Value) (h : Heap) (L : List Loc) : Prop := v = some (.int (own_sz n w)) ∧ Fr n0 L ∧ h = h0
set_option maxRecDepth 65536 in
set_option maxHeartbeats 40000000 in
theorem rm5 (l : Launch) (Z : State) (a0 : Array Value) (hw : ∀ d ∈ tables_1, d.before a0 Z = true) (ws : List Jvm.Cond) (o0 : Nat) (r n : Nat) (w : Nat → Int64) (h0 : Heap) (n0 : Nat) (F : own_FS Z h0 o0 r n w) :
    MetFree l (⟨"com/example/sluice/sluice/FieldSet", "size", "()I"⟩ : MethodName) (head1 (Jvm.Cond.code (⟨"com/example/sluice/sluice/FieldSet", "size", "()I"⟩ : MethodName) prog_7_method_4_code 7 (some .int) :: ws) ({ frames := 1, cells := 0, slots := 0, locals := 14 } : Room)) (fun a U => a = #[(.ref o0)] ∧ Z.Warmed39 U.vm ∧ U.heap = h0) (fun _ _ _ _ _ => True) (fun _ U o U' => ∃ v L, o = .returned v ∧ Q5 Z o0 r n w h0 n0 v U'.heap L ∧ FrameEnd U o U' L ({ frames := 1, cells := 0, slots := 0, locals := 14 } : Room).cells ({ frames := 1, cells := 0, slots := 0, locals := 14 } : Room).slots) := by
  refine Own.enter (Q := Q5 Z o0 r n w h0 n0) (plainFor_of_name pn_0) ?_
  intro p e s m below meth c s₁ D hx hby hml hown hnm hret hZ X0 e0 hD hR
  have N0 := Fr.nil n0
  rw [show entryFrame m #[(.ref o0)] 7 = mkF m 0 #[.val (.ref o0), .unset, .unset, .unset, .unset, .unset, .unset] [] from ef_5 m o0]
  have F_first := F.2.1
  rcases own_cases F with ⟨rfl, F_rest⟩ | ⟨rfl, F_rest, A_r⟩ | ⟨rfl, F_rest, A_r⟩ | ⟨rfl, F_rest, A_r⟩
  · obtain ⟨T1, X1, e1, st1⟩ := getF X0 hx hZ hown (host := "") (Or.inl (hw _ (List.mem_of_getElem? (i := 17) rfl))) Via.refl e0 F_first (g := (mkF m 1 #[.val (.ref o0), .unset, .unset, .unset, .unset, .unset, .unset] [(.ref o0)])) rfl rfl (hb hby d5_1)
    obtain ⟨T2, _, L2, X2, ⟨rfl, Nq2, e2⟩, st2⟩ := Own.callS (y := (⟨"java/lang/Long", "bitCount", "(J)I"⟩ : MethodName)) (W := 0) (argsL := [(.long (w 0))]) (rest := []) X1 hx hZ hown (hw _ (List.mem_of_getElem? (i := 29) rfl)) (hw _ (List.mem_of_getElem? (i := 30) rfl)) (hw _ (List.mem_of_getElem? (i := 31) rfl)) (hw _ (List.mem_of_getElem? (i := 32) rfl)) (by decide) e1 (rm4 l Z a0 hw [] (w 0)  h0 n0 ) (by decide) (by decide) (by decide) (by decide) (g := (mkF m 4 #[.val (.ref o0), .unset, .unset, .unset, .unset, .unset, .unset] [(.long (w 0))])) rfl (by rw [hml]; rfl) (lenOf pd_0 rfl) rfl (by show 2 * 0 + _ ≤ _; exact Nat.le_of_eq rfl) (hb hby d5_4)
    have N2 := Fr.app N0 Nq2
    obtain ⟨v3, hv3⟩ : ∃ z : Int32, z = (own_bc (w 0)) := ⟨_, rfl⟩
    obtain ⟨T4, X4, e4, st4⟩ := getF X2 hx hZ hown (host := "") (Or.inl (hw _ (List.mem_of_getElem? (i := 10) rfl))) Via.refl e2 F_rest (g := (mkF m 9 #[.val (.ref o0), .val (.int v3), .unset, .unset, .unset, .unset, .unset] [(.ref o0)])) rfl rfl (hb hby d5_9)
    refine hD _ (T4.setTop (mkF m 53 #[.val (.ref o0), .val (.int v3), .unset, .unset, .unset, .unset, .unset] [(.int v3)])) (fun t k => ?_) ?_
    · show Steps p.tables e below (s₁.setTop (mkF m 0 #[.val (.ref o0), .unset, .unset, .unset, .unset, .unset, .unset] [])) t
      refine XS.aloadN X0.here hx rfl (hb hby d5_0) rfl rfl ?_
      show Steps p.tables e below (s₁.setTop (mkF m 1 #[.val (.ref o0), .unset, .unset, .unset, .unset, .unset, .unset] [(.ref o0)])) t
      refine st1 _ ?_
      show Steps p.tables e below (T1.setTop (mkF m 4 #[.val (.ref o0), .unset, .unset, .unset, .unset, .unset, .unset] [(.long (w 0))])) t
      refine st2 _ ?_
      show Steps p.tables e below (T2.setTop (mkF m 7 #[.val (.ref o0), .unset, .unset, .unset, .unset, .unset, .unset] [(.int (own_bc (w 0)))])) t
      refine Own.nmI hv3 ?_
      show Steps p.tables e below (T2.setTop (mkF m 7 #[.val (.ref o0), .unset, .unset, .unset, .unset, .unset, .unset] [(.int v3)])) t
      refine XS.istoreN X2.here hx rfl (hb hby d5_7) rfl (l' := #[.val (.ref o0), .val (.int v3), .unset, .unset, .unset, .unset, .unset]) rfl ?_
      show Steps p.tables e below (T2.setTop (mkF m 8 #[.val (.ref o0), .val (.int v3), .unset, .unset, .unset, .unset, .unset] [])) t
      refine XS.aloadN X2.here hx rfl (hb hby d5_8) rfl rfl ?_
      show Steps p.tables e below (T2.setTop (mkF m 9 #[.val (.ref o0), .val (.int v3), .unset, .unset, .unset, .unset, .unset] [(.ref o0)])) t
      refine st4 _ ?_
      show Steps p.tables e below (T4.setTop (mkF m 12 #[.val (.ref o0), .val (.int v3), .unset, .unset, .unset, .unset, .unset] [.null])) t
      refine XS.ifnullYes X4.here hx rfl (pc0 := 12) (pc' := 52) rfl (hb hby d5_12) rfl (by decide) (by decide) ?_
      show Steps p.tables e below (T4.setTop (mkF m 52 #[.val (.ref o0), .val (.int v3), .unset, .unset, .unset, .unset, .unset] [])) t
      refine XS.iloadN X4.here hx rfl (hb hby d5_52) rfl ?_
      show Steps p.tables e below (T4.setTop (mkF m 53 #[.val (.ref o0), .val (.int v3), .unset, .unset, .unset, .unset, .unset] [(.int v3)])) t
      exact k
    exact Own.retI hR X4 hx hret (hb hby d5_53) (by decide) (by decide) ⟨by subst hv3; rfl, N2, e4⟩
  · obtain ⟨T5, X5, e5, st5⟩ := getF X0 hx hZ hown (host := "") (Or.inl (hw _ (List.mem_of_getElem? (i := 17) rfl))) Via.refl e0 F_first (g := (mkF m 1 #[.val (.ref o0), .unset, .unset, .unset, .unset, .unset, .unset] [(.ref o0)])) rfl rfl (hb hby d5_1)
    obtain ⟨T6, _, L6, X6, ⟨rfl, Nq6, e6⟩, st6⟩ := Own.callS (y := (⟨"java/lang/Long", "bitCount", "(J)I"⟩ : MethodName)) (W := 0) (argsL := [(.long (w 0))]) (rest := []) X5 hx hZ hown (hw _ (List.mem_of_getElem? (i := 29) rfl)) (hw _ (List.mem_of_getElem? (i := 30) rfl)) (hw _ (List.mem_of_getElem? (i := 31) rfl)) (hw _ (List.mem_of_getElem? (i := 32) rfl)) (by decide) e5 (rm4 l Z a0 hw [] (w 0)  h0 n0 ) (by decide) (by decide) (by decide) (by decide) (g := (mkF m 4 #[.val (.ref o0), .unset, .unset, .unset, .unset, .unset, .unset] [(.long (w 0))])) rfl (by rw [hml]; rfl) (lenOf pd_0 rfl) rfl (by show 2 * 0 + _ ≤ _; exact Nat.le_of_eq rfl) (hb hby d5_4)
    have N6 := Fr.app N0 Nq6
    obtain ⟨v7, hv7⟩ : ∃ z : Int32, z = (own_bc (w 0)) := ⟨_, rfl⟩
    obtain ⟨T8, X8, e8, st8⟩ := getF X6 hx hZ hown (host := "") (Or.inl (hw _ (List.mem_of_getElem? (i := 10) rfl))) Via.refl e6 F_rest (g := (mkF m 9 #[.val (.ref o0), .val (.int v7), .unset, .unset, .unset, .unset, .unset] [(.ref o0)])) rfl rfl (hb hby d5_9)
    obtain ⟨T9, X9, e9, st9⟩ := getF X8 hx hZ hown (host := "") (Or.inl (hw _ (List.mem_of_getElem? (i := 10) rfl))) Via.refl e8 F_rest (g := (mkF m 16 #[.val (.ref o0), .val (.int v7), .unset, .unset, .unset, .unset, .unset] [(.ref o0)])) rfl rfl (hb hby d5_16)
    have hj10 : 0 ≤ (0 : Int32).toInt ∧ (0 : Int32).toInt < (1 : Nat) := ⟨by decide, by decide⟩
    obtain ⟨v11, hv11⟩ : ∃ z : Int64, z = ((fun k => w (k + 1)) 0) := ⟨_, rfl⟩
    obtain ⟨T12, _, L12, X12, ⟨rfl, Nq12, e12⟩, st12⟩ := Own.callS (y := (⟨"java/lang/Long", "bitCount", "(J)I"⟩ : MethodName)) (W := 1) (argsL := [(.long v11)]) (rest := [(.int v7)]) X9 hx hZ hown (hw _ (List.mem_of_getElem? (i := 29) rfl)) (hw _ (List.mem_of_getElem? (i := 30) rfl)) (hw _ (List.mem_of_getElem? (i := 31) rfl)) (hw _ (List.mem_of_getElem? (i := 32) rfl)) (by decide) e9 (rm4 l Z a0 hw [] v11  h0 n0 ) (by decide) (by decide) (by decide) (by decide) (g := (mkF m 41 #[.val (.ref o0), .val (.int v7), .val (.ref r), .val (.int (1 : Int32)), .val (.int (0 : Int32)), .val (.long v11), .second] [(.long v11), (.int v7)])) rfl (by rw [hml]; rfl) (lenOf pd_0 rfl) rfl (by show 2 * 0 + _ ≤ _; exact Nat.le_of_eq rfl) (hb hby d5_41)
    have N12 := Fr.app N6 Nq12
    obtain ⟨v13, hv13⟩ : ∃ z : Int32, z = (v7 + (own_bc v11)) := ⟨_, rfl⟩
    refine hD _ (T12.setTop (mkF m 53 #[.val (.ref o0), .val (.int v13), .val (.ref r), .val (.int (1 : Int32)), .val (.int (1 : Int32)), .val (.long v11), .second] [(.int v13)])) (fun t k => ?_) ?_
    · show Steps p.tables e below (s₁.setTop (mkF m 0 #[.val (.ref o0), .unset, .unset, .unset, .unset, .unset, .unset] [])) t
      refine XS.aloadN X0.here hx rfl (hb hby d5_0) rfl rfl ?_
      show Steps p.tables e below (s₁.setTop (mkF m 1 #[.val (.ref o0), .unset, .unset, .unset, .unset, .unset, .unset] [(.ref o0)])) t
      refine st5 _ ?_
      show Steps p.tables e below (T5.setTop (mkF m 4 #[.val (.ref o0), .unset, .unset, .unset, .unset, .unset, .unset] [(.long (w 0))])) t
      refine st6 _ ?_
      show Steps p.tables e below (T6.setTop (mkF m 7 #[.val (.ref o0), .unset, .unset, .unset, .unset, .unset, .unset] [(.int (own_bc (w 0)))])) t
      refine Own.nmI hv7 ?_
      show Steps p.tables e below (T6.setTop (mkF m 7 #[.val (.ref o0), .unset, .unset, .unset, .unset, .unset, .unset] [(.int v7)])) t
      refine XS.istoreN X6.here hx rfl (hb hby d5_7) rfl (l' := #[.val (.ref o0), .val (.int v7), .unset, .unset, .unset, .unset, .unset]) rfl ?_
      show Steps p.tables e below (T6.setTop (mkF m 8 #[.val (.ref o0), .val (.int v7), .unset, .unset, .unset, .unset, .unset] [])) t
      refine XS.aloadN X6.here hx rfl (hb hby d5_8) rfl rfl ?_
      show Steps p.tables e below (T6.setTop (mkF m 9 #[.val (.ref o0), .val (.int v7), .unset, .unset, .unset, .unset, .unset] [(.ref o0)])) t
      refine st8 _ ?_
      show Steps p.tables e below (T8.setTop (mkF m 12 #[.val (.ref o0), .val (.int v7), .unset, .unset, .unset, .unset, .unset] [(.ref r)])) t
      refine XS.ifnullNo X8.here hx rfl (hb hby d5_12) rfl ?_
      show Steps p.tables e below (T8.setTop (mkF m 15 #[.val (.ref o0), .val (.int v7), .unset, .unset, .unset, .unset, .unset] [])) t
      refine XS.aloadN X8.here hx rfl (hb hby d5_15) rfl rfl ?_
      show Steps p.tables e below (T8.setTop (mkF m 16 #[.val (.ref o0), .val (.int v7), .unset, .unset, .unset, .unset, .unset] [(.ref o0)])) t
      refine st9 _ ?_
      show Steps p.tables e below (T9.setTop (mkF m 19 #[.val (.ref o0), .val (.int v7), .unset, .unset, .unset, .unset, .unset] [(.ref r)])) t
      refine XS.astoreN X9.here hx rfl (hb hby d5_19) rfl rfl (l' := #[.val (.ref o0), .val (.int v7), .val (.ref r), .unset, .unset, .unset, .unset]) rfl ?_
      show Steps p.tables e below (T9.setTop (mkF m 20 #[.val (.ref o0), .val (.int v7), .val (.ref r), .unset, .unset, .unset, .unset] [])) t
      refine XS.aloadN X9.here hx rfl (hb hby d5_20) rfl rfl ?_
      show Steps p.tables e below (T9.setTop (mkF m 21 #[.val (.ref o0), .val (.int v7), .val (.ref r), .unset, .unset, .unset, .unset] [(.ref r)])) t
      refine Own.lenJ X9 hx hZ e9 A_r (g := (mkF m 21 #[.val (.ref o0), .val (.int v7), .val (.ref r), .unset, .unset, .unset, .unset] [(.ref r)])) rfl rfl (hb hby d5_21) _ ?_
      show Steps p.tables e below (T9.setTop (mkF m 22 #[.val (.ref o0), .val (.int v7), .val (.ref r), .unset, .unset, .unset, .unset] [(.int (Int32.ofNat 1))])) t
      refine Own.nmI (by decide : (1 : Int32) = (Int32.ofNat 1)) ?_
      show Steps p.tables e below (T9.setTop (mkF m 22 #[.val (.ref o0), .val (.int v7), .val (.ref r), .unset, .unset, .unset, .unset] [(.int (1 : Int32))])) t
      refine XS.istoreN X9.here hx rfl (hb hby d5_22) rfl (l' := #[.val (.ref o0), .val (.int v7), .val (.ref r), .val (.int (1 : Int32)), .unset, .unset, .unset]) rfl ?_
      show Steps p.tables e below (T9.setTop (mkF m 23 #[.val (.ref o0), .val (.int v7), .val (.ref r), .val (.int (1 : Int32)), .unset, .unset, .unset] [])) t
      refine XS.iconst X9.here hx rfl (hb hby d5_23) ?_
      show Steps p.tables e below (T9.setTop (mkF m 24 #[.val (.ref o0), .val (.int v7), .val (.ref r), .val (.int (1 : Int32)), .unset, .unset, .unset] [(.int (0 : Int32))])) t
      refine XS.istore X9.here hx rfl (hb hby d5_24) rfl (l' := #[.val (.ref o0), .val (.int v7), .val (.ref r), .val (.int (1 : Int32)), .val (.int (0 : Int32)), .unset, .unset]) rfl ?_
      show Steps p.tables e below (T9.setTop (mkF m 26 #[.val (.ref o0), .val (.int v7), .val (.ref r), .val (.int (1 : Int32)), .val (.int (0 : Int32)), .unset, .unset] [])) t
      refine XS.iload X9.here hx rfl (hb hby d5_26) rfl ?_
      show Steps p.tables e below (T9.setTop (mkF m 28 #[.val (.ref o0), .val (.int v7), .val (.ref r), .val (.int (1 : Int32)), .val (.int (0 : Int32)), .unset, .unset] [(.int (0 : Int32))])) t
      refine XS.iloadN X9.here hx rfl (hb hby d5_28) rfl ?_
      show Steps p.tables e below (T9.setTop (mkF m 29 #[.val (.ref o0), .val (.int v7), .val (.ref r), .val (.int (1 : Int32)), .val (.int (0 : Int32)), .unset, .unset] [(.int (1 : Int32)), (.int (0 : Int32))])) t
      refine XS.icmpNo X9.here hx rfl (hb hby d5_29) rfl (by decide) ?_
      show Steps p.tables e below (T9.setTop (mkF m 32 #[.val (.ref o0), .val (.int v7), .val (.ref r), .val (.int (1 : Int32)), .val (.int (0 : Int32)), .unset, .unset] [])) t
      refine XS.aloadN X9.here hx rfl (hb hby d5_32) rfl rfl ?_
      show Steps p.tables e below (T9.setTop (mkF m 33 #[.val (.ref o0), .val (.int v7), .val (.ref r), .val (.int (1 : Int32)), .val (.int (0 : Int32)), .unset, .unset] [(.ref r)])) t
      refine XS.iload X9.here hx rfl (hb hby d5_33) rfl ?_
      show Steps p.tables e below (T9.setTop (mkF m 35 #[.val (.ref o0), .val (.int v7), .val (.ref r), .val (.int (1 : Int32)), .val (.int (0 : Int32)), .unset, .unset] [(.int (0 : Int32)), (.ref r)])) t
      refine Own.ldJ X9 hx hZ e9 A_r hj10 (g := (mkF m 35 #[.val (.ref o0), .val (.int v7), .val (.ref r), .val (.int (1 : Int32)), .val (.int (0 : Int32)), .unset, .unset] [(.int (0 : Int32)), (.ref r)])) rfl rfl (hb hby d5_35) _ ?_
      show Steps p.tables e below (T9.setTop (mkF m 36 #[.val (.ref o0), .val (.int v7), .val (.ref r), .val (.int (1 : Int32)), .val (.int (0 : Int32)), .unset, .unset] [(.long ((fun k => w (k + 1)) 0))])) t
      refine Own.nmJ hv11 ?_
      show Steps p.tables e below (T9.setTop (mkF m 36 #[.val (.ref o0), .val (.int v7), .val (.ref r), .val (.int (1 : Int32)), .val (.int (0 : Int32)), .unset, .unset] [(.long v11)])) t
      refine XS.lstore X9.here hx rfl (hb hby d5_36) rfl (l' := #[.val (.ref o0), .val (.int v7), .val (.ref r), .val (.int (1 : Int32)), .val (.int (0 : Int32)), .val (.long v11), .second]) rfl ?_
      show Steps p.tables e below (T9.setTop (mkF m 38 #[.val (.ref o0), .val (.int v7), .val (.ref r), .val (.int (1 : Int32)), .val (.int (0 : Int32)), .val (.long v11), .second] [])) t
      refine XS.iloadN X9.here hx rfl (hb hby d5_38) rfl ?_
      show Steps p.tables e below (T9.setTop (mkF m 39 #[.val (.ref o0), .val (.int v7), .val (.ref r), .val (.int (1 : Int32)), .val (.int (0 : Int32)), .val (.long v11), .second] [(.int v7)])) t
      refine XS.lload X9.here hx rfl (hb hby d5_39) rfl ?_
      show Steps p.tables e below (T9.setTop (mkF m 41 #[.val (.ref o0), .val (.int v7), .val (.ref r), .val (.int (1 : Int32)), .val (.int (0 : Int32)), .val (.long v11), .second] [(.long v11), (.int v7)])) t
      refine st12 _ ?_
      show Steps p.tables e below (T12.setTop (mkF m 44 #[.val (.ref o0), .val (.int v7), .val (.ref r), .val (.int (1 : Int32)), .val (.int (0 : Int32)), .val (.long v11), .second] [(.int (own_bc v11)), (.int v7)])) t
      refine XS.iadd X12.here hx rfl (hb hby d5_44) rfl ?_
      show Steps p.tables e below (T12.setTop (mkF m 45 #[.val (.ref o0), .val (.int v7), .val (.ref r), .val (.int (1 : Int32)), .val (.int (0 : Int32)), .val (.long v11), .second] [(.int (v7 + (own_bc v11)))])) t
      refine Own.nmI hv13 ?_
      show Steps p.tables e below (T12.setTop (mkF m 45 #[.val (.ref o0), .val (.int v7), .val (.ref r), .val (.int (1 : Int32)), .val (.int (0 : Int32)), .val (.long v11), .second] [(.int v13)])) t
      refine XS.istoreN X12.here hx rfl (hb hby d5_45) rfl (l' := #[.val (.ref o0), .val (.int v13), .val (.ref r), .val (.int (1 : Int32)), .val (.int (0 : Int32)), .val (.long v11), .second]) rfl ?_
      show Steps p.tables e below (T12.setTop (mkF m 46 #[.val (.ref o0), .val (.int v13), .val (.ref r), .val (.int (1 : Int32)), .val (.int (0 : Int32)), .val (.long v11), .second] [])) t
      refine XS.iinc X12.here hx rfl (hb hby d5_46) rfl (l' := #[.val (.ref o0), .val (.int v13), .val (.ref r), .val (.int (1 : Int32)), .val (.int ((0 : Int32) + (1 : Int32))), .val (.long v11), .second]) rfl ?_
      show Steps p.tables e below (T12.setTop (mkF m 49 #[.val (.ref o0), .val (.int v13), .val (.ref r), .val (.int (1 : Int32)), .val (.int ((0 : Int32) + (1 : Int32))), .val (.long v11), .second] [])) t
      rw [show ((0 : Int32) + (1 : Int32)) = (1 : Int32) from by decide]
      show Steps p.tables e below (T12.setTop (mkF m 49 #[.val (.ref o0), .val (.int v13), .val (.ref r), .val (.int (1 : Int32)), .val (.int (1 : Int32)), .val (.long v11), .second] [])) t
      refine XS.goto X12.here hx rfl (pc0 := 49) (pc' := 26) rfl (hb hby d5_49) (by decide) (by decide) ?_
      show Steps p.tables e below (T12.setTop (mkF m 26 #[.val (.ref o0), .val (.int v13), .val (.ref r), .val (.int (1 : Int32)), .val (.int (1 : Int32)), .val (.long v11), .second] [])) t
      refine XS.iload X12.here hx rfl (hb hby d5_26) rfl ?_
      show Steps p.tables e below (T12.setTop (mkF m 28 #[.val (.ref o0), .val (.int v13), .val (.ref r), .val (.int (1 : Int32)), .val (.int (1 : Int32)), .val (.long v11), .second] [(.int (1 : Int32))])) t
      refine XS.iloadN X12.here hx rfl (hb hby d5_28) rfl ?_
      show Steps p.tables e below (T12.setTop (mkF m 29 #[.val (.ref o0), .val (.int v13), .val (.ref r), .val (.int (1 : Int32)), .val (.int (1 : Int32)), .val (.long v11), .second] [(.int (1 : Int32)), (.int (1 : Int32))])) t
      refine XS.icmpYes X12.here hx rfl (pc0 := 29) (pc' := 52) rfl (hb hby d5_29) rfl (by decide) (by decide) (by decide) ?_
      show Steps p.tables e below (T12.setTop (mkF m 52 #[.val (.ref o0), .val (.int v13), .val (.ref r), .val (.int (1 : Int32)), .val (.int (1 : Int32)), .val (.long v11), .second] [])) t
      refine XS.iloadN X12.here hx rfl (hb hby d5_52) rfl ?_
      show Steps p.tables e below (T12.setTop (mkF m 53 #[.val (.ref o0), .val (.int v13), .val (.ref r), .val (.int (1 : Int32)), .val (.int (1 : Int32)), .val (.long v11), .second] [(.int v13)])) t
      exact k
    exact Own.retI hR X12 hx hret (hb hby d5_53) (by decide) (by decide) ⟨by subst hv13; subst hv11; subst hv7; rfl, N12, e12⟩
  · obtain ⟨T14, X14, e14, st14⟩ := getF X0 hx hZ hown (host := "") (Or.inl (hw _ (List.mem_of_getElem? (i := 17) rfl))) Via.refl e0 F_first (g := (mkF m 1 #[.val (.ref o0), .unset, .unset, .unset, .unset, .unset, .unset] [(.ref o0)])) rfl rfl (hb hby d5_1)
    obtain ⟨T15, _, L15, X15, ⟨rfl, Nq15, e15⟩, st15⟩ := Own.callS (y := (⟨"java/lang/Long", "bitCount", "(J)I"⟩ : MethodName)) (W := 0) (argsL := [(.long (w 0))]) (rest := []) X14 hx hZ hown (hw _ (List.mem_of_getElem? (i := 29) rfl)) (hw _ (List.mem_of_getElem? (i := 30) rfl)) (hw _ (List.mem_of_getElem? (i := 31) rfl)) (hw _ (List.mem_of_getElem? (i := 32) rfl)) (by decide) e14 (rm4 l Z a0 hw [] (w 0)  h0 n0 ) (by decide) (by decide) (by decide) (by decide) (g := (mkF m 4 #[.val (.ref o0), .unset, .unset, .unset, .unset, .unset, .unset] [(.long (w 0))])) rfl (by rw [hml]; rfl) (lenOf pd_0 rfl) rfl (by show 2 * 0 + _ ≤ _; exact Nat.le_of_eq rfl) (hb hby d5_4)
    have N15 := Fr.app N0 Nq15
    obtain ⟨v16, hv16⟩ : ∃ z : Int32, z = (own_bc (w 0)) := ⟨_, rfl⟩
    obtain ⟨T17, X17, e17, st17⟩ := getF X15 hx hZ hown (host := "") (Or.inl (hw _ (List.mem_of_getElem? (i := 10) rfl))) Via.refl e15 F_rest (g := (mkF m 9 #[.val (.ref o0), .val (.int v16), .unset, .unset, .unset, .unset, .unset] [(.ref o0)])) rfl rfl (hb hby d5_9)
    obtain ⟨T18, X18, e18, st18⟩ := getF X17 hx hZ hown (host := "") (Or.inl (hw _ (List.mem_of_getElem? (i := 10) rfl))) Via.refl e17 F_rest (g := (mkF m 16 #[.val (.ref o0), .val (.int v16), .unset, .unset, .unset, .unset, .unset] [(.ref o0)])) rfl rfl (hb hby d5_16)
    have hj19 : 0 ≤ (0 : Int32).toInt ∧ (0 : Int32).toInt < (2 : Nat) := ⟨by decide, by decide⟩
    obtain ⟨v20, hv20⟩ : ∃ z : Int64, z = ((fun k => w (k + 1)) 0) := ⟨_, rfl⟩
    obtain ⟨T21, _, L21, X21, ⟨rfl, Nq21, e21⟩, st21⟩ := Own.callS (y := (⟨"java/lang/Long", "bitCount", "(J)I"⟩ : MethodName)) (W := 1) (argsL := [(.long v20)]) (rest := [(.int v16)]) X18 hx hZ hown (hw _ (List.mem_of_getElem? (i := 29) rfl)) (hw _ (List.mem_of_getElem? (i := 30) rfl)) (hw _ (List.mem_of_getElem? (i := 31) rfl)) (hw _ (List.mem_of_getElem? (i := 32) rfl)) (by decide) e18 (rm4 l Z a0 hw [] v20  h0 n0 ) (by decide) (by decide) (by decide) (by decide) (g := (mkF m 41 #[.val (.ref o0), .val (.int v16), .val (.ref r), .val (.int (2 : Int32)), .val (.int (0 : Int32)), .val (.long v20), .second] [(.long v20), (.int v16)])) rfl (by rw [hml]; rfl) (lenOf pd_0 rfl) rfl (by show 2 * 0 + _ ≤ _; exact Nat.le_of_eq rfl) (hb hby d5_41)
    have N21 := Fr.app N15 Nq21
    obtain ⟨v22, hv22⟩ : ∃ z : Int32, z = (v16 + (own_bc v20)) := ⟨_, rfl⟩
    have hj23 : 0 ≤ (1 : Int32).toInt ∧ (1 : Int32).toInt < (2 : Nat) := ⟨by decide, by decide⟩
    obtain ⟨v24, hv24⟩ : ∃ z : Int64, z = ((fun k => w (k + 1)) 1) := ⟨_, rfl⟩
    obtain ⟨T25, _, L25, X25, ⟨rfl, Nq25, e25⟩, st25⟩ := Own.callS (y := (⟨"java/lang/Long", "bitCount", "(J)I"⟩ : MethodName)) (W := 1) (argsL := [(.long v24)]) (rest := [(.int v22)]) X21 hx hZ hown (hw _ (List.mem_of_getElem? (i := 29) rfl)) (hw _ (List.mem_of_getElem? (i := 30) rfl)) (hw _ (List.mem_of_getElem? (i := 31) rfl)) (hw _ (List.mem_of_getElem? (i := 32) rfl)) (by decide) e21 (rm4 l Z a0 hw [] v24  h0 n0 ) (by decide) (by decide) (by decide) (by decide) (g := (mkF m 41 #[.val (.ref o0), .val (.int v22), .val (.ref r), .val (.int (2 : Int32)), .val (.int (1 : Int32)), .val (.long v24), .second] [(.long v24), (.int v22)])) rfl (by rw [hml]; rfl) (lenOf pd_0 rfl) rfl (by show 2 * 0 + _ ≤ _; exact Nat.le_of_eq rfl) (hb hby d5_41)
    have N25 := Fr.app N21 Nq25
    obtain ⟨v26, hv26⟩ : ∃ z : Int32, z = (v22 + (own_bc v24)) := ⟨_, rfl⟩
    refine hD _ (T25.setTop (mkF m 53 #[.val (.ref o0), .val (.int v26), .val (.ref r), .val (.int (2 : Int32)), .val (.int (2 : Int32)), .val (.long v24), .second] [(.int v26)])) (fun t k => ?_) ?_
    · show Steps p.tables e below (s₁.setTop (mkF m 0 #[.val (.ref o0), .unset, .unset, .unset, .unset, .unset, .unset] [])) t
      refine XS.aloadN X0.here hx rfl (hb hby d5_0) rfl rfl ?_
      show Steps p.tables e below (s₁.setTop (mkF m 1 #[.val (.ref o0), .unset, .unset, .unset, .unset, .unset, .unset] [(.ref o0)])) t
      refine st14 _ ?_
      show Steps p.tables e below (T14.setTop (mkF m 4 #[.val (.ref o0), .unset, .unset, .unset, .unset, .unset, .unset] [(.long (w 0))])) t
      refine st15 _ ?_
      show Steps p.tables e below (T15.setTop (mkF m 7 #[.val (.ref o0), .unset, .unset, .unset, .unset, .unset, .unset] [(.int (own_bc (w 0)))])) t
      refine Own.nmI hv16 ?_
      show Steps p.tables e below (T15.setTop (mkF m 7 #[.val (.ref o0), .unset, .unset, .unset, .unset, .unset, .unset] [(.int v16)])) t
      refine XS.istoreN X15.here hx rfl (hb hby d5_7) rfl (l' := #[.val (.ref o0), .val (.int v16), .unset, .unset, .unset, .unset, .unset]) rfl ?_
      show Steps p.tables e below (T15.setTop (mkF m 8 #[.val (.ref o0), .val (.int v16), .unset, .unset, .unset, .unset, .unset] [])) t
      refine XS.aloadN X15.here hx rfl (hb hby d5_8) rfl rfl ?_
      show Steps p.tables e below (T15.setTop (mkF m 9 #[.val (.ref o0), .val (.int v16), .unset, .unset, .unset, .unset, .unset] [(.ref o0)])) t
      refine st17 _ ?_
      show Steps p.tables e below (T17.setTop (mkF m 12 #[.val (.ref o0), .val (.int v16), .unset, .unset, .unset, .unset, .unset] [(.ref r)])) t
      refine XS.ifnullNo X17.here hx rfl (hb hby d5_12) rfl ?_
      show Steps p.tables e below (T17.setTop (mkF m 15 #[.val (.ref o0), .val (.int v16), .unset, .unset, .unset, .unset, .unset] [])) t
      refine XS.aloadN X17.here hx rfl (hb hby d5_15) rfl rfl ?_
      show Steps p.tables e below (T17.setTop (mkF m 16 #[.val (.ref o0), .val (.int v16), .unset, .unset, .unset, .unset, .unset] [(.ref o0)])) t
      refine st18 _ ?_
      show Steps p.tables e below (T18.setTop (mkF m 19 #[.val (.ref o0), .val (.int v16), .unset, .unset, .unset, .unset, .unset] [(.ref r)])) t
      refine XS.astoreN X18.here hx rfl (hb hby d5_19) rfl rfl (l' := #[.val (.ref o0), .val (.int v16), .val (.ref r), .unset, .unset, .unset, .unset]) rfl ?_
      show Steps p.tables e below (T18.setTop (mkF m 20 #[.val (.ref o0), .val (.int v16), .val (.ref r), .unset, .unset, .unset, .unset] [])) t
      refine XS.aloadN X18.here hx rfl (hb hby d5_20) rfl rfl ?_
      show Steps p.tables e below (T18.setTop (mkF m 21 #[.val (.ref o0), .val (.int v16), .val (.ref r), .unset, .unset, .unset, .unset] [(.ref r)])) t
      refine Own.lenJ X18 hx hZ e18 A_r (g := (mkF m 21 #[.val (.ref o0), .val (.int v16), .val (.ref r), .unset, .unset, .unset, .unset] [(.ref r)])) rfl rfl (hb hby d5_21) _ ?_
      show Steps p.tables e below (T18.setTop (mkF m 22 #[.val (.ref o0), .val (.int v16), .val (.ref r), .unset, .unset, .unset, .unset] [(.int (Int32.ofNat 2))])) t
      refine Own.nmI (by decide : (2 : Int32) = (Int32.ofNat 2)) ?_
      show Steps p.tables e below (T18.setTop (mkF m 22 #[.val (.ref o0), .val (.int v16), .val (.ref r), .unset, .unset, .unset, .unset] [(.int (2 : Int32))])) t
      refine XS.istoreN X18.here hx rfl (hb hby d5_22) rfl (l' := #[.val (.ref o0), .val (.int v16), .val (.ref r), .val (.int (2 : Int32)), .unset, .unset, .unset]) rfl ?_
      show Steps p.tables e below (T18.setTop (mkF m 23 #[.val (.ref o0), .val (.int v16), .val (.ref r), .val (.int (2 : Int32)), .unset, .unset, .unset] [])) t
      refine XS.iconst X18.here hx rfl (hb hby d5_23) ?_
      show Steps p.tables e below (T18.setTop (mkF m 24 #[.val (.ref o0), .val (.int v16), .val (.ref r), .val (.int (2 : Int32)), .unset, .unset, .unset] [(.int (0 : Int32))])) t
      refine XS.istore X18.here hx rfl (hb hby d5_24) rfl (l' := #[.val (.ref o0), .val (.int v16), .val (.ref r), .val (.int (2 : Int32)), .val (.int (0 : Int32)), .unset, .unset]) rfl ?_
      show Steps p.tables e below (T18.setTop (mkF m 26 #[.val (.ref o0), .val (.int v16), .val (.ref r), .val (.int (2 : Int32)), .val (.int (0 : Int32)), .unset, .unset] [])) t
      refine XS.iload X18.here hx rfl (hb hby d5_26) rfl ?_
      show Steps p.tables e below (T18.setTop (mkF m 28 #[.val (.ref o0), .val (.int v16), .val (.ref r), .val (.int (2 : Int32)), .val (.int (0 : Int32)), .unset, .unset] [(.int (0 : Int32))])) t
      refine XS.iloadN X18.here hx rfl (hb hby d5_28) rfl ?_
      show Steps p.tables e below (T18.setTop (mkF m 29 #[.val (.ref o0), .val (.int v16), .val (.ref r), .val (.int (2 : Int32)), .val (.int (0 : Int32)), .unset, .unset] [(.int (2 : Int32)), (.int (0 : Int32))])) t
      refine XS.icmpNo X18.here hx rfl (hb hby d5_29) rfl (by decide) ?_
      show Steps p.tables e below (T18.setTop (mkF m 32 #[.val (.ref o0), .val (.int v16), .val (.ref r), .val (.int (2 : Int32)), .val (.int (0 : Int32)), .unset, .unset] [])) t
      refine XS.aloadN X18.here hx rfl (hb hby d5_32) rfl rfl ?_
      show Steps p.tables e below (T18.setTop (mkF m 33 #[.val (.ref o0), .val (.int v16), .val (.ref r), .val (.int (2 : Int32)), .val (.int (0 : Int32)), .unset, .unset] [(.ref r)])) t
      refine XS.iload X18.here hx rfl (hb hby d5_33) rfl ?_
      show Steps p.tables e below (T18.setTop (mkF m 35 #[.val (.ref o0), .val (.int v16), .val (.ref r), .val (.int (2 : Int32)), .val (.int (0 : Int32)), .unset, .unset] [(.int (0 : Int32)), (.ref r)])) t
      refine Own.ldJ X18 hx hZ e18 A_r hj19 (g := (mkF m 35 #[.val (.ref o0), .val (.int v16), .val (.ref r), .val (.int (2 : Int32)), .val (.int (0 : Int32)), .unset, .unset] [(.int (0 : Int32)), (.ref r)])) rfl rfl (hb hby d5_35) _ ?_
      show Steps p.tables e below (T18.setTop (mkF m 36 #[.val (.ref o0), .val (.int v16), .val (.ref r), .val (.int (2 : Int32)), .val (.int (0 : Int32)), .unset, .unset] [(.long ((fun k => w (k + 1)) 0))])) t
      refine Own.nmJ hv20 ?_
      show Steps p.tables e below (T18.setTop (mkF m 36 #[.val (.ref o0), .val (.int v16), .val (.ref r), .val (.int (2 : Int32)), .val (.int (0 : Int32)), .unset, .unset] [(.long v20)])) t
      refine XS.lstore X18.here hx rfl (hb hby d5_36) rfl (l' := #[.val (.ref o0), .val (.int v16), .val (.ref r), .val (.int (2 : Int32)), .val (.int (0 : Int32)), .val (.long v20), .second]) rfl ?_
      show Steps p.tables e below (T18.setTop (mkF m 38 #[.val (.ref o0), .val (.int v16), .val (.ref r), .val (.int (2 : Int32)), .val (.int (0 : Int32)), .val (.long v20), .second] [])) t
      refine XS.iloadN X18.here hx rfl (hb hby d5_38) rfl ?_
      show Steps p.tables e below (T18.setTop (mkF m 39 #[.val (.ref o0), .val (.int v16), .val (.ref r), .val (.int (2 : Int32)), .val (.int (0 : Int32)), .val (.long v20), .second] [(.int v16)])) t
      refine XS.lload X18.here hx rfl (hb hby d5_39) rfl ?_
      show Steps p.tables e below (T18.setTop (mkF m 41 #[.val (.ref o0), .val (.int v16), .val (.ref r), .val (.int (2 : Int32)), .val (.int (0 : Int32)), .val (.long v20), .second] [(.long v20), (.int v16)])) t
      refine st21 _ ?_
      show Steps p.tables e below (T21.setTop (mkF m 44 #[.val (.ref o0), .val (.int v16), .val (.ref r), .val (.int (2 : Int32)), .val (.int (0 : Int32)), .val (.long v20), .second] [(.int (own_bc v20)), (.int v16)])) t
      refine XS.iadd X21.here hx rfl (hb hby d5_44) rfl ?_
      show Steps p.tables e below (T21.setTop (mkF m 45 #[.val (.ref o0), .val (.int v16), .val (.ref r), .val (.int (2 : Int32)), .val (.int (0 : Int32)), .val (.long v20), .second] [(.int (v16 + (own_bc v20)))])) t
      refine Own.nmI hv22 ?_
      show Steps p.tables e below (T21.setTop (mkF m 45 #[.val (.ref o0), .val (.int v16), .val (.ref r), .val (.int (2 : Int32)), .val (.int (0 : Int32)), .val (.long v20), .second] [(.int v22)])) t
      refine XS.istoreN X21.here hx rfl (hb hby d5_45) rfl (l' := #[.val (.ref o0), .val (.int v22), .val (.ref r), .val (.int (2 : Int32)), .val (.int (0 : Int32)), .val (.long v20), .second]) rfl ?_
      show Steps p.tables e below (T21.setTop (mkF m 46 #[.val (.ref o0), .val (.int v22), .val (.ref r), .val (.int (2 : Int32)), .val (.int (0 : Int32)), .val (.long v20), .second] [])) t
      refine XS.iinc X21.here hx rfl (hb hby d5_46) rfl (l' := #[.val (.ref o0), .val (.int v22), .val (.ref r), .val (.int (2 : Int32)), .val (.int ((0 : Int32) + (1 : Int32))), .val (.long v20), .second]) rfl ?_
      show Steps p.tables e below (T21.setTop (mkF m 49 #[.val (.ref o0), .val (.int v22), .val (.ref r), .val (.int (2 : Int32)), .val (.int ((0 : Int32) + (1 : Int32))), .val (.long v20), .second] [])) t
      rw [show ((0 : Int32) + (1 : Int32)) = (1 : Int32) from by decide]
      show Steps p.tables e below (T21.setTop (mkF m 49 #[.val (.ref o0), .val (.int v22), .val (.ref r), .val (.int (2 : Int32)), .val (.int (1 : Int32)), .val (.long v20), .second] [])) t
      refine XS.goto X21.here hx rfl (pc0 := 49) (pc' := 26) rfl (hb hby d5_49) (by decide) (by decide) ?_
      show Steps p.tables e below (T21.setTop (mkF m 26 #[.val (.ref o0), .val (.int v22), .val (.ref r), .val (.int (2 : Int32)), .val (.int (1 : Int32)), .val (.long v20), .second] [])) t
      refine XS.iload X21.here hx rfl (hb hby d5_26) rfl ?_
      show Steps p.tables e below (T21.setTop (mkF m 28 #[.val (.ref o0), .val (.int v22), .val (.ref r), .val (.int (2 : Int32)), .val (.int (1 : Int32)), .val (.long v20), .second] [(.int (1 : Int32))])) t
      refine XS.iloadN X21.here hx rfl (hb hby d5_28) rfl ?_
      show Steps p.tables e below (T21.setTop (mkF m 29 #[.val (.ref o0), .val (.int v22), .val (.ref r), .val (.int (2 : Int32)), .val (.int (1 : Int32)), .val (.long v20), .second] [(.int (2 : Int32)), (.int (1 : Int32))])) t
      refine XS.icmpNo X21.here hx rfl (hb hby d5_29) rfl (by decide) ?_
      show Steps p.tables e below (T21.setTop (mkF m 32 #[.val (.ref o0), .val (.int v22), .val (.ref r), .val (.int (2 : Int32)), .val (.int (1 : Int32)), .val (.long v20), .second] [])) t
      refine XS.aloadN X21.here hx rfl (hb hby d5_32) rfl rfl ?_
      show Steps p.tables e below (T21.setTop (mkF m 33 #[.val (.ref o0), .val (.int v22), .val (.ref r), .val (.int (2 : Int32)), .val (.int (1 : Int32)), .val (.long v20), .second] [(.ref r)])) t
      refine XS.iload X21.here hx rfl (hb hby d5_33) rfl ?_
      show Steps p.tables e below (T21.setTop (mkF m 35 #[.val (.ref o0), .val (.int v22), .val (.ref r), .val (.int (2 : Int32)), .val (.int (1 : Int32)), .val (.long v20), .second] [(.int (1 : Int32)), (.ref r)])) t
      refine Own.ldJ X21 hx hZ e21 A_r hj23 (g := (mkF m 35 #[.val (.ref o0), .val (.int v22), .val (.ref r), .val (.int (2 : Int32)), .val (.int (1 : Int32)), .val (.long v20), .second] [(.int (1 : Int32)), (.ref r)])) rfl rfl (hb hby d5_35) _ ?_
      show Steps p.tables e below (T21.setTop (mkF m 36 #[.val (.ref o0), .val (.int v22), .val (.ref r), .val (.int (2 : Int32)), .val (.int (1 : Int32)), .val (.long v20), .second] [(.long ((fun k => w (k + 1)) 1))])) t
      refine Own.nmJ hv24 ?_
      show Steps p.tables e below (T21.setTop (mkF m 36 #[.val (.ref o0), .val (.int v22), .val (.ref r), .val (.int (2 : Int32)), .val (.int (1 : Int32)), .val (.long v20), .second] [(.long v24)])) t
      refine XS.lstore X21.here hx rfl (hb hby d5_36) rfl (l' := #[.val (.ref o0), .val (.int v22), .val (.ref r), .val (.int (2 : Int32)), .val (.int (1 : Int32)), .val (.long v24), .second]) rfl ?_
      show Steps p.tables e below (T21.setTop (mkF m 38 #[.val (.ref o0), .val (.int v22), .val (.ref r), .val (.int (2 : Int32)), .val (.int (1 : Int32)), .val (.long v24), .second] [])) t
      refine XS.iloadN X21.here hx rfl (hb hby d5_38) rfl ?_
      show Steps p.tables e below (T21.setTop (mkF m 39 #[.val (.ref o0), .val (.int v22), .val (.ref r), .val (.int (2 : Int32)), .val (.int (1 : Int32)), .val (.long v24), .second] [(.int v22)])) t
      refine XS.lload X21.here hx rfl (hb hby d5_39) rfl ?_
      show Steps p.tables e below (T21.setTop (mkF m 41 #[.val (.ref o0), .val (.int v22), .val (.ref r), .val (.int (2 : Int32)), .val (.int (1 : Int32)), .val (.long v24), .second] [(.long v24), (.int v22)])) t
      refine st25 _ ?_
      show Steps p.tables e below (T25.setTop (mkF m 44 #[.val (.ref o0), .val (.int v22), .val (.ref r), .val (.int (2 : Int32)), .val (.int (1 : Int32)), .val (.long v24), .second] [(.int (own_bc v24)), (.int v22)])) t
      refine XS.iadd X25.here hx rfl (hb hby d5_44) rfl ?_
      show Steps p.tables e below (T25.setTop (mkF m 45 #[.val (.ref o0), .val (.int v22), .val (.ref r), .val (.int (2 : Int32)), .val (.int (1 : Int32)), .val (.long v24), .second] [(.int (v22 + (own_bc v24)))])) t
      refine Own.nmI hv26 ?_
      show Steps p.tables e below (T25.setTop (mkF m 45 #[.val (.ref o0), .val (.int v22), .val (.ref r), .val (.int (2 : Int32)), .val (.int (1 : Int32)), .val (.long v24), .second] [(.int v26)])) t
      refine XS.istoreN X25.here hx rfl (hb hby d5_45) rfl (l' := #[.val (.ref o0), .val (.int v26), .val (.ref r), .val (.int (2 : Int32)), .val (.int (1 : Int32)), .val (.long v24), .second]) rfl ?_
      show Steps p.tables e below (T25.setTop (mkF m 46 #[.val (.ref o0), .val (.int v26), .val (.ref r), .val (.int (2 : Int32)), .val (.int (1 : Int32)), .val (.long v24), .second] [])) t
      refine XS.iinc X25.here hx rfl (hb hby d5_46) rfl (l' := #[.val (.ref o0), .val (.int v26), .val (.ref r), .val (.int (2 : Int32)), .val (.int ((1 : Int32) + (1 : Int32))), .val (.long v24), .second]) rfl ?_
      show Steps p.tables e below (T25.setTop (mkF m 49 #[.val (.ref o0), .val (.int v26), .val (.ref r), .val (.int (2 : Int32)), .val (.int ((1 : Int32) + (1 : Int32))), .val (.long v24), .second] [])) t
      rw [show ((1 : Int32) + (1 : Int32)) = (2 : Int32) from by decide]
      show Steps p.tables e below (T25.setTop (mkF m 49 #[.val (.ref o0), .val (.int v26), .val (.ref r), .val (.int (2 : Int32)), .val (.int (2 : Int32)), .val (.long v24), .second] [])) t
      refine XS.goto X25.here hx rfl (pc0 := 49) (pc' := 26) rfl (hb hby d5_49) (by decide) (by decide) ?_
      show Steps p.tables e below (T25.setTop (mkF m 26 #[.val (.ref o0), .val (.int v26), .val (.ref r), .val (.int (2 : Int32)), .val (.int (2 : Int32)), .val (.long v24), .second] [])) t
      refine XS.iload X25.here hx rfl (hb hby d5_26) rfl ?_
      show Steps p.tables e below (T25.setTop (mkF m 28 #[.val (.ref o0), .val (.int v26), .val (.ref r), .val (.int (2 : Int32)), .val (.int (2 : Int32)), .val (.long v24), .second] [(.int (2 : Int32))])) t
      refine XS.iloadN X25.here hx rfl (hb hby d5_28) rfl ?_
      show Steps p.tables e below (T25.setTop (mkF m 29 #[.val (.ref o0), .val (.int v26), .val (.ref r), .val (.int (2 : Int32)), .val (.int (2 : Int32)), .val (.long v24), .second] [(.int (2 : Int32)), (.int (2 : Int32))])) t
      refine XS.icmpYes X25.here hx rfl (pc0 := 29) (pc' := 52) rfl (hb hby d5_29) rfl (by decide) (by decide) (by decide) ?_
      show Steps p.tables e below (T25.setTop (mkF m 52 #[.val (.ref o0), .val (.int v26), .val (.ref r), .val (.int (2 : Int32)), .val (.int (2 : Int32)), .val (.long v24), .second] [])) t
      refine XS.iloadN X25.here hx rfl (hb hby d5_52) rfl ?_
      show Steps p.tables e below (T25.setTop (mkF m 53 #[.val (.ref o0), .val (.int v26), .val (.ref r), .val (.int (2 : Int32)), .val (.int (2 : Int32)), .val (.long v24), .second] [(.int v26)])) t
      exact k
    exact Own.retI hR X25 hx hret (hb hby d5_53) (by decide) (by decide) ⟨by subst hv26; subst hv24; subst hv22; subst hv20; subst hv16; rfl, N25, e25⟩
  · obtain ⟨T27, X27, e27, st27⟩ := getF X0 hx hZ hown (host := "") (Or.inl (hw _ (List.mem_of_getElem? (i := 17) rfl))) Via.refl e0 F_first (g := (mkF m 1 #[.val (.ref o0), .unset, .unset, .unset, .unset, .unset, .unset] [(.ref o0)])) rfl rfl (hb hby d5_1)
    obtain ⟨T28, _, L28, X28, ⟨rfl, Nq28, e28⟩, st28⟩ := Own.callS (y := (⟨"java/lang/Long", "bitCount", "(J)I"⟩ : MethodName)) (W := 0) (argsL := [(.long (w 0))]) (rest := []) X27 hx hZ hown (hw _ (List.mem_of_getElem? (i := 29) rfl)) (hw _ (List.mem_of_getElem? (i := 30) rfl)) (hw _ (List.mem_of_getElem? (i := 31) rfl)) (hw _ (List.mem_of_getElem? (i := 32) rfl)) (by decide) e27 (rm4 l Z a0 hw [] (w 0)  h0 n0 ) (by decide) (by decide) (by decide) (by decide) (g := (mkF m 4 #[.val (.ref o0), .unset, .unset, .unset, .unset, .unset, .unset] [(.long (w 0))])) rfl (by rw [hml]; rfl) (lenOf pd_0 rfl) rfl (by show 2 * 0 + _ ≤ _; exact Nat.le_of_eq rfl) (hb hby d5_4)
    have N28 := Fr.app N0 Nq28
    obtain ⟨v29, hv29⟩ : ∃ z : Int32, z = (own_bc (w 0)) := ⟨_, rfl⟩
    obtain ⟨T30, X30, e30, st30⟩ := getF X28 hx hZ hown (host := "") (Or.inl (hw _ (List.mem_of_getElem? (i := 10) rfl))) Via.refl e28 F_rest (g := (mkF m 9 #[.val (.ref o0), .val (.int v29), .unset, .unset, .unset, .unset, .unset] [(.ref o0)])) rfl rfl (hb hby d5_9)
    obtain ⟨T31, X31, e31, st31⟩ := getF X30 hx hZ hown (host := "") (Or.inl (hw _ (List.mem_of_getElem? (i := 10) rfl))) Via.refl e30 F_rest (g := (mkF m 16 #[.val (.ref o0), .val (.int v29), .unset, .unset, .unset, .unset, .unset] [(.ref o0)])) rfl rfl (hb hby d5_16)
    have hj32 : 0 ≤ (0 : Int32).toInt ∧ (0 : Int32).toInt < (3 : Nat) := ⟨by decide, by decide⟩
    obtain ⟨v33, hv33⟩ : ∃ z : Int64, z = ((fun k => w (k + 1)) 0) := ⟨_, rfl⟩
    obtain ⟨T34, _, L34, X34, ⟨rfl, Nq34, e34⟩, st34⟩ := Own.callS (y := (⟨"java/lang/Long", "bitCount", "(J)I"⟩ : MethodName)) (W := 1) (argsL := [(.long v33)]) (rest := [(.int v29)]) X31 hx hZ hown (hw _ (List.mem_of_getElem? (i := 29) rfl)) (hw _ (List.mem_of_getElem? (i := 30) rfl)) (hw _ (List.mem_of_getElem? (i := 31) rfl)) (hw _ (List.mem_of_getElem? (i := 32) rfl)) (by decide) e31 (rm4 l Z a0 hw [] v33  h0 n0 ) (by decide) (by decide) (by decide) (by decide) (g := (mkF m 41 #[.val (.ref o0), .val (.int v29), .val (.ref r), .val (.int (3 : Int32)), .val (.int (0 : Int32)), .val (.long v33), .second] [(.long v33), (.int v29)])) rfl (by rw [hml]; rfl) (lenOf pd_0 rfl) rfl (by show 2 * 0 + _ ≤ _; exact Nat.le_of_eq rfl) (hb hby d5_41)
    have N34 := Fr.app N28 Nq34
    obtain ⟨v35, hv35⟩ : ∃ z : Int32, z = (v29 + (own_bc v33)) := ⟨_, rfl⟩
    have hj36 : 0 ≤ (1 : Int32).toInt ∧ (1 : Int32).toInt < (3 : Nat) := ⟨by decide, by decide⟩
    obtain ⟨v37, hv37⟩ : ∃ z : Int64, z = ((fun k => w (k + 1)) 1) := ⟨_, rfl⟩
    obtain ⟨T38, _, L38, X38, ⟨rfl, Nq38, e38⟩, st38⟩ := Own.callS (y := (⟨"java/lang/Long", "bitCount", "(J)I"⟩ : MethodName)) (W := 1) (argsL := [(.long v37)]) (rest := [(.int v35)]) X34 hx hZ hown (hw _ (List.mem_of_getElem? (i := 29) rfl)) (hw _ (List.mem_of_getElem? (i := 30) rfl)) (hw _ (List.mem_of_getElem? (i := 31) rfl)) (hw _ (List.mem_of_getElem? (i := 32) rfl)) (by decide) e34 (rm4 l Z a0 hw [] v37  h0 n0 ) (by decide) (by decide) (by decide) (by decide) (g := (mkF m 41 #[.val (.ref o0), .val (.int v35), .val (.ref r), .val (.int (3 : Int32)), .val (.int (1 : Int32)), .val (.long v37), .second] [(.long v37), (.int v35)])) rfl (by rw [hml]; rfl) (lenOf pd_0 rfl) rfl (by show 2 * 0 + _ ≤ _; exact Nat.le_of_eq rfl) (hb hby d5_41)
    have N38 := Fr.app N34 Nq38
    obtain ⟨v39, hv39⟩ : ∃ z : Int32, z = (v35 + (own_bc v37)) := ⟨_, rfl⟩
    have hj40 : 0 ≤ (2 : Int32).toInt ∧ (2 : Int32).toInt < (3 : Nat) := ⟨by decide, by decide⟩
    obtain ⟨v41, hv41⟩ : ∃ z : Int64, z = ((fun k => w (k + 1)) 2) := ⟨_, rfl⟩
    obtain ⟨T42, _, L42, X42, ⟨rfl, Nq42, e42⟩, st42⟩ := Own.callS (y := (⟨"java/lang/Long", "bitCount", "(J)I"⟩ : MethodName)) (W := 1) (argsL := [(.long v41)]) (rest := [(.int v39)]) X38 hx hZ hown (hw _ (List.mem_of_getElem? (i := 29) rfl)) (hw _ (List.mem_of_getElem? (i := 30) rfl)) (hw _ (List.mem_of_getElem? (i := 31) rfl)) (hw _ (List.mem_of_getElem? (i := 32) rfl)) (by decide) e38 (rm4 l Z a0 hw [] v41  h0 n0 ) (by decide) (by decide) (by decide) (by decide) (g := (mkF m 41 #[.val (.ref o0), .val (.int v39), .val (.ref r), .val (.int (3 : Int32)), .val (.int (2 : Int32)), .val (.long v41), .second] [(.long v41), (.int v39)])) rfl (by rw [hml]; rfl) (lenOf pd_0 rfl) rfl (by show 2 * 0 + _ ≤ _; exact Nat.le_of_eq rfl) (hb hby d5_41)
    have N42 := Fr.app N38 Nq42
    obtain ⟨v43, hv43⟩ : ∃ z : Int32, z = (v39 + (own_bc v41)) := ⟨_, rfl⟩
    refine hD _ (T42.setTop (mkF m 53 #[.val (.ref o0), .val (.int v43), .val (.ref r), .val (.int (3 : Int32)), .val (.int (3 : Int32)), .val (.long v41), .second] [(.int v43)])) (fun t k => ?_) ?_
    · show Steps p.tables e below (s₁.setTop (mkF m 0 #[.val (.ref o0), .unset, .unset, .unset, .unset, .unset, .unset] [])) t
      refine XS.aloadN X0.here hx rfl (hb hby d5_0) rfl rfl ?_
      show Steps p.tables e below (s₁.setTop (mkF m 1 #[.val (.ref o0), .unset, .unset, .unset, .unset, .unset, .unset] [(.ref o0)])) t
      refine st27 _ ?_
      show Steps p.tables e below (T27.setTop (mkF m 4 #[.val (.ref o0), .unset, .unset, .unset, .unset, .unset, .unset] [(.long (w 0))])) t
      refine st28 _ ?_
      show Steps p.tables e below (T28.setTop (mkF m 7 #[.val (.ref o0), .unset, .unset, .unset, .unset, .unset, .unset] [(.int (own_bc (w 0)))])) t
      refine Own.nmI hv29 ?_
      show Steps p.tables e below (T28.setTop (mkF m 7 #[.val (.ref o0), .unset, .unset, .unset, .unset, .unset, .unset] [(.int v29)])) t
      refine XS.istoreN X28.here hx rfl (hb hby d5_7) rfl (l' := #[.val (.ref o0), .val (.int v29), .unset, .unset, .unset, .unset, .unset]) rfl ?_
      show Steps p.tables e below (T28.setTop (mkF m 8 #[.val (.ref o0), .val (.int v29), .unset, .unset, .unset, .unset, .unset] [])) t
      refine XS.aloadN X28.here hx rfl (hb hby d5_8) rfl rfl ?_
      show Steps p.tables e below (T28.setTop (mkF m 9 #[.val (.ref o0), .val (.int v29), .unset, .unset, .unset, .unset, .unset] [(.ref o0)])) t
      refine st30 _ ?_
      show Steps p.tables e below (T30.setTop (mkF m 12 #[.val (.ref o0), .val (.int v29), .unset, .unset, .unset, .unset, .unset] [(.ref r)])) t
      refine XS.ifnullNo X30.here hx rfl (hb hby d5_12) rfl ?_
      show Steps p.tables e below (T30.setTop (mkF m 15 #[.val (.ref o0), .val (.int v29), .unset, .unset, .unset, .unset, .unset] [])) t
      refine XS.aloadN X30.here hx rfl (hb hby d5_15) rfl rfl ?_
      show Steps p.tables e below (T30.setTop (mkF m 16 #[.val (.ref o0), .val (.int v29), .unset, .unset, .unset, .unset, .unset] [(.ref o0)])) t
      refine st31 _ ?_
      show Steps p.tables e below (T31.setTop (mkF m 19 #[.val (.ref o0), .val (.int v29), .unset, .unset, .unset, .unset, .unset] [(.ref r)])) t
      refine XS.astoreN X31.here hx rfl (hb hby d5_19) rfl rfl (l' := #[.val (.ref o0), .val (.int v29), .val (.ref r), .unset, .unset, .unset, .unset]) rfl ?_
      show Steps p.tables e below (T31.setTop (mkF m 20 #[.val (.ref o0), .val (.int v29), .val (.ref r), .unset, .unset, .unset, .unset] [])) t
      refine XS.aloadN X31.here hx rfl (hb hby d5_20) rfl rfl ?_
      show Steps p.tables e below (T31.setTop (mkF m 21 #[.val (.ref o0), .val (.int v29), .val (.ref r), .unset, .unset, .unset, .unset] [(.ref r)])) t
      refine Own.lenJ X31 hx hZ e31 A_r (g := (mkF m 21 #[.val (.ref o0), .val (.int v29), .val (.ref r), .unset, .unset, .unset, .unset] [(.ref r)])) rfl rfl (hb hby d5_21) _ ?_
      show Steps p.tables e below (T31.setTop (mkF m 22 #[.val (.ref o0), .val (.int v29), .val (.ref r), .unset, .unset, .unset, .unset] [(.int (Int32.ofNat 3))])) t
      refine Own.nmI (by decide : (3 : Int32) = (Int32.ofNat 3)) ?_
      show Steps p.tables e below (T31.setTop (mkF m 22 #[.val (.ref o0), .val (.int v29), .val (.ref r), .unset, .unset, .unset, .unset] [(.int (3 : Int32))])) t
      refine XS.istoreN X31.here hx rfl (hb hby d5_22) rfl (l' := #[.val (.ref o0), .val (.int v29), .val (.ref r), .val (.int (3 : Int32)), .unset, .unset, .unset]) rfl ?_
      show Steps p.tables e below (T31.setTop (mkF m 23 #[.val (.ref o0), .val (.int v29), .val (.ref r), .val (.int (3 : Int32)), .unset, .unset, .unset] [])) t
      refine XS.iconst X31.here hx rfl (hb hby d5_23) ?_
      show Steps p.tables e below (T31.setTop (mkF m 24 #[.val (.ref o0), .val (.int v29), .val (.ref r), .val (.int (3 : Int32)), .unset, .unset, .unset] [(.int (0 : Int32))])) t
      refine XS.istore X31.here hx rfl (hb hby d5_24) rfl (l' := #[.val (.ref o0), .val (.int v29), .val (.ref r), .val (.int (3 : Int32)), .val (.int (0 : Int32)), .unset, .unset]) rfl ?_
      show Steps p.tables e below (T31.setTop (mkF m 26 #[.val (.ref o0), .val (.int v29), .val (.ref r), .val (.int (3 : Int32)), .val (.int (0 : Int32)), .unset, .unset] [])) t
      refine XS.iload X31.here hx rfl (hb hby d5_26) rfl ?_
      show Steps p.tables e below (T31.setTop (mkF m 28 #[.val (.ref o0), .val (.int v29), .val (.ref r), .val (.int (3 : Int32)), .val (.int (0 : Int32)), .unset, .unset] [(.int (0 : Int32))])) t
      refine XS.iloadN X31.here hx rfl (hb hby d5_28) rfl ?_
      show Steps p.tables e below (T31.setTop (mkF m 29 #[.val (.ref o0), .val (.int v29), .val (.ref r), .val (.int (3 : Int32)), .val (.int (0 : Int32)), .unset, .unset] [(.int (3 : Int32)), (.int (0 : Int32))])) t
      refine XS.icmpNo X31.here hx rfl (hb hby d5_29) rfl (by decide) ?_
      show Steps p.tables e below (T31.setTop (mkF m 32 #[.val (.ref o0), .val (.int v29), .val (.ref r), .val (.int (3 : Int32)), .val (.int (0 : Int32)), .unset, .unset] [])) t
      refine XS.aloadN X31.here hx rfl (hb hby d5_32) rfl rfl ?_
      show Steps p.tables e below (T31.setTop (mkF m 33 #[.val (.ref o0), .val (.int v29), .val (.ref r), .val (.int (3 : Int32)), .val (.int (0 : Int32)), .unset, .unset] [(.ref r)])) t
      refine XS.iload X31.here hx rfl (hb hby d5_33) rfl ?_
      show Steps p.tables e below (T31.setTop (mkF m 35 #[.val (.ref o0), .val (.int v29), .val (.ref r), .val (.int (3 : Int32)), .val (.int (0 : Int32)), .unset, .unset] [(.int (0 : Int32)), (.ref r)])) t
      refine Own.ldJ X31 hx hZ e31 A_r hj32 (g := (mkF m 35 #[.val (.ref o0), .val (.int v29), .val (.ref r), .val (.int (3 : Int32)), .val (.int (0 : Int32)), .unset, .unset] [(.int (0 : Int32)), (.ref r)])) rfl rfl (hb hby d5_35) _ ?_
      show Steps p.tables e below (T31.setTop (mkF m 36 #[.val (.ref o0), .val (.int v29), .val (.ref r), .val (.int (3 : Int32)), .val (.int (0 : Int32)), .unset, .unset] [(.long ((fun k => w (k + 1)) 0))])) t
      refine Own.nmJ hv33 ?_
      show Steps p.tables e below (T31.setTop (mkF m 36 #[.val (.ref o0), .val (.int v29), .val (.ref r), .val (.int (3 : Int32)), .val (.int (0 : Int32)), .unset, .unset] [(.long v33)])) t
      refine XS.lstore X31.here hx rfl (hb hby d5_36) rfl (l' := #[.val (.ref o0), .val (.int v29), .val (.ref r), .val (.int (3 : Int32)), .val (.int (0 : Int32)), .val (.long v33), .second]) rfl ?_
      show Steps p.tables e below (T31.setTop (mkF m 38 #[.val (.ref o0), .val (.int v29), .val (.ref r), .val (.int (3 : Int32)), .val (.int (0 : Int32)), .val (.long v33), .second] [])) t
      refine XS.iloadN X31.here hx rfl (hb hby d5_38) rfl ?_
      show Steps p.tables e below (T31.setTop (mkF m 39 #[.val (.ref o0), .val (.int v29), .val (.ref r), .val (.int (3 : Int32)), .val (.int (0 : Int32)), .val (.long v33), .second] [(.int v29)])) t
      refine XS.lload X31.here hx rfl (hb hby d5_39) rfl ?_
      show Steps p.tables e below (T31.setTop (mkF m 41 #[.val (.ref o0), .val (.int v29), .val (.ref r), .val (.int (3 : Int32)), .val (.int (0 : Int32)), .val (.long v33), .second] [(.long v33), (.int v29)])) t
      refine st34 _ ?_
      show Steps p.tables e below (T34.setTop (mkF m 44 #[.val (.ref o0), .val (.int v29), .val (.ref r), .val (.int (3 : Int32)), .val (.int (0 : Int32)), .val (.long v33), .second] [(.int (own_bc v33)), (.int v29)])) t
      refine XS.iadd X34.here hx rfl (hb hby d5_44) rfl ?_
      show Steps p.tables e below (T34.setTop (mkF m 45 #[.val (.ref o0), .val (.int v29), .val (.ref r), .val (.int (3 : Int32)), .val (.int (0 : Int32)), .val (.long v33), .second] [(.int (v29 + (own_bc v33)))])) t
      refine Own.nmI hv35 ?_
      show Steps p.tables e below (T34.setTop (mkF m 45 #[.val (.ref o0), .val (.int v29), .val (.ref r), .val (.int (3 : Int32)), .val (.int (0 : Int32)), .val (.long v33), .second] [(.int v35)])) t
      refine XS.istoreN X34.here hx rfl (hb hby d5_45) rfl (l' := #[.val (.ref o0), .val (.int v35), .val (.ref r), .val (.int (3 : Int32)), .val (.int (0 : Int32)), .val (.long v33), .second]) rfl ?_
      show Steps p.tables e below (T34.setTop (mkF m 46 #[.val (.ref o0), .val (.int v35), .val (.ref r), .val (.int (3 : Int32)), .val (.int (0 : Int32)), .val (.long v33), .second] [])) t
      refine XS.iinc X34.here hx rfl (hb hby d5_46) rfl (l' := #[.val (.ref o0), .val (.int v35), .val (.ref r), .val (.int (3 : Int32)), .val (.int ((0 : Int32) + (1 : Int32))), .val (.long v33), .second]) rfl ?_
      show Steps p.tables e below (T34.setTop (mkF m 49 #[.val (.ref o0), .val (.int v35), .val (.ref r), .val (.int (3 : Int32)), .val (.int ((0 : Int32) + (1 : Int32))), .val (.long v33), .second] [])) t
      rw [show ((0 : Int32) + (1 : Int32)) = (1 : Int32) from by decide]
      show Steps p.tables e below (T34.setTop (mkF m 49 #[.val (.ref o0), .val (.int v35), .val (.ref r), .val (.int (3 : Int32)), .val (.int (1 : Int32)), .val (.long v33), .second] [])) t
      refine XS.goto X34.here hx rfl (pc0 := 49) (pc' := 26) rfl (hb hby d5_49) (by decide) (by decide) ?_
      show Steps p.tables e below (T34.setTop (mkF m 26 #[.val (.ref o0), .val (.int v35), .val (.ref r), .val (.int (3 : Int32)), .val (.int (1 : Int32)), .val (.long v33), .second] [])) t
      refine XS.iload X34.here hx rfl (hb hby d5_26) rfl ?_
      show Steps p.tables e below (T34.setTop (mkF m 28 #[.val (.ref o0), .val (.int v35), .val (.ref r), .val (.int (3 : Int32)), .val (.int (1 : Int32)), .val (.long v33), .second] [(.int (1 : Int32))])) t
      refine XS.iloadN X34.here hx rfl (hb hby d5_28) rfl ?_
      show Steps p.tables e below (T34.setTop (mkF m 29 #[.val (.ref o0), .val (.int v35), .val (.ref r), .val (.int (3 : Int32)), .val (.int (1 : Int32)), .val (.long v33), .second] [(.int (3 : Int32)), (.int (1 : Int32))])) t
      refine XS.icmpNo X34.here hx rfl (hb hby d5_29) rfl (by decide) ?_
      show Steps p.tables e below (T34.setTop (mkF m 32 #[.val (.ref o0), .val (.int v35), .val (.ref r), .val (.int (3 : Int32)), .val (.int (1 : Int32)), .val (.long v33), .second] [])) t
      refine XS.aloadN X34.here hx rfl (hb hby d5_32) rfl rfl ?_
      show Steps p.tables e below (T34.setTop (mkF m 33 #[.val (.ref o0), .val (.int v35), .val (.ref r), .val (.int (3 : Int32)), .val (.int (1 : Int32)), .val (.long v33), .second] [(.ref r)])) t
      refine XS.iload X34.here hx rfl (hb hby d5_33) rfl ?_
      show Steps p.tables e below (T34.setTop (mkF m 35 #[.val (.ref o0), .val (.int v35), .val (.ref r), .val (.int (3 : Int32)), .val (.int (1 : Int32)), .val (.long v33), .second] [(.int (1 : Int32)), (.ref r)])) t
      refine Own.ldJ X34 hx hZ e34 A_r hj36 (g := (mkF m 35 #[.val (.ref o0), .val (.int v35), .val (.ref r), .val (.int (3 : Int32)), .val (.int (1 : Int32)), .val (.long v33), .second] [(.int (1 : Int32)), (.ref r)])) rfl rfl (hb hby d5_35) _ ?_
      show Steps p.tables e below (T34.setTop (mkF m 36 #[.val (.ref o0), .val (.int v35), .val (.ref r), .val (.int (3 : Int32)), .val (.int (1 : Int32)), .val (.long v33), .second] [(.long ((fun k => w (k + 1)) 1))])) t
      refine Own.nmJ hv37 ?_
      show Steps p.tables e below (T34.setTop (mkF m 36 #[.val (.ref o0), .val (.int v35), .val (.ref r), .val (.int (3 : Int32)), .val (.int (1 : Int32)), .val (.long v33), .second] [(.long v37)])) t
      refine XS.lstore X34.here hx rfl (hb hby d5_36) rfl (l' := #[.val (.ref o0), .val (.int v35), .val (.ref r), .val (.int (3 : Int32)), .val (.int (1 : Int32)), .val (.long v37), .second]) rfl ?_
      show Steps p.tables e below (T34.setTop (mkF m 38 #[.val (.ref o0), .val (.int v35), .val (.ref r), .val (.int (3 : Int32)), .val (.int (1 : Int32)), .val (.long v37), .second] [])) t
      refine XS.iloadN X34.here hx rfl (hb hby d5_38) rfl ?_
      show Steps p.tables e below (T34.setTop (mkF m 39 #[.val (.ref o0), .val (.int v35), .val (.ref r), .val (.int (3 : Int32)), .val (.int (1 : Int32)), .val (.long v37), .second] [(.int v35)])) t
      refine XS.lload X34.here hx rfl (hb hby d5_39) rfl ?_
      show Steps p.tables e below (T34.setTop (mkF m 41 #[.val (.ref o0), .val (.int v35), .val (.ref r), .val (.int (3 : Int32)), .val (.int (1 : Int32)), .val (.long v37), .second] [(.long v37), (.int v35)])) t
      refine st38 _ ?_
      show Steps p.tables e below (T38.setTop (mkF m 44 #[.val (.ref o0), .val (.int v35), .val (.ref r), .val (.int (3 : Int32)), .val (.int (1 : Int32)), .val (.long v37), .second] [(.int (own_bc v37)), (.int v35)])) t
      refine XS.iadd X38.here hx rfl (hb hby d5_44) rfl ?_
      show Steps p.tables e below (T38.setTop (mkF m 45 #[.val (.ref o0), .val (.int v35), .val (.ref r), .val (.int (3 : Int32)), .val (.int (1 : Int32)), .val (.long v37), .second] [(.int (v35 + (own_bc v37)))])) t
      refine Own.nmI hv39 ?_
      show Steps p.tables e below (T38.setTop (mkF m 45 #[.val (.ref o0), .val (.int v35), .val (.ref r), .val (.int (3 : Int32)), .val (.int (1 : Int32)), .val (.long v37), .second] [(.int v39)])) t
      refine XS.istoreN X38.here hx rfl (hb hby d5_45) rfl (l' := #[.val (.ref o0), .val (.int v39), .val (.ref r), .val (.int (3 : Int32)), .val (.int (1 : Int32)), .val (.long v37), .second]) rfl ?_
      show Steps p.tables e below (T38.setTop (mkF m 46 #[.val (.ref o0), .val (.int v39), .val (.ref r), .val (.int (3 : Int32)), .val (.int (1 : Int32)), .val (.long v37), .second] [])) t
      refine XS.iinc X38.here hx rfl (hb hby d5_46) rfl (l' := #[.val (.ref o0), .val (.int v39), .val (.ref r), .val (.int (3 : Int32)), .val (.int ((1 : Int32) + (1 : Int32))), .val (.long v37), .second]) rfl ?_
      show Steps p.tables e below (T38.setTop (mkF m 49 #[.val (.ref o0), .val (.int v39), .val (.ref r), .val (.int (3 : Int32)), .val (.int ((1 : Int32) + (1 : Int32))), .val (.long v37), .second] [])) t
      rw [show ((1 : Int32) + (1 : Int32)) = (2 : Int32) from by decide]
      show Steps p.tables e below (T38.setTop (mkF m 49 #[.val (.ref o0), .val (.int v39), .val (.ref r), .val (.int (3 : Int32)), .val (.int (2 : Int32)), .val (.long v37), .second] [])) t
      refine XS.goto X38.here hx rfl (pc0 := 49) (pc' := 26) rfl (hb hby d5_49) (by decide) (by decide) ?_
      show Steps p.tables e below (T38.setTop (mkF m 26 #[.val (.ref o0), .val (.int v39), .val (.ref r), .val (.int (3 : Int32)), .val (.int (2 : Int32)), .val (.long v37), .second] [])) t
      refine XS.iload X38.here hx rfl (hb hby d5_26) rfl ?_
      show Steps p.tables e below (T38.setTop (mkF m 28 #[.val (.ref o0), .val (.int v39), .val (.ref r), .val (.int (3 : Int32)), .val (.int (2 : Int32)), .val (.long v37), .second] [(.int (2 : Int32))])) t
      refine XS.iloadN X38.here hx rfl (hb hby d5_28) rfl ?_
      show Steps p.tables e below (T38.setTop (mkF m 29 #[.val (.ref o0), .val (.int v39), .val (.ref r), .val (.int (3 : Int32)), .val (.int (2 : Int32)), .val (.long v37), .second] [(.int (3 : Int32)), (.int (2 : Int32))])) t
      refine XS.icmpNo X38.here hx rfl (hb hby d5_29) rfl (by decide) ?_
      show Steps p.tables e below (T38.setTop (mkF m 32 #[.val (.ref o0), .val (.int v39), .val (.ref r), .val (.int (3 : Int32)), .val (.int (2 : Int32)), .val (.long v37), .second] [])) t
      refine XS.aloadN X38.here hx rfl (hb hby d5_32) rfl rfl ?_
      show Steps p.tables e below (T38.setTop (mkF m 33 #[.val (.ref o0), .val (.int v39), .val (.ref r), .val (.int (3 : Int32)), .val (.int (2 : Int32)), .val (.long v37), .second] [(.ref r)])) t
      refine XS.iload X38.here hx rfl (hb hby d5_33) rfl ?_
      show Steps p.tables e below (T38.setTop (mkF m 35 #[.val (.ref o0), .val (.int v39), .val (.ref r), .val (.int (3 : Int32)), .val (.int (2 : Int32)), .val (.long v37), .second] [(.int (2 : Int32)), (.ref r)])) t
      refine Own.ldJ X38 hx hZ e38 A_r hj40 (g := (mkF m 35 #[.val (.ref o0), .val (.int v39), .val (.ref r), .val (.int (3 : Int32)), .val (.int (2 : Int32)), .val (.long v37), .second] [(.int (2 : Int32)), (.ref r)])) rfl rfl (hb hby d5_35) _ ?_
      show Steps p.tables e below (T38.setTop (mkF m 36 #[.val (.ref o0), .val (.int v39), .val (.ref r), .val (.int (3 : Int32)), .val (.int (2 : Int32)), .val (.long v37), .second] [(.long ((fun k => w (k + 1)) 2))])) t
      refine Own.nmJ hv41 ?_
      show Steps p.tables e below (T38.setTop (mkF m 36 #[.val (.ref o0), .val (.int v39), .val (.ref r), .val (.int (3 : Int32)), .val (.int (2 : Int32)), .val (.long v37), .second] [(.long v41)])) t
      refine XS.lstore X38.here hx rfl (hb hby d5_36) rfl (l' := #[.val (.ref o0), .val (.int v39), .val (.ref r), .val (.int (3 : Int32)), .val (.int (2 : Int32)), .val (.long v41), .second]) rfl ?_
      show Steps p.tables e below (T38.setTop (mkF m 38 #[.val (.ref o0), .val (.int v39), .val (.ref r), .val (.int (3 : Int32)), .val (.int (2 : Int32)), .val (.long v41), .second] [])) t
      refine XS.iloadN X38.here hx rfl (hb hby d5_38) rfl ?_
      show Steps p.tables e below (T38.setTop (mkF m 39 #[.val (.ref o0), .val (.int v39), .val (.ref r), .val (.int (3 : Int32)), .val (.int (2 : Int32)), .val (.long v41), .second] [(.int v39)])) t
      refine XS.lload X38.here hx rfl (hb hby d5_39) rfl ?_
      show Steps p.tables e below (T38.setTop (mkF m 41 #[.val (.ref o0), .val (.int v39), .val (.ref r), .val (.int (3 : Int32)), .val (.int (2 : Int32)), .val (.long v41), .second] [(.long v41), (.int v39)])) t
      refine st42 _ ?_
      show Steps p.tables e below (T42.setTop (mkF m 44 #[.val (.ref o0), .val (.int v39), .val (.ref r), .val (.int (3 : Int32)), .val (.int (2 : Int32)), .val (.long v41), .second] [(.int (own_bc v41)), (.int v39)])) t
      refine XS.iadd X42.here hx rfl (hb hby d5_44) rfl ?_
      show Steps p.tables e below (T42.setTop (mkF m 45 #[.val (.ref o0), .val (.int v39), .val (.ref r), .val (.int (3 : Int32)), .val (.int (2 : Int32)), .val (.long v41), .second] [(.int (v39 + (own_bc v41)))])) t
      refine Own.nmI hv43 ?_
      show Steps p.tables e below (T42.setTop (mkF m 45 #[.val (.ref o0), .val (.int v39), .val (.ref r), .val (.int (3 : Int32)), .val (.int (2 : Int32)), .val (.long v41), .second] [(.int v43)])) t
      refine XS.istoreN X42.here hx rfl (hb hby d5_45) rfl (l' := #[.val (.ref o0), .val (.int v43), .val (.ref r), .val (.int (3 : Int32)), .val (.int (2 : Int32)), .val (.long v41), .second]) rfl ?_
      show Steps p.tables e below (T42.setTop (mkF m 46 #[.val (.ref o0), .val (.int v43), .val (.ref r), .val (.int (3 : Int32)), .val (.int (2 : Int32)), .val (.long v41), .second] [])) t
      refine XS.iinc X42.here hx rfl (hb hby d5_46) rfl (l' := #[.val (.ref o0), .val (.int v43), .val (.ref r), .val (.int (3 : Int32)), .val (.int ((2 : Int32) + (1 : Int32))), .val (.long v41), .second]) rfl ?_
      show Steps p.tables e below (T42.setTop (mkF m 49 #[.val (.ref o0), .val (.int v43), .val (.ref r), .val (.int (3 : Int32)), .val (.int ((2 : Int32) + (1 : Int32))), .val (.long v41), .second] [])) t
      rw [show ((2 : Int32) + (1 : Int32)) = (3 : Int32) from by decide]
      show Steps p.tables e below (T42.setTop (mkF m 49 #[.val (.ref o0), .val (.int v43), .val (.ref r), .val (.int (3 : Int32)), .val (.int (3 : Int32)), .val (.long v41), .second] [])) t
      refine XS.goto X42.here hx rfl (pc0 := 49) (pc' := 26) rfl (hb hby d5_49) (by decide) (by decide) ?_
      show Steps p.tables e below (T42.setTop (mkF m 26 #[.val (.ref o0), .val (.int v43), .val (.ref r), .val (.int (3 : Int32)), .val (.int (3 : Int32)), .val (.long v41), .second] [])) t
      refine XS.iload X42.here hx rfl (hb hby d5_26) rfl ?_
      show Steps p.tables e below (T42.setTop (mkF m 28 #[.val (.ref o0), .val (.int v43), .val (.ref r), .val (.int (3 : Int32)), .val (.int (3 : Int32)), .val (.long v41), .second] [(.int (3 : Int32))])) t
      refine XS.iloadN X42.here hx rfl (hb hby d5_28) rfl ?_
      show Steps p.tables e below (T42.setTop (mkF m 29 #[.val (.ref o0), .val (.int v43), .val (.ref r), .val (.int (3 : Int32)), .val (.int (3 : Int32)), .val (.long v41), .second] [(.int (3 : Int32)), (.int (3 : Int32))])) t
      refine XS.icmpYes X42.here hx rfl (pc0 := 29) (pc' := 52) rfl (hb hby d5_29) rfl (by decide) (by decide) (by decide) ?_
      show Steps p.tables e below (T42.setTop (mkF m 52 #[.val (.ref o0), .val (.int v43), .val (.ref r), .val (.int (3 : Int32)), .val (.int (3 : Int32)), .val (.long v41), .second] [])) t
      refine XS.iloadN X42.here hx rfl (hb hby d5_52) rfl ?_
      show Steps p.tables e below (T42.setTop (mkF m 53 #[.val (.ref o0), .val (.int v43), .val (.ref r), .val (.int (3 : Int32)), .val (.int (3 : Int32)), .val (.long v41), .second] [(.int v43)])) t
      exact k
    exact Own.retI hR X42 hx hret (hb hby d5_53) (by decide) (by decide) ⟨by subst hv43; subst hv41; subst hv39; subst hv37; subst hv35; subst hv33; subst hv29; rfl, N42, e42⟩
theorem pd_1 : parseMethodDescriptor "(I)V" = some ⟨[.int], none⟩ := by decide +kernel
theorem pd_2 : parseMethodDescriptor "(I)Z" = some ⟨[.int], some .boolean⟩ := by decide +kernel
theorem pd_3 : parseMethodDescriptor "()I" = some ⟨[], some .int⟩ := by decide +kernel
theorem pn_2 : plainName "com/example/sluice/sluice/FieldSetAddPinLaw" = true := by first | (simp [plainName, overriddenIn]; done) | decide +kernel
theorem ef_0 (m : MethodId) (p0 : Int32) (p1 : Int32) (p2 : Int32) (p3 : Int32) : entryFrame m #[(.int p0), (.int p1), (.int p2), (.int p3)] maxLocals = mkF m 0 #[.val (.int p0), .val (.int p1), .val (.int p2), .val (.int p3), .unset, .unset, .unset, .unset, .unset, .unset, .unset, .unset, .unset, .unset, .unset, .unset] [] := by first | (simp [entryFrame, mkF, argsToLocals, Value.category, maxLocals]; done) | rfl
def Q0 (Z : State) (p0 : Int32) (p1 : Int32) (p2 : Int32) (p3 : Int32) (h0 : Heap) (n0 : Nat) (v : Option Value) (h : Heap) (L : List Loc) : Prop := v = some (.int 1) ∧ Fr n0 L
set_option maxRecDepth 65536 in
set_option maxHeartbeats 40000000 in
theorem rm0 (l : Launch) (Z : State) (a0 : Array Value) (hw : ∀ d ∈ tables_1, d.before a0 Z = true) (ws : List Jvm.Cond) (p0 : Int32) (p1 : Int32) (p2 : Int32) (p3 : Int32) (h0 : Heap) (n0 : Nat) (Z0 : n0 ≤ h0.size) :
    MetFree l x (head1 (Jvm.Cond.code x code maxLocals ret :: ws) room_1) (fun a U => a = #[(.int p0), (.int p1), (.int p2), (.int p3)] ∧ Z.Warmed39 U.vm ∧ U.heap = h0) (fun _ _ _ _ _ => True) (fun _ U o U' => ∃ v L, o = .returned v ∧ Q0 Z p0 p1 p2 p3 h0 n0 v U'.heap L ∧ FrameEnd U o U' L room_1.cells room_1.slots) := by
  refine Own.enter (Q := Q0 Z p0 p1 p2 p3 h0 n0) (plainFor_of_name pn_2) ?_
  intro p e s m below meth c s₁ D hx hby hml hown hnm hret hZ X0 e0 hD hR
  have N0 := Fr.nil n0
  rw [show entryFrame m #[(.int p0), (.int p1), (.int p2), (.int p3)] maxLocals = mkF m 0 #[.val (.int p0), .val (.int p1), .val (.int p2), .val (.int p3), .unset, .unset, .unset, .unset, .unset, .unset, .unset, .unset, .unset, .unset, .unset, .unset] [] from ef_0 m p0 p1 p2 p3]
  obtain ⟨v1, hv1⟩ : ∃ z : Int32, z = ((1 : Int32) + (p0 &&& (255 : Int32))) := ⟨_, rfl⟩
  have hnz0 := own_nz (own_size hv1).1
  have hnz2 : v1 ≠ 0 := by assumption
  obtain ⟨v3, hv3⟩ : ∃ z : Int32, z = ((p1 &&& (2147483647 : Int32)) % v1) := ⟨_, rfl⟩
  have hnz4 : v1 ≠ 0 := by assumption
  obtain ⟨v5, hv5⟩ : ∃ z : Int32, z = ((p2 &&& (2147483647 : Int32)) % v1) := ⟨_, rfl⟩
  have hnz6 : v1 ≠ 0 := by assumption
  obtain ⟨v7, hv7⟩ : ∃ z : Int32, z = ((p3 &&& (2147483647 : Int32)) % v1) := ⟨_, rfl⟩
  obtain ⟨T8, h8, X8, e8, E8, A8, D8, -, st8⟩ := newO X0 hx hZ hown (hw _ (List.mem_of_getElem? (i := 1) rfl)) (hw _ (List.mem_of_getElem? (i := 2) rfl)) (hw _ (List.mem_of_getElem? (i := 3) rfl)) e0 (g := (mkF m 36 #[.val (.int p0), .val (.int p1), .val (.int p2), .val (.int p3), .val (.int v1), .val (.int v3), .val (.int v5), .val (.int v7), .unset, .unset, .unset, .unset, .unset, .unset, .unset, .unset] [])) rfl (hb hby at_36) (by decide) (by decide)
  obtain ⟨b8, g_b8⟩ : ∃ z : Nat, z = h0.size := ⟨_, rfl⟩
  rw [← g_b8] at A8 D8 st8
  have g0_b8 : n0 ≤ b8 := by rw [g_b8]; exact Z0
  have f9 : Fld Z h8 b8 "com/example/sluice/sluice/FieldSet" "rest" "[J" .null := D8 (Or.inr (hw _ (List.mem_of_getElem? (i := 11) rfl))) (ty := (.array .long)) (by decide)
  have f10 : Fld Z h8 b8 "com/example/sluice/sluice/FieldSet" "first" "J" (.long (0 : Int64)) := D8 (Or.inl (hw _ (List.mem_of_getElem? (i := 18) rfl))) (ty := .long) (by decide)
  have Z8 : n0 ≤ h8.size := Nat.le_trans Z0 E8.1
  obtain ⟨T11, _, L11, X11, ⟨rfl, Nq11, Kq11, r11, n11, FS11, hn11, hr11⟩, st11⟩ := Own.callI (y := (⟨"com/example/sluice/sluice/FieldSet", "<init>", "(I)V"⟩ : MethodName)) (W := 1) (argsL := [(.int v1)]) (rest := [(.ref b8)]) (a := b8) X8 hx hZ hown rfl (hw _ (List.mem_of_getElem? (i := 4) rfl)) (hw _ (List.mem_of_getElem? (i := 5) rfl)) (hw _ (List.mem_of_getElem? (i := 3) rfl)) (hw _ (List.mem_of_getElem? (i := 6) rfl)) (by decide) e8 (rm1 l Z a0 hw [] b8 v1  h8 n0 Z8 g0_b8 (own_size hv1) A8 f10 f9) (by decide) (by decide) (by decide) (by decide) (g := (mkF m 42 #[.val (.int p0), .val (.int p1), .val (.int p2), .val (.int p3), .val (.int v1), .val (.int v3), .val (.int v5), .val (.int v7), .unset, .unset, .unset, .unset, .unset, .unset, .unset, .unset] [(.int v1), (.ref b8), (.ref b8)])) rfl (by rw [hml]; rfl) (lenOf pd_1 rfl) rfl (by show 2 * 0 + _ ≤ _; exact Nat.le_of_eq rfl) (hb hby at_42)
  have N11 := Fr.app N0 Nq11
  have Z11 : n0 ≤ T11.heap.size := Nat.le_trans Z8 Kq11.1
  have g0_r11 : n0 ≤ r11 := by
    rcases hr11 with q | q
    · rw [q]; exact g0_b8
    · exact Nat.le_trans Z8 q
  obtain ⟨T12, _, L12, X12, ⟨rfl, Nq12, e12⟩, st12⟩ := Own.callV (y := (⟨"com/example/sluice/sluice/FieldSet", "contains", "(I)Z"⟩ : MethodName)) (W := 0) (argsL := [(.int v7)]) (rest := []) (a := b8) X11 hx hZ hown (hw _ (List.mem_of_getElem? (i := 12) rfl)) (hw _ (List.mem_of_getElem? (i := 13) rfl)) (hw _ (List.mem_of_getElem? (i := 15) rfl)) (hw _ (List.mem_of_getElem? (i := 14) rfl)) (hw _ (List.mem_of_getElem? (i := 3) rfl)) (hw _ (List.mem_of_getElem? (i := 16) rfl)) (by decide) rfl FS11.1 (rm3 l Z a0 hw [] b8 v7 r11 n11 (fun _ => 0) T11.heap n0 (own_in (own_rem (own_size hv1).1 hv7) hn11) FS11) (by decide) (by decide) (by decide) (by decide) (g := (mkF m 51 #[.val (.int p0), .val (.int p1), .val (.int p2), .val (.int p3), .val (.int v1), .val (.int v3), .val (.int v5), .val (.int v7), .val (.ref b8), .unset, .unset, .unset, .unset, .unset, .unset, .unset] [(.int v7), (.ref b8)])) rfl (by rw [hml]; rfl) (lenOf pd_2 rfl) rfl (by show 2 * 0 + _ ≤ _; exact Nat.le_of_eq rfl) (hb hby at_51)
  have N12 := Fr.app N11 Nq12
  refine hD _ (T12.setTop (mkF m 54 #[.val (.int p0), .val (.int p1), .val (.int p2), .val (.int p3), .val (.int v1), .val (.int v3), .val (.int v5), .val (.int v7), .val (.ref b8), .unset, .unset, .unset, .unset, .unset, .unset, .unset] [(.int (Own.b2i (own_has (fun _ => 0) v7)))])) (fun t k => ?_) ?_
  · show Steps p.tables e below (s₁.setTop (mkF m 0 #[.val (.int p0), .val (.int p1), .val (.int p2), .val (.int p3), .unset, .unset, .unset, .unset, .unset, .unset, .unset, .unset, .unset, .unset, .unset, .unset] [])) t
    refine XS.iconst X0.here hx rfl (hb hby at_0) ?_
    show Steps p.tables e below (s₁.setTop (mkF m 1 #[.val (.int p0), .val (.int p1), .val (.int p2), .val (.int p3), .unset, .unset, .unset, .unset, .unset, .unset, .unset, .unset, .unset, .unset, .unset, .unset] [(.int (1 : Int32))])) t
    refine XS.iloadN X0.here hx rfl (hb hby at_1) rfl ?_
    show Steps p.tables e below (s₁.setTop (mkF m 2 #[.val (.int p0), .val (.int p1), .val (.int p2), .val (.int p3), .unset, .unset, .unset, .unset, .unset, .unset, .unset, .unset, .unset, .unset, .unset, .unset] [(.int p0), (.int (1 : Int32))])) t
    refine XS.sipush X0.here hx rfl (hb hby at_2) ?_
    show Steps p.tables e below (s₁.setTop (mkF m 5 #[.val (.int p0), .val (.int p1), .val (.int p2), .val (.int p3), .unset, .unset, .unset, .unset, .unset, .unset, .unset, .unset, .unset, .unset, .unset, .unset] [(.int (255 : Int32)), (.int p0), (.int (1 : Int32))])) t
    refine XS.iand X0.here hx rfl (hb hby at_5) rfl ?_
    show Steps p.tables e below (s₁.setTop (mkF m 6 #[.val (.int p0), .val (.int p1), .val (.int p2), .val (.int p3), .unset, .unset, .unset, .unset, .unset, .unset, .unset, .unset, .unset, .unset, .unset, .unset] [(.int (p0 &&& (255 : Int32))), (.int (1 : Int32))])) t
    refine XS.iadd X0.here hx rfl (hb hby at_6) rfl ?_
    show Steps p.tables e below (s₁.setTop (mkF m 7 #[.val (.int p0), .val (.int p1), .val (.int p2), .val (.int p3), .unset, .unset, .unset, .unset, .unset, .unset, .unset, .unset, .unset, .unset, .unset, .unset] [(.int ((1 : Int32) + (p0 &&& (255 : Int32))))])) t
    refine Own.nmI hv1 ?_
    show Steps p.tables e below (s₁.setTop (mkF m 7 #[.val (.int p0), .val (.int p1), .val (.int p2), .val (.int p3), .unset, .unset, .unset, .unset, .unset, .unset, .unset, .unset, .unset, .unset, .unset, .unset] [(.int v1)])) t
    refine XS.istore X0.here hx rfl (hb hby at_7) rfl (l' := #[.val (.int p0), .val (.int p1), .val (.int p2), .val (.int p3), .val (.int v1), .unset, .unset, .unset, .unset, .unset, .unset, .unset, .unset, .unset, .unset, .unset]) rfl ?_
    show Steps p.tables e below (s₁.setTop (mkF m 9 #[.val (.int p0), .val (.int p1), .val (.int p2), .val (.int p3), .val (.int v1), .unset, .unset, .unset, .unset, .unset, .unset, .unset, .unset, .unset, .unset, .unset] [])) t
    refine XS.iloadN X0.here hx rfl (hb hby at_9) rfl ?_
    show Steps p.tables e below (s₁.setTop (mkF m 10 #[.val (.int p0), .val (.int p1), .val (.int p2), .val (.int p3), .val (.int v1), .unset, .unset, .unset, .unset, .unset, .unset, .unset, .unset, .unset, .unset, .unset] [(.int p1)])) t
    refine X0.ldcInt hx hown (mvT hZ (hw _ (List.mem_of_getElem? (i := 0) rfl))) (g := (mkF m 10 #[.val (.int p0), .val (.int p1), .val (.int p2), .val (.int p3), .val (.int v1), .unset, .unset, .unset, .unset, .unset, .unset, .unset, .unset, .unset, .unset, .unset] [(.int p1)])) rfl (hb hby at_10) _ ?_
    show Steps p.tables e below (s₁.setTop (mkF m 12 #[.val (.int p0), .val (.int p1), .val (.int p2), .val (.int p3), .val (.int v1), .unset, .unset, .unset, .unset, .unset, .unset, .unset, .unset, .unset, .unset, .unset] [(.int (2147483647 : Int32)), (.int p1)])) t
    refine XS.iand X0.here hx rfl (hb hby at_12) rfl ?_
    show Steps p.tables e below (s₁.setTop (mkF m 13 #[.val (.int p0), .val (.int p1), .val (.int p2), .val (.int p3), .val (.int v1), .unset, .unset, .unset, .unset, .unset, .unset, .unset, .unset, .unset, .unset, .unset] [(.int (p1 &&& (2147483647 : Int32)))])) t
    refine XS.iload X0.here hx rfl (hb hby at_13) rfl ?_
    show Steps p.tables e below (s₁.setTop (mkF m 15 #[.val (.int p0), .val (.int p1), .val (.int p2), .val (.int p3), .val (.int v1), .unset, .unset, .unset, .unset, .unset, .unset, .unset, .unset, .unset, .unset, .unset] [(.int v1), (.int (p1 &&& (2147483647 : Int32)))])) t
    refine Jvm.RoadKit.iremM (g := (mkF m 15 #[.val (.int p0), .val (.int p1), .val (.int p2), .val (.int p3), .val (.int v1), .unset, .unset, .unset, .unset, .unset, .unset, .unset, .unset, .unset, .unset, .unset] [(.int v1), (.int (p1 &&& (2147483647 : Int32)))])) X0 hx rfl (hb hby at_15) rfl hnz2 ?_
    show Steps p.tables e below (s₁.setTop (mkF m 16 #[.val (.int p0), .val (.int p1), .val (.int p2), .val (.int p3), .val (.int v1), .unset, .unset, .unset, .unset, .unset, .unset, .unset, .unset, .unset, .unset, .unset] [(.int ((p1 &&& (2147483647 : Int32)) % v1))])) t
    refine Own.nmI hv3 ?_
    show Steps p.tables e below (s₁.setTop (mkF m 16 #[.val (.int p0), .val (.int p1), .val (.int p2), .val (.int p3), .val (.int v1), .unset, .unset, .unset, .unset, .unset, .unset, .unset, .unset, .unset, .unset, .unset] [(.int v3)])) t
    refine XS.istore X0.here hx rfl (hb hby at_16) rfl (l' := #[.val (.int p0), .val (.int p1), .val (.int p2), .val (.int p3), .val (.int v1), .val (.int v3), .unset, .unset, .unset, .unset, .unset, .unset, .unset, .unset, .unset, .unset]) rfl ?_
    show Steps p.tables e below (s₁.setTop (mkF m 18 #[.val (.int p0), .val (.int p1), .val (.int p2), .val (.int p3), .val (.int v1), .val (.int v3), .unset, .unset, .unset, .unset, .unset, .unset, .unset, .unset, .unset, .unset] [])) t
    refine XS.iloadN X0.here hx rfl (hb hby at_18) rfl ?_
    show Steps p.tables e below (s₁.setTop (mkF m 19 #[.val (.int p0), .val (.int p1), .val (.int p2), .val (.int p3), .val (.int v1), .val (.int v3), .unset, .unset, .unset, .unset, .unset, .unset, .unset, .unset, .unset, .unset] [(.int p2)])) t
    refine X0.ldcInt hx hown (mvT hZ (hw _ (List.mem_of_getElem? (i := 0) rfl))) (g := (mkF m 19 #[.val (.int p0), .val (.int p1), .val (.int p2), .val (.int p3), .val (.int v1), .val (.int v3), .unset, .unset, .unset, .unset, .unset, .unset, .unset, .unset, .unset, .unset] [(.int p2)])) rfl (hb hby at_19) _ ?_
    show Steps p.tables e below (s₁.setTop (mkF m 21 #[.val (.int p0), .val (.int p1), .val (.int p2), .val (.int p3), .val (.int v1), .val (.int v3), .unset, .unset, .unset, .unset, .unset, .unset, .unset, .unset, .unset, .unset] [(.int (2147483647 : Int32)), (.int p2)])) t
    refine XS.iand X0.here hx rfl (hb hby at_21) rfl ?_
    show Steps p.tables e below (s₁.setTop (mkF m 22 #[.val (.int p0), .val (.int p1), .val (.int p2), .val (.int p3), .val (.int v1), .val (.int v3), .unset, .unset, .unset, .unset, .unset, .unset, .unset, .unset, .unset, .unset] [(.int (p2 &&& (2147483647 : Int32)))])) t
    refine XS.iload X0.here hx rfl (hb hby at_22) rfl ?_
    show Steps p.tables e below (s₁.setTop (mkF m 24 #[.val (.int p0), .val (.int p1), .val (.int p2), .val (.int p3), .val (.int v1), .val (.int v3), .unset, .unset, .unset, .unset, .unset, .unset, .unset, .unset, .unset, .unset] [(.int v1), (.int (p2 &&& (2147483647 : Int32)))])) t
    refine Jvm.RoadKit.iremM (g := (mkF m 24 #[.val (.int p0), .val (.int p1), .val (.int p2), .val (.int p3), .val (.int v1), .val (.int v3), .unset, .unset, .unset, .unset, .unset, .unset, .unset, .unset, .unset, .unset] [(.int v1), (.int (p2 &&& (2147483647 : Int32)))])) X0 hx rfl (hb hby at_24) rfl hnz4 ?_
    show Steps p.tables e below (s₁.setTop (mkF m 25 #[.val (.int p0), .val (.int p1), .val (.int p2), .val (.int p3), .val (.int v1), .val (.int v3), .unset, .unset, .unset, .unset, .unset, .unset, .unset, .unset, .unset, .unset] [(.int ((p2 &&& (2147483647 : Int32)) % v1))])) t
    refine Own.nmI hv5 ?_
    show Steps p.tables e below (s₁.setTop (mkF m 25 #[.val (.int p0), .val (.int p1), .val (.int p2), .val (.int p3), .val (.int v1), .val (.int v3), .unset, .unset, .unset, .unset, .unset, .unset, .unset, .unset, .unset, .unset] [(.int v5)])) t
    refine XS.istore X0.here hx rfl (hb hby at_25) rfl (l' := #[.val (.int p0), .val (.int p1), .val (.int p2), .val (.int p3), .val (.int v1), .val (.int v3), .val (.int v5), .unset, .unset, .unset, .unset, .unset, .unset, .unset, .unset, .unset]) rfl ?_
    show Steps p.tables e below (s₁.setTop (mkF m 27 #[.val (.int p0), .val (.int p1), .val (.int p2), .val (.int p3), .val (.int v1), .val (.int v3), .val (.int v5), .unset, .unset, .unset, .unset, .unset, .unset, .unset, .unset, .unset] [])) t
    refine XS.iloadN X0.here hx rfl (hb hby at_27) rfl ?_
    show Steps p.tables e below (s₁.setTop (mkF m 28 #[.val (.int p0), .val (.int p1), .val (.int p2), .val (.int p3), .val (.int v1), .val (.int v3), .val (.int v5), .unset, .unset, .unset, .unset, .unset, .unset, .unset, .unset, .unset] [(.int p3)])) t
    refine X0.ldcInt hx hown (mvT hZ (hw _ (List.mem_of_getElem? (i := 0) rfl))) (g := (mkF m 28 #[.val (.int p0), .val (.int p1), .val (.int p2), .val (.int p3), .val (.int v1), .val (.int v3), .val (.int v5), .unset, .unset, .unset, .unset, .unset, .unset, .unset, .unset, .unset] [(.int p3)])) rfl (hb hby at_28) _ ?_
    show Steps p.tables e below (s₁.setTop (mkF m 30 #[.val (.int p0), .val (.int p1), .val (.int p2), .val (.int p3), .val (.int v1), .val (.int v3), .val (.int v5), .unset, .unset, .unset, .unset, .unset, .unset, .unset, .unset, .unset] [(.int (2147483647 : Int32)), (.int p3)])) t
    refine XS.iand X0.here hx rfl (hb hby at_30) rfl ?_
    show Steps p.tables e below (s₁.setTop (mkF m 31 #[.val (.int p0), .val (.int p1), .val (.int p2), .val (.int p3), .val (.int v1), .val (.int v3), .val (.int v5), .unset, .unset, .unset, .unset, .unset, .unset, .unset, .unset, .unset] [(.int (p3 &&& (2147483647 : Int32)))])) t
    refine XS.iload X0.here hx rfl (hb hby at_31) rfl ?_
    show Steps p.tables e below (s₁.setTop (mkF m 33 #[.val (.int p0), .val (.int p1), .val (.int p2), .val (.int p3), .val (.int v1), .val (.int v3), .val (.int v5), .unset, .unset, .unset, .unset, .unset, .unset, .unset, .unset, .unset] [(.int v1), (.int (p3 &&& (2147483647 : Int32)))])) t
    refine Jvm.RoadKit.iremM (g := (mkF m 33 #[.val (.int p0), .val (.int p1), .val (.int p2), .val (.int p3), .val (.int v1), .val (.int v3), .val (.int v5), .unset, .unset, .unset, .unset, .unset, .unset, .unset, .unset, .unset] [(.int v1), (.int (p3 &&& (2147483647 : Int32)))])) X0 hx rfl (hb hby at_33) rfl hnz6 ?_
    show Steps p.tables e below (s₁.setTop (mkF m 34 #[.val (.int p0), .val (.int p1), .val (.int p2), .val (.int p3), .val (.int v1), .val (.int v3), .val (.int v5), .unset, .unset, .unset, .unset, .unset, .unset, .unset, .unset, .unset] [(.int ((p3 &&& (2147483647 : Int32)) % v1))])) t
    refine Own.nmI hv7 ?_
    show Steps p.tables e below (s₁.setTop (mkF m 34 #[.val (.int p0), .val (.int p1), .val (.int p2), .val (.int p3), .val (.int v1), .val (.int v3), .val (.int v5), .unset, .unset, .unset, .unset, .unset, .unset, .unset, .unset, .unset] [(.int v7)])) t
    refine XS.istore X0.here hx rfl (hb hby at_34) rfl (l' := #[.val (.int p0), .val (.int p1), .val (.int p2), .val (.int p3), .val (.int v1), .val (.int v3), .val (.int v5), .val (.int v7), .unset, .unset, .unset, .unset, .unset, .unset, .unset, .unset]) rfl ?_
    show Steps p.tables e below (s₁.setTop (mkF m 36 #[.val (.int p0), .val (.int p1), .val (.int p2), .val (.int p3), .val (.int v1), .val (.int v3), .val (.int v5), .val (.int v7), .unset, .unset, .unset, .unset, .unset, .unset, .unset, .unset] [])) t
    refine st8 _ ?_
    show Steps p.tables e below (T8.setTop (mkF m 39 #[.val (.int p0), .val (.int p1), .val (.int p2), .val (.int p3), .val (.int v1), .val (.int v3), .val (.int v5), .val (.int v7), .unset, .unset, .unset, .unset, .unset, .unset, .unset, .unset] [(.ref b8)])) t
    refine XS.dup X8.here hx rfl (hb hby at_39) rfl rfl ?_
    show Steps p.tables e below (T8.setTop (mkF m 40 #[.val (.int p0), .val (.int p1), .val (.int p2), .val (.int p3), .val (.int v1), .val (.int v3), .val (.int v5), .val (.int v7), .unset, .unset, .unset, .unset, .unset, .unset, .unset, .unset] [(.ref b8), (.ref b8)])) t
    refine XS.iload X8.here hx rfl (hb hby at_40) rfl ?_
    show Steps p.tables e below (T8.setTop (mkF m 42 #[.val (.int p0), .val (.int p1), .val (.int p2), .val (.int p3), .val (.int v1), .val (.int v3), .val (.int v5), .val (.int v7), .unset, .unset, .unset, .unset, .unset, .unset, .unset, .unset] [(.int v1), (.ref b8), (.ref b8)])) t
    refine st11 _ ?_
    show Steps p.tables e below (T11.setTop (mkF m 45 #[.val (.int p0), .val (.int p1), .val (.int p2), .val (.int p3), .val (.int v1), .val (.int v3), .val (.int v5), .val (.int v7), .unset, .unset, .unset, .unset, .unset, .unset, .unset, .unset] [(.ref b8)])) t
    refine XS.astore X11.here hx rfl (hb hby at_45) rfl rfl (l' := #[.val (.int p0), .val (.int p1), .val (.int p2), .val (.int p3), .val (.int v1), .val (.int v3), .val (.int v5), .val (.int v7), .val (.ref b8), .unset, .unset, .unset, .unset, .unset, .unset, .unset]) rfl ?_
    show Steps p.tables e below (T11.setTop (mkF m 47 #[.val (.int p0), .val (.int p1), .val (.int p2), .val (.int p3), .val (.int v1), .val (.int v3), .val (.int v5), .val (.int v7), .val (.ref b8), .unset, .unset, .unset, .unset, .unset, .unset, .unset] [])) t
    refine XS.aload X11.here hx rfl (hb hby at_47) rfl rfl ?_
    show Steps p.tables e below (T11.setTop (mkF m 49 #[.val (.int p0), .val (.int p1), .val (.int p2), .val (.int p3), .val (.int v1), .val (.int v3), .val (.int v5), .val (.int v7), .val (.ref b8), .unset, .unset, .unset, .unset, .unset, .unset, .unset] [(.ref b8)])) t
    refine XS.iload X11.here hx rfl (hb hby at_49) rfl ?_
    show Steps p.tables e below (T11.setTop (mkF m 51 #[.val (.int p0), .val (.int p1), .val (.int p2), .val (.int p3), .val (.int v1), .val (.int v3), .val (.int v5), .val (.int v7), .val (.ref b8), .unset, .unset, .unset, .unset, .unset, .unset, .unset] [(.int v7), (.ref b8)])) t
    refine st12 _ ?_
    show Steps p.tables e below (T12.setTop (mkF m 54 #[.val (.int p0), .val (.int p1), .val (.int p2), .val (.int p3), .val (.int v1), .val (.int v3), .val (.int v5), .val (.int v7), .val (.ref b8), .unset, .unset, .unset, .unset, .unset, .unset, .unset] [(.int (Own.b2i (own_has (fun _ => 0) v7)))])) t
    exact k
  have hc13 : ¬ ((own_has (fun _ => 0) v7) = true) := by rw [own_has0]; decide
  obtain ⟨T14, _, L14, X14, ⟨rfl, Nq14, Kq14, FS14⟩, st14⟩ := Own.callV (y := (⟨"com/example/sluice/sluice/FieldSet", "add", "(I)V"⟩ : MethodName)) (W := 0) (argsL := [(.int v3)]) (rest := []) (a := b8) X12 hx hZ hown (hw _ (List.mem_of_getElem? (i := 19) rfl)) (hw _ (List.mem_of_getElem? (i := 20) rfl)) (hw _ (List.mem_of_getElem? (i := 22) rfl)) (hw _ (List.mem_of_getElem? (i := 21) rfl)) (hw _ (List.mem_of_getElem? (i := 3) rfl)) (hw _ (List.mem_of_getElem? (i := 23) rfl)) (by decide) e12 FS11.1 (rm2 l Z a0 hw [] b8 v3 r11 n11 (fun _ => 0) T11.heap n0 Z11 g0_b8 g0_r11 (own_in (own_rem (own_size hv1).1 hv3) hn11) FS11) (by decide) (by decide) (by decide) (by decide) (g := (mkF m 68 #[.val (.int p0), .val (.int p1), .val (.int p2), .val (.int p3), .val (.int v1), .val (.int v3), .val (.int v5), .val (.int v7), .val (.ref b8), .val (.int (1 : Int32)), .unset, .unset, .unset, .unset, .unset, .unset] [(.int v3), (.ref b8)])) rfl (by rw [hml]; rfl) (lenOf pd_1 rfl) rfl (by show 2 * 0 + _ ≤ _; exact Nat.le_of_eq rfl) (hb hby at_68)
  have N14 := Fr.app N12 Nq14
  have Z14 : n0 ≤ T14.heap.size := Nat.le_trans Z11 Kq14.1
  obtain ⟨T15, _, L15, X15, ⟨rfl, Nq15, e15⟩, st15⟩ := Own.callV (y := (⟨"com/example/sluice/sluice/FieldSet", "contains", "(I)Z"⟩ : MethodName)) (W := 0) (argsL := [(.int v7)]) (rest := []) (a := b8) X14 hx hZ hown (hw _ (List.mem_of_getElem? (i := 12) rfl)) (hw _ (List.mem_of_getElem? (i := 13) rfl)) (hw _ (List.mem_of_getElem? (i := 15) rfl)) (hw _ (List.mem_of_getElem? (i := 14) rfl)) (hw _ (List.mem_of_getElem? (i := 3) rfl)) (hw _ (List.mem_of_getElem? (i := 16) rfl)) (by decide) rfl FS14.1 (rm3 l Z a0 hw [] b8 v7 r11 n11 (own_add (fun _ => 0) v3) T14.heap n0 (own_in (own_rem (own_size hv1).1 hv7) hn11) FS14) (by decide) (by decide) (by decide) (by decide) (g := (mkF m 75 #[.val (.int p0), .val (.int p1), .val (.int p2), .val (.int p3), .val (.int v1), .val (.int v3), .val (.int v5), .val (.int v7), .val (.ref b8), .val (.int (1 : Int32)), .unset, .unset, .unset, .unset, .unset, .unset] [(.int v7), (.ref b8)])) rfl (by rw [hml]; rfl) (lenOf pd_2 rfl) rfl (by show 2 * 0 + _ ≤ _; exact Nat.le_of_eq rfl) (hb hby at_75)
  have N15 := Fr.app N14 Nq15
  refine hD _ (T15.setTop (mkF m 82 #[.val (.int p0), .val (.int p1), .val (.int p2), .val (.int p3), .val (.int v1), .val (.int v3), .val (.int v5), .val (.int v7), .val (.ref b8), .val (.int (1 : Int32)), .unset, .unset, .unset, .unset, .unset, .unset] [(.int v3), (.int v7), (.int (Own.b2i (own_has (own_add (fun _ => 0) v3) v7)))])) (fun t k => ?_) ?_
  · show Steps p.tables e below (T12.setTop (mkF m 54 #[.val (.int p0), .val (.int p1), .val (.int p2), .val (.int p3), .val (.int v1), .val (.int v3), .val (.int v5), .val (.int v7), .val (.ref b8), .unset, .unset, .unset, .unset, .unset, .unset, .unset] [(.int (Own.b2i (own_has (fun _ => 0) v7)))])) t
    refine XS.ifNo X12.here hx rfl (hb hby at_54) rfl ((if0 _ _).trans (teq (Own.b2i_eq0.mpr hc13)).2) ?_
    show Steps p.tables e below (T12.setTop (mkF m 57 #[.val (.int p0), .val (.int p1), .val (.int p2), .val (.int p3), .val (.int v1), .val (.int v3), .val (.int v5), .val (.int v7), .val (.ref b8), .unset, .unset, .unset, .unset, .unset, .unset, .unset] [])) t
    refine XS.iconst X12.here hx rfl (hb hby at_57) ?_
    show Steps p.tables e below (T12.setTop (mkF m 58 #[.val (.int p0), .val (.int p1), .val (.int p2), .val (.int p3), .val (.int v1), .val (.int v3), .val (.int v5), .val (.int v7), .val (.ref b8), .unset, .unset, .unset, .unset, .unset, .unset, .unset] [(.int (1 : Int32))])) t
    refine XS.goto X12.here hx rfl (pc0 := 58) (pc' := 62) rfl (hb hby at_58) (by decide) (by decide) ?_
    show Steps p.tables e below (T12.setTop (mkF m 62 #[.val (.int p0), .val (.int p1), .val (.int p2), .val (.int p3), .val (.int v1), .val (.int v3), .val (.int v5), .val (.int v7), .val (.ref b8), .unset, .unset, .unset, .unset, .unset, .unset, .unset] [(.int (1 : Int32))])) t
    refine XS.istore X12.here hx rfl (hb hby at_62) rfl (l' := #[.val (.int p0), .val (.int p1), .val (.int p2), .val (.int p3), .val (.int v1), .val (.int v3), .val (.int v5), .val (.int v7), .val (.ref b8), .val (.int (1 : Int32)), .unset, .unset, .unset, .unset, .unset, .unset]) rfl ?_
    show Steps p.tables e below (T12.setTop (mkF m 64 #[.val (.int p0), .val (.int p1), .val (.int p2), .val (.int p3), .val (.int v1), .val (.int v3), .val (.int v5), .val (.int v7), .val (.ref b8), .val (.int (1 : Int32)), .unset, .unset, .unset, .unset, .unset, .unset] [])) t
    refine XS.aload X12.here hx rfl (hb hby at_64) rfl rfl ?_
    show Steps p.tables e below (T12.setTop (mkF m 66 #[.val (.int p0), .val (.int p1), .val (.int p2), .val (.int p3), .val (.int v1), .val (.int v3), .val (.int v5), .val (.int v7), .val (.ref b8), .val (.int (1 : Int32)), .unset, .unset, .unset, .unset, .unset, .unset] [(.ref b8)])) t
    refine XS.iload X12.here hx rfl (hb hby at_66) rfl ?_
    show Steps p.tables e below (T12.setTop (mkF m 68 #[.val (.int p0), .val (.int p1), .val (.int p2), .val (.int p3), .val (.int v1), .val (.int v3), .val (.int v5), .val (.int v7), .val (.ref b8), .val (.int (1 : Int32)), .unset, .unset, .unset, .unset, .unset, .unset] [(.int v3), (.ref b8)])) t
    refine st14 _ ?_
    show Steps p.tables e below (T14.setTop (mkF m 71 #[.val (.int p0), .val (.int p1), .val (.int p2), .val (.int p3), .val (.int v1), .val (.int v3), .val (.int v5), .val (.int v7), .val (.ref b8), .val (.int (1 : Int32)), .unset, .unset, .unset, .unset, .unset, .unset] [])) t
    refine XS.aload X14.here hx rfl (hb hby at_71) rfl rfl ?_
    show Steps p.tables e below (T14.setTop (mkF m 73 #[.val (.int p0), .val (.int p1), .val (.int p2), .val (.int p3), .val (.int v1), .val (.int v3), .val (.int v5), .val (.int v7), .val (.ref b8), .val (.int (1 : Int32)), .unset, .unset, .unset, .unset, .unset, .unset] [(.ref b8)])) t
    refine XS.iload X14.here hx rfl (hb hby at_73) rfl ?_
    show Steps p.tables e below (T14.setTop (mkF m 75 #[.val (.int p0), .val (.int p1), .val (.int p2), .val (.int p3), .val (.int v1), .val (.int v3), .val (.int v5), .val (.int v7), .val (.ref b8), .val (.int (1 : Int32)), .unset, .unset, .unset, .unset, .unset, .unset] [(.int v7), (.ref b8)])) t
    refine st15 _ ?_
    show Steps p.tables e below (T15.setTop (mkF m 78 #[.val (.int p0), .val (.int p1), .val (.int p2), .val (.int p3), .val (.int v1), .val (.int v3), .val (.int v5), .val (.int v7), .val (.ref b8), .val (.int (1 : Int32)), .unset, .unset, .unset, .unset, .unset, .unset] [(.int (Own.b2i (own_has (own_add (fun _ => 0) v3) v7)))])) t
    refine XS.iload X15.here hx rfl (hb hby at_78) rfl ?_
    show Steps p.tables e below (T15.setTop (mkF m 80 #[.val (.int p0), .val (.int p1), .val (.int p2), .val (.int p3), .val (.int v1), .val (.int v3), .val (.int v5), .val (.int v7), .val (.ref b8), .val (.int (1 : Int32)), .unset, .unset, .unset, .unset, .unset, .unset] [(.int v7), (.int (Own.b2i (own_has (own_add (fun _ => 0) v3) v7)))])) t
    refine XS.iload X15.here hx rfl (hb hby at_80) rfl ?_
    show Steps p.tables e below (T15.setTop (mkF m 82 #[.val (.int p0), .val (.int p1), .val (.int p2), .val (.int p3), .val (.int v1), .val (.int v3), .val (.int v5), .val (.int v7), .val (.ref b8), .val (.int (1 : Int32)), .unset, .unset, .unset, .unset, .unset, .unset] [(.int v3), (.int v7), (.int (Own.b2i (own_has (own_add (fun _ => 0) v3) v7)))])) t
    exact k
  by_cases hc16 : v7 = v3
  · refine hD _ (T15.setTop (mkF m 90 #[.val (.int p0), .val (.int p1), .val (.int p2), .val (.int p3), .val (.int v1), .val (.int v3), .val (.int v5), .val (.int v7), .val (.ref b8), .val (.int (1 : Int32)), .unset, .unset, .unset, .unset, .unset, .unset] [(.int (1 : Int32)), (.int (Own.b2i (own_has (own_add (fun _ => 0) v3) v7)))])) (fun t k => ?_) ?_
    · show Steps p.tables e below (T15.setTop (mkF m 82 #[.val (.int p0), .val (.int p1), .val (.int p2), .val (.int p3), .val (.int v1), .val (.int v3), .val (.int v5), .val (.int v7), .val (.ref b8), .val (.int (1 : Int32)), .unset, .unset, .unset, .unset, .unset, .unset] [(.int v3), (.int v7), (.int (Own.b2i (own_has (own_add (fun _ => 0) v3) v7)))])) t
      refine XS.icmpNo X15.here hx rfl (hb hby at_82) rfl (teq hc16).2 ?_
      show Steps p.tables e below (T15.setTop (mkF m 85 #[.val (.int p0), .val (.int p1), .val (.int p2), .val (.int p3), .val (.int v1), .val (.int v3), .val (.int v5), .val (.int v7), .val (.ref b8), .val (.int (1 : Int32)), .unset, .unset, .unset, .unset, .unset, .unset] [(.int (Own.b2i (own_has (own_add (fun _ => 0) v3) v7)))])) t
      refine XS.iconst X15.here hx rfl (hb hby at_85) ?_
      show Steps p.tables e below (T15.setTop (mkF m 86 #[.val (.int p0), .val (.int p1), .val (.int p2), .val (.int p3), .val (.int v1), .val (.int v3), .val (.int v5), .val (.int v7), .val (.ref b8), .val (.int (1 : Int32)), .unset, .unset, .unset, .unset, .unset, .unset] [(.int (1 : Int32)), (.int (Own.b2i (own_has (own_add (fun _ => 0) v3) v7)))])) t
      refine XS.goto X15.here hx rfl (pc0 := 86) (pc' := 90) rfl (hb hby at_86) (by decide) (by decide) ?_
      show Steps p.tables e below (T15.setTop (mkF m 90 #[.val (.int p0), .val (.int p1), .val (.int p2), .val (.int p3), .val (.int v1), .val (.int v3), .val (.int v5), .val (.int v7), .val (.ref b8), .val (.int (1 : Int32)), .unset, .unset, .unset, .unset, .unset, .unset] [(.int (1 : Int32)), (.int (Own.b2i (own_has (own_add (fun _ => 0) v3) v7)))])) t
      exact k
    have hc17 : (Own.b2i (own_has (own_add (fun _ => 0) v3) v7)) = (1 : Int32) := by rw [own_h1 (own_rem (own_size hv1).1 hv3).1 (own_rem (own_size hv1).1 hv7).1]; simp [Own.b2i, hc16]
    obtain ⟨T18, _, L18, X18, ⟨rfl, Nq18, e18⟩, st18⟩ := Own.callV (y := (⟨"com/example/sluice/sluice/FieldSet", "size", "()I"⟩ : MethodName)) (W := 0) (argsL := []) (rest := []) (a := b8) X15 hx hZ hown (hw _ (List.mem_of_getElem? (i := 24) rfl)) (hw _ (List.mem_of_getElem? (i := 25) rfl)) (hw _ (List.mem_of_getElem? (i := 27) rfl)) (hw _ (List.mem_of_getElem? (i := 26) rfl)) (hw _ (List.mem_of_getElem? (i := 3) rfl)) (hw _ (List.mem_of_getElem? (i := 28) rfl)) (by decide) e15 FS14.1 (rm5 l Z a0 hw [] b8 r11 n11 (own_add (fun _ => 0) v3) T14.heap n0 FS14) (by decide) (by decide) (by decide) (by decide) (g := (mkF m 102 #[.val (.int p0), .val (.int p1), .val (.int p2), .val (.int p3), .val (.int v1), .val (.int v3), .val (.int v5), .val (.int v7), .val (.ref b8), .val (.int (1 : Int32)), .val (.int (1 : Int32)), .unset, .unset, .unset, .unset, .unset] [(.ref b8)])) rfl (by rw [hml]; rfl) (lenOf pd_3 rfl) rfl (by show 2 * 0 + _ ≤ _; exact Nat.le_of_eq rfl) (hb hby at_102)
    have N18 := Fr.app N15 Nq18
    refine hD _ (T18.setTop (mkF m 106 #[.val (.int p0), .val (.int p1), .val (.int p2), .val (.int p3), .val (.int v1), .val (.int v3), .val (.int v5), .val (.int v7), .val (.ref b8), .val (.int (1 : Int32)), .val (.int (1 : Int32)), .unset, .unset, .unset, .unset, .unset] [(.int (1 : Int32)), (.int (own_sz n11 (own_add (fun _ => 0) v3)))])) (fun t k => ?_) ?_
    · show Steps p.tables e below (T15.setTop (mkF m 90 #[.val (.int p0), .val (.int p1), .val (.int p2), .val (.int p3), .val (.int v1), .val (.int v3), .val (.int v5), .val (.int v7), .val (.ref b8), .val (.int (1 : Int32)), .unset, .unset, .unset, .unset, .unset, .unset] [(.int (1 : Int32)), (.int (Own.b2i (own_has (own_add (fun _ => 0) v3) v7)))])) t
      refine XS.icmpNo X15.here hx rfl (hb hby at_90) rfl (teq hc17).2 ?_
      show Steps p.tables e below (T15.setTop (mkF m 93 #[.val (.int p0), .val (.int p1), .val (.int p2), .val (.int p3), .val (.int v1), .val (.int v3), .val (.int v5), .val (.int v7), .val (.ref b8), .val (.int (1 : Int32)), .unset, .unset, .unset, .unset, .unset, .unset] [])) t
      refine XS.iconst X15.here hx rfl (hb hby at_93) ?_
      show Steps p.tables e below (T15.setTop (mkF m 94 #[.val (.int p0), .val (.int p1), .val (.int p2), .val (.int p3), .val (.int v1), .val (.int v3), .val (.int v5), .val (.int v7), .val (.ref b8), .val (.int (1 : Int32)), .unset, .unset, .unset, .unset, .unset, .unset] [(.int (1 : Int32))])) t
      refine XS.goto X15.here hx rfl (pc0 := 94) (pc' := 98) rfl (hb hby at_94) (by decide) (by decide) ?_
      show Steps p.tables e below (T15.setTop (mkF m 98 #[.val (.int p0), .val (.int p1), .val (.int p2), .val (.int p3), .val (.int v1), .val (.int v3), .val (.int v5), .val (.int v7), .val (.ref b8), .val (.int (1 : Int32)), .unset, .unset, .unset, .unset, .unset, .unset] [(.int (1 : Int32))])) t
      refine XS.istore X15.here hx rfl (hb hby at_98) rfl (l' := #[.val (.int p0), .val (.int p1), .val (.int p2), .val (.int p3), .val (.int v1), .val (.int v3), .val (.int v5), .val (.int v7), .val (.ref b8), .val (.int (1 : Int32)), .val (.int (1 : Int32)), .unset, .unset, .unset, .unset, .unset]) rfl ?_
      show Steps p.tables e below (T15.setTop (mkF m 100 #[.val (.int p0), .val (.int p1), .val (.int p2), .val (.int p3), .val (.int v1), .val (.int v3), .val (.int v5), .val (.int v7), .val (.ref b8), .val (.int (1 : Int32)), .val (.int (1 : Int32)), .unset, .unset, .unset, .unset, .unset] [])) t
      refine XS.aload X15.here hx rfl (hb hby at_100) rfl rfl ?_
      show Steps p.tables e below (T15.setTop (mkF m 102 #[.val (.int p0), .val (.int p1), .val (.int p2), .val (.int p3), .val (.int v1), .val (.int v3), .val (.int v5), .val (.int v7), .val (.ref b8), .val (.int (1 : Int32)), .val (.int (1 : Int32)), .unset, .unset, .unset, .unset, .unset] [(.ref b8)])) t
      refine st18 _ ?_
      show Steps p.tables e below (T18.setTop (mkF m 105 #[.val (.int p0), .val (.int p1), .val (.int p2), .val (.int p3), .val (.int v1), .val (.int v3), .val (.int v5), .val (.int v7), .val (.ref b8), .val (.int (1 : Int32)), .val (.int (1 : Int32)), .unset, .unset, .unset, .unset, .unset] [(.int (own_sz n11 (own_add (fun _ => 0) v3)))])) t
      refine XS.iconst X18.here hx rfl (hb hby at_105) ?_
      show Steps p.tables e below (T18.setTop (mkF m 106 #[.val (.int p0), .val (.int p1), .val (.int p2), .val (.int p3), .val (.int v1), .val (.int v3), .val (.int v5), .val (.int v7), .val (.ref b8), .val (.int (1 : Int32)), .val (.int (1 : Int32)), .unset, .unset, .unset, .unset, .unset] [(.int (1 : Int32)), (.int (own_sz n11 (own_add (fun _ => 0) v3)))])) t
      exact k
    have hc19 : (own_sz n11 (own_add (fun _ => 0) v3)) = (1 : Int32) := own_szS (own_in (own_rem (own_size hv1).1 hv3) hn11)
    obtain ⟨T20, _, L20, X20, ⟨rfl, Nq20, Kq20, FS20⟩, st20⟩ := Own.callV (y := (⟨"com/example/sluice/sluice/FieldSet", "add", "(I)V"⟩ : MethodName)) (W := 0) (argsL := [(.int v5)]) (rest := []) (a := b8) X18 hx hZ hown (hw _ (List.mem_of_getElem? (i := 19) rfl)) (hw _ (List.mem_of_getElem? (i := 20) rfl)) (hw _ (List.mem_of_getElem? (i := 22) rfl)) (hw _ (List.mem_of_getElem? (i := 21) rfl)) (hw _ (List.mem_of_getElem? (i := 3) rfl)) (hw _ (List.mem_of_getElem? (i := 23) rfl)) (by decide) e18 FS14.1 (rm2 l Z a0 hw [] b8 v5 r11 n11 (own_add (fun _ => 0) v3) T14.heap n0 Z14 g0_b8 g0_r11 (own_in (own_rem (own_size hv1).1 hv5) hn11) FS14) (by decide) (by decide) (by decide) (by decide) (g := (mkF m 120 #[.val (.int p0), .val (.int p1), .val (.int p2), .val (.int p3), .val (.int v1), .val (.int v3), .val (.int v5), .val (.int v7), .val (.ref b8), .val (.int (1 : Int32)), .val (.int (1 : Int32)), .val (.int (1 : Int32)), .unset, .unset, .unset, .unset] [(.int v5), (.ref b8)])) rfl (by rw [hml]; rfl) (lenOf pd_1 rfl) rfl (by show 2 * 0 + _ ≤ _; exact Nat.le_of_eq rfl) (hb hby at_120)
    have N20 := Fr.app N18 Nq20
    have Z20 : n0 ≤ T20.heap.size := Nat.le_trans Z14 Kq20.1
    obtain ⟨T21, _, L21, X21, ⟨rfl, Nq21, e21⟩, st21⟩ := Own.callV (y := (⟨"com/example/sluice/sluice/FieldSet", "contains", "(I)Z"⟩ : MethodName)) (W := 0) (argsL := [(.int v3)]) (rest := []) (a := b8) X20 hx hZ hown (hw _ (List.mem_of_getElem? (i := 12) rfl)) (hw _ (List.mem_of_getElem? (i := 13) rfl)) (hw _ (List.mem_of_getElem? (i := 15) rfl)) (hw _ (List.mem_of_getElem? (i := 14) rfl)) (hw _ (List.mem_of_getElem? (i := 3) rfl)) (hw _ (List.mem_of_getElem? (i := 16) rfl)) (by decide) rfl FS20.1 (rm3 l Z a0 hw [] b8 v3 r11 n11 (own_add (own_add (fun _ => 0) v3) v5) T20.heap n0 (own_in (own_rem (own_size hv1).1 hv3) hn11) FS20) (by decide) (by decide) (by decide) (by decide) (g := (mkF m 127 #[.val (.int p0), .val (.int p1), .val (.int p2), .val (.int p3), .val (.int v1), .val (.int v3), .val (.int v5), .val (.int v7), .val (.ref b8), .val (.int (1 : Int32)), .val (.int (1 : Int32)), .val (.int (1 : Int32)), .unset, .unset, .unset, .unset] [(.int v3), (.ref b8)])) rfl (by rw [hml]; rfl) (lenOf pd_2 rfl) rfl (by show 2 * 0 + _ ≤ _; exact Nat.le_of_eq rfl) (hb hby at_127)
    have N21 := Fr.app N20 Nq21
    obtain ⟨T22, _, L22, X22, ⟨rfl, Nq22, e22⟩, st22⟩ := Own.callV (y := (⟨"com/example/sluice/sluice/FieldSet", "contains", "(I)Z"⟩ : MethodName)) (W := 0) (argsL := [(.int v5)]) (rest := []) (a := b8) X21 hx hZ hown (hw _ (List.mem_of_getElem? (i := 12) rfl)) (hw _ (List.mem_of_getElem? (i := 13) rfl)) (hw _ (List.mem_of_getElem? (i := 15) rfl)) (hw _ (List.mem_of_getElem? (i := 14) rfl)) (hw _ (List.mem_of_getElem? (i := 3) rfl)) (hw _ (List.mem_of_getElem? (i := 16) rfl)) (by decide) e21 FS20.1 (rm3 l Z a0 hw [] b8 v5 r11 n11 (own_add (own_add (fun _ => 0) v3) v5) T20.heap n0 (own_in (own_rem (own_size hv1).1 hv5) hn11) FS20) (by decide) (by decide) (by decide) (by decide) (g := (mkF m 136 #[.val (.int p0), .val (.int p1), .val (.int p2), .val (.int p3), .val (.int v1), .val (.int v3), .val (.int v5), .val (.int v7), .val (.ref b8), .val (.int (1 : Int32)), .val (.int (1 : Int32)), .val (.int (1 : Int32)), .val (.int (Own.b2i (own_has (own_add (own_add (fun _ => 0) v3) v5) v3))), .unset, .unset, .unset] [(.int v5), (.ref b8)])) rfl (by rw [hml]; rfl) (lenOf pd_2 rfl) rfl (by show 2 * 0 + _ ≤ _; exact Nat.le_of_eq rfl) (hb hby at_136)
    have N22 := Fr.app N21 Nq22
    obtain ⟨T23, _, L23, X23, ⟨rfl, Nq23, e23⟩, st23⟩ := Own.callV (y := (⟨"com/example/sluice/sluice/FieldSet", "contains", "(I)Z"⟩ : MethodName)) (W := 0) (argsL := [(.int v7)]) (rest := []) (a := b8) X22 hx hZ hown (hw _ (List.mem_of_getElem? (i := 12) rfl)) (hw _ (List.mem_of_getElem? (i := 13) rfl)) (hw _ (List.mem_of_getElem? (i := 15) rfl)) (hw _ (List.mem_of_getElem? (i := 14) rfl)) (hw _ (List.mem_of_getElem? (i := 3) rfl)) (hw _ (List.mem_of_getElem? (i := 16) rfl)) (by decide) e22 FS20.1 (rm3 l Z a0 hw [] b8 v7 r11 n11 (own_add (own_add (fun _ => 0) v3) v5) T20.heap n0 (own_in (own_rem (own_size hv1).1 hv7) hn11) FS20) (by decide) (by decide) (by decide) (by decide) (g := (mkF m 145 #[.val (.int p0), .val (.int p1), .val (.int p2), .val (.int p3), .val (.int v1), .val (.int v3), .val (.int v5), .val (.int v7), .val (.ref b8), .val (.int (1 : Int32)), .val (.int (1 : Int32)), .val (.int (1 : Int32)), .val (.int (Own.b2i (own_has (own_add (own_add (fun _ => 0) v3) v5) v3))), .val (.int (Own.b2i (own_has (own_add (own_add (fun _ => 0) v3) v5) v5))), .unset, .unset] [(.int v7), (.ref b8)])) rfl (by rw [hml]; rfl) (lenOf pd_2 rfl) rfl (by show 2 * 0 + _ ≤ _; exact Nat.le_of_eq rfl) (hb hby at_145)
    have N23 := Fr.app N22 Nq23
    refine hD _ (T23.setTop (mkF m 152 #[.val (.int p0), .val (.int p1), .val (.int p2), .val (.int p3), .val (.int v1), .val (.int v3), .val (.int v5), .val (.int v7), .val (.ref b8), .val (.int (1 : Int32)), .val (.int (1 : Int32)), .val (.int (1 : Int32)), .val (.int (Own.b2i (own_has (own_add (own_add (fun _ => 0) v3) v5) v3))), .val (.int (Own.b2i (own_has (own_add (own_add (fun _ => 0) v3) v5) v5))), .unset, .unset] [(.int v3), (.int v7), (.int (Own.b2i (own_has (own_add (own_add (fun _ => 0) v3) v5) v7)))])) (fun t k => ?_) ?_
    · show Steps p.tables e below (T18.setTop (mkF m 106 #[.val (.int p0), .val (.int p1), .val (.int p2), .val (.int p3), .val (.int v1), .val (.int v3), .val (.int v5), .val (.int v7), .val (.ref b8), .val (.int (1 : Int32)), .val (.int (1 : Int32)), .unset, .unset, .unset, .unset, .unset] [(.int (1 : Int32)), (.int (own_sz n11 (own_add (fun _ => 0) v3)))])) t
      refine XS.icmpNo X18.here hx rfl (hb hby at_106) rfl (teq hc19).2 ?_
      show Steps p.tables e below (T18.setTop (mkF m 109 #[.val (.int p0), .val (.int p1), .val (.int p2), .val (.int p3), .val (.int v1), .val (.int v3), .val (.int v5), .val (.int v7), .val (.ref b8), .val (.int (1 : Int32)), .val (.int (1 : Int32)), .unset, .unset, .unset, .unset, .unset] [])) t
      refine XS.iconst X18.here hx rfl (hb hby at_109) ?_
      show Steps p.tables e below (T18.setTop (mkF m 110 #[.val (.int p0), .val (.int p1), .val (.int p2), .val (.int p3), .val (.int v1), .val (.int v3), .val (.int v5), .val (.int v7), .val (.ref b8), .val (.int (1 : Int32)), .val (.int (1 : Int32)), .unset, .unset, .unset, .unset, .unset] [(.int (1 : Int32))])) t
      refine XS.goto X18.here hx rfl (pc0 := 110) (pc' := 114) rfl (hb hby at_110) (by decide) (by decide) ?_
      show Steps p.tables e below (T18.setTop (mkF m 114 #[.val (.int p0), .val (.int p1), .val (.int p2), .val (.int p3), .val (.int v1), .val (.int v3), .val (.int v5), .val (.int v7), .val (.ref b8), .val (.int (1 : Int32)), .val (.int (1 : Int32)), .unset, .unset, .unset, .unset, .unset] [(.int (1 : Int32))])) t
      refine XS.istore X18.here hx rfl (hb hby at_114) rfl (l' := #[.val (.int p0), .val (.int p1), .val (.int p2), .val (.int p3), .val (.int v1), .val (.int v3), .val (.int v5), .val (.int v7), .val (.ref b8), .val (.int (1 : Int32)), .val (.int (1 : Int32)), .val (.int (1 : Int32)), .unset, .unset, .unset, .unset]) rfl ?_
      show Steps p.tables e below (T18.setTop (mkF m 116 #[.val (.int p0), .val (.int p1), .val (.int p2), .val (.int p3), .val (.int v1), .val (.int v3), .val (.int v5), .val (.int v7), .val (.ref b8), .val (.int (1 : Int32)), .val (.int (1 : Int32)), .val (.int (1 : Int32)), .unset, .unset, .unset, .unset] [])) t
      refine XS.aload X18.here hx rfl (hb hby at_116) rfl rfl ?_
      show Steps p.tables e below (T18.setTop (mkF m 118 #[.val (.int p0), .val (.int p1), .val (.int p2), .val (.int p3), .val (.int v1), .val (.int v3), .val (.int v5), .val (.int v7), .val (.ref b8), .val (.int (1 : Int32)), .val (.int (1 : Int32)), .val (.int (1 : Int32)), .unset, .unset, .unset, .unset] [(.ref b8)])) t
      refine XS.iload X18.here hx rfl (hb hby at_118) rfl ?_
      show Steps p.tables e below (T18.setTop (mkF m 120 #[.val (.int p0), .val (.int p1), .val (.int p2), .val (.int p3), .val (.int v1), .val (.int v3), .val (.int v5), .val (.int v7), .val (.ref b8), .val (.int (1 : Int32)), .val (.int (1 : Int32)), .val (.int (1 : Int32)), .unset, .unset, .unset, .unset] [(.int v5), (.ref b8)])) t
      refine st20 _ ?_
      show Steps p.tables e below (T20.setTop (mkF m 123 #[.val (.int p0), .val (.int p1), .val (.int p2), .val (.int p3), .val (.int v1), .val (.int v3), .val (.int v5), .val (.int v7), .val (.ref b8), .val (.int (1 : Int32)), .val (.int (1 : Int32)), .val (.int (1 : Int32)), .unset, .unset, .unset, .unset] [])) t
      refine XS.aload X20.here hx rfl (hb hby at_123) rfl rfl ?_
      show Steps p.tables e below (T20.setTop (mkF m 125 #[.val (.int p0), .val (.int p1), .val (.int p2), .val (.int p3), .val (.int v1), .val (.int v3), .val (.int v5), .val (.int v7), .val (.ref b8), .val (.int (1 : Int32)), .val (.int (1 : Int32)), .val (.int (1 : Int32)), .unset, .unset, .unset, .unset] [(.ref b8)])) t
      refine XS.iload X20.here hx rfl (hb hby at_125) rfl ?_
      show Steps p.tables e below (T20.setTop (mkF m 127 #[.val (.int p0), .val (.int p1), .val (.int p2), .val (.int p3), .val (.int v1), .val (.int v3), .val (.int v5), .val (.int v7), .val (.ref b8), .val (.int (1 : Int32)), .val (.int (1 : Int32)), .val (.int (1 : Int32)), .unset, .unset, .unset, .unset] [(.int v3), (.ref b8)])) t
      refine st21 _ ?_
      show Steps p.tables e below (T21.setTop (mkF m 130 #[.val (.int p0), .val (.int p1), .val (.int p2), .val (.int p3), .val (.int v1), .val (.int v3), .val (.int v5), .val (.int v7), .val (.ref b8), .val (.int (1 : Int32)), .val (.int (1 : Int32)), .val (.int (1 : Int32)), .unset, .unset, .unset, .unset] [(.int (Own.b2i (own_has (own_add (own_add (fun _ => 0) v3) v5) v3)))])) t
      refine XS.istore X21.here hx rfl (hb hby at_130) rfl (l' := #[.val (.int p0), .val (.int p1), .val (.int p2), .val (.int p3), .val (.int v1), .val (.int v3), .val (.int v5), .val (.int v7), .val (.ref b8), .val (.int (1 : Int32)), .val (.int (1 : Int32)), .val (.int (1 : Int32)), .val (.int (Own.b2i (own_has (own_add (own_add (fun _ => 0) v3) v5) v3))), .unset, .unset, .unset]) rfl ?_
      show Steps p.tables e below (T21.setTop (mkF m 132 #[.val (.int p0), .val (.int p1), .val (.int p2), .val (.int p3), .val (.int v1), .val (.int v3), .val (.int v5), .val (.int v7), .val (.ref b8), .val (.int (1 : Int32)), .val (.int (1 : Int32)), .val (.int (1 : Int32)), .val (.int (Own.b2i (own_has (own_add (own_add (fun _ => 0) v3) v5) v3))), .unset, .unset, .unset] [])) t
      refine XS.aload X21.here hx rfl (hb hby at_132) rfl rfl ?_
      show Steps p.tables e below (T21.setTop (mkF m 134 #[.val (.int p0), .val (.int p1), .val (.int p2), .val (.int p3), .val (.int v1), .val (.int v3), .val (.int v5), .val (.int v7), .val (.ref b8), .val (.int (1 : Int32)), .val (.int (1 : Int32)), .val (.int (1 : Int32)), .val (.int (Own.b2i (own_has (own_add (own_add (fun _ => 0) v3) v5) v3))), .unset, .unset, .unset] [(.ref b8)])) t
      refine XS.iload X21.here hx rfl (hb hby at_134) rfl ?_
      show Steps p.tables e below (T21.setTop (mkF m 136 #[.val (.int p0), .val (.int p1), .val (.int p2), .val (.int p3), .val (.int v1), .val (.int v3), .val (.int v5), .val (.int v7), .val (.ref b8), .val (.int (1 : Int32)), .val (.int (1 : Int32)), .val (.int (1 : Int32)), .val (.int (Own.b2i (own_has (own_add (own_add (fun _ => 0) v3) v5) v3))), .unset, .unset, .unset] [(.int v5), (.ref b8)])) t
      refine st22 _ ?_
      show Steps p.tables e below (T22.setTop (mkF m 139 #[.val (.int p0), .val (.int p1), .val (.int p2), .val (.int p3), .val (.int v1), .val (.int v3), .val (.int v5), .val (.int v7), .val (.ref b8), .val (.int (1 : Int32)), .val (.int (1 : Int32)), .val (.int (1 : Int32)), .val (.int (Own.b2i (own_has (own_add (own_add (fun _ => 0) v3) v5) v3))), .unset, .unset, .unset] [(.int (Own.b2i (own_has (own_add (own_add (fun _ => 0) v3) v5) v5)))])) t
      refine XS.istore X22.here hx rfl (hb hby at_139) rfl (l' := #[.val (.int p0), .val (.int p1), .val (.int p2), .val (.int p3), .val (.int v1), .val (.int v3), .val (.int v5), .val (.int v7), .val (.ref b8), .val (.int (1 : Int32)), .val (.int (1 : Int32)), .val (.int (1 : Int32)), .val (.int (Own.b2i (own_has (own_add (own_add (fun _ => 0) v3) v5) v3))), .val (.int (Own.b2i (own_has (own_add (own_add (fun _ => 0) v3) v5) v5))), .unset, .unset]) rfl ?_
      show Steps p.tables e below (T22.setTop (mkF m 141 #[.val (.int p0), .val (.int p1), .val (.int p2), .val (.int p3), .val (.int v1), .val (.int v3), .val (.int v5), .val (.int v7), .val (.ref b8), .val (.int (1 : Int32)), .val (.int (1 : Int32)), .val (.int (1 : Int32)), .val (.int (Own.b2i (own_has (own_add (own_add (fun _ => 0) v3) v5) v3))), .val (.int (Own.b2i (own_has (own_add (own_add (fun _ => 0) v3) v5) v5))), .unset, .unset] [])) t
      refine XS.aload X22.here hx rfl (hb hby at_141) rfl rfl ?_
      show Steps p.tables e below (T22.setTop (mkF m 143 #[.val (.int p0), .val (.int p1), .val (.int p2), .val (.int p3), .val (.int v1), .val (.int v3), .val (.int v5), .val (.int v7), .val (.ref b8), .val (.int (1 : Int32)), .val (.int (1 : Int32)), .val (.int (1 : Int32)), .val (.int (Own.b2i (own_has (own_add (own_add (fun _ => 0) v3) v5) v3))), .val (.int (Own.b2i (own_has (own_add (own_add (fun _ => 0) v3) v5) v5))), .unset, .unset] [(.ref b8)])) t
      refine XS.iload X22.here hx rfl (hb hby at_143) rfl ?_
      show Steps p.tables e below (T22.setTop (mkF m 145 #[.val (.int p0), .val (.int p1), .val (.int p2), .val (.int p3), .val (.int v1), .val (.int v3), .val (.int v5), .val (.int v7), .val (.ref b8), .val (.int (1 : Int32)), .val (.int (1 : Int32)), .val (.int (1 : Int32)), .val (.int (Own.b2i (own_has (own_add (own_add (fun _ => 0) v3) v5) v3))), .val (.int (Own.b2i (own_has (own_add (own_add (fun _ => 0) v3) v5) v5))), .unset, .unset] [(.int v7), (.ref b8)])) t
      refine st23 _ ?_
      show Steps p.tables e below (T23.setTop (mkF m 148 #[.val (.int p0), .val (.int p1), .val (.int p2), .val (.int p3), .val (.int v1), .val (.int v3), .val (.int v5), .val (.int v7), .val (.ref b8), .val (.int (1 : Int32)), .val (.int (1 : Int32)), .val (.int (1 : Int32)), .val (.int (Own.b2i (own_has (own_add (own_add (fun _ => 0) v3) v5) v3))), .val (.int (Own.b2i (own_has (own_add (own_add (fun _ => 0) v3) v5) v5))), .unset, .unset] [(.int (Own.b2i (own_has (own_add (own_add (fun _ => 0) v3) v5) v7)))])) t
      refine XS.iload X23.here hx rfl (hb hby at_148) rfl ?_
      show Steps p.tables e below (T23.setTop (mkF m 150 #[.val (.int p0), .val (.int p1), .val (.int p2), .val (.int p3), .val (.int v1), .val (.int v3), .val (.int v5), .val (.int v7), .val (.ref b8), .val (.int (1 : Int32)), .val (.int (1 : Int32)), .val (.int (1 : Int32)), .val (.int (Own.b2i (own_has (own_add (own_add (fun _ => 0) v3) v5) v3))), .val (.int (Own.b2i (own_has (own_add (own_add (fun _ => 0) v3) v5) v5))), .unset, .unset] [(.int v7), (.int (Own.b2i (own_has (own_add (own_add (fun _ => 0) v3) v5) v7)))])) t
      refine XS.iload X23.here hx rfl (hb hby at_150) rfl ?_
      show Steps p.tables e below (T23.setTop (mkF m 152 #[.val (.int p0), .val (.int p1), .val (.int p2), .val (.int p3), .val (.int v1), .val (.int v3), .val (.int v5), .val (.int v7), .val (.ref b8), .val (.int (1 : Int32)), .val (.int (1 : Int32)), .val (.int (1 : Int32)), .val (.int (Own.b2i (own_has (own_add (own_add (fun _ => 0) v3) v5) v3))), .val (.int (Own.b2i (own_has (own_add (own_add (fun _ => 0) v3) v5) v5))), .unset, .unset] [(.int v3), (.int v7), (.int (Own.b2i (own_has (own_add (own_add (fun _ => 0) v3) v5) v7)))])) t
      exact k
    have hc24 : v7 = v3 := hc16
    refine hD _ (T23.setTop (mkF m 167 #[.val (.int p0), .val (.int p1), .val (.int p2), .val (.int p3), .val (.int v1), .val (.int v3), .val (.int v5), .val (.int v7), .val (.ref b8), .val (.int (1 : Int32)), .val (.int (1 : Int32)), .val (.int (1 : Int32)), .val (.int (Own.b2i (own_has (own_add (own_add (fun _ => 0) v3) v5) v3))), .val (.int (Own.b2i (own_has (own_add (own_add (fun _ => 0) v3) v5) v5))), .unset, .unset] [(.int (1 : Int32)), (.int (Own.b2i (own_has (own_add (own_add (fun _ => 0) v3) v5) v7)))])) (fun t k => ?_) ?_
    · show Steps p.tables e below (T23.setTop (mkF m 152 #[.val (.int p0), .val (.int p1), .val (.int p2), .val (.int p3), .val (.int v1), .val (.int v3), .val (.int v5), .val (.int v7), .val (.ref b8), .val (.int (1 : Int32)), .val (.int (1 : Int32)), .val (.int (1 : Int32)), .val (.int (Own.b2i (own_has (own_add (own_add (fun _ => 0) v3) v5) v3))), .val (.int (Own.b2i (own_has (own_add (own_add (fun _ => 0) v3) v5) v5))), .unset, .unset] [(.int v3), (.int v7), (.int (Own.b2i (own_has (own_add (own_add (fun _ => 0) v3) v5) v7)))])) t
      refine XS.icmpYes X23.here hx rfl (pc0 := 152) (pc' := 162) rfl (hb hby at_152) rfl (teq hc24).1 (by decide) (by decide) ?_
      show Steps p.tables e below (T23.setTop (mkF m 162 #[.val (.int p0), .val (.int p1), .val (.int p2), .val (.int p3), .val (.int v1), .val (.int v3), .val (.int v5), .val (.int v7), .val (.ref b8), .val (.int (1 : Int32)), .val (.int (1 : Int32)), .val (.int (1 : Int32)), .val (.int (Own.b2i (own_has (own_add (own_add (fun _ => 0) v3) v5) v3))), .val (.int (Own.b2i (own_has (own_add (own_add (fun _ => 0) v3) v5) v5))), .unset, .unset] [(.int (Own.b2i (own_has (own_add (own_add (fun _ => 0) v3) v5) v7)))])) t
      refine XS.iconst X23.here hx rfl (hb hby at_162) ?_
      show Steps p.tables e below (T23.setTop (mkF m 163 #[.val (.int p0), .val (.int p1), .val (.int p2), .val (.int p3), .val (.int v1), .val (.int v3), .val (.int v5), .val (.int v7), .val (.ref b8), .val (.int (1 : Int32)), .val (.int (1 : Int32)), .val (.int (1 : Int32)), .val (.int (Own.b2i (own_has (own_add (own_add (fun _ => 0) v3) v5) v3))), .val (.int (Own.b2i (own_has (own_add (own_add (fun _ => 0) v3) v5) v5))), .unset, .unset] [(.int (1 : Int32)), (.int (Own.b2i (own_has (own_add (own_add (fun _ => 0) v3) v5) v7)))])) t
      refine XS.goto X23.here hx rfl (pc0 := 163) (pc' := 167) rfl (hb hby at_163) (by decide) (by decide) ?_
      show Steps p.tables e below (T23.setTop (mkF m 167 #[.val (.int p0), .val (.int p1), .val (.int p2), .val (.int p3), .val (.int v1), .val (.int v3), .val (.int v5), .val (.int v7), .val (.ref b8), .val (.int (1 : Int32)), .val (.int (1 : Int32)), .val (.int (1 : Int32)), .val (.int (Own.b2i (own_has (own_add (own_add (fun _ => 0) v3) v5) v3))), .val (.int (Own.b2i (own_has (own_add (own_add (fun _ => 0) v3) v5) v5))), .unset, .unset] [(.int (1 : Int32)), (.int (Own.b2i (own_has (own_add (own_add (fun _ => 0) v3) v5) v7)))])) t
      exact k
    have hc25 : (Own.b2i (own_has (own_add (own_add (fun _ => 0) v3) v5) v7)) = (1 : Int32) := by rw [own_h2 (own_rem (own_size hv1).1 hv3).1 (own_rem (own_size hv1).1 hv5).1 (own_rem (own_size hv1).1 hv7).1]; simp [Own.b2i, hc16]
    obtain ⟨T26, _, L26, X26, ⟨rfl, Nq26, e26⟩, st26⟩ := Own.callV (y := (⟨"com/example/sluice/sluice/FieldSet", "size", "()I"⟩ : MethodName)) (W := 0) (argsL := []) (rest := []) (a := b8) X23 hx hZ hown (hw _ (List.mem_of_getElem? (i := 24) rfl)) (hw _ (List.mem_of_getElem? (i := 25) rfl)) (hw _ (List.mem_of_getElem? (i := 27) rfl)) (hw _ (List.mem_of_getElem? (i := 26) rfl)) (hw _ (List.mem_of_getElem? (i := 3) rfl)) (hw _ (List.mem_of_getElem? (i := 28) rfl)) (by decide) e23 FS20.1 (rm5 l Z a0 hw [] b8 r11 n11 (own_add (own_add (fun _ => 0) v3) v5) T20.heap n0 FS20) (by decide) (by decide) (by decide) (by decide) (g := (mkF m 179 #[.val (.int p0), .val (.int p1), .val (.int p2), .val (.int p3), .val (.int v1), .val (.int v3), .val (.int v5), .val (.int v7), .val (.ref b8), .val (.int (1 : Int32)), .val (.int (1 : Int32)), .val (.int (1 : Int32)), .val (.int (Own.b2i (own_has (own_add (own_add (fun _ => 0) v3) v5) v3))), .val (.int (Own.b2i (own_has (own_add (own_add (fun _ => 0) v3) v5) v5))), .val (.int (1 : Int32)), .unset] [(.ref b8)])) rfl (by rw [hml]; rfl) (lenOf pd_3 rfl) rfl (by show 2 * 0 + _ ≤ _; exact Nat.le_of_eq rfl) (hb hby at_179)
    have N26 := Fr.app N23 Nq26
    refine hD _ (T26.setTop (mkF m 186 #[.val (.int p0), .val (.int p1), .val (.int p2), .val (.int p3), .val (.int v1), .val (.int v3), .val (.int v5), .val (.int v7), .val (.ref b8), .val (.int (1 : Int32)), .val (.int (1 : Int32)), .val (.int (1 : Int32)), .val (.int (Own.b2i (own_has (own_add (own_add (fun _ => 0) v3) v5) v3))), .val (.int (Own.b2i (own_has (own_add (own_add (fun _ => 0) v3) v5) v5))), .val (.int (1 : Int32)), .unset] [(.int v5), (.int v3), (.int (own_sz n11 (own_add (own_add (fun _ => 0) v3) v5)))])) (fun t k => ?_) ?_
    · show Steps p.tables e below (T23.setTop (mkF m 167 #[.val (.int p0), .val (.int p1), .val (.int p2), .val (.int p3), .val (.int v1), .val (.int v3), .val (.int v5), .val (.int v7), .val (.ref b8), .val (.int (1 : Int32)), .val (.int (1 : Int32)), .val (.int (1 : Int32)), .val (.int (Own.b2i (own_has (own_add (own_add (fun _ => 0) v3) v5) v3))), .val (.int (Own.b2i (own_has (own_add (own_add (fun _ => 0) v3) v5) v5))), .unset, .unset] [(.int (1 : Int32)), (.int (Own.b2i (own_has (own_add (own_add (fun _ => 0) v3) v5) v7)))])) t
      refine XS.icmpNo X23.here hx rfl (hb hby at_167) rfl (teq hc25).2 ?_
      show Steps p.tables e below (T23.setTop (mkF m 170 #[.val (.int p0), .val (.int p1), .val (.int p2), .val (.int p3), .val (.int v1), .val (.int v3), .val (.int v5), .val (.int v7), .val (.ref b8), .val (.int (1 : Int32)), .val (.int (1 : Int32)), .val (.int (1 : Int32)), .val (.int (Own.b2i (own_has (own_add (own_add (fun _ => 0) v3) v5) v3))), .val (.int (Own.b2i (own_has (own_add (own_add (fun _ => 0) v3) v5) v5))), .unset, .unset] [])) t
      refine XS.iconst X23.here hx rfl (hb hby at_170) ?_
      show Steps p.tables e below (T23.setTop (mkF m 171 #[.val (.int p0), .val (.int p1), .val (.int p2), .val (.int p3), .val (.int v1), .val (.int v3), .val (.int v5), .val (.int v7), .val (.ref b8), .val (.int (1 : Int32)), .val (.int (1 : Int32)), .val (.int (1 : Int32)), .val (.int (Own.b2i (own_has (own_add (own_add (fun _ => 0) v3) v5) v3))), .val (.int (Own.b2i (own_has (own_add (own_add (fun _ => 0) v3) v5) v5))), .unset, .unset] [(.int (1 : Int32))])) t
      refine XS.goto X23.here hx rfl (pc0 := 171) (pc' := 175) rfl (hb hby at_171) (by decide) (by decide) ?_
      show Steps p.tables e below (T23.setTop (mkF m 175 #[.val (.int p0), .val (.int p1), .val (.int p2), .val (.int p3), .val (.int v1), .val (.int v3), .val (.int v5), .val (.int v7), .val (.ref b8), .val (.int (1 : Int32)), .val (.int (1 : Int32)), .val (.int (1 : Int32)), .val (.int (Own.b2i (own_has (own_add (own_add (fun _ => 0) v3) v5) v3))), .val (.int (Own.b2i (own_has (own_add (own_add (fun _ => 0) v3) v5) v5))), .unset, .unset] [(.int (1 : Int32))])) t
      refine XS.istore X23.here hx rfl (hb hby at_175) rfl (l' := #[.val (.int p0), .val (.int p1), .val (.int p2), .val (.int p3), .val (.int v1), .val (.int v3), .val (.int v5), .val (.int v7), .val (.ref b8), .val (.int (1 : Int32)), .val (.int (1 : Int32)), .val (.int (1 : Int32)), .val (.int (Own.b2i (own_has (own_add (own_add (fun _ => 0) v3) v5) v3))), .val (.int (Own.b2i (own_has (own_add (own_add (fun _ => 0) v3) v5) v5))), .val (.int (1 : Int32)), .unset]) rfl ?_
      show Steps p.tables e below (T23.setTop (mkF m 177 #[.val (.int p0), .val (.int p1), .val (.int p2), .val (.int p3), .val (.int v1), .val (.int v3), .val (.int v5), .val (.int v7), .val (.ref b8), .val (.int (1 : Int32)), .val (.int (1 : Int32)), .val (.int (1 : Int32)), .val (.int (Own.b2i (own_has (own_add (own_add (fun _ => 0) v3) v5) v3))), .val (.int (Own.b2i (own_has (own_add (own_add (fun _ => 0) v3) v5) v5))), .val (.int (1 : Int32)), .unset] [])) t
      refine XS.aload X23.here hx rfl (hb hby at_177) rfl rfl ?_
      show Steps p.tables e below (T23.setTop (mkF m 179 #[.val (.int p0), .val (.int p1), .val (.int p2), .val (.int p3), .val (.int v1), .val (.int v3), .val (.int v5), .val (.int v7), .val (.ref b8), .val (.int (1 : Int32)), .val (.int (1 : Int32)), .val (.int (1 : Int32)), .val (.int (Own.b2i (own_has (own_add (own_add (fun _ => 0) v3) v5) v3))), .val (.int (Own.b2i (own_has (own_add (own_add (fun _ => 0) v3) v5) v5))), .val (.int (1 : Int32)), .unset] [(.ref b8)])) t
      refine st26 _ ?_
      show Steps p.tables e below (T26.setTop (mkF m 182 #[.val (.int p0), .val (.int p1), .val (.int p2), .val (.int p3), .val (.int v1), .val (.int v3), .val (.int v5), .val (.int v7), .val (.ref b8), .val (.int (1 : Int32)), .val (.int (1 : Int32)), .val (.int (1 : Int32)), .val (.int (Own.b2i (own_has (own_add (own_add (fun _ => 0) v3) v5) v3))), .val (.int (Own.b2i (own_has (own_add (own_add (fun _ => 0) v3) v5) v5))), .val (.int (1 : Int32)), .unset] [(.int (own_sz n11 (own_add (own_add (fun _ => 0) v3) v5)))])) t
      refine XS.iload X26.here hx rfl (hb hby at_182) rfl ?_
      show Steps p.tables e below (T26.setTop (mkF m 184 #[.val (.int p0), .val (.int p1), .val (.int p2), .val (.int p3), .val (.int v1), .val (.int v3), .val (.int v5), .val (.int v7), .val (.ref b8), .val (.int (1 : Int32)), .val (.int (1 : Int32)), .val (.int (1 : Int32)), .val (.int (Own.b2i (own_has (own_add (own_add (fun _ => 0) v3) v5) v3))), .val (.int (Own.b2i (own_has (own_add (own_add (fun _ => 0) v3) v5) v5))), .val (.int (1 : Int32)), .unset] [(.int v3), (.int (own_sz n11 (own_add (own_add (fun _ => 0) v3) v5)))])) t
      refine XS.iload X26.here hx rfl (hb hby at_184) rfl ?_
      show Steps p.tables e below (T26.setTop (mkF m 186 #[.val (.int p0), .val (.int p1), .val (.int p2), .val (.int p3), .val (.int v1), .val (.int v3), .val (.int v5), .val (.int v7), .val (.ref b8), .val (.int (1 : Int32)), .val (.int (1 : Int32)), .val (.int (1 : Int32)), .val (.int (Own.b2i (own_has (own_add (own_add (fun _ => 0) v3) v5) v3))), .val (.int (Own.b2i (own_has (own_add (own_add (fun _ => 0) v3) v5) v5))), .val (.int (1 : Int32)), .unset] [(.int v5), (.int v3), (.int (own_sz n11 (own_add (own_add (fun _ => 0) v3) v5)))])) t
      exact k
    by_cases hc27 : v3 = v5
    · refine hD _ (T26.setTop (mkF m 194 #[.val (.int p0), .val (.int p1), .val (.int p2), .val (.int p3), .val (.int v1), .val (.int v3), .val (.int v5), .val (.int v7), .val (.ref b8), .val (.int (1 : Int32)), .val (.int (1 : Int32)), .val (.int (1 : Int32)), .val (.int (Own.b2i (own_has (own_add (own_add (fun _ => 0) v3) v5) v3))), .val (.int (Own.b2i (own_has (own_add (own_add (fun _ => 0) v3) v5) v5))), .val (.int (1 : Int32)), .unset] [(.int (1 : Int32)), (.int (own_sz n11 (own_add (own_add (fun _ => 0) v3) v5)))])) (fun t k => ?_) ?_
      · show Steps p.tables e below (T26.setTop (mkF m 186 #[.val (.int p0), .val (.int p1), .val (.int p2), .val (.int p3), .val (.int v1), .val (.int v3), .val (.int v5), .val (.int v7), .val (.ref b8), .val (.int (1 : Int32)), .val (.int (1 : Int32)), .val (.int (1 : Int32)), .val (.int (Own.b2i (own_has (own_add (own_add (fun _ => 0) v3) v5) v3))), .val (.int (Own.b2i (own_has (own_add (own_add (fun _ => 0) v3) v5) v5))), .val (.int (1 : Int32)), .unset] [(.int v5), (.int v3), (.int (own_sz n11 (own_add (own_add (fun _ => 0) v3) v5)))])) t
        refine XS.icmpNo X26.here hx rfl (hb hby at_186) rfl (teq hc27).2 ?_
        show Steps p.tables e below (T26.setTop (mkF m 189 #[.val (.int p0), .val (.int p1), .val (.int p2), .val (.int p3), .val (.int v1), .val (.int v3), .val (.int v5), .val (.int v7), .val (.ref b8), .val (.int (1 : Int32)), .val (.int (1 : Int32)), .val (.int (1 : Int32)), .val (.int (Own.b2i (own_has (own_add (own_add (fun _ => 0) v3) v5) v3))), .val (.int (Own.b2i (own_has (own_add (own_add (fun _ => 0) v3) v5) v5))), .val (.int (1 : Int32)), .unset] [(.int (own_sz n11 (own_add (own_add (fun _ => 0) v3) v5)))])) t
        refine XS.iconst X26.here hx rfl (hb hby at_189) ?_
        show Steps p.tables e below (T26.setTop (mkF m 190 #[.val (.int p0), .val (.int p1), .val (.int p2), .val (.int p3), .val (.int v1), .val (.int v3), .val (.int v5), .val (.int v7), .val (.ref b8), .val (.int (1 : Int32)), .val (.int (1 : Int32)), .val (.int (1 : Int32)), .val (.int (Own.b2i (own_has (own_add (own_add (fun _ => 0) v3) v5) v3))), .val (.int (Own.b2i (own_has (own_add (own_add (fun _ => 0) v3) v5) v5))), .val (.int (1 : Int32)), .unset] [(.int (1 : Int32)), (.int (own_sz n11 (own_add (own_add (fun _ => 0) v3) v5)))])) t
        refine XS.goto X26.here hx rfl (pc0 := 190) (pc' := 194) rfl (hb hby at_190) (by decide) (by decide) ?_
        show Steps p.tables e below (T26.setTop (mkF m 194 #[.val (.int p0), .val (.int p1), .val (.int p2), .val (.int p3), .val (.int v1), .val (.int v3), .val (.int v5), .val (.int v7), .val (.ref b8), .val (.int (1 : Int32)), .val (.int (1 : Int32)), .val (.int (1 : Int32)), .val (.int (Own.b2i (own_has (own_add (own_add (fun _ => 0) v3) v5) v3))), .val (.int (Own.b2i (own_has (own_add (own_add (fun _ => 0) v3) v5) v5))), .val (.int (1 : Int32)), .unset] [(.int (1 : Int32)), (.int (own_sz n11 (own_add (own_add (fun _ => 0) v3) v5)))])) t
        exact k
      have hc28 : (own_sz n11 (own_add (own_add (fun _ => 0) v3) v5)) = (1 : Int32) := by rw [own_szT (own_in (own_rem (own_size hv1).1 hv3) hn11) (own_in (own_rem (own_size hv1).1 hv5) hn11)]; simp [hc27]
      refine hD _ (T26.setTop (mkF m 221 #[.val (.int p0), .val (.int p1), .val (.int p2), .val (.int p3), .val (.int v1), .val (.int v3), .val (.int v5), .val (.int v7), .val (.ref b8), .val (.int (1 : Int32)), .val (.int (1 : Int32)), .val (.int (1 : Int32)), .val (.int (Own.b2i (own_has (own_add (own_add (fun _ => 0) v3) v5) v3))), .val (.int (Own.b2i (own_has (own_add (own_add (fun _ => 0) v3) v5) v5))), .val (.int (1 : Int32)), .val (.int (1 : Int32))] [(.int (Own.b2i (own_has (own_add (own_add (fun _ => 0) v3) v5) v3)))])) (fun t k => ?_) ?_
      · show Steps p.tables e below (T26.setTop (mkF m 194 #[.val (.int p0), .val (.int p1), .val (.int p2), .val (.int p3), .val (.int v1), .val (.int v3), .val (.int v5), .val (.int v7), .val (.ref b8), .val (.int (1 : Int32)), .val (.int (1 : Int32)), .val (.int (1 : Int32)), .val (.int (Own.b2i (own_has (own_add (own_add (fun _ => 0) v3) v5) v3))), .val (.int (Own.b2i (own_has (own_add (own_add (fun _ => 0) v3) v5) v5))), .val (.int (1 : Int32)), .unset] [(.int (1 : Int32)), (.int (own_sz n11 (own_add (own_add (fun _ => 0) v3) v5)))])) t
        refine XS.icmpNo X26.here hx rfl (hb hby at_194) rfl (teq hc28).2 ?_
        show Steps p.tables e below (T26.setTop (mkF m 197 #[.val (.int p0), .val (.int p1), .val (.int p2), .val (.int p3), .val (.int v1), .val (.int v3), .val (.int v5), .val (.int v7), .val (.ref b8), .val (.int (1 : Int32)), .val (.int (1 : Int32)), .val (.int (1 : Int32)), .val (.int (Own.b2i (own_has (own_add (own_add (fun _ => 0) v3) v5) v3))), .val (.int (Own.b2i (own_has (own_add (own_add (fun _ => 0) v3) v5) v5))), .val (.int (1 : Int32)), .unset] [])) t
        refine XS.iconst X26.here hx rfl (hb hby at_197) ?_
        show Steps p.tables e below (T26.setTop (mkF m 198 #[.val (.int p0), .val (.int p1), .val (.int p2), .val (.int p3), .val (.int v1), .val (.int v3), .val (.int v5), .val (.int v7), .val (.ref b8), .val (.int (1 : Int32)), .val (.int (1 : Int32)), .val (.int (1 : Int32)), .val (.int (Own.b2i (own_has (own_add (own_add (fun _ => 0) v3) v5) v3))), .val (.int (Own.b2i (own_has (own_add (own_add (fun _ => 0) v3) v5) v5))), .val (.int (1 : Int32)), .unset] [(.int (1 : Int32))])) t
        refine XS.goto X26.here hx rfl (pc0 := 198) (pc' := 202) rfl (hb hby at_198) (by decide) (by decide) ?_
        show Steps p.tables e below (T26.setTop (mkF m 202 #[.val (.int p0), .val (.int p1), .val (.int p2), .val (.int p3), .val (.int v1), .val (.int v3), .val (.int v5), .val (.int v7), .val (.ref b8), .val (.int (1 : Int32)), .val (.int (1 : Int32)), .val (.int (1 : Int32)), .val (.int (Own.b2i (own_has (own_add (own_add (fun _ => 0) v3) v5) v3))), .val (.int (Own.b2i (own_has (own_add (own_add (fun _ => 0) v3) v5) v5))), .val (.int (1 : Int32)), .unset] [(.int (1 : Int32))])) t
        refine XS.istore X26.here hx rfl (hb hby at_202) rfl (l' := #[.val (.int p0), .val (.int p1), .val (.int p2), .val (.int p3), .val (.int v1), .val (.int v3), .val (.int v5), .val (.int v7), .val (.ref b8), .val (.int (1 : Int32)), .val (.int (1 : Int32)), .val (.int (1 : Int32)), .val (.int (Own.b2i (own_has (own_add (own_add (fun _ => 0) v3) v5) v3))), .val (.int (Own.b2i (own_has (own_add (own_add (fun _ => 0) v3) v5) v5))), .val (.int (1 : Int32)), .val (.int (1 : Int32))]) rfl ?_
        show Steps p.tables e below (T26.setTop (mkF m 204 #[.val (.int p0), .val (.int p1), .val (.int p2), .val (.int p3), .val (.int v1), .val (.int v3), .val (.int v5), .val (.int v7), .val (.ref b8), .val (.int (1 : Int32)), .val (.int (1 : Int32)), .val (.int (1 : Int32)), .val (.int (Own.b2i (own_has (own_add (own_add (fun _ => 0) v3) v5) v3))), .val (.int (Own.b2i (own_has (own_add (own_add (fun _ => 0) v3) v5) v5))), .val (.int (1 : Int32)), .val (.int (1 : Int32))] [])) t
        refine XS.iload X26.here hx rfl (hb hby at_204) rfl ?_
        show Steps p.tables e below (T26.setTop (mkF m 206 #[.val (.int p0), .val (.int p1), .val (.int p2), .val (.int p3), .val (.int v1), .val (.int v3), .val (.int v5), .val (.int v7), .val (.ref b8), .val (.int (1 : Int32)), .val (.int (1 : Int32)), .val (.int (1 : Int32)), .val (.int (Own.b2i (own_has (own_add (own_add (fun _ => 0) v3) v5) v3))), .val (.int (Own.b2i (own_has (own_add (own_add (fun _ => 0) v3) v5) v5))), .val (.int (1 : Int32)), .val (.int (1 : Int32))] [(.int (1 : Int32))])) t
        refine XS.ifNo X26.here hx rfl (hb hby at_206) rfl (by decide) ?_
        show Steps p.tables e below (T26.setTop (mkF m 209 #[.val (.int p0), .val (.int p1), .val (.int p2), .val (.int p3), .val (.int v1), .val (.int v3), .val (.int v5), .val (.int v7), .val (.ref b8), .val (.int (1 : Int32)), .val (.int (1 : Int32)), .val (.int (1 : Int32)), .val (.int (Own.b2i (own_has (own_add (own_add (fun _ => 0) v3) v5) v3))), .val (.int (Own.b2i (own_has (own_add (own_add (fun _ => 0) v3) v5) v5))), .val (.int (1 : Int32)), .val (.int (1 : Int32))] [])) t
        refine XS.iload X26.here hx rfl (hb hby at_209) rfl ?_
        show Steps p.tables e below (T26.setTop (mkF m 211 #[.val (.int p0), .val (.int p1), .val (.int p2), .val (.int p3), .val (.int v1), .val (.int v3), .val (.int v5), .val (.int v7), .val (.ref b8), .val (.int (1 : Int32)), .val (.int (1 : Int32)), .val (.int (1 : Int32)), .val (.int (Own.b2i (own_has (own_add (own_add (fun _ => 0) v3) v5) v3))), .val (.int (Own.b2i (own_has (own_add (own_add (fun _ => 0) v3) v5) v5))), .val (.int (1 : Int32)), .val (.int (1 : Int32))] [(.int (1 : Int32))])) t
        refine XS.ifNo X26.here hx rfl (hb hby at_211) rfl (by decide) ?_
        show Steps p.tables e below (T26.setTop (mkF m 214 #[.val (.int p0), .val (.int p1), .val (.int p2), .val (.int p3), .val (.int v1), .val (.int v3), .val (.int v5), .val (.int v7), .val (.ref b8), .val (.int (1 : Int32)), .val (.int (1 : Int32)), .val (.int (1 : Int32)), .val (.int (Own.b2i (own_has (own_add (own_add (fun _ => 0) v3) v5) v3))), .val (.int (Own.b2i (own_has (own_add (own_add (fun _ => 0) v3) v5) v5))), .val (.int (1 : Int32)), .val (.int (1 : Int32))] [])) t
        refine XS.iload X26.here hx rfl (hb hby at_214) rfl ?_
        show Steps p.tables e below (T26.setTop (mkF m 216 #[.val (.int p0), .val (.int p1), .val (.int p2), .val (.int p3), .val (.int v1), .val (.int v3), .val (.int v5), .val (.int v7), .val (.ref b8), .val (.int (1 : Int32)), .val (.int (1 : Int32)), .val (.int (1 : Int32)), .val (.int (Own.b2i (own_has (own_add (own_add (fun _ => 0) v3) v5) v3))), .val (.int (Own.b2i (own_has (own_add (own_add (fun _ => 0) v3) v5) v5))), .val (.int (1 : Int32)), .val (.int (1 : Int32))] [(.int (1 : Int32))])) t
        refine XS.ifNo X26.here hx rfl (hb hby at_216) rfl (by decide) ?_
        show Steps p.tables e below (T26.setTop (mkF m 219 #[.val (.int p0), .val (.int p1), .val (.int p2), .val (.int p3), .val (.int v1), .val (.int v3), .val (.int v5), .val (.int v7), .val (.ref b8), .val (.int (1 : Int32)), .val (.int (1 : Int32)), .val (.int (1 : Int32)), .val (.int (Own.b2i (own_has (own_add (own_add (fun _ => 0) v3) v5) v3))), .val (.int (Own.b2i (own_has (own_add (own_add (fun _ => 0) v3) v5) v5))), .val (.int (1 : Int32)), .val (.int (1 : Int32))] [])) t
        refine XS.iload X26.here hx rfl (hb hby at_219) rfl ?_
        show Steps p.tables e below (T26.setTop (mkF m 221 #[.val (.int p0), .val (.int p1), .val (.int p2), .val (.int p3), .val (.int v1), .val (.int v3), .val (.int v5), .val (.int v7), .val (.ref b8), .val (.int (1 : Int32)), .val (.int (1 : Int32)), .val (.int (1 : Int32)), .val (.int (Own.b2i (own_has (own_add (own_add (fun _ => 0) v3) v5) v3))), .val (.int (Own.b2i (own_has (own_add (own_add (fun _ => 0) v3) v5) v5))), .val (.int (1 : Int32)), .val (.int (1 : Int32))] [(.int (Own.b2i (own_has (own_add (own_add (fun _ => 0) v3) v5) v3)))])) t
        exact k
      have hc29 : (own_has (own_add (own_add (fun _ => 0) v3) v5) v3) = true := by rw [own_h2 (own_rem (own_size hv1).1 hv3).1 (own_rem (own_size hv1).1 hv5).1 (own_rem (own_size hv1).1 hv3).1]; simp
      refine hD _ (T26.setTop (mkF m 226 #[.val (.int p0), .val (.int p1), .val (.int p2), .val (.int p3), .val (.int v1), .val (.int v3), .val (.int v5), .val (.int v7), .val (.ref b8), .val (.int (1 : Int32)), .val (.int (1 : Int32)), .val (.int (1 : Int32)), .val (.int (Own.b2i (own_has (own_add (own_add (fun _ => 0) v3) v5) v3))), .val (.int (Own.b2i (own_has (own_add (own_add (fun _ => 0) v3) v5) v5))), .val (.int (1 : Int32)), .val (.int (1 : Int32))] [(.int (Own.b2i (own_has (own_add (own_add (fun _ => 0) v3) v5) v5)))])) (fun t k => ?_) ?_
      · show Steps p.tables e below (T26.setTop (mkF m 221 #[.val (.int p0), .val (.int p1), .val (.int p2), .val (.int p3), .val (.int v1), .val (.int v3), .val (.int v5), .val (.int v7), .val (.ref b8), .val (.int (1 : Int32)), .val (.int (1 : Int32)), .val (.int (1 : Int32)), .val (.int (Own.b2i (own_has (own_add (own_add (fun _ => 0) v3) v5) v3))), .val (.int (Own.b2i (own_has (own_add (own_add (fun _ => 0) v3) v5) v5))), .val (.int (1 : Int32)), .val (.int (1 : Int32))] [(.int (Own.b2i (own_has (own_add (own_add (fun _ => 0) v3) v5) v3)))])) t
        refine XS.ifNo X26.here hx rfl (hb hby at_221) rfl ((if0 _ _).trans (feq (fun q => Own.b2i_eq0.mp q hc29)).1) ?_
        show Steps p.tables e below (T26.setTop (mkF m 224 #[.val (.int p0), .val (.int p1), .val (.int p2), .val (.int p3), .val (.int v1), .val (.int v3), .val (.int v5), .val (.int v7), .val (.ref b8), .val (.int (1 : Int32)), .val (.int (1 : Int32)), .val (.int (1 : Int32)), .val (.int (Own.b2i (own_has (own_add (own_add (fun _ => 0) v3) v5) v3))), .val (.int (Own.b2i (own_has (own_add (own_add (fun _ => 0) v3) v5) v5))), .val (.int (1 : Int32)), .val (.int (1 : Int32))] [])) t
        refine XS.iload X26.here hx rfl (hb hby at_224) rfl ?_
        show Steps p.tables e below (T26.setTop (mkF m 226 #[.val (.int p0), .val (.int p1), .val (.int p2), .val (.int p3), .val (.int v1), .val (.int v3), .val (.int v5), .val (.int v7), .val (.ref b8), .val (.int (1 : Int32)), .val (.int (1 : Int32)), .val (.int (1 : Int32)), .val (.int (Own.b2i (own_has (own_add (own_add (fun _ => 0) v3) v5) v3))), .val (.int (Own.b2i (own_has (own_add (own_add (fun _ => 0) v3) v5) v5))), .val (.int (1 : Int32)), .val (.int (1 : Int32))] [(.int (Own.b2i (own_has (own_add (own_add (fun _ => 0) v3) v5) v5)))])) t
        exact k
      have hc30 : (own_has (own_add (own_add (fun _ => 0) v3) v5) v5) = true := by rw [own_h2 (own_rem (own_size hv1).1 hv3).1 (own_rem (own_size hv1).1 hv5).1 (own_rem (own_size hv1).1 hv5).1]; simp
      refine hD _ (T26.setTop (mkF m 244 #[.val (.int p0), .val (.int p1), .val (.int p2), .val (.int p3), .val (.int v1), .val (.int v3), .val (.int v5), .val (.int v7), .val (.ref b8), .val (.int (1 : Int32)), .val (.int (1 : Int32)), .val (.int (1 : Int32)), .val (.int (Own.b2i (own_has (own_add (own_add (fun _ => 0) v3) v5) v3))), .val (.int (Own.b2i (own_has (own_add (own_add (fun _ => 0) v3) v5) v5))), .val (.int (1 : Int32)), .val (.int (1 : Int32))] [(.int (1 : Int32))])) (fun t k => ?_) ?_
      · show Steps p.tables e below (T26.setTop (mkF m 226 #[.val (.int p0), .val (.int p1), .val (.int p2), .val (.int p3), .val (.int v1), .val (.int v3), .val (.int v5), .val (.int v7), .val (.ref b8), .val (.int (1 : Int32)), .val (.int (1 : Int32)), .val (.int (1 : Int32)), .val (.int (Own.b2i (own_has (own_add (own_add (fun _ => 0) v3) v5) v3))), .val (.int (Own.b2i (own_has (own_add (own_add (fun _ => 0) v3) v5) v5))), .val (.int (1 : Int32)), .val (.int (1 : Int32))] [(.int (Own.b2i (own_has (own_add (own_add (fun _ => 0) v3) v5) v5)))])) t
        refine XS.ifNo X26.here hx rfl (hb hby at_226) rfl ((if0 _ _).trans (feq (fun q => Own.b2i_eq0.mp q hc30)).1) ?_
        show Steps p.tables e below (T26.setTop (mkF m 229 #[.val (.int p0), .val (.int p1), .val (.int p2), .val (.int p3), .val (.int v1), .val (.int v3), .val (.int v5), .val (.int v7), .val (.ref b8), .val (.int (1 : Int32)), .val (.int (1 : Int32)), .val (.int (1 : Int32)), .val (.int (Own.b2i (own_has (own_add (own_add (fun _ => 0) v3) v5) v3))), .val (.int (Own.b2i (own_has (own_add (own_add (fun _ => 0) v3) v5) v5))), .val (.int (1 : Int32)), .val (.int (1 : Int32))] [])) t
        refine XS.iload X26.here hx rfl (hb hby at_229) rfl ?_
        show Steps p.tables e below (T26.setTop (mkF m 231 #[.val (.int p0), .val (.int p1), .val (.int p2), .val (.int p3), .val (.int v1), .val (.int v3), .val (.int v5), .val (.int v7), .val (.ref b8), .val (.int (1 : Int32)), .val (.int (1 : Int32)), .val (.int (1 : Int32)), .val (.int (Own.b2i (own_has (own_add (own_add (fun _ => 0) v3) v5) v3))), .val (.int (Own.b2i (own_has (own_add (own_add (fun _ => 0) v3) v5) v5))), .val (.int (1 : Int32)), .val (.int (1 : Int32))] [(.int (1 : Int32))])) t
        refine XS.ifNo X26.here hx rfl (hb hby at_231) rfl (by decide) ?_
        show Steps p.tables e below (T26.setTop (mkF m 234 #[.val (.int p0), .val (.int p1), .val (.int p2), .val (.int p3), .val (.int v1), .val (.int v3), .val (.int v5), .val (.int v7), .val (.ref b8), .val (.int (1 : Int32)), .val (.int (1 : Int32)), .val (.int (1 : Int32)), .val (.int (Own.b2i (own_has (own_add (own_add (fun _ => 0) v3) v5) v3))), .val (.int (Own.b2i (own_has (own_add (own_add (fun _ => 0) v3) v5) v5))), .val (.int (1 : Int32)), .val (.int (1 : Int32))] [])) t
        refine XS.iload X26.here hx rfl (hb hby at_234) rfl ?_
        show Steps p.tables e below (T26.setTop (mkF m 236 #[.val (.int p0), .val (.int p1), .val (.int p2), .val (.int p3), .val (.int v1), .val (.int v3), .val (.int v5), .val (.int v7), .val (.ref b8), .val (.int (1 : Int32)), .val (.int (1 : Int32)), .val (.int (1 : Int32)), .val (.int (Own.b2i (own_has (own_add (own_add (fun _ => 0) v3) v5) v3))), .val (.int (Own.b2i (own_has (own_add (own_add (fun _ => 0) v3) v5) v5))), .val (.int (1 : Int32)), .val (.int (1 : Int32))] [(.int (1 : Int32))])) t
        refine XS.ifNo X26.here hx rfl (hb hby at_236) rfl (by decide) ?_
        show Steps p.tables e below (T26.setTop (mkF m 239 #[.val (.int p0), .val (.int p1), .val (.int p2), .val (.int p3), .val (.int v1), .val (.int v3), .val (.int v5), .val (.int v7), .val (.ref b8), .val (.int (1 : Int32)), .val (.int (1 : Int32)), .val (.int (1 : Int32)), .val (.int (Own.b2i (own_has (own_add (own_add (fun _ => 0) v3) v5) v3))), .val (.int (Own.b2i (own_has (own_add (own_add (fun _ => 0) v3) v5) v5))), .val (.int (1 : Int32)), .val (.int (1 : Int32))] [])) t
        refine XS.iconst X26.here hx rfl (hb hby at_239) ?_
        show Steps p.tables e below (T26.setTop (mkF m 240 #[.val (.int p0), .val (.int p1), .val (.int p2), .val (.int p3), .val (.int v1), .val (.int v3), .val (.int v5), .val (.int v7), .val (.ref b8), .val (.int (1 : Int32)), .val (.int (1 : Int32)), .val (.int (1 : Int32)), .val (.int (Own.b2i (own_has (own_add (own_add (fun _ => 0) v3) v5) v3))), .val (.int (Own.b2i (own_has (own_add (own_add (fun _ => 0) v3) v5) v5))), .val (.int (1 : Int32)), .val (.int (1 : Int32))] [(.int (1 : Int32))])) t
        refine XS.goto X26.here hx rfl (pc0 := 240) (pc' := 244) rfl (hb hby at_240) (by decide) (by decide) ?_
        show Steps p.tables e below (T26.setTop (mkF m 244 #[.val (.int p0), .val (.int p1), .val (.int p2), .val (.int p3), .val (.int v1), .val (.int v3), .val (.int v5), .val (.int v7), .val (.ref b8), .val (.int (1 : Int32)), .val (.int (1 : Int32)), .val (.int (1 : Int32)), .val (.int (Own.b2i (own_has (own_add (own_add (fun _ => 0) v3) v5) v3))), .val (.int (Own.b2i (own_has (own_add (own_add (fun _ => 0) v3) v5) v5))), .val (.int (1 : Int32)), .val (.int (1 : Int32))] [(.int (1 : Int32))])) t
        exact k
      exact Own.retN hR X26 hx (t := .boolean) hret (by simp) (hb hby at_244) (by decide) (by decide) (by decide) ⟨rfl, N26⟩
    · refine hD _ (T26.setTop (mkF m 194 #[.val (.int p0), .val (.int p1), .val (.int p2), .val (.int p3), .val (.int v1), .val (.int v3), .val (.int v5), .val (.int v7), .val (.ref b8), .val (.int (1 : Int32)), .val (.int (1 : Int32)), .val (.int (1 : Int32)), .val (.int (Own.b2i (own_has (own_add (own_add (fun _ => 0) v3) v5) v3))), .val (.int (Own.b2i (own_has (own_add (own_add (fun _ => 0) v3) v5) v5))), .val (.int (1 : Int32)), .unset] [(.int (2 : Int32)), (.int (own_sz n11 (own_add (own_add (fun _ => 0) v3) v5)))])) (fun t k => ?_) ?_
      · show Steps p.tables e below (T26.setTop (mkF m 186 #[.val (.int p0), .val (.int p1), .val (.int p2), .val (.int p3), .val (.int v1), .val (.int v3), .val (.int v5), .val (.int v7), .val (.ref b8), .val (.int (1 : Int32)), .val (.int (1 : Int32)), .val (.int (1 : Int32)), .val (.int (Own.b2i (own_has (own_add (own_add (fun _ => 0) v3) v5) v3))), .val (.int (Own.b2i (own_has (own_add (own_add (fun _ => 0) v3) v5) v5))), .val (.int (1 : Int32)), .unset] [(.int v5), (.int v3), (.int (own_sz n11 (own_add (own_add (fun _ => 0) v3) v5)))])) t
        refine XS.icmpYes X26.here hx rfl (pc0 := 186) (pc' := 193) rfl (hb hby at_186) rfl (feq hc27).2 (by decide) (by decide) ?_
        show Steps p.tables e below (T26.setTop (mkF m 193 #[.val (.int p0), .val (.int p1), .val (.int p2), .val (.int p3), .val (.int v1), .val (.int v3), .val (.int v5), .val (.int v7), .val (.ref b8), .val (.int (1 : Int32)), .val (.int (1 : Int32)), .val (.int (1 : Int32)), .val (.int (Own.b2i (own_has (own_add (own_add (fun _ => 0) v3) v5) v3))), .val (.int (Own.b2i (own_has (own_add (own_add (fun _ => 0) v3) v5) v5))), .val (.int (1 : Int32)), .unset] [(.int (own_sz n11 (own_add (own_add (fun _ => 0) v3) v5)))])) t
        refine XS.iconst X26.here hx rfl (hb hby at_193) ?_
        show Steps p.tables e below (T26.setTop (mkF m 194 #[.val (.int p0), .val (.int p1), .val (.int p2), .val (.int p3), .val (.int v1), .val (.int v3), .val (.int v5), .val (.int v7), .val (.ref b8), .val (.int (1 : Int32)), .val (.int (1 : Int32)), .val (.int (1 : Int32)), .val (.int (Own.b2i (own_has (own_add (own_add (fun _ => 0) v3) v5) v3))), .val (.int (Own.b2i (own_has (own_add (own_add (fun _ => 0) v3) v5) v5))), .val (.int (1 : Int32)), .unset] [(.int (2 : Int32)), (.int (own_sz n11 (own_add (own_add (fun _ => 0) v3) v5)))])) t
        exact k
      have hc31 : (own_sz n11 (own_add (own_add (fun _ => 0) v3) v5)) = (2 : Int32) := by rw [own_szT (own_in (own_rem (own_size hv1).1 hv3) hn11) (own_in (own_rem (own_size hv1).1 hv5) hn11)]; simp [hc27]
      refine hD _ (T26.setTop (mkF m 221 #[.val (.int p0), .val (.int p1), .val (.int p2), .val (.int p3), .val (.int v1), .val (.int v3), .val (.int v5), .val (.int v7), .val (.ref b8), .val (.int (1 : Int32)), .val (.int (1 : Int32)), .val (.int (1 : Int32)), .val (.int (Own.b2i (own_has (own_add (own_add (fun _ => 0) v3) v5) v3))), .val (.int (Own.b2i (own_has (own_add (own_add (fun _ => 0) v3) v5) v5))), .val (.int (1 : Int32)), .val (.int (1 : Int32))] [(.int (Own.b2i (own_has (own_add (own_add (fun _ => 0) v3) v5) v3)))])) (fun t k => ?_) ?_
      · show Steps p.tables e below (T26.setTop (mkF m 194 #[.val (.int p0), .val (.int p1), .val (.int p2), .val (.int p3), .val (.int v1), .val (.int v3), .val (.int v5), .val (.int v7), .val (.ref b8), .val (.int (1 : Int32)), .val (.int (1 : Int32)), .val (.int (1 : Int32)), .val (.int (Own.b2i (own_has (own_add (own_add (fun _ => 0) v3) v5) v3))), .val (.int (Own.b2i (own_has (own_add (own_add (fun _ => 0) v3) v5) v5))), .val (.int (1 : Int32)), .unset] [(.int (2 : Int32)), (.int (own_sz n11 (own_add (own_add (fun _ => 0) v3) v5)))])) t
        refine XS.icmpNo X26.here hx rfl (hb hby at_194) rfl (teq hc31).2 ?_
        show Steps p.tables e below (T26.setTop (mkF m 197 #[.val (.int p0), .val (.int p1), .val (.int p2), .val (.int p3), .val (.int v1), .val (.int v3), .val (.int v5), .val (.int v7), .val (.ref b8), .val (.int (1 : Int32)), .val (.int (1 : Int32)), .val (.int (1 : Int32)), .val (.int (Own.b2i (own_has (own_add (own_add (fun _ => 0) v3) v5) v3))), .val (.int (Own.b2i (own_has (own_add (own_add (fun _ => 0) v3) v5) v5))), .val (.int (1 : Int32)), .unset] [])) t
        refine XS.iconst X26.here hx rfl (hb hby at_197) ?_
        show Steps p.tables e below (T26.setTop (mkF m 198 #[.val (.int p0), .val (.int p1), .val (.int p2), .val (.int p3), .val (.int v1), .val (.int v3), .val (.int v5), .val (.int v7), .val (.ref b8), .val (.int (1 : Int32)), .val (.int (1 : Int32)), .val (.int (1 : Int32)), .val (.int (Own.b2i (own_has (own_add (own_add (fun _ => 0) v3) v5) v3))), .val (.int (Own.b2i (own_has (own_add (own_add (fun _ => 0) v3) v5) v5))), .val (.int (1 : Int32)), .unset] [(.int (1 : Int32))])) t
        refine XS.goto X26.here hx rfl (pc0 := 198) (pc' := 202) rfl (hb hby at_198) (by decide) (by decide) ?_
        show Steps p.tables e below (T26.setTop (mkF m 202 #[.val (.int p0), .val (.int p1), .val (.int p2), .val (.int p3), .val (.int v1), .val (.int v3), .val (.int v5), .val (.int v7), .val (.ref b8), .val (.int (1 : Int32)), .val (.int (1 : Int32)), .val (.int (1 : Int32)), .val (.int (Own.b2i (own_has (own_add (own_add (fun _ => 0) v3) v5) v3))), .val (.int (Own.b2i (own_has (own_add (own_add (fun _ => 0) v3) v5) v5))), .val (.int (1 : Int32)), .unset] [(.int (1 : Int32))])) t
        refine XS.istore X26.here hx rfl (hb hby at_202) rfl (l' := #[.val (.int p0), .val (.int p1), .val (.int p2), .val (.int p3), .val (.int v1), .val (.int v3), .val (.int v5), .val (.int v7), .val (.ref b8), .val (.int (1 : Int32)), .val (.int (1 : Int32)), .val (.int (1 : Int32)), .val (.int (Own.b2i (own_has (own_add (own_add (fun _ => 0) v3) v5) v3))), .val (.int (Own.b2i (own_has (own_add (own_add (fun _ => 0) v3) v5) v5))), .val (.int (1 : Int32)), .val (.int (1 : Int32))]) rfl ?_
        show Steps p.tables e below (T26.setTop (mkF m 204 #[.val (.int p0), .val (.int p1), .val (.int p2), .val (.int p3), .val (.int v1), .val (.int v3), .val (.int v5), .val (.int v7), .val (.ref b8), .val (.int (1 : Int32)), .val (.int (1 : Int32)), .val (.int (1 : Int32)), .val (.int (Own.b2i (own_has (own_add (own_add (fun _ => 0) v3) v5) v3))), .val (.int (Own.b2i (own_has (own_add (own_add (fun _ => 0) v3) v5) v5))), .val (.int (1 : Int32)), .val (.int (1 : Int32))] [])) t
        refine XS.iload X26.here hx rfl (hb hby at_204) rfl ?_
        show Steps p.tables e below (T26.setTop (mkF m 206 #[.val (.int p0), .val (.int p1), .val (.int p2), .val (.int p3), .val (.int v1), .val (.int v3), .val (.int v5), .val (.int v7), .val (.ref b8), .val (.int (1 : Int32)), .val (.int (1 : Int32)), .val (.int (1 : Int32)), .val (.int (Own.b2i (own_has (own_add (own_add (fun _ => 0) v3) v5) v3))), .val (.int (Own.b2i (own_has (own_add (own_add (fun _ => 0) v3) v5) v5))), .val (.int (1 : Int32)), .val (.int (1 : Int32))] [(.int (1 : Int32))])) t
        refine XS.ifNo X26.here hx rfl (hb hby at_206) rfl (by decide) ?_
        show Steps p.tables e below (T26.setTop (mkF m 209 #[.val (.int p0), .val (.int p1), .val (.int p2), .val (.int p3), .val (.int v1), .val (.int v3), .val (.int v5), .val (.int v7), .val (.ref b8), .val (.int (1 : Int32)), .val (.int (1 : Int32)), .val (.int (1 : Int32)), .val (.int (Own.b2i (own_has (own_add (own_add (fun _ => 0) v3) v5) v3))), .val (.int (Own.b2i (own_has (own_add (own_add (fun _ => 0) v3) v5) v5))), .val (.int (1 : Int32)), .val (.int (1 : Int32))] [])) t
        refine XS.iload X26.here hx rfl (hb hby at_209) rfl ?_
        show Steps p.tables e below (T26.setTop (mkF m 211 #[.val (.int p0), .val (.int p1), .val (.int p2), .val (.int p3), .val (.int v1), .val (.int v3), .val (.int v5), .val (.int v7), .val (.ref b8), .val (.int (1 : Int32)), .val (.int (1 : Int32)), .val (.int (1 : Int32)), .val (.int (Own.b2i (own_has (own_add (own_add (fun _ => 0) v3) v5) v3))), .val (.int (Own.b2i (own_has (own_add (own_add (fun _ => 0) v3) v5) v5))), .val (.int (1 : Int32)), .val (.int (1 : Int32))] [(.int (1 : Int32))])) t
        refine XS.ifNo X26.here hx rfl (hb hby at_211) rfl (by decide) ?_
        show Steps p.tables e below (T26.setTop (mkF m 214 #[.val (.int p0), .val (.int p1), .val (.int p2), .val (.int p3), .val (.int v1), .val (.int v3), .val (.int v5), .val (.int v7), .val (.ref b8), .val (.int (1 : Int32)), .val (.int (1 : Int32)), .val (.int (1 : Int32)), .val (.int (Own.b2i (own_has (own_add (own_add (fun _ => 0) v3) v5) v3))), .val (.int (Own.b2i (own_has (own_add (own_add (fun _ => 0) v3) v5) v5))), .val (.int (1 : Int32)), .val (.int (1 : Int32))] [])) t
        refine XS.iload X26.here hx rfl (hb hby at_214) rfl ?_
        show Steps p.tables e below (T26.setTop (mkF m 216 #[.val (.int p0), .val (.int p1), .val (.int p2), .val (.int p3), .val (.int v1), .val (.int v3), .val (.int v5), .val (.int v7), .val (.ref b8), .val (.int (1 : Int32)), .val (.int (1 : Int32)), .val (.int (1 : Int32)), .val (.int (Own.b2i (own_has (own_add (own_add (fun _ => 0) v3) v5) v3))), .val (.int (Own.b2i (own_has (own_add (own_add (fun _ => 0) v3) v5) v5))), .val (.int (1 : Int32)), .val (.int (1 : Int32))] [(.int (1 : Int32))])) t
        refine XS.ifNo X26.here hx rfl (hb hby at_216) rfl (by decide) ?_
        show Steps p.tables e below (T26.setTop (mkF m 219 #[.val (.int p0), .val (.int p1), .val (.int p2), .val (.int p3), .val (.int v1), .val (.int v3), .val (.int v5), .val (.int v7), .val (.ref b8), .val (.int (1 : Int32)), .val (.int (1 : Int32)), .val (.int (1 : Int32)), .val (.int (Own.b2i (own_has (own_add (own_add (fun _ => 0) v3) v5) v3))), .val (.int (Own.b2i (own_has (own_add (own_add (fun _ => 0) v3) v5) v5))), .val (.int (1 : Int32)), .val (.int (1 : Int32))] [])) t
        refine XS.iload X26.here hx rfl (hb hby at_219) rfl ?_
        show Steps p.tables e below (T26.setTop (mkF m 221 #[.val (.int p0), .val (.int p1), .val (.int p2), .val (.int p3), .val (.int v1), .val (.int v3), .val (.int v5), .val (.int v7), .val (.ref b8), .val (.int (1 : Int32)), .val (.int (1 : Int32)), .val (.int (1 : Int32)), .val (.int (Own.b2i (own_has (own_add (own_add (fun _ => 0) v3) v5) v3))), .val (.int (Own.b2i (own_has (own_add (own_add (fun _ => 0) v3) v5) v5))), .val (.int (1 : Int32)), .val (.int (1 : Int32))] [(.int (Own.b2i (own_has (own_add (own_add (fun _ => 0) v3) v5) v3)))])) t
        exact k
      have hc32 : (own_has (own_add (own_add (fun _ => 0) v3) v5) v3) = true := by rw [own_h2 (own_rem (own_size hv1).1 hv3).1 (own_rem (own_size hv1).1 hv5).1 (own_rem (own_size hv1).1 hv3).1]; simp
      refine hD _ (T26.setTop (mkF m 226 #[.val (.int p0), .val (.int p1), .val (.int p2), .val (.int p3), .val (.int v1), .val (.int v3), .val (.int v5), .val (.int v7), .val (.ref b8), .val (.int (1 : Int32)), .val (.int (1 : Int32)), .val (.int (1 : Int32)), .val (.int (Own.b2i (own_has (own_add (own_add (fun _ => 0) v3) v5) v3))), .val (.int (Own.b2i (own_has (own_add (own_add (fun _ => 0) v3) v5) v5))), .val (.int (1 : Int32)), .val (.int (1 : Int32))] [(.int (Own.b2i (own_has (own_add (own_add (fun _ => 0) v3) v5) v5)))])) (fun t k => ?_) ?_
      · show Steps p.tables e below (T26.setTop (mkF m 221 #[.val (.int p0), .val (.int p1), .val (.int p2), .val (.int p3), .val (.int v1), .val (.int v3), .val (.int v5), .val (.int v7), .val (.ref b8), .val (.int (1 : Int32)), .val (.int (1 : Int32)), .val (.int (1 : Int32)), .val (.int (Own.b2i (own_has (own_add (own_add (fun _ => 0) v3) v5) v3))), .val (.int (Own.b2i (own_has (own_add (own_add (fun _ => 0) v3) v5) v5))), .val (.int (1 : Int32)), .val (.int (1 : Int32))] [(.int (Own.b2i (own_has (own_add (own_add (fun _ => 0) v3) v5) v3)))])) t
        refine XS.ifNo X26.here hx rfl (hb hby at_221) rfl ((if0 _ _).trans (feq (fun q => Own.b2i_eq0.mp q hc32)).1) ?_
        show Steps p.tables e below (T26.setTop (mkF m 224 #[.val (.int p0), .val (.int p1), .val (.int p2), .val (.int p3), .val (.int v1), .val (.int v3), .val (.int v5), .val (.int v7), .val (.ref b8), .val (.int (1 : Int32)), .val (.int (1 : Int32)), .val (.int (1 : Int32)), .val (.int (Own.b2i (own_has (own_add (own_add (fun _ => 0) v3) v5) v3))), .val (.int (Own.b2i (own_has (own_add (own_add (fun _ => 0) v3) v5) v5))), .val (.int (1 : Int32)), .val (.int (1 : Int32))] [])) t
        refine XS.iload X26.here hx rfl (hb hby at_224) rfl ?_
        show Steps p.tables e below (T26.setTop (mkF m 226 #[.val (.int p0), .val (.int p1), .val (.int p2), .val (.int p3), .val (.int v1), .val (.int v3), .val (.int v5), .val (.int v7), .val (.ref b8), .val (.int (1 : Int32)), .val (.int (1 : Int32)), .val (.int (1 : Int32)), .val (.int (Own.b2i (own_has (own_add (own_add (fun _ => 0) v3) v5) v3))), .val (.int (Own.b2i (own_has (own_add (own_add (fun _ => 0) v3) v5) v5))), .val (.int (1 : Int32)), .val (.int (1 : Int32))] [(.int (Own.b2i (own_has (own_add (own_add (fun _ => 0) v3) v5) v5)))])) t
        exact k
      have hc33 : (own_has (own_add (own_add (fun _ => 0) v3) v5) v5) = true := by rw [own_h2 (own_rem (own_size hv1).1 hv3).1 (own_rem (own_size hv1).1 hv5).1 (own_rem (own_size hv1).1 hv5).1]; simp
      refine hD _ (T26.setTop (mkF m 244 #[.val (.int p0), .val (.int p1), .val (.int p2), .val (.int p3), .val (.int v1), .val (.int v3), .val (.int v5), .val (.int v7), .val (.ref b8), .val (.int (1 : Int32)), .val (.int (1 : Int32)), .val (.int (1 : Int32)), .val (.int (Own.b2i (own_has (own_add (own_add (fun _ => 0) v3) v5) v3))), .val (.int (Own.b2i (own_has (own_add (own_add (fun _ => 0) v3) v5) v5))), .val (.int (1 : Int32)), .val (.int (1 : Int32))] [(.int (1 : Int32))])) (fun t k => ?_) ?_
      · show Steps p.tables e below (T26.setTop (mkF m 226 #[.val (.int p0), .val (.int p1), .val (.int p2), .val (.int p3), .val (.int v1), .val (.int v3), .val (.int v5), .val (.int v7), .val (.ref b8), .val (.int (1 : Int32)), .val (.int (1 : Int32)), .val (.int (1 : Int32)), .val (.int (Own.b2i (own_has (own_add (own_add (fun _ => 0) v3) v5) v3))), .val (.int (Own.b2i (own_has (own_add (own_add (fun _ => 0) v3) v5) v5))), .val (.int (1 : Int32)), .val (.int (1 : Int32))] [(.int (Own.b2i (own_has (own_add (own_add (fun _ => 0) v3) v5) v5)))])) t
        refine XS.ifNo X26.here hx rfl (hb hby at_226) rfl ((if0 _ _).trans (feq (fun q => Own.b2i_eq0.mp q hc33)).1) ?_
        show Steps p.tables e below (T26.setTop (mkF m 229 #[.val (.int p0), .val (.int p1), .val (.int p2), .val (.int p3), .val (.int v1), .val (.int v3), .val (.int v5), .val (.int v7), .val (.ref b8), .val (.int (1 : Int32)), .val (.int (1 : Int32)), .val (.int (1 : Int32)), .val (.int (Own.b2i (own_has (own_add (own_add (fun _ => 0) v3) v5) v3))), .val (.int (Own.b2i (own_has (own_add (own_add (fun _ => 0) v3) v5) v5))), .val (.int (1 : Int32)), .val (.int (1 : Int32))] [])) t
        refine XS.iload X26.here hx rfl (hb hby at_229) rfl ?_
        show Steps p.tables e below (T26.setTop (mkF m 231 #[.val (.int p0), .val (.int p1), .val (.int p2), .val (.int p3), .val (.int v1), .val (.int v3), .val (.int v5), .val (.int v7), .val (.ref b8), .val (.int (1 : Int32)), .val (.int (1 : Int32)), .val (.int (1 : Int32)), .val (.int (Own.b2i (own_has (own_add (own_add (fun _ => 0) v3) v5) v3))), .val (.int (Own.b2i (own_has (own_add (own_add (fun _ => 0) v3) v5) v5))), .val (.int (1 : Int32)), .val (.int (1 : Int32))] [(.int (1 : Int32))])) t
        refine XS.ifNo X26.here hx rfl (hb hby at_231) rfl (by decide) ?_
        show Steps p.tables e below (T26.setTop (mkF m 234 #[.val (.int p0), .val (.int p1), .val (.int p2), .val (.int p3), .val (.int v1), .val (.int v3), .val (.int v5), .val (.int v7), .val (.ref b8), .val (.int (1 : Int32)), .val (.int (1 : Int32)), .val (.int (1 : Int32)), .val (.int (Own.b2i (own_has (own_add (own_add (fun _ => 0) v3) v5) v3))), .val (.int (Own.b2i (own_has (own_add (own_add (fun _ => 0) v3) v5) v5))), .val (.int (1 : Int32)), .val (.int (1 : Int32))] [])) t
        refine XS.iload X26.here hx rfl (hb hby at_234) rfl ?_
        show Steps p.tables e below (T26.setTop (mkF m 236 #[.val (.int p0), .val (.int p1), .val (.int p2), .val (.int p3), .val (.int v1), .val (.int v3), .val (.int v5), .val (.int v7), .val (.ref b8), .val (.int (1 : Int32)), .val (.int (1 : Int32)), .val (.int (1 : Int32)), .val (.int (Own.b2i (own_has (own_add (own_add (fun _ => 0) v3) v5) v3))), .val (.int (Own.b2i (own_has (own_add (own_add (fun _ => 0) v3) v5) v5))), .val (.int (1 : Int32)), .val (.int (1 : Int32))] [(.int (1 : Int32))])) t
        refine XS.ifNo X26.here hx rfl (hb hby at_236) rfl (by decide) ?_
        show Steps p.tables e below (T26.setTop (mkF m 239 #[.val (.int p0), .val (.int p1), .val (.int p2), .val (.int p3), .val (.int v1), .val (.int v3), .val (.int v5), .val (.int v7), .val (.ref b8), .val (.int (1 : Int32)), .val (.int (1 : Int32)), .val (.int (1 : Int32)), .val (.int (Own.b2i (own_has (own_add (own_add (fun _ => 0) v3) v5) v3))), .val (.int (Own.b2i (own_has (own_add (own_add (fun _ => 0) v3) v5) v5))), .val (.int (1 : Int32)), .val (.int (1 : Int32))] [])) t
        refine XS.iconst X26.here hx rfl (hb hby at_239) ?_
        show Steps p.tables e below (T26.setTop (mkF m 240 #[.val (.int p0), .val (.int p1), .val (.int p2), .val (.int p3), .val (.int v1), .val (.int v3), .val (.int v5), .val (.int v7), .val (.ref b8), .val (.int (1 : Int32)), .val (.int (1 : Int32)), .val (.int (1 : Int32)), .val (.int (Own.b2i (own_has (own_add (own_add (fun _ => 0) v3) v5) v3))), .val (.int (Own.b2i (own_has (own_add (own_add (fun _ => 0) v3) v5) v5))), .val (.int (1 : Int32)), .val (.int (1 : Int32))] [(.int (1 : Int32))])) t
        refine XS.goto X26.here hx rfl (pc0 := 240) (pc' := 244) rfl (hb hby at_240) (by decide) (by decide) ?_
        show Steps p.tables e below (T26.setTop (mkF m 244 #[.val (.int p0), .val (.int p1), .val (.int p2), .val (.int p3), .val (.int v1), .val (.int v3), .val (.int v5), .val (.int v7), .val (.ref b8), .val (.int (1 : Int32)), .val (.int (1 : Int32)), .val (.int (1 : Int32)), .val (.int (Own.b2i (own_has (own_add (own_add (fun _ => 0) v3) v5) v3))), .val (.int (Own.b2i (own_has (own_add (own_add (fun _ => 0) v3) v5) v5))), .val (.int (1 : Int32)), .val (.int (1 : Int32))] [(.int (1 : Int32))])) t
        exact k
      exact Own.retN hR X26 hx (t := .boolean) hret (by simp) (hb hby at_244) (by decide) (by decide) (by decide) ⟨rfl, N26⟩
  · refine hD _ (T15.setTop (mkF m 90 #[.val (.int p0), .val (.int p1), .val (.int p2), .val (.int p3), .val (.int v1), .val (.int v3), .val (.int v5), .val (.int v7), .val (.ref b8), .val (.int (1 : Int32)), .unset, .unset, .unset, .unset, .unset, .unset] [(.int (0 : Int32)), (.int (Own.b2i (own_has (own_add (fun _ => 0) v3) v7)))])) (fun t k => ?_) ?_
    · show Steps p.tables e below (T15.setTop (mkF m 82 #[.val (.int p0), .val (.int p1), .val (.int p2), .val (.int p3), .val (.int v1), .val (.int v3), .val (.int v5), .val (.int v7), .val (.ref b8), .val (.int (1 : Int32)), .unset, .unset, .unset, .unset, .unset, .unset] [(.int v3), (.int v7), (.int (Own.b2i (own_has (own_add (fun _ => 0) v3) v7)))])) t
      refine XS.icmpYes X15.here hx rfl (pc0 := 82) (pc' := 89) rfl (hb hby at_82) rfl (feq hc16).2 (by decide) (by decide) ?_
      show Steps p.tables e below (T15.setTop (mkF m 89 #[.val (.int p0), .val (.int p1), .val (.int p2), .val (.int p3), .val (.int v1), .val (.int v3), .val (.int v5), .val (.int v7), .val (.ref b8), .val (.int (1 : Int32)), .unset, .unset, .unset, .unset, .unset, .unset] [(.int (Own.b2i (own_has (own_add (fun _ => 0) v3) v7)))])) t
      refine XS.iconst X15.here hx rfl (hb hby at_89) ?_
      show Steps p.tables e below (T15.setTop (mkF m 90 #[.val (.int p0), .val (.int p1), .val (.int p2), .val (.int p3), .val (.int v1), .val (.int v3), .val (.int v5), .val (.int v7), .val (.ref b8), .val (.int (1 : Int32)), .unset, .unset, .unset, .unset, .unset, .unset] [(.int (0 : Int32)), (.int (Own.b2i (own_has (own_add (fun _ => 0) v3) v7)))])) t
      exact k
    have hc34 : (Own.b2i (own_has (own_add (fun _ => 0) v3) v7)) = (0 : Int32) := by rw [own_h1 (own_rem (own_size hv1).1 hv3).1 (own_rem (own_size hv1).1 hv7).1]; simp [Own.b2i, hc16]
    obtain ⟨T35, _, L35, X35, ⟨rfl, Nq35, e35⟩, st35⟩ := Own.callV (y := (⟨"com/example/sluice/sluice/FieldSet", "size", "()I"⟩ : MethodName)) (W := 0) (argsL := []) (rest := []) (a := b8) X15 hx hZ hown (hw _ (List.mem_of_getElem? (i := 24) rfl)) (hw _ (List.mem_of_getElem? (i := 25) rfl)) (hw _ (List.mem_of_getElem? (i := 27) rfl)) (hw _ (List.mem_of_getElem? (i := 26) rfl)) (hw _ (List.mem_of_getElem? (i := 3) rfl)) (hw _ (List.mem_of_getElem? (i := 28) rfl)) (by decide) e15 FS14.1 (rm5 l Z a0 hw [] b8 r11 n11 (own_add (fun _ => 0) v3) T14.heap n0 FS14) (by decide) (by decide) (by decide) (by decide) (g := (mkF m 102 #[.val (.int p0), .val (.int p1), .val (.int p2), .val (.int p3), .val (.int v1), .val (.int v3), .val (.int v5), .val (.int v7), .val (.ref b8), .val (.int (1 : Int32)), .val (.int (1 : Int32)), .unset, .unset, .unset, .unset, .unset] [(.ref b8)])) rfl (by rw [hml]; rfl) (lenOf pd_3 rfl) rfl (by show 2 * 0 + _ ≤ _; exact Nat.le_of_eq rfl) (hb hby at_102)
    have N35 := Fr.app N15 Nq35
    refine hD _ (T35.setTop (mkF m 106 #[.val (.int p0), .val (.int p1), .val (.int p2), .val (.int p3), .val (.int v1), .val (.int v3), .val (.int v5), .val (.int v7), .val (.ref b8), .val (.int (1 : Int32)), .val (.int (1 : Int32)), .unset, .unset, .unset, .unset, .unset] [(.int (1 : Int32)), (.int (own_sz n11 (own_add (fun _ => 0) v3)))])) (fun t k => ?_) ?_
    · show Steps p.tables e below (T15.setTop (mkF m 90 #[.val (.int p0), .val (.int p1), .val (.int p2), .val (.int p3), .val (.int v1), .val (.int v3), .val (.int v5), .val (.int v7), .val (.ref b8), .val (.int (1 : Int32)), .unset, .unset, .unset, .unset, .unset, .unset] [(.int (0 : Int32)), (.int (Own.b2i (own_has (own_add (fun _ => 0) v3) v7)))])) t
      refine XS.icmpNo X15.here hx rfl (hb hby at_90) rfl (teq hc34).2 ?_
      show Steps p.tables e below (T15.setTop (mkF m 93 #[.val (.int p0), .val (.int p1), .val (.int p2), .val (.int p3), .val (.int v1), .val (.int v3), .val (.int v5), .val (.int v7), .val (.ref b8), .val (.int (1 : Int32)), .unset, .unset, .unset, .unset, .unset, .unset] [])) t
      refine XS.iconst X15.here hx rfl (hb hby at_93) ?_
      show Steps p.tables e below (T15.setTop (mkF m 94 #[.val (.int p0), .val (.int p1), .val (.int p2), .val (.int p3), .val (.int v1), .val (.int v3), .val (.int v5), .val (.int v7), .val (.ref b8), .val (.int (1 : Int32)), .unset, .unset, .unset, .unset, .unset, .unset] [(.int (1 : Int32))])) t
      refine XS.goto X15.here hx rfl (pc0 := 94) (pc' := 98) rfl (hb hby at_94) (by decide) (by decide) ?_
      show Steps p.tables e below (T15.setTop (mkF m 98 #[.val (.int p0), .val (.int p1), .val (.int p2), .val (.int p3), .val (.int v1), .val (.int v3), .val (.int v5), .val (.int v7), .val (.ref b8), .val (.int (1 : Int32)), .unset, .unset, .unset, .unset, .unset, .unset] [(.int (1 : Int32))])) t
      refine XS.istore X15.here hx rfl (hb hby at_98) rfl (l' := #[.val (.int p0), .val (.int p1), .val (.int p2), .val (.int p3), .val (.int v1), .val (.int v3), .val (.int v5), .val (.int v7), .val (.ref b8), .val (.int (1 : Int32)), .val (.int (1 : Int32)), .unset, .unset, .unset, .unset, .unset]) rfl ?_
      show Steps p.tables e below (T15.setTop (mkF m 100 #[.val (.int p0), .val (.int p1), .val (.int p2), .val (.int p3), .val (.int v1), .val (.int v3), .val (.int v5), .val (.int v7), .val (.ref b8), .val (.int (1 : Int32)), .val (.int (1 : Int32)), .unset, .unset, .unset, .unset, .unset] [])) t
      refine XS.aload X15.here hx rfl (hb hby at_100) rfl rfl ?_
      show Steps p.tables e below (T15.setTop (mkF m 102 #[.val (.int p0), .val (.int p1), .val (.int p2), .val (.int p3), .val (.int v1), .val (.int v3), .val (.int v5), .val (.int v7), .val (.ref b8), .val (.int (1 : Int32)), .val (.int (1 : Int32)), .unset, .unset, .unset, .unset, .unset] [(.ref b8)])) t
      refine st35 _ ?_
      show Steps p.tables e below (T35.setTop (mkF m 105 #[.val (.int p0), .val (.int p1), .val (.int p2), .val (.int p3), .val (.int v1), .val (.int v3), .val (.int v5), .val (.int v7), .val (.ref b8), .val (.int (1 : Int32)), .val (.int (1 : Int32)), .unset, .unset, .unset, .unset, .unset] [(.int (own_sz n11 (own_add (fun _ => 0) v3)))])) t
      refine XS.iconst X35.here hx rfl (hb hby at_105) ?_
      show Steps p.tables e below (T35.setTop (mkF m 106 #[.val (.int p0), .val (.int p1), .val (.int p2), .val (.int p3), .val (.int v1), .val (.int v3), .val (.int v5), .val (.int v7), .val (.ref b8), .val (.int (1 : Int32)), .val (.int (1 : Int32)), .unset, .unset, .unset, .unset, .unset] [(.int (1 : Int32)), (.int (own_sz n11 (own_add (fun _ => 0) v3)))])) t
      exact k
    have hc36 : (own_sz n11 (own_add (fun _ => 0) v3)) = (1 : Int32) := own_szS (own_in (own_rem (own_size hv1).1 hv3) hn11)
    obtain ⟨T37, _, L37, X37, ⟨rfl, Nq37, Kq37, FS37⟩, st37⟩ := Own.callV (y := (⟨"com/example/sluice/sluice/FieldSet", "add", "(I)V"⟩ : MethodName)) (W := 0) (argsL := [(.int v5)]) (rest := []) (a := b8) X35 hx hZ hown (hw _ (List.mem_of_getElem? (i := 19) rfl)) (hw _ (List.mem_of_getElem? (i := 20) rfl)) (hw _ (List.mem_of_getElem? (i := 22) rfl)) (hw _ (List.mem_of_getElem? (i := 21) rfl)) (hw _ (List.mem_of_getElem? (i := 3) rfl)) (hw _ (List.mem_of_getElem? (i := 23) rfl)) (by decide) e35 FS14.1 (rm2 l Z a0 hw [] b8 v5 r11 n11 (own_add (fun _ => 0) v3) T14.heap n0 Z14 g0_b8 g0_r11 (own_in (own_rem (own_size hv1).1 hv5) hn11) FS14) (by decide) (by decide) (by decide) (by decide) (g := (mkF m 120 #[.val (.int p0), .val (.int p1), .val (.int p2), .val (.int p3), .val (.int v1), .val (.int v3), .val (.int v5), .val (.int v7), .val (.ref b8), .val (.int (1 : Int32)), .val (.int (1 : Int32)), .val (.int (1 : Int32)), .unset, .unset, .unset, .unset] [(.int v5), (.ref b8)])) rfl (by rw [hml]; rfl) (lenOf pd_1 rfl) rfl (by show 2 * 0 + _ ≤ _; exact Nat.le_of_eq rfl) (hb hby at_120)
    have N37 := Fr.app N35 Nq37
    have Z37 : n0 ≤ T37.heap.size := Nat.le_trans Z14 Kq37.1
    obtain ⟨T38, _, L38, X38, ⟨rfl, Nq38, e38⟩, st38⟩ := Own.callV (y := (⟨"com/example/sluice/sluice/FieldSet", "contains", "(I)Z"⟩ : MethodName)) (W := 0) (argsL := [(.int v3)]) (rest := []) (a := b8) X37 hx hZ hown (hw _ (List.mem_of_getElem? (i := 12) rfl)) (hw _ (List.mem_of_getElem? (i := 13) rfl)) (hw _ (List.mem_of_getElem? (i := 15) rfl)) (hw _ (List.mem_of_getElem? (i := 14) rfl)) (hw _ (List.mem_of_getElem? (i := 3) rfl)) (hw _ (List.mem_of_getElem? (i := 16) rfl)) (by decide) rfl FS37.1 (rm3 l Z a0 hw [] b8 v3 r11 n11 (own_add (own_add (fun _ => 0) v3) v5) T37.heap n0 (own_in (own_rem (own_size hv1).1 hv3) hn11) FS37) (by decide) (by decide) (by decide) (by decide) (g := (mkF m 127 #[.val (.int p0), .val (.int p1), .val (.int p2), .val (.int p3), .val (.int v1), .val (.int v3), .val (.int v5), .val (.int v7), .val (.ref b8), .val (.int (1 : Int32)), .val (.int (1 : Int32)), .val (.int (1 : Int32)), .unset, .unset, .unset, .unset] [(.int v3), (.ref b8)])) rfl (by rw [hml]; rfl) (lenOf pd_2 rfl) rfl (by show 2 * 0 + _ ≤ _; exact Nat.le_of_eq rfl) (hb hby at_127)
    have N38 := Fr.app N37 Nq38
    obtain ⟨T39, _, L39, X39, ⟨rfl, Nq39, e39⟩, st39⟩ := Own.callV (y := (⟨"com/example/sluice/sluice/FieldSet", "contains", "(I)Z"⟩ : MethodName)) (W := 0) (argsL := [(.int v5)]) (rest := []) (a := b8) X38 hx hZ hown (hw _ (List.mem_of_getElem? (i := 12) rfl)) (hw _ (List.mem_of_getElem? (i := 13) rfl)) (hw _ (List.mem_of_getElem? (i := 15) rfl)) (hw _ (List.mem_of_getElem? (i := 14) rfl)) (hw _ (List.mem_of_getElem? (i := 3) rfl)) (hw _ (List.mem_of_getElem? (i := 16) rfl)) (by decide) e38 FS37.1 (rm3 l Z a0 hw [] b8 v5 r11 n11 (own_add (own_add (fun _ => 0) v3) v5) T37.heap n0 (own_in (own_rem (own_size hv1).1 hv5) hn11) FS37) (by decide) (by decide) (by decide) (by decide) (g := (mkF m 136 #[.val (.int p0), .val (.int p1), .val (.int p2), .val (.int p3), .val (.int v1), .val (.int v3), .val (.int v5), .val (.int v7), .val (.ref b8), .val (.int (1 : Int32)), .val (.int (1 : Int32)), .val (.int (1 : Int32)), .val (.int (Own.b2i (own_has (own_add (own_add (fun _ => 0) v3) v5) v3))), .unset, .unset, .unset] [(.int v5), (.ref b8)])) rfl (by rw [hml]; rfl) (lenOf pd_2 rfl) rfl (by show 2 * 0 + _ ≤ _; exact Nat.le_of_eq rfl) (hb hby at_136)
    have N39 := Fr.app N38 Nq39
    obtain ⟨T40, _, L40, X40, ⟨rfl, Nq40, e40⟩, st40⟩ := Own.callV (y := (⟨"com/example/sluice/sluice/FieldSet", "contains", "(I)Z"⟩ : MethodName)) (W := 0) (argsL := [(.int v7)]) (rest := []) (a := b8) X39 hx hZ hown (hw _ (List.mem_of_getElem? (i := 12) rfl)) (hw _ (List.mem_of_getElem? (i := 13) rfl)) (hw _ (List.mem_of_getElem? (i := 15) rfl)) (hw _ (List.mem_of_getElem? (i := 14) rfl)) (hw _ (List.mem_of_getElem? (i := 3) rfl)) (hw _ (List.mem_of_getElem? (i := 16) rfl)) (by decide) e39 FS37.1 (rm3 l Z a0 hw [] b8 v7 r11 n11 (own_add (own_add (fun _ => 0) v3) v5) T37.heap n0 (own_in (own_rem (own_size hv1).1 hv7) hn11) FS37) (by decide) (by decide) (by decide) (by decide) (g := (mkF m 145 #[.val (.int p0), .val (.int p1), .val (.int p2), .val (.int p3), .val (.int v1), .val (.int v3), .val (.int v5), .val (.int v7), .val (.ref b8), .val (.int (1 : Int32)), .val (.int (1 : Int32)), .val (.int (1 : Int32)), .val (.int (Own.b2i (own_has (own_add (own_add (fun _ => 0) v3) v5) v3))), .val (.int (Own.b2i (own_has (own_add (own_add (fun _ => 0) v3) v5) v5))), .unset, .unset] [(.int v7), (.ref b8)])) rfl (by rw [hml]; rfl) (lenOf pd_2 rfl) rfl (by show 2 * 0 + _ ≤ _; exact Nat.le_of_eq rfl) (hb hby at_145)
    have N40 := Fr.app N39 Nq40
    refine hD _ (T40.setTop (mkF m 152 #[.val (.int p0), .val (.int p1), .val (.int p2), .val (.int p3), .val (.int v1), .val (.int v3), .val (.int v5), .val (.int v7), .val (.ref b8), .val (.int (1 : Int32)), .val (.int (1 : Int32)), .val (.int (1 : Int32)), .val (.int (Own.b2i (own_has (own_add (own_add (fun _ => 0) v3) v5) v3))), .val (.int (Own.b2i (own_has (own_add (own_add (fun _ => 0) v3) v5) v5))), .unset, .unset] [(.int v3), (.int v7), (.int (Own.b2i (own_has (own_add (own_add (fun _ => 0) v3) v5) v7)))])) (fun t k => ?_) ?_
    · show Steps p.tables e below (T35.setTop (mkF m 106 #[.val (.int p0), .val (.int p1), .val (.int p2), .val (.int p3), .val (.int v1), .val (.int v3), .val (.int v5), .val (.int v7), .val (.ref b8), .val (.int (1 : Int32)), .val (.int (1 : Int32)), .unset, .unset, .unset, .unset, .unset] [(.int (1 : Int32)), (.int (own_sz n11 (own_add (fun _ => 0) v3)))])) t
      refine XS.icmpNo X35.here hx rfl (hb hby at_106) rfl (teq hc36).2 ?_
      show Steps p.tables e below (T35.setTop (mkF m 109 #[.val (.int p0), .val (.int p1), .val (.int p2), .val (.int p3), .val (.int v1), .val (.int v3), .val (.int v5), .val (.int v7), .val (.ref b8), .val (.int (1 : Int32)), .val (.int (1 : Int32)), .unset, .unset, .unset, .unset, .unset] [])) t
      refine XS.iconst X35.here hx rfl (hb hby at_109) ?_
      show Steps p.tables e below (T35.setTop (mkF m 110 #[.val (.int p0), .val (.int p1), .val (.int p2), .val (.int p3), .val (.int v1), .val (.int v3), .val (.int v5), .val (.int v7), .val (.ref b8), .val (.int (1 : Int32)), .val (.int (1 : Int32)), .unset, .unset, .unset, .unset, .unset] [(.int (1 : Int32))])) t
      refine XS.goto X35.here hx rfl (pc0 := 110) (pc' := 114) rfl (hb hby at_110) (by decide) (by decide) ?_
      show Steps p.tables e below (T35.setTop (mkF m 114 #[.val (.int p0), .val (.int p1), .val (.int p2), .val (.int p3), .val (.int v1), .val (.int v3), .val (.int v5), .val (.int v7), .val (.ref b8), .val (.int (1 : Int32)), .val (.int (1 : Int32)), .unset, .unset, .unset, .unset, .unset] [(.int (1 : Int32))])) t
      refine XS.istore X35.here hx rfl (hb hby at_114) rfl (l' := #[.val (.int p0), .val (.int p1), .val (.int p2), .val (.int p3), .val (.int v1), .val (.int v3), .val (.int v5), .val (.int v7), .val (.ref b8), .val (.int (1 : Int32)), .val (.int (1 : Int32)), .val (.int (1 : Int32)), .unset, .unset, .unset, .unset]) rfl ?_
      show Steps p.tables e below (T35.setTop (mkF m 116 #[.val (.int p0), .val (.int p1), .val (.int p2), .val (.int p3), .val (.int v1), .val (.int v3), .val (.int v5), .val (.int v7), .val (.ref b8), .val (.int (1 : Int32)), .val (.int (1 : Int32)), .val (.int (1 : Int32)), .unset, .unset, .unset, .unset] [])) t
      refine XS.aload X35.here hx rfl (hb hby at_116) rfl rfl ?_
      show Steps p.tables e below (T35.setTop (mkF m 118 #[.val (.int p0), .val (.int p1), .val (.int p2), .val (.int p3), .val (.int v1), .val (.int v3), .val (.int v5), .val (.int v7), .val (.ref b8), .val (.int (1 : Int32)), .val (.int (1 : Int32)), .val (.int (1 : Int32)), .unset, .unset, .unset, .unset] [(.ref b8)])) t
      refine XS.iload X35.here hx rfl (hb hby at_118) rfl ?_
      show Steps p.tables e below (T35.setTop (mkF m 120 #[.val (.int p0), .val (.int p1), .val (.int p2), .val (.int p3), .val (.int v1), .val (.int v3), .val (.int v5), .val (.int v7), .val (.ref b8), .val (.int (1 : Int32)), .val (.int (1 : Int32)), .val (.int (1 : Int32)), .unset, .unset, .unset, .unset] [(.int v5), (.ref b8)])) t
      refine st37 _ ?_
      show Steps p.tables e below (T37.setTop (mkF m 123 #[.val (.int p0), .val (.int p1), .val (.int p2), .val (.int p3), .val (.int v1), .val (.int v3), .val (.int v5), .val (.int v7), .val (.ref b8), .val (.int (1 : Int32)), .val (.int (1 : Int32)), .val (.int (1 : Int32)), .unset, .unset, .unset, .unset] [])) t
      refine XS.aload X37.here hx rfl (hb hby at_123) rfl rfl ?_
      show Steps p.tables e below (T37.setTop (mkF m 125 #[.val (.int p0), .val (.int p1), .val (.int p2), .val (.int p3), .val (.int v1), .val (.int v3), .val (.int v5), .val (.int v7), .val (.ref b8), .val (.int (1 : Int32)), .val (.int (1 : Int32)), .val (.int (1 : Int32)), .unset, .unset, .unset, .unset] [(.ref b8)])) t
      refine XS.iload X37.here hx rfl (hb hby at_125) rfl ?_
      show Steps p.tables e below (T37.setTop (mkF m 127 #[.val (.int p0), .val (.int p1), .val (.int p2), .val (.int p3), .val (.int v1), .val (.int v3), .val (.int v5), .val (.int v7), .val (.ref b8), .val (.int (1 : Int32)), .val (.int (1 : Int32)), .val (.int (1 : Int32)), .unset, .unset, .unset, .unset] [(.int v3), (.ref b8)])) t
      refine st38 _ ?_
      show Steps p.tables e below (T38.setTop (mkF m 130 #[.val (.int p0), .val (.int p1), .val (.int p2), .val (.int p3), .val (.int v1), .val (.int v3), .val (.int v5), .val (.int v7), .val (.ref b8), .val (.int (1 : Int32)), .val (.int (1 : Int32)), .val (.int (1 : Int32)), .unset, .unset, .unset, .unset] [(.int (Own.b2i (own_has (own_add (own_add (fun _ => 0) v3) v5) v3)))])) t
      refine XS.istore X38.here hx rfl (hb hby at_130) rfl (l' := #[.val (.int p0), .val (.int p1), .val (.int p2), .val (.int p3), .val (.int v1), .val (.int v3), .val (.int v5), .val (.int v7), .val (.ref b8), .val (.int (1 : Int32)), .val (.int (1 : Int32)), .val (.int (1 : Int32)), .val (.int (Own.b2i (own_has (own_add (own_add (fun _ => 0) v3) v5) v3))), .unset, .unset, .unset]) rfl ?_
      show Steps p.tables e below (T38.setTop (mkF m 132 #[.val (.int p0), .val (.int p1), .val (.int p2), .val (.int p3), .val (.int v1), .val (.int v3), .val (.int v5), .val (.int v7), .val (.ref b8), .val (.int (1 : Int32)), .val (.int (1 : Int32)), .val (.int (1 : Int32)), .val (.int (Own.b2i (own_has (own_add (own_add (fun _ => 0) v3) v5) v3))), .unset, .unset, .unset] [])) t
      refine XS.aload X38.here hx rfl (hb hby at_132) rfl rfl ?_
      show Steps p.tables e below (T38.setTop (mkF m 134 #[.val (.int p0), .val (.int p1), .val (.int p2), .val (.int p3), .val (.int v1), .val (.int v3), .val (.int v5), .val (.int v7), .val (.ref b8), .val (.int (1 : Int32)), .val (.int (1 : Int32)), .val (.int (1 : Int32)), .val (.int (Own.b2i (own_has (own_add (own_add (fun _ => 0) v3) v5) v3))), .unset, .unset, .unset] [(.ref b8)])) t
      refine XS.iload X38.here hx rfl (hb hby at_134) rfl ?_
      show Steps p.tables e below (T38.setTop (mkF m 136 #[.val (.int p0), .val (.int p1), .val (.int p2), .val (.int p3), .val (.int v1), .val (.int v3), .val (.int v5), .val (.int v7), .val (.ref b8), .val (.int (1 : Int32)), .val (.int (1 : Int32)), .val (.int (1 : Int32)), .val (.int (Own.b2i (own_has (own_add (own_add (fun _ => 0) v3) v5) v3))), .unset, .unset, .unset] [(.int v5), (.ref b8)])) t
      refine st39 _ ?_
      show Steps p.tables e below (T39.setTop (mkF m 139 #[.val (.int p0), .val (.int p1), .val (.int p2), .val (.int p3), .val (.int v1), .val (.int v3), .val (.int v5), .val (.int v7), .val (.ref b8), .val (.int (1 : Int32)), .val (.int (1 : Int32)), .val (.int (1 : Int32)), .val (.int (Own.b2i (own_has (own_add (own_add (fun _ => 0) v3) v5) v3))), .unset, .unset, .unset] [(.int (Own.b2i (own_has (own_add (own_add (fun _ => 0) v3) v5) v5)))])) t
      refine XS.istore X39.here hx rfl (hb hby at_139) rfl (l' := #[.val (.int p0), .val (.int p1), .val (.int p2), .val (.int p3), .val (.int v1), .val (.int v3), .val (.int v5), .val (.int v7), .val (.ref b8), .val (.int (1 : Int32)), .val (.int (1 : Int32)), .val (.int (1 : Int32)), .val (.int (Own.b2i (own_has (own_add (own_add (fun _ => 0) v3) v5) v3))), .val (.int (Own.b2i (own_has (own_add (own_add (fun _ => 0) v3) v5) v5))), .unset, .unset]) rfl ?_
      show Steps p.tables e below (T39.setTop (mkF m 141 #[.val (.int p0), .val (.int p1), .val (.int p2), .val (.int p3), .val (.int v1), .val (.int v3), .val (.int v5), .val (.int v7), .val (.ref b8), .val (.int (1 : Int32)), .val (.int (1 : Int32)), .val (.int (1 : Int32)), .val (.int (Own.b2i (own_has (own_add (own_add (fun _ => 0) v3) v5) v3))), .val (.int (Own.b2i (own_has (own_add (own_add (fun _ => 0) v3) v5) v5))), .unset, .unset] [])) t
      refine XS.aload X39.here hx rfl (hb hby at_141) rfl rfl ?_
      show Steps p.tables e below (T39.setTop (mkF m 143 #[.val (.int p0), .val (.int p1), .val (.int p2), .val (.int p3), .val (.int v1), .val (.int v3), .val (.int v5), .val (.int v7), .val (.ref b8), .val (.int (1 : Int32)), .val (.int (1 : Int32)), .val (.int (1 : Int32)), .val (.int (Own.b2i (own_has (own_add (own_add (fun _ => 0) v3) v5) v3))), .val (.int (Own.b2i (own_has (own_add (own_add (fun _ => 0) v3) v5) v5))), .unset, .unset] [(.ref b8)])) t
      refine XS.iload X39.here hx rfl (hb hby at_143) rfl ?_
      show Steps p.tables e below (T39.setTop (mkF m 145 #[.val (.int p0), .val (.int p1), .val (.int p2), .val (.int p3), .val (.int v1), .val (.int v3), .val (.int v5), .val (.int v7), .val (.ref b8), .val (.int (1 : Int32)), .val (.int (1 : Int32)), .val (.int (1 : Int32)), .val (.int (Own.b2i (own_has (own_add (own_add (fun _ => 0) v3) v5) v3))), .val (.int (Own.b2i (own_has (own_add (own_add (fun _ => 0) v3) v5) v5))), .unset, .unset] [(.int v7), (.ref b8)])) t
      refine st40 _ ?_
      show Steps p.tables e below (T40.setTop (mkF m 148 #[.val (.int p0), .val (.int p1), .val (.int p2), .val (.int p3), .val (.int v1), .val (.int v3), .val (.int v5), .val (.int v7), .val (.ref b8), .val (.int (1 : Int32)), .val (.int (1 : Int32)), .val (.int (1 : Int32)), .val (.int (Own.b2i (own_has (own_add (own_add (fun _ => 0) v3) v5) v3))), .val (.int (Own.b2i (own_has (own_add (own_add (fun _ => 0) v3) v5) v5))), .unset, .unset] [(.int (Own.b2i (own_has (own_add (own_add (fun _ => 0) v3) v5) v7)))])) t
      refine XS.iload X40.here hx rfl (hb hby at_148) rfl ?_
      show Steps p.tables e below (T40.setTop (mkF m 150 #[.val (.int p0), .val (.int p1), .val (.int p2), .val (.int p3), .val (.int v1), .val (.int v3), .val (.int v5), .val (.int v7), .val (.ref b8), .val (.int (1 : Int32)), .val (.int (1 : Int32)), .val (.int (1 : Int32)), .val (.int (Own.b2i (own_has (own_add (own_add (fun _ => 0) v3) v5) v3))), .val (.int (Own.b2i (own_has (own_add (own_add (fun _ => 0) v3) v5) v5))), .unset, .unset] [(.int v7), (.int (Own.b2i (own_has (own_add (own_add (fun _ => 0) v3) v5) v7)))])) t
      refine XS.iload X40.here hx rfl (hb hby at_150) rfl ?_
      show Steps p.tables e below (T40.setTop (mkF m 152 #[.val (.int p0), .val (.int p1), .val (.int p2), .val (.int p3), .val (.int v1), .val (.int v3), .val (.int v5), .val (.int v7), .val (.ref b8), .val (.int (1 : Int32)), .val (.int (1 : Int32)), .val (.int (1 : Int32)), .val (.int (Own.b2i (own_has (own_add (own_add (fun _ => 0) v3) v5) v3))), .val (.int (Own.b2i (own_has (own_add (own_add (fun _ => 0) v3) v5) v5))), .unset, .unset] [(.int v3), (.int v7), (.int (Own.b2i (own_has (own_add (own_add (fun _ => 0) v3) v5) v7)))])) t
      exact k
    have hc41 : ¬ (v7 = v3) := hc16
    refine hD _ (T40.setTop (mkF m 159 #[.val (.int p0), .val (.int p1), .val (.int p2), .val (.int p3), .val (.int v1), .val (.int v3), .val (.int v5), .val (.int v7), .val (.ref b8), .val (.int (1 : Int32)), .val (.int (1 : Int32)), .val (.int (1 : Int32)), .val (.int (Own.b2i (own_has (own_add (own_add (fun _ => 0) v3) v5) v3))), .val (.int (Own.b2i (own_has (own_add (own_add (fun _ => 0) v3) v5) v5))), .unset, .unset] [(.int v5), (.int v7), (.int (Own.b2i (own_has (own_add (own_add (fun _ => 0) v3) v5) v7)))])) (fun t k => ?_) ?_
    · show Steps p.tables e below (T40.setTop (mkF m 152 #[.val (.int p0), .val (.int p1), .val (.int p2), .val (.int p3), .val (.int v1), .val (.int v3), .val (.int v5), .val (.int v7), .val (.ref b8), .val (.int (1 : Int32)), .val (.int (1 : Int32)), .val (.int (1 : Int32)), .val (.int (Own.b2i (own_has (own_add (own_add (fun _ => 0) v3) v5) v3))), .val (.int (Own.b2i (own_has (own_add (own_add (fun _ => 0) v3) v5) v5))), .unset, .unset] [(.int v3), (.int v7), (.int (Own.b2i (own_has (own_add (own_add (fun _ => 0) v3) v5) v7)))])) t
      refine XS.icmpNo X40.here hx rfl (hb hby at_152) rfl (feq hc41).1 ?_
      show Steps p.tables e below (T40.setTop (mkF m 155 #[.val (.int p0), .val (.int p1), .val (.int p2), .val (.int p3), .val (.int v1), .val (.int v3), .val (.int v5), .val (.int v7), .val (.ref b8), .val (.int (1 : Int32)), .val (.int (1 : Int32)), .val (.int (1 : Int32)), .val (.int (Own.b2i (own_has (own_add (own_add (fun _ => 0) v3) v5) v3))), .val (.int (Own.b2i (own_has (own_add (own_add (fun _ => 0) v3) v5) v5))), .unset, .unset] [(.int (Own.b2i (own_has (own_add (own_add (fun _ => 0) v3) v5) v7)))])) t
      refine XS.iload X40.here hx rfl (hb hby at_155) rfl ?_
      show Steps p.tables e below (T40.setTop (mkF m 157 #[.val (.int p0), .val (.int p1), .val (.int p2), .val (.int p3), .val (.int v1), .val (.int v3), .val (.int v5), .val (.int v7), .val (.ref b8), .val (.int (1 : Int32)), .val (.int (1 : Int32)), .val (.int (1 : Int32)), .val (.int (Own.b2i (own_has (own_add (own_add (fun _ => 0) v3) v5) v3))), .val (.int (Own.b2i (own_has (own_add (own_add (fun _ => 0) v3) v5) v5))), .unset, .unset] [(.int v7), (.int (Own.b2i (own_has (own_add (own_add (fun _ => 0) v3) v5) v7)))])) t
      refine XS.iload X40.here hx rfl (hb hby at_157) rfl ?_
      show Steps p.tables e below (T40.setTop (mkF m 159 #[.val (.int p0), .val (.int p1), .val (.int p2), .val (.int p3), .val (.int v1), .val (.int v3), .val (.int v5), .val (.int v7), .val (.ref b8), .val (.int (1 : Int32)), .val (.int (1 : Int32)), .val (.int (1 : Int32)), .val (.int (Own.b2i (own_has (own_add (own_add (fun _ => 0) v3) v5) v3))), .val (.int (Own.b2i (own_has (own_add (own_add (fun _ => 0) v3) v5) v5))), .unset, .unset] [(.int v5), (.int v7), (.int (Own.b2i (own_has (own_add (own_add (fun _ => 0) v3) v5) v7)))])) t
      exact k
    by_cases hc42 : v7 = v5
    · refine hD _ (T40.setTop (mkF m 167 #[.val (.int p0), .val (.int p1), .val (.int p2), .val (.int p3), .val (.int v1), .val (.int v3), .val (.int v5), .val (.int v7), .val (.ref b8), .val (.int (1 : Int32)), .val (.int (1 : Int32)), .val (.int (1 : Int32)), .val (.int (Own.b2i (own_has (own_add (own_add (fun _ => 0) v3) v5) v3))), .val (.int (Own.b2i (own_has (own_add (own_add (fun _ => 0) v3) v5) v5))), .unset, .unset] [(.int (1 : Int32)), (.int (Own.b2i (own_has (own_add (own_add (fun _ => 0) v3) v5) v7)))])) (fun t k => ?_) ?_
      · show Steps p.tables e below (T40.setTop (mkF m 159 #[.val (.int p0), .val (.int p1), .val (.int p2), .val (.int p3), .val (.int v1), .val (.int v3), .val (.int v5), .val (.int v7), .val (.ref b8), .val (.int (1 : Int32)), .val (.int (1 : Int32)), .val (.int (1 : Int32)), .val (.int (Own.b2i (own_has (own_add (own_add (fun _ => 0) v3) v5) v3))), .val (.int (Own.b2i (own_has (own_add (own_add (fun _ => 0) v3) v5) v5))), .unset, .unset] [(.int v5), (.int v7), (.int (Own.b2i (own_has (own_add (own_add (fun _ => 0) v3) v5) v7)))])) t
        refine XS.icmpNo X40.here hx rfl (hb hby at_159) rfl (teq hc42).2 ?_
        show Steps p.tables e below (T40.setTop (mkF m 162 #[.val (.int p0), .val (.int p1), .val (.int p2), .val (.int p3), .val (.int v1), .val (.int v3), .val (.int v5), .val (.int v7), .val (.ref b8), .val (.int (1 : Int32)), .val (.int (1 : Int32)), .val (.int (1 : Int32)), .val (.int (Own.b2i (own_has (own_add (own_add (fun _ => 0) v3) v5) v3))), .val (.int (Own.b2i (own_has (own_add (own_add (fun _ => 0) v3) v5) v5))), .unset, .unset] [(.int (Own.b2i (own_has (own_add (own_add (fun _ => 0) v3) v5) v7)))])) t
        refine XS.iconst X40.here hx rfl (hb hby at_162) ?_
        show Steps p.tables e below (T40.setTop (mkF m 163 #[.val (.int p0), .val (.int p1), .val (.int p2), .val (.int p3), .val (.int v1), .val (.int v3), .val (.int v5), .val (.int v7), .val (.ref b8), .val (.int (1 : Int32)), .val (.int (1 : Int32)), .val (.int (1 : Int32)), .val (.int (Own.b2i (own_has (own_add (own_add (fun _ => 0) v3) v5) v3))), .val (.int (Own.b2i (own_has (own_add (own_add (fun _ => 0) v3) v5) v5))), .unset, .unset] [(.int (1 : Int32)), (.int (Own.b2i (own_has (own_add (own_add (fun _ => 0) v3) v5) v7)))])) t
        refine XS.goto X40.here hx rfl (pc0 := 163) (pc' := 167) rfl (hb hby at_163) (by decide) (by decide) ?_
        show Steps p.tables e below (T40.setTop (mkF m 167 #[.val (.int p0), .val (.int p1), .val (.int p2), .val (.int p3), .val (.int v1), .val (.int v3), .val (.int v5), .val (.int v7), .val (.ref b8), .val (.int (1 : Int32)), .val (.int (1 : Int32)), .val (.int (1 : Int32)), .val (.int (Own.b2i (own_has (own_add (own_add (fun _ => 0) v3) v5) v3))), .val (.int (Own.b2i (own_has (own_add (own_add (fun _ => 0) v3) v5) v5))), .unset, .unset] [(.int (1 : Int32)), (.int (Own.b2i (own_has (own_add (own_add (fun _ => 0) v3) v5) v7)))])) t
        exact k
      have hc43 : (Own.b2i (own_has (own_add (own_add (fun _ => 0) v3) v5) v7)) = (1 : Int32) := by rw [own_h2 (own_rem (own_size hv1).1 hv3).1 (own_rem (own_size hv1).1 hv5).1 (own_rem (own_size hv1).1 hv7).1]; simp [Own.b2i, hc16, hc42]
      obtain ⟨T44, _, L44, X44, ⟨rfl, Nq44, e44⟩, st44⟩ := Own.callV (y := (⟨"com/example/sluice/sluice/FieldSet", "size", "()I"⟩ : MethodName)) (W := 0) (argsL := []) (rest := []) (a := b8) X40 hx hZ hown (hw _ (List.mem_of_getElem? (i := 24) rfl)) (hw _ (List.mem_of_getElem? (i := 25) rfl)) (hw _ (List.mem_of_getElem? (i := 27) rfl)) (hw _ (List.mem_of_getElem? (i := 26) rfl)) (hw _ (List.mem_of_getElem? (i := 3) rfl)) (hw _ (List.mem_of_getElem? (i := 28) rfl)) (by decide) e40 FS37.1 (rm5 l Z a0 hw [] b8 r11 n11 (own_add (own_add (fun _ => 0) v3) v5) T37.heap n0 FS37) (by decide) (by decide) (by decide) (by decide) (g := (mkF m 179 #[.val (.int p0), .val (.int p1), .val (.int p2), .val (.int p3), .val (.int v1), .val (.int v3), .val (.int v5), .val (.int v7), .val (.ref b8), .val (.int (1 : Int32)), .val (.int (1 : Int32)), .val (.int (1 : Int32)), .val (.int (Own.b2i (own_has (own_add (own_add (fun _ => 0) v3) v5) v3))), .val (.int (Own.b2i (own_has (own_add (own_add (fun _ => 0) v3) v5) v5))), .val (.int (1 : Int32)), .unset] [(.ref b8)])) rfl (by rw [hml]; rfl) (lenOf pd_3 rfl) rfl (by show 2 * 0 + _ ≤ _; exact Nat.le_of_eq rfl) (hb hby at_179)
      have N44 := Fr.app N40 Nq44
      refine hD _ (T44.setTop (mkF m 186 #[.val (.int p0), .val (.int p1), .val (.int p2), .val (.int p3), .val (.int v1), .val (.int v3), .val (.int v5), .val (.int v7), .val (.ref b8), .val (.int (1 : Int32)), .val (.int (1 : Int32)), .val (.int (1 : Int32)), .val (.int (Own.b2i (own_has (own_add (own_add (fun _ => 0) v3) v5) v3))), .val (.int (Own.b2i (own_has (own_add (own_add (fun _ => 0) v3) v5) v5))), .val (.int (1 : Int32)), .unset] [(.int v5), (.int v3), (.int (own_sz n11 (own_add (own_add (fun _ => 0) v3) v5)))])) (fun t k => ?_) ?_
      · show Steps p.tables e below (T40.setTop (mkF m 167 #[.val (.int p0), .val (.int p1), .val (.int p2), .val (.int p3), .val (.int v1), .val (.int v3), .val (.int v5), .val (.int v7), .val (.ref b8), .val (.int (1 : Int32)), .val (.int (1 : Int32)), .val (.int (1 : Int32)), .val (.int (Own.b2i (own_has (own_add (own_add (fun _ => 0) v3) v5) v3))), .val (.int (Own.b2i (own_has (own_add (own_add (fun _ => 0) v3) v5) v5))), .unset, .unset] [(.int (1 : Int32)), (.int (Own.b2i (own_has (own_add (own_add (fun _ => 0) v3) v5) v7)))])) t
        refine XS.icmpNo X40.here hx rfl (hb hby at_167) rfl (teq hc43).2 ?_
        show Steps p.tables e below (T40.setTop (mkF m 170 #[.val (.int p0), .val (.int p1), .val (.int p2), .val (.int p3), .val (.int v1), .val (.int v3), .val (.int v5), .val (.int v7), .val (.ref b8), .val (.int (1 : Int32)), .val (.int (1 : Int32)), .val (.int (1 : Int32)), .val (.int (Own.b2i (own_has (own_add (own_add (fun _ => 0) v3) v5) v3))), .val (.int (Own.b2i (own_has (own_add (own_add (fun _ => 0) v3) v5) v5))), .unset, .unset] [])) t
        refine XS.iconst X40.here hx rfl (hb hby at_170) ?_
        show Steps p.tables e below (T40.setTop (mkF m 171 #[.val (.int p0), .val (.int p1), .val (.int p2), .val (.int p3), .val (.int v1), .val (.int v3), .val (.int v5), .val (.int v7), .val (.ref b8), .val (.int (1 : Int32)), .val (.int (1 : Int32)), .val (.int (1 : Int32)), .val (.int (Own.b2i (own_has (own_add (own_add (fun _ => 0) v3) v5) v3))), .val (.int (Own.b2i (own_has (own_add (own_add (fun _ => 0) v3) v5) v5))), .unset, .unset] [(.int (1 : Int32))])) t
        refine XS.goto X40.here hx rfl (pc0 := 171) (pc' := 175) rfl (hb hby at_171) (by decide) (by decide) ?_
        show Steps p.tables e below (T40.setTop (mkF m 175 #[.val (.int p0), .val (.int p1), .val (.int p2), .val (.int p3), .val (.int v1), .val (.int v3), .val (.int v5), .val (.int v7), .val (.ref b8), .val (.int (1 : Int32)), .val (.int (1 : Int32)), .val (.int (1 : Int32)), .val (.int (Own.b2i (own_has (own_add (own_add (fun _ => 0) v3) v5) v3))), .val (.int (Own.b2i (own_has (own_add (own_add (fun _ => 0) v3) v5) v5))), .unset, .unset] [(.int (1 : Int32))])) t
        refine XS.istore X40.here hx rfl (hb hby at_175) rfl (l' := #[.val (.int p0), .val (.int p1), .val (.int p2), .val (.int p3), .val (.int v1), .val (.int v3), .val (.int v5), .val (.int v7), .val (.ref b8), .val (.int (1 : Int32)), .val (.int (1 : Int32)), .val (.int (1 : Int32)), .val (.int (Own.b2i (own_has (own_add (own_add (fun _ => 0) v3) v5) v3))), .val (.int (Own.b2i (own_has (own_add (own_add (fun _ => 0) v3) v5) v5))), .val (.int (1 : Int32)), .unset]) rfl ?_
        show Steps p.tables e below (T40.setTop (mkF m 177 #[.val (.int p0), .val (.int p1), .val (.int p2), .val (.int p3), .val (.int v1), .val (.int v3), .val (.int v5), .val (.int v7), .val (.ref b8), .val (.int (1 : Int32)), .val (.int (1 : Int32)), .val (.int (1 : Int32)), .val (.int (Own.b2i (own_has (own_add (own_add (fun _ => 0) v3) v5) v3))), .val (.int (Own.b2i (own_has (own_add (own_add (fun _ => 0) v3) v5) v5))), .val (.int (1 : Int32)), .unset] [])) t
        refine XS.aload X40.here hx rfl (hb hby at_177) rfl rfl ?_
        show Steps p.tables e below (T40.setTop (mkF m 179 #[.val (.int p0), .val (.int p1), .val (.int p2), .val (.int p3), .val (.int v1), .val (.int v3), .val (.int v5), .val (.int v7), .val (.ref b8), .val (.int (1 : Int32)), .val (.int (1 : Int32)), .val (.int (1 : Int32)), .val (.int (Own.b2i (own_has (own_add (own_add (fun _ => 0) v3) v5) v3))), .val (.int (Own.b2i (own_has (own_add (own_add (fun _ => 0) v3) v5) v5))), .val (.int (1 : Int32)), .unset] [(.ref b8)])) t
        refine st44 _ ?_
        show Steps p.tables e below (T44.setTop (mkF m 182 #[.val (.int p0), .val (.int p1), .val (.int p2), .val (.int p3), .val (.int v1), .val (.int v3), .val (.int v5), .val (.int v7), .val (.ref b8), .val (.int (1 : Int32)), .val (.int (1 : Int32)), .val (.int (1 : Int32)), .val (.int (Own.b2i (own_has (own_add (own_add (fun _ => 0) v3) v5) v3))), .val (.int (Own.b2i (own_has (own_add (own_add (fun _ => 0) v3) v5) v5))), .val (.int (1 : Int32)), .unset] [(.int (own_sz n11 (own_add (own_add (fun _ => 0) v3) v5)))])) t
        refine XS.iload X44.here hx rfl (hb hby at_182) rfl ?_
        show Steps p.tables e below (T44.setTop (mkF m 184 #[.val (.int p0), .val (.int p1), .val (.int p2), .val (.int p3), .val (.int v1), .val (.int v3), .val (.int v5), .val (.int v7), .val (.ref b8), .val (.int (1 : Int32)), .val (.int (1 : Int32)), .val (.int (1 : Int32)), .val (.int (Own.b2i (own_has (own_add (own_add (fun _ => 0) v3) v5) v3))), .val (.int (Own.b2i (own_has (own_add (own_add (fun _ => 0) v3) v5) v5))), .val (.int (1 : Int32)), .unset] [(.int v3), (.int (own_sz n11 (own_add (own_add (fun _ => 0) v3) v5)))])) t
        refine XS.iload X44.here hx rfl (hb hby at_184) rfl ?_
        show Steps p.tables e below (T44.setTop (mkF m 186 #[.val (.int p0), .val (.int p1), .val (.int p2), .val (.int p3), .val (.int v1), .val (.int v3), .val (.int v5), .val (.int v7), .val (.ref b8), .val (.int (1 : Int32)), .val (.int (1 : Int32)), .val (.int (1 : Int32)), .val (.int (Own.b2i (own_has (own_add (own_add (fun _ => 0) v3) v5) v3))), .val (.int (Own.b2i (own_has (own_add (own_add (fun _ => 0) v3) v5) v5))), .val (.int (1 : Int32)), .unset] [(.int v5), (.int v3), (.int (own_sz n11 (own_add (own_add (fun _ => 0) v3) v5)))])) t
        exact k
      by_cases hc45 : v3 = v5
      · refine hD _ (T44.setTop (mkF m 194 #[.val (.int p0), .val (.int p1), .val (.int p2), .val (.int p3), .val (.int v1), .val (.int v3), .val (.int v5), .val (.int v7), .val (.ref b8), .val (.int (1 : Int32)), .val (.int (1 : Int32)), .val (.int (1 : Int32)), .val (.int (Own.b2i (own_has (own_add (own_add (fun _ => 0) v3) v5) v3))), .val (.int (Own.b2i (own_has (own_add (own_add (fun _ => 0) v3) v5) v5))), .val (.int (1 : Int32)), .unset] [(.int (1 : Int32)), (.int (own_sz n11 (own_add (own_add (fun _ => 0) v3) v5)))])) (fun t k => ?_) ?_
        · show Steps p.tables e below (T44.setTop (mkF m 186 #[.val (.int p0), .val (.int p1), .val (.int p2), .val (.int p3), .val (.int v1), .val (.int v3), .val (.int v5), .val (.int v7), .val (.ref b8), .val (.int (1 : Int32)), .val (.int (1 : Int32)), .val (.int (1 : Int32)), .val (.int (Own.b2i (own_has (own_add (own_add (fun _ => 0) v3) v5) v3))), .val (.int (Own.b2i (own_has (own_add (own_add (fun _ => 0) v3) v5) v5))), .val (.int (1 : Int32)), .unset] [(.int v5), (.int v3), (.int (own_sz n11 (own_add (own_add (fun _ => 0) v3) v5)))])) t
          refine XS.icmpNo X44.here hx rfl (hb hby at_186) rfl (teq hc45).2 ?_
          show Steps p.tables e below (T44.setTop (mkF m 189 #[.val (.int p0), .val (.int p1), .val (.int p2), .val (.int p3), .val (.int v1), .val (.int v3), .val (.int v5), .val (.int v7), .val (.ref b8), .val (.int (1 : Int32)), .val (.int (1 : Int32)), .val (.int (1 : Int32)), .val (.int (Own.b2i (own_has (own_add (own_add (fun _ => 0) v3) v5) v3))), .val (.int (Own.b2i (own_has (own_add (own_add (fun _ => 0) v3) v5) v5))), .val (.int (1 : Int32)), .unset] [(.int (own_sz n11 (own_add (own_add (fun _ => 0) v3) v5)))])) t
          refine XS.iconst X44.here hx rfl (hb hby at_189) ?_
          show Steps p.tables e below (T44.setTop (mkF m 190 #[.val (.int p0), .val (.int p1), .val (.int p2), .val (.int p3), .val (.int v1), .val (.int v3), .val (.int v5), .val (.int v7), .val (.ref b8), .val (.int (1 : Int32)), .val (.int (1 : Int32)), .val (.int (1 : Int32)), .val (.int (Own.b2i (own_has (own_add (own_add (fun _ => 0) v3) v5) v3))), .val (.int (Own.b2i (own_has (own_add (own_add (fun _ => 0) v3) v5) v5))), .val (.int (1 : Int32)), .unset] [(.int (1 : Int32)), (.int (own_sz n11 (own_add (own_add (fun _ => 0) v3) v5)))])) t
          refine XS.goto X44.here hx rfl (pc0 := 190) (pc' := 194) rfl (hb hby at_190) (by decide) (by decide) ?_
          show Steps p.tables e below (T44.setTop (mkF m 194 #[.val (.int p0), .val (.int p1), .val (.int p2), .val (.int p3), .val (.int v1), .val (.int v3), .val (.int v5), .val (.int v7), .val (.ref b8), .val (.int (1 : Int32)), .val (.int (1 : Int32)), .val (.int (1 : Int32)), .val (.int (Own.b2i (own_has (own_add (own_add (fun _ => 0) v3) v5) v3))), .val (.int (Own.b2i (own_has (own_add (own_add (fun _ => 0) v3) v5) v5))), .val (.int (1 : Int32)), .unset] [(.int (1 : Int32)), (.int (own_sz n11 (own_add (own_add (fun _ => 0) v3) v5)))])) t
          exact k
        have hc46 : (own_sz n11 (own_add (own_add (fun _ => 0) v3) v5)) = (1 : Int32) := by rw [own_szT (own_in (own_rem (own_size hv1).1 hv3) hn11) (own_in (own_rem (own_size hv1).1 hv5) hn11)]; simp [hc45]
        refine hD _ (T44.setTop (mkF m 221 #[.val (.int p0), .val (.int p1), .val (.int p2), .val (.int p3), .val (.int v1), .val (.int v3), .val (.int v5), .val (.int v7), .val (.ref b8), .val (.int (1 : Int32)), .val (.int (1 : Int32)), .val (.int (1 : Int32)), .val (.int (Own.b2i (own_has (own_add (own_add (fun _ => 0) v3) v5) v3))), .val (.int (Own.b2i (own_has (own_add (own_add (fun _ => 0) v3) v5) v5))), .val (.int (1 : Int32)), .val (.int (1 : Int32))] [(.int (Own.b2i (own_has (own_add (own_add (fun _ => 0) v3) v5) v3)))])) (fun t k => ?_) ?_
        · show Steps p.tables e below (T44.setTop (mkF m 194 #[.val (.int p0), .val (.int p1), .val (.int p2), .val (.int p3), .val (.int v1), .val (.int v3), .val (.int v5), .val (.int v7), .val (.ref b8), .val (.int (1 : Int32)), .val (.int (1 : Int32)), .val (.int (1 : Int32)), .val (.int (Own.b2i (own_has (own_add (own_add (fun _ => 0) v3) v5) v3))), .val (.int (Own.b2i (own_has (own_add (own_add (fun _ => 0) v3) v5) v5))), .val (.int (1 : Int32)), .unset] [(.int (1 : Int32)), (.int (own_sz n11 (own_add (own_add (fun _ => 0) v3) v5)))])) t
          refine XS.icmpNo X44.here hx rfl (hb hby at_194) rfl (teq hc46).2 ?_
          show Steps p.tables e below (T44.setTop (mkF m 197 #[.val (.int p0), .val (.int p1), .val (.int p2), .val (.int p3), .val (.int v1), .val (.int v3), .val (.int v5), .val (.int v7), .val (.ref b8), .val (.int (1 : Int32)), .val (.int (1 : Int32)), .val (.int (1 : Int32)), .val (.int (Own.b2i (own_has (own_add (own_add (fun _ => 0) v3) v5) v3))), .val (.int (Own.b2i (own_has (own_add (own_add (fun _ => 0) v3) v5) v5))), .val (.int (1 : Int32)), .unset] [])) t
          refine XS.iconst X44.here hx rfl (hb hby at_197) ?_
          show Steps p.tables e below (T44.setTop (mkF m 198 #[.val (.int p0), .val (.int p1), .val (.int p2), .val (.int p3), .val (.int v1), .val (.int v3), .val (.int v5), .val (.int v7), .val (.ref b8), .val (.int (1 : Int32)), .val (.int (1 : Int32)), .val (.int (1 : Int32)), .val (.int (Own.b2i (own_has (own_add (own_add (fun _ => 0) v3) v5) v3))), .val (.int (Own.b2i (own_has (own_add (own_add (fun _ => 0) v3) v5) v5))), .val (.int (1 : Int32)), .unset] [(.int (1 : Int32))])) t
          refine XS.goto X44.here hx rfl (pc0 := 198) (pc' := 202) rfl (hb hby at_198) (by decide) (by decide) ?_
          show Steps p.tables e below (T44.setTop (mkF m 202 #[.val (.int p0), .val (.int p1), .val (.int p2), .val (.int p3), .val (.int v1), .val (.int v3), .val (.int v5), .val (.int v7), .val (.ref b8), .val (.int (1 : Int32)), .val (.int (1 : Int32)), .val (.int (1 : Int32)), .val (.int (Own.b2i (own_has (own_add (own_add (fun _ => 0) v3) v5) v3))), .val (.int (Own.b2i (own_has (own_add (own_add (fun _ => 0) v3) v5) v5))), .val (.int (1 : Int32)), .unset] [(.int (1 : Int32))])) t
          refine XS.istore X44.here hx rfl (hb hby at_202) rfl (l' := #[.val (.int p0), .val (.int p1), .val (.int p2), .val (.int p3), .val (.int v1), .val (.int v3), .val (.int v5), .val (.int v7), .val (.ref b8), .val (.int (1 : Int32)), .val (.int (1 : Int32)), .val (.int (1 : Int32)), .val (.int (Own.b2i (own_has (own_add (own_add (fun _ => 0) v3) v5) v3))), .val (.int (Own.b2i (own_has (own_add (own_add (fun _ => 0) v3) v5) v5))), .val (.int (1 : Int32)), .val (.int (1 : Int32))]) rfl ?_
          show Steps p.tables e below (T44.setTop (mkF m 204 #[.val (.int p0), .val (.int p1), .val (.int p2), .val (.int p3), .val (.int v1), .val (.int v3), .val (.int v5), .val (.int v7), .val (.ref b8), .val (.int (1 : Int32)), .val (.int (1 : Int32)), .val (.int (1 : Int32)), .val (.int (Own.b2i (own_has (own_add (own_add (fun _ => 0) v3) v5) v3))), .val (.int (Own.b2i (own_has (own_add (own_add (fun _ => 0) v3) v5) v5))), .val (.int (1 : Int32)), .val (.int (1 : Int32))] [])) t
          refine XS.iload X44.here hx rfl (hb hby at_204) rfl ?_
          show Steps p.tables e below (T44.setTop (mkF m 206 #[.val (.int p0), .val (.int p1), .val (.int p2), .val (.int p3), .val (.int v1), .val (.int v3), .val (.int v5), .val (.int v7), .val (.ref b8), .val (.int (1 : Int32)), .val (.int (1 : Int32)), .val (.int (1 : Int32)), .val (.int (Own.b2i (own_has (own_add (own_add (fun _ => 0) v3) v5) v3))), .val (.int (Own.b2i (own_has (own_add (own_add (fun _ => 0) v3) v5) v5))), .val (.int (1 : Int32)), .val (.int (1 : Int32))] [(.int (1 : Int32))])) t
          refine XS.ifNo X44.here hx rfl (hb hby at_206) rfl (by decide) ?_
          show Steps p.tables e below (T44.setTop (mkF m 209 #[.val (.int p0), .val (.int p1), .val (.int p2), .val (.int p3), .val (.int v1), .val (.int v3), .val (.int v5), .val (.int v7), .val (.ref b8), .val (.int (1 : Int32)), .val (.int (1 : Int32)), .val (.int (1 : Int32)), .val (.int (Own.b2i (own_has (own_add (own_add (fun _ => 0) v3) v5) v3))), .val (.int (Own.b2i (own_has (own_add (own_add (fun _ => 0) v3) v5) v5))), .val (.int (1 : Int32)), .val (.int (1 : Int32))] [])) t
          refine XS.iload X44.here hx rfl (hb hby at_209) rfl ?_
          show Steps p.tables e below (T44.setTop (mkF m 211 #[.val (.int p0), .val (.int p1), .val (.int p2), .val (.int p3), .val (.int v1), .val (.int v3), .val (.int v5), .val (.int v7), .val (.ref b8), .val (.int (1 : Int32)), .val (.int (1 : Int32)), .val (.int (1 : Int32)), .val (.int (Own.b2i (own_has (own_add (own_add (fun _ => 0) v3) v5) v3))), .val (.int (Own.b2i (own_has (own_add (own_add (fun _ => 0) v3) v5) v5))), .val (.int (1 : Int32)), .val (.int (1 : Int32))] [(.int (1 : Int32))])) t
          refine XS.ifNo X44.here hx rfl (hb hby at_211) rfl (by decide) ?_
          show Steps p.tables e below (T44.setTop (mkF m 214 #[.val (.int p0), .val (.int p1), .val (.int p2), .val (.int p3), .val (.int v1), .val (.int v3), .val (.int v5), .val (.int v7), .val (.ref b8), .val (.int (1 : Int32)), .val (.int (1 : Int32)), .val (.int (1 : Int32)), .val (.int (Own.b2i (own_has (own_add (own_add (fun _ => 0) v3) v5) v3))), .val (.int (Own.b2i (own_has (own_add (own_add (fun _ => 0) v3) v5) v5))), .val (.int (1 : Int32)), .val (.int (1 : Int32))] [])) t
          refine XS.iload X44.here hx rfl (hb hby at_214) rfl ?_
          show Steps p.tables e below (T44.setTop (mkF m 216 #[.val (.int p0), .val (.int p1), .val (.int p2), .val (.int p3), .val (.int v1), .val (.int v3), .val (.int v5), .val (.int v7), .val (.ref b8), .val (.int (1 : Int32)), .val (.int (1 : Int32)), .val (.int (1 : Int32)), .val (.int (Own.b2i (own_has (own_add (own_add (fun _ => 0) v3) v5) v3))), .val (.int (Own.b2i (own_has (own_add (own_add (fun _ => 0) v3) v5) v5))), .val (.int (1 : Int32)), .val (.int (1 : Int32))] [(.int (1 : Int32))])) t
          refine XS.ifNo X44.here hx rfl (hb hby at_216) rfl (by decide) ?_
          show Steps p.tables e below (T44.setTop (mkF m 219 #[.val (.int p0), .val (.int p1), .val (.int p2), .val (.int p3), .val (.int v1), .val (.int v3), .val (.int v5), .val (.int v7), .val (.ref b8), .val (.int (1 : Int32)), .val (.int (1 : Int32)), .val (.int (1 : Int32)), .val (.int (Own.b2i (own_has (own_add (own_add (fun _ => 0) v3) v5) v3))), .val (.int (Own.b2i (own_has (own_add (own_add (fun _ => 0) v3) v5) v5))), .val (.int (1 : Int32)), .val (.int (1 : Int32))] [])) t
          refine XS.iload X44.here hx rfl (hb hby at_219) rfl ?_
          show Steps p.tables e below (T44.setTop (mkF m 221 #[.val (.int p0), .val (.int p1), .val (.int p2), .val (.int p3), .val (.int v1), .val (.int v3), .val (.int v5), .val (.int v7), .val (.ref b8), .val (.int (1 : Int32)), .val (.int (1 : Int32)), .val (.int (1 : Int32)), .val (.int (Own.b2i (own_has (own_add (own_add (fun _ => 0) v3) v5) v3))), .val (.int (Own.b2i (own_has (own_add (own_add (fun _ => 0) v3) v5) v5))), .val (.int (1 : Int32)), .val (.int (1 : Int32))] [(.int (Own.b2i (own_has (own_add (own_add (fun _ => 0) v3) v5) v3)))])) t
          exact k
        have hc47 : (own_has (own_add (own_add (fun _ => 0) v3) v5) v3) = true := by rw [own_h2 (own_rem (own_size hv1).1 hv3).1 (own_rem (own_size hv1).1 hv5).1 (own_rem (own_size hv1).1 hv3).1]; simp
        refine hD _ (T44.setTop (mkF m 226 #[.val (.int p0), .val (.int p1), .val (.int p2), .val (.int p3), .val (.int v1), .val (.int v3), .val (.int v5), .val (.int v7), .val (.ref b8), .val (.int (1 : Int32)), .val (.int (1 : Int32)), .val (.int (1 : Int32)), .val (.int (Own.b2i (own_has (own_add (own_add (fun _ => 0) v3) v5) v3))), .val (.int (Own.b2i (own_has (own_add (own_add (fun _ => 0) v3) v5) v5))), .val (.int (1 : Int32)), .val (.int (1 : Int32))] [(.int (Own.b2i (own_has (own_add (own_add (fun _ => 0) v3) v5) v5)))])) (fun t k => ?_) ?_
        · show Steps p.tables e below (T44.setTop (mkF m 221 #[.val (.int p0), .val (.int p1), .val (.int p2), .val (.int p3), .val (.int v1), .val (.int v3), .val (.int v5), .val (.int v7), .val (.ref b8), .val (.int (1 : Int32)), .val (.int (1 : Int32)), .val (.int (1 : Int32)), .val (.int (Own.b2i (own_has (own_add (own_add (fun _ => 0) v3) v5) v3))), .val (.int (Own.b2i (own_has (own_add (own_add (fun _ => 0) v3) v5) v5))), .val (.int (1 : Int32)), .val (.int (1 : Int32))] [(.int (Own.b2i (own_has (own_add (own_add (fun _ => 0) v3) v5) v3)))])) t
          refine XS.ifNo X44.here hx rfl (hb hby at_221) rfl ((if0 _ _).trans (feq (fun q => Own.b2i_eq0.mp q hc47)).1) ?_
          show Steps p.tables e below (T44.setTop (mkF m 224 #[.val (.int p0), .val (.int p1), .val (.int p2), .val (.int p3), .val (.int v1), .val (.int v3), .val (.int v5), .val (.int v7), .val (.ref b8), .val (.int (1 : Int32)), .val (.int (1 : Int32)), .val (.int (1 : Int32)), .val (.int (Own.b2i (own_has (own_add (own_add (fun _ => 0) v3) v5) v3))), .val (.int (Own.b2i (own_has (own_add (own_add (fun _ => 0) v3) v5) v5))), .val (.int (1 : Int32)), .val (.int (1 : Int32))] [])) t
          refine XS.iload X44.here hx rfl (hb hby at_224) rfl ?_
          show Steps p.tables e below (T44.setTop (mkF m 226 #[.val (.int p0), .val (.int p1), .val (.int p2), .val (.int p3), .val (.int v1), .val (.int v3), .val (.int v5), .val (.int v7), .val (.ref b8), .val (.int (1 : Int32)), .val (.int (1 : Int32)), .val (.int (1 : Int32)), .val (.int (Own.b2i (own_has (own_add (own_add (fun _ => 0) v3) v5) v3))), .val (.int (Own.b2i (own_has (own_add (own_add (fun _ => 0) v3) v5) v5))), .val (.int (1 : Int32)), .val (.int (1 : Int32))] [(.int (Own.b2i (own_has (own_add (own_add (fun _ => 0) v3) v5) v5)))])) t
          exact k
        have hc48 : (own_has (own_add (own_add (fun _ => 0) v3) v5) v5) = true := by rw [own_h2 (own_rem (own_size hv1).1 hv3).1 (own_rem (own_size hv1).1 hv5).1 (own_rem (own_size hv1).1 hv5).1]; simp
        refine hD _ (T44.setTop (mkF m 244 #[.val (.int p0), .val (.int p1), .val (.int p2), .val (.int p3), .val (.int v1), .val (.int v3), .val (.int v5), .val (.int v7), .val (.ref b8), .val (.int (1 : Int32)), .val (.int (1 : Int32)), .val (.int (1 : Int32)), .val (.int (Own.b2i (own_has (own_add (own_add (fun _ => 0) v3) v5) v3))), .val (.int (Own.b2i (own_has (own_add (own_add (fun _ => 0) v3) v5) v5))), .val (.int (1 : Int32)), .val (.int (1 : Int32))] [(.int (1 : Int32))])) (fun t k => ?_) ?_
        · show Steps p.tables e below (T44.setTop (mkF m 226 #[.val (.int p0), .val (.int p1), .val (.int p2), .val (.int p3), .val (.int v1), .val (.int v3), .val (.int v5), .val (.int v7), .val (.ref b8), .val (.int (1 : Int32)), .val (.int (1 : Int32)), .val (.int (1 : Int32)), .val (.int (Own.b2i (own_has (own_add (own_add (fun _ => 0) v3) v5) v3))), .val (.int (Own.b2i (own_has (own_add (own_add (fun _ => 0) v3) v5) v5))), .val (.int (1 : Int32)), .val (.int (1 : Int32))] [(.int (Own.b2i (own_has (own_add (own_add (fun _ => 0) v3) v5) v5)))])) t
          refine XS.ifNo X44.here hx rfl (hb hby at_226) rfl ((if0 _ _).trans (feq (fun q => Own.b2i_eq0.mp q hc48)).1) ?_
          show Steps p.tables e below (T44.setTop (mkF m 229 #[.val (.int p0), .val (.int p1), .val (.int p2), .val (.int p3), .val (.int v1), .val (.int v3), .val (.int v5), .val (.int v7), .val (.ref b8), .val (.int (1 : Int32)), .val (.int (1 : Int32)), .val (.int (1 : Int32)), .val (.int (Own.b2i (own_has (own_add (own_add (fun _ => 0) v3) v5) v3))), .val (.int (Own.b2i (own_has (own_add (own_add (fun _ => 0) v3) v5) v5))), .val (.int (1 : Int32)), .val (.int (1 : Int32))] [])) t
          refine XS.iload X44.here hx rfl (hb hby at_229) rfl ?_
          show Steps p.tables e below (T44.setTop (mkF m 231 #[.val (.int p0), .val (.int p1), .val (.int p2), .val (.int p3), .val (.int v1), .val (.int v3), .val (.int v5), .val (.int v7), .val (.ref b8), .val (.int (1 : Int32)), .val (.int (1 : Int32)), .val (.int (1 : Int32)), .val (.int (Own.b2i (own_has (own_add (own_add (fun _ => 0) v3) v5) v3))), .val (.int (Own.b2i (own_has (own_add (own_add (fun _ => 0) v3) v5) v5))), .val (.int (1 : Int32)), .val (.int (1 : Int32))] [(.int (1 : Int32))])) t
          refine XS.ifNo X44.here hx rfl (hb hby at_231) rfl (by decide) ?_
          show Steps p.tables e below (T44.setTop (mkF m 234 #[.val (.int p0), .val (.int p1), .val (.int p2), .val (.int p3), .val (.int v1), .val (.int v3), .val (.int v5), .val (.int v7), .val (.ref b8), .val (.int (1 : Int32)), .val (.int (1 : Int32)), .val (.int (1 : Int32)), .val (.int (Own.b2i (own_has (own_add (own_add (fun _ => 0) v3) v5) v3))), .val (.int (Own.b2i (own_has (own_add (own_add (fun _ => 0) v3) v5) v5))), .val (.int (1 : Int32)), .val (.int (1 : Int32))] [])) t
          refine XS.iload X44.here hx rfl (hb hby at_234) rfl ?_
          show Steps p.tables e below (T44.setTop (mkF m 236 #[.val (.int p0), .val (.int p1), .val (.int p2), .val (.int p3), .val (.int v1), .val (.int v3), .val (.int v5), .val (.int v7), .val (.ref b8), .val (.int (1 : Int32)), .val (.int (1 : Int32)), .val (.int (1 : Int32)), .val (.int (Own.b2i (own_has (own_add (own_add (fun _ => 0) v3) v5) v3))), .val (.int (Own.b2i (own_has (own_add (own_add (fun _ => 0) v3) v5) v5))), .val (.int (1 : Int32)), .val (.int (1 : Int32))] [(.int (1 : Int32))])) t
          refine XS.ifNo X44.here hx rfl (hb hby at_236) rfl (by decide) ?_
          show Steps p.tables e below (T44.setTop (mkF m 239 #[.val (.int p0), .val (.int p1), .val (.int p2), .val (.int p3), .val (.int v1), .val (.int v3), .val (.int v5), .val (.int v7), .val (.ref b8), .val (.int (1 : Int32)), .val (.int (1 : Int32)), .val (.int (1 : Int32)), .val (.int (Own.b2i (own_has (own_add (own_add (fun _ => 0) v3) v5) v3))), .val (.int (Own.b2i (own_has (own_add (own_add (fun _ => 0) v3) v5) v5))), .val (.int (1 : Int32)), .val (.int (1 : Int32))] [])) t
          refine XS.iconst X44.here hx rfl (hb hby at_239) ?_
          show Steps p.tables e below (T44.setTop (mkF m 240 #[.val (.int p0), .val (.int p1), .val (.int p2), .val (.int p3), .val (.int v1), .val (.int v3), .val (.int v5), .val (.int v7), .val (.ref b8), .val (.int (1 : Int32)), .val (.int (1 : Int32)), .val (.int (1 : Int32)), .val (.int (Own.b2i (own_has (own_add (own_add (fun _ => 0) v3) v5) v3))), .val (.int (Own.b2i (own_has (own_add (own_add (fun _ => 0) v3) v5) v5))), .val (.int (1 : Int32)), .val (.int (1 : Int32))] [(.int (1 : Int32))])) t
          refine XS.goto X44.here hx rfl (pc0 := 240) (pc' := 244) rfl (hb hby at_240) (by decide) (by decide) ?_
          show Steps p.tables e below (T44.setTop (mkF m 244 #[.val (.int p0), .val (.int p1), .val (.int p2), .val (.int p3), .val (.int v1), .val (.int v3), .val (.int v5), .val (.int v7), .val (.ref b8), .val (.int (1 : Int32)), .val (.int (1 : Int32)), .val (.int (1 : Int32)), .val (.int (Own.b2i (own_has (own_add (own_add (fun _ => 0) v3) v5) v3))), .val (.int (Own.b2i (own_has (own_add (own_add (fun _ => 0) v3) v5) v5))), .val (.int (1 : Int32)), .val (.int (1 : Int32))] [(.int (1 : Int32))])) t
          exact k
        exact Own.retN hR X44 hx (t := .boolean) hret (by simp) (hb hby at_244) (by decide) (by decide) (by decide) ⟨rfl, N44⟩
      · refine hD _ (T44.setTop (mkF m 194 #[.val (.int p0), .val (.int p1), .val (.int p2), .val (.int p3), .val (.int v1), .val (.int v3), .val (.int v5), .val (.int v7), .val (.ref b8), .val (.int (1 : Int32)), .val (.int (1 : Int32)), .val (.int (1 : Int32)), .val (.int (Own.b2i (own_has (own_add (own_add (fun _ => 0) v3) v5) v3))), .val (.int (Own.b2i (own_has (own_add (own_add (fun _ => 0) v3) v5) v5))), .val (.int (1 : Int32)), .unset] [(.int (2 : Int32)), (.int (own_sz n11 (own_add (own_add (fun _ => 0) v3) v5)))])) (fun t k => ?_) ?_
        · show Steps p.tables e below (T44.setTop (mkF m 186 #[.val (.int p0), .val (.int p1), .val (.int p2), .val (.int p3), .val (.int v1), .val (.int v3), .val (.int v5), .val (.int v7), .val (.ref b8), .val (.int (1 : Int32)), .val (.int (1 : Int32)), .val (.int (1 : Int32)), .val (.int (Own.b2i (own_has (own_add (own_add (fun _ => 0) v3) v5) v3))), .val (.int (Own.b2i (own_has (own_add (own_add (fun _ => 0) v3) v5) v5))), .val (.int (1 : Int32)), .unset] [(.int v5), (.int v3), (.int (own_sz n11 (own_add (own_add (fun _ => 0) v3) v5)))])) t
          refine XS.icmpYes X44.here hx rfl (pc0 := 186) (pc' := 193) rfl (hb hby at_186) rfl (feq hc45).2 (by decide) (by decide) ?_
          show Steps p.tables e below (T44.setTop (mkF m 193 #[.val (.int p0), .val (.int p1), .val (.int p2), .val (.int p3), .val (.int v1), .val (.int v3), .val (.int v5), .val (.int v7), .val (.ref b8), .val (.int (1 : Int32)), .val (.int (1 : Int32)), .val (.int (1 : Int32)), .val (.int (Own.b2i (own_has (own_add (own_add (fun _ => 0) v3) v5) v3))), .val (.int (Own.b2i (own_has (own_add (own_add (fun _ => 0) v3) v5) v5))), .val (.int (1 : Int32)), .unset] [(.int (own_sz n11 (own_add (own_add (fun _ => 0) v3) v5)))])) t
          refine XS.iconst X44.here hx rfl (hb hby at_193) ?_
          show Steps p.tables e below (T44.setTop (mkF m 194 #[.val (.int p0), .val (.int p1), .val (.int p2), .val (.int p3), .val (.int v1), .val (.int v3), .val (.int v5), .val (.int v7), .val (.ref b8), .val (.int (1 : Int32)), .val (.int (1 : Int32)), .val (.int (1 : Int32)), .val (.int (Own.b2i (own_has (own_add (own_add (fun _ => 0) v3) v5) v3))), .val (.int (Own.b2i (own_has (own_add (own_add (fun _ => 0) v3) v5) v5))), .val (.int (1 : Int32)), .unset] [(.int (2 : Int32)), (.int (own_sz n11 (own_add (own_add (fun _ => 0) v3) v5)))])) t
          exact k
        have hc49 : (own_sz n11 (own_add (own_add (fun _ => 0) v3) v5)) = (2 : Int32) := by rw [own_szT (own_in (own_rem (own_size hv1).1 hv3) hn11) (own_in (own_rem (own_size hv1).1 hv5) hn11)]; simp [hc45]
        refine hD _ (T44.setTop (mkF m 221 #[.val (.int p0), .val (.int p1), .val (.int p2), .val (.int p3), .val (.int v1), .val (.int v3), .val (.int v5), .val (.int v7), .val (.ref b8), .val (.int (1 : Int32)), .val (.int (1 : Int32)), .val (.int (1 : Int32)), .val (.int (Own.b2i (own_has (own_add (own_add (fun _ => 0) v3) v5) v3))), .val (.int (Own.b2i (own_has (own_add (own_add (fun _ => 0) v3) v5) v5))), .val (.int (1 : Int32)), .val (.int (1 : Int32))] [(.int (Own.b2i (own_has (own_add (own_add (fun _ => 0) v3) v5) v3)))])) (fun t k => ?_) ?_
        · show Steps p.tables e below (T44.setTop (mkF m 194 #[.val (.int p0), .val (.int p1), .val (.int p2), .val (.int p3), .val (.int v1), .val (.int v3), .val (.int v5), .val (.int v7), .val (.ref b8), .val (.int (1 : Int32)), .val (.int (1 : Int32)), .val (.int (1 : Int32)), .val (.int (Own.b2i (own_has (own_add (own_add (fun _ => 0) v3) v5) v3))), .val (.int (Own.b2i (own_has (own_add (own_add (fun _ => 0) v3) v5) v5))), .val (.int (1 : Int32)), .unset] [(.int (2 : Int32)), (.int (own_sz n11 (own_add (own_add (fun _ => 0) v3) v5)))])) t
          refine XS.icmpNo X44.here hx rfl (hb hby at_194) rfl (teq hc49).2 ?_
          show Steps p.tables e below (T44.setTop (mkF m 197 #[.val (.int p0), .val (.int p1), .val (.int p2), .val (.int p3), .val (.int v1), .val (.int v3), .val (.int v5), .val (.int v7), .val (.ref b8), .val (.int (1 : Int32)), .val (.int (1 : Int32)), .val (.int (1 : Int32)), .val (.int (Own.b2i (own_has (own_add (own_add (fun _ => 0) v3) v5) v3))), .val (.int (Own.b2i (own_has (own_add (own_add (fun _ => 0) v3) v5) v5))), .val (.int (1 : Int32)), .unset] [])) t
          refine XS.iconst X44.here hx rfl (hb hby at_197) ?_
          show Steps p.tables e below (T44.setTop (mkF m 198 #[.val (.int p0), .val (.int p1), .val (.int p2), .val (.int p3), .val (.int v1), .val (.int v3), .val (.int v5), .val (.int v7), .val (.ref b8), .val (.int (1 : Int32)), .val (.int (1 : Int32)), .val (.int (1 : Int32)), .val (.int (Own.b2i (own_has (own_add (own_add (fun _ => 0) v3) v5) v3))), .val (.int (Own.b2i (own_has (own_add (own_add (fun _ => 0) v3) v5) v5))), .val (.int (1 : Int32)), .unset] [(.int (1 : Int32))])) t
          refine XS.goto X44.here hx rfl (pc0 := 198) (pc' := 202) rfl (hb hby at_198) (by decide) (by decide) ?_
          show Steps p.tables e below (T44.setTop (mkF m 202 #[.val (.int p0), .val (.int p1), .val (.int p2), .val (.int p3), .val (.int v1), .val (.int v3), .val (.int v5), .val (.int v7), .val (.ref b8), .val (.int (1 : Int32)), .val (.int (1 : Int32)), .val (.int (1 : Int32)), .val (.int (Own.b2i (own_has (own_add (own_add (fun _ => 0) v3) v5) v3))), .val (.int (Own.b2i (own_has (own_add (own_add (fun _ => 0) v3) v5) v5))), .val (.int (1 : Int32)), .unset] [(.int (1 : Int32))])) t
          refine XS.istore X44.here hx rfl (hb hby at_202) rfl (l' := #[.val (.int p0), .val (.int p1), .val (.int p2), .val (.int p3), .val (.int v1), .val (.int v3), .val (.int v5), .val (.int v7), .val (.ref b8), .val (.int (1 : Int32)), .val (.int (1 : Int32)), .val (.int (1 : Int32)), .val (.int (Own.b2i (own_has (own_add (own_add (fun _ => 0) v3) v5) v3))), .val (.int (Own.b2i (own_has (own_add (own_add (fun _ => 0) v3) v5) v5))), .val (.int (1 : Int32)), .val (.int (1 : Int32))]) rfl ?_
          show Steps p.tables e below (T44.setTop (mkF m 204 #[.val (.int p0), .val (.int p1), .val (.int p2), .val (.int p3), .val (.int v1), .val (.int v3), .val (.int v5), .val (.int v7), .val (.ref b8), .val (.int (1 : Int32)), .val (.int (1 : Int32)), .val (.int (1 : Int32)), .val (.int (Own.b2i (own_has (own_add (own_add (fun _ => 0) v3) v5) v3))), .val (.int (Own.b2i (own_has (own_add (own_add (fun _ => 0) v3) v5) v5))), .val (.int (1 : Int32)), .val (.int (1 : Int32))] [])) t
          refine XS.iload X44.here hx rfl (hb hby at_204) rfl ?_
          show Steps p.tables e below (T44.setTop (mkF m 206 #[.val (.int p0), .val (.int p1), .val (.int p2), .val (.int p3), .val (.int v1), .val (.int v3), .val (.int v5), .val (.int v7), .val (.ref b8), .val (.int (1 : Int32)), .val (.int (1 : Int32)), .val (.int (1 : Int32)), .val (.int (Own.b2i (own_has (own_add (own_add (fun _ => 0) v3) v5) v3))), .val (.int (Own.b2i (own_has (own_add (own_add (fun _ => 0) v3) v5) v5))), .val (.int (1 : Int32)), .val (.int (1 : Int32))] [(.int (1 : Int32))])) t
          refine XS.ifNo X44.here hx rfl (hb hby at_206) rfl (by decide) ?_
          show Steps p.tables e below (T44.setTop (mkF m 209 #[.val (.int p0), .val (.int p1), .val (.int p2), .val (.int p3), .val (.int v1), .val (.int v3), .val (.int v5), .val (.int v7), .val (.ref b8), .val (.int (1 : Int32)), .val (.int (1 : Int32)), .val (.int (1 : Int32)), .val (.int (Own.b2i (own_has (own_add (own_add (fun _ => 0) v3) v5) v3))), .val (.int (Own.b2i (own_has (own_add (own_add (fun _ => 0) v3) v5) v5))), .val (.int (1 : Int32)), .val (.int (1 : Int32))] [])) t
          refine XS.iload X44.here hx rfl (hb hby at_209) rfl ?_
          show Steps p.tables e below (T44.setTop (mkF m 211 #[.val (.int p0), .val (.int p1), .val (.int p2), .val (.int p3), .val (.int v1), .val (.int v3), .val (.int v5), .val (.int v7), .val (.ref b8), .val (.int (1 : Int32)), .val (.int (1 : Int32)), .val (.int (1 : Int32)), .val (.int (Own.b2i (own_has (own_add (own_add (fun _ => 0) v3) v5) v3))), .val (.int (Own.b2i (own_has (own_add (own_add (fun _ => 0) v3) v5) v5))), .val (.int (1 : Int32)), .val (.int (1 : Int32))] [(.int (1 : Int32))])) t
          refine XS.ifNo X44.here hx rfl (hb hby at_211) rfl (by decide) ?_
          show Steps p.tables e below (T44.setTop (mkF m 214 #[.val (.int p0), .val (.int p1), .val (.int p2), .val (.int p3), .val (.int v1), .val (.int v3), .val (.int v5), .val (.int v7), .val (.ref b8), .val (.int (1 : Int32)), .val (.int (1 : Int32)), .val (.int (1 : Int32)), .val (.int (Own.b2i (own_has (own_add (own_add (fun _ => 0) v3) v5) v3))), .val (.int (Own.b2i (own_has (own_add (own_add (fun _ => 0) v3) v5) v5))), .val (.int (1 : Int32)), .val (.int (1 : Int32))] [])) t
          refine XS.iload X44.here hx rfl (hb hby at_214) rfl ?_
          show Steps p.tables e below (T44.setTop (mkF m 216 #[.val (.int p0), .val (.int p1), .val (.int p2), .val (.int p3), .val (.int v1), .val (.int v3), .val (.int v5), .val (.int v7), .val (.ref b8), .val (.int (1 : Int32)), .val (.int (1 : Int32)), .val (.int (1 : Int32)), .val (.int (Own.b2i (own_has (own_add (own_add (fun _ => 0) v3) v5) v3))), .val (.int (Own.b2i (own_has (own_add (own_add (fun _ => 0) v3) v5) v5))), .val (.int (1 : Int32)), .val (.int (1 : Int32))] [(.int (1 : Int32))])) t
          refine XS.ifNo X44.here hx rfl (hb hby at_216) rfl (by decide) ?_
          show Steps p.tables e below (T44.setTop (mkF m 219 #[.val (.int p0), .val (.int p1), .val (.int p2), .val (.int p3), .val (.int v1), .val (.int v3), .val (.int v5), .val (.int v7), .val (.ref b8), .val (.int (1 : Int32)), .val (.int (1 : Int32)), .val (.int (1 : Int32)), .val (.int (Own.b2i (own_has (own_add (own_add (fun _ => 0) v3) v5) v3))), .val (.int (Own.b2i (own_has (own_add (own_add (fun _ => 0) v3) v5) v5))), .val (.int (1 : Int32)), .val (.int (1 : Int32))] [])) t
          refine XS.iload X44.here hx rfl (hb hby at_219) rfl ?_
          show Steps p.tables e below (T44.setTop (mkF m 221 #[.val (.int p0), .val (.int p1), .val (.int p2), .val (.int p3), .val (.int v1), .val (.int v3), .val (.int v5), .val (.int v7), .val (.ref b8), .val (.int (1 : Int32)), .val (.int (1 : Int32)), .val (.int (1 : Int32)), .val (.int (Own.b2i (own_has (own_add (own_add (fun _ => 0) v3) v5) v3))), .val (.int (Own.b2i (own_has (own_add (own_add (fun _ => 0) v3) v5) v5))), .val (.int (1 : Int32)), .val (.int (1 : Int32))] [(.int (Own.b2i (own_has (own_add (own_add (fun _ => 0) v3) v5) v3)))])) t
          exact k
        have hc50 : (own_has (own_add (own_add (fun _ => 0) v3) v5) v3) = true := by rw [own_h2 (own_rem (own_size hv1).1 hv3).1 (own_rem (own_size hv1).1 hv5).1 (own_rem (own_size hv1).1 hv3).1]; simp
        refine hD _ (T44.setTop (mkF m 226 #[.val (.int p0), .val (.int p1), .val (.int p2), .val (.int p3), .val (.int v1), .val (.int v3), .val (.int v5), .val (.int v7), .val (.ref b8), .val (.int (1 : Int32)), .val (.int (1 : Int32)), .val (.int (1 : Int32)), .val (.int (Own.b2i (own_has (own_add (own_add (fun _ => 0) v3) v5) v3))), .val (.int (Own.b2i (own_has (own_add (own_add (fun _ => 0) v3) v5) v5))), .val (.int (1 : Int32)), .val (.int (1 : Int32))] [(.int (Own.b2i (own_has (own_add (own_add (fun _ => 0) v3) v5) v5)))])) (fun t k => ?_) ?_
        · show Steps p.tables e below (T44.setTop (mkF m 221 #[.val (.int p0), .val (.int p1), .val (.int p2), .val (.int p3), .val (.int v1), .val (.int v3), .val (.int v5), .val (.int v7), .val (.ref b8), .val (.int (1 : Int32)), .val (.int (1 : Int32)), .val (.int (1 : Int32)), .val (.int (Own.b2i (own_has (own_add (own_add (fun _ => 0) v3) v5) v3))), .val (.int (Own.b2i (own_has (own_add (own_add (fun _ => 0) v3) v5) v5))), .val (.int (1 : Int32)), .val (.int (1 : Int32))] [(.int (Own.b2i (own_has (own_add (own_add (fun _ => 0) v3) v5) v3)))])) t
          refine XS.ifNo X44.here hx rfl (hb hby at_221) rfl ((if0 _ _).trans (feq (fun q => Own.b2i_eq0.mp q hc50)).1) ?_
          show Steps p.tables e below (T44.setTop (mkF m 224 #[.val (.int p0), .val (.int p1), .val (.int p2), .val (.int p3), .val (.int v1), .val (.int v3), .val (.int v5), .val (.int v7), .val (.ref b8), .val (.int (1 : Int32)), .val (.int (1 : Int32)), .val (.int (1 : Int32)), .val (.int (Own.b2i (own_has (own_add (own_add (fun _ => 0) v3) v5) v3))), .val (.int (Own.b2i (own_has (own_add (own_add (fun _ => 0) v3) v5) v5))), .val (.int (1 : Int32)), .val (.int (1 : Int32))] [])) t
          refine XS.iload X44.here hx rfl (hb hby at_224) rfl ?_
          show Steps p.tables e below (T44.setTop (mkF m 226 #[.val (.int p0), .val (.int p1), .val (.int p2), .val (.int p3), .val (.int v1), .val (.int v3), .val (.int v5), .val (.int v7), .val (.ref b8), .val (.int (1 : Int32)), .val (.int (1 : Int32)), .val (.int (1 : Int32)), .val (.int (Own.b2i (own_has (own_add (own_add (fun _ => 0) v3) v5) v3))), .val (.int (Own.b2i (own_has (own_add (own_add (fun _ => 0) v3) v5) v5))), .val (.int (1 : Int32)), .val (.int (1 : Int32))] [(.int (Own.b2i (own_has (own_add (own_add (fun _ => 0) v3) v5) v5)))])) t
          exact k
        have hc51 : (own_has (own_add (own_add (fun _ => 0) v3) v5) v5) = true := by rw [own_h2 (own_rem (own_size hv1).1 hv3).1 (own_rem (own_size hv1).1 hv5).1 (own_rem (own_size hv1).1 hv5).1]; simp
        refine hD _ (T44.setTop (mkF m 244 #[.val (.int p0), .val (.int p1), .val (.int p2), .val (.int p3), .val (.int v1), .val (.int v3), .val (.int v5), .val (.int v7), .val (.ref b8), .val (.int (1 : Int32)), .val (.int (1 : Int32)), .val (.int (1 : Int32)), .val (.int (Own.b2i (own_has (own_add (own_add (fun _ => 0) v3) v5) v3))), .val (.int (Own.b2i (own_has (own_add (own_add (fun _ => 0) v3) v5) v5))), .val (.int (1 : Int32)), .val (.int (1 : Int32))] [(.int (1 : Int32))])) (fun t k => ?_) ?_
        · show Steps p.tables e below (T44.setTop (mkF m 226 #[.val (.int p0), .val (.int p1), .val (.int p2), .val (.int p3), .val (.int v1), .val (.int v3), .val (.int v5), .val (.int v7), .val (.ref b8), .val (.int (1 : Int32)), .val (.int (1 : Int32)), .val (.int (1 : Int32)), .val (.int (Own.b2i (own_has (own_add (own_add (fun _ => 0) v3) v5) v3))), .val (.int (Own.b2i (own_has (own_add (own_add (fun _ => 0) v3) v5) v5))), .val (.int (1 : Int32)), .val (.int (1 : Int32))] [(.int (Own.b2i (own_has (own_add (own_add (fun _ => 0) v3) v5) v5)))])) t
          refine XS.ifNo X44.here hx rfl (hb hby at_226) rfl ((if0 _ _).trans (feq (fun q => Own.b2i_eq0.mp q hc51)).1) ?_
          show Steps p.tables e below (T44.setTop (mkF m 229 #[.val (.int p0), .val (.int p1), .val (.int p2), .val (.int p3), .val (.int v1), .val (.int v3), .val (.int v5), .val (.int v7), .val (.ref b8), .val (.int (1 : Int32)), .val (.int (1 : Int32)), .val (.int (1 : Int32)), .val (.int (Own.b2i (own_has (own_add (own_add (fun _ => 0) v3) v5) v3))), .val (.int (Own.b2i (own_has (own_add (own_add (fun _ => 0) v3) v5) v5))), .val (.int (1 : Int32)), .val (.int (1 : Int32))] [])) t
          refine XS.iload X44.here hx rfl (hb hby at_229) rfl ?_
          show Steps p.tables e below (T44.setTop (mkF m 231 #[.val (.int p0), .val (.int p1), .val (.int p2), .val (.int p3), .val (.int v1), .val (.int v3), .val (.int v5), .val (.int v7), .val (.ref b8), .val (.int (1 : Int32)), .val (.int (1 : Int32)), .val (.int (1 : Int32)), .val (.int (Own.b2i (own_has (own_add (own_add (fun _ => 0) v3) v5) v3))), .val (.int (Own.b2i (own_has (own_add (own_add (fun _ => 0) v3) v5) v5))), .val (.int (1 : Int32)), .val (.int (1 : Int32))] [(.int (1 : Int32))])) t
          refine XS.ifNo X44.here hx rfl (hb hby at_231) rfl (by decide) ?_
          show Steps p.tables e below (T44.setTop (mkF m 234 #[.val (.int p0), .val (.int p1), .val (.int p2), .val (.int p3), .val (.int v1), .val (.int v3), .val (.int v5), .val (.int v7), .val (.ref b8), .val (.int (1 : Int32)), .val (.int (1 : Int32)), .val (.int (1 : Int32)), .val (.int (Own.b2i (own_has (own_add (own_add (fun _ => 0) v3) v5) v3))), .val (.int (Own.b2i (own_has (own_add (own_add (fun _ => 0) v3) v5) v5))), .val (.int (1 : Int32)), .val (.int (1 : Int32))] [])) t
          refine XS.iload X44.here hx rfl (hb hby at_234) rfl ?_
          show Steps p.tables e below (T44.setTop (mkF m 236 #[.val (.int p0), .val (.int p1), .val (.int p2), .val (.int p3), .val (.int v1), .val (.int v3), .val (.int v5), .val (.int v7), .val (.ref b8), .val (.int (1 : Int32)), .val (.int (1 : Int32)), .val (.int (1 : Int32)), .val (.int (Own.b2i (own_has (own_add (own_add (fun _ => 0) v3) v5) v3))), .val (.int (Own.b2i (own_has (own_add (own_add (fun _ => 0) v3) v5) v5))), .val (.int (1 : Int32)), .val (.int (1 : Int32))] [(.int (1 : Int32))])) t
          refine XS.ifNo X44.here hx rfl (hb hby at_236) rfl (by decide) ?_
          show Steps p.tables e below (T44.setTop (mkF m 239 #[.val (.int p0), .val (.int p1), .val (.int p2), .val (.int p3), .val (.int v1), .val (.int v3), .val (.int v5), .val (.int v7), .val (.ref b8), .val (.int (1 : Int32)), .val (.int (1 : Int32)), .val (.int (1 : Int32)), .val (.int (Own.b2i (own_has (own_add (own_add (fun _ => 0) v3) v5) v3))), .val (.int (Own.b2i (own_has (own_add (own_add (fun _ => 0) v3) v5) v5))), .val (.int (1 : Int32)), .val (.int (1 : Int32))] [])) t
          refine XS.iconst X44.here hx rfl (hb hby at_239) ?_
          show Steps p.tables e below (T44.setTop (mkF m 240 #[.val (.int p0), .val (.int p1), .val (.int p2), .val (.int p3), .val (.int v1), .val (.int v3), .val (.int v5), .val (.int v7), .val (.ref b8), .val (.int (1 : Int32)), .val (.int (1 : Int32)), .val (.int (1 : Int32)), .val (.int (Own.b2i (own_has (own_add (own_add (fun _ => 0) v3) v5) v3))), .val (.int (Own.b2i (own_has (own_add (own_add (fun _ => 0) v3) v5) v5))), .val (.int (1 : Int32)), .val (.int (1 : Int32))] [(.int (1 : Int32))])) t
          refine XS.goto X44.here hx rfl (pc0 := 240) (pc' := 244) rfl (hb hby at_240) (by decide) (by decide) ?_
          show Steps p.tables e below (T44.setTop (mkF m 244 #[.val (.int p0), .val (.int p1), .val (.int p2), .val (.int p3), .val (.int v1), .val (.int v3), .val (.int v5), .val (.int v7), .val (.ref b8), .val (.int (1 : Int32)), .val (.int (1 : Int32)), .val (.int (1 : Int32)), .val (.int (Own.b2i (own_has (own_add (own_add (fun _ => 0) v3) v5) v3))), .val (.int (Own.b2i (own_has (own_add (own_add (fun _ => 0) v3) v5) v5))), .val (.int (1 : Int32)), .val (.int (1 : Int32))] [(.int (1 : Int32))])) t
          exact k
        exact Own.retN hR X44 hx (t := .boolean) hret (by simp) (hb hby at_244) (by decide) (by decide) (by decide) ⟨rfl, N44⟩
    · refine hD _ (T40.setTop (mkF m 167 #[.val (.int p0), .val (.int p1), .val (.int p2), .val (.int p3), .val (.int v1), .val (.int v3), .val (.int v5), .val (.int v7), .val (.ref b8), .val (.int (1 : Int32)), .val (.int (1 : Int32)), .val (.int (1 : Int32)), .val (.int (Own.b2i (own_has (own_add (own_add (fun _ => 0) v3) v5) v3))), .val (.int (Own.b2i (own_has (own_add (own_add (fun _ => 0) v3) v5) v5))), .unset, .unset] [(.int (0 : Int32)), (.int (Own.b2i (own_has (own_add (own_add (fun _ => 0) v3) v5) v7)))])) (fun t k => ?_) ?_
      · show Steps p.tables e below (T40.setTop (mkF m 159 #[.val (.int p0), .val (.int p1), .val (.int p2), .val (.int p3), .val (.int v1), .val (.int v3), .val (.int v5), .val (.int v7), .val (.ref b8), .val (.int (1 : Int32)), .val (.int (1 : Int32)), .val (.int (1 : Int32)), .val (.int (Own.b2i (own_has (own_add (own_add (fun _ => 0) v3) v5) v3))), .val (.int (Own.b2i (own_has (own_add (own_add (fun _ => 0) v3) v5) v5))), .unset, .unset] [(.int v5), (.int v7), (.int (Own.b2i (own_has (own_add (own_add (fun _ => 0) v3) v5) v7)))])) t
        refine XS.icmpYes X40.here hx rfl (pc0 := 159) (pc' := 166) rfl (hb hby at_159) rfl (feq hc42).2 (by decide) (by decide) ?_
        show Steps p.tables e below (T40.setTop (mkF m 166 #[.val (.int p0), .val (.int p1), .val (.int p2), .val (.int p3), .val (.int v1), .val (.int v3), .val (.int v5), .val (.int v7), .val (.ref b8), .val (.int (1 : Int32)), .val (.int (1 : Int32)), .val (.int (1 : Int32)), .val (.int (Own.b2i (own_has (own_add (own_add (fun _ => 0) v3) v5) v3))), .val (.int (Own.b2i (own_has (own_add (own_add (fun _ => 0) v3) v5) v5))), .unset, .unset] [(.int (Own.b2i (own_has (own_add (own_add (fun _ => 0) v3) v5) v7)))])) t
        refine XS.iconst X40.here hx rfl (hb hby at_166) ?_
        show Steps p.tables e below (T40.setTop (mkF m 167 #[.val (.int p0), .val (.int p1), .val (.int p2), .val (.int p3), .val (.int v1), .val (.int v3), .val (.int v5), .val (.int v7), .val (.ref b8), .val (.int (1 : Int32)), .val (.int (1 : Int32)), .val (.int (1 : Int32)), .val (.int (Own.b2i (own_has (own_add (own_add (fun _ => 0) v3) v5) v3))), .val (.int (Own.b2i (own_has (own_add (own_add (fun _ => 0) v3) v5) v5))), .unset, .unset] [(.int (0 : Int32)), (.int (Own.b2i (own_has (own_add (own_add (fun _ => 0) v3) v5) v7)))])) t
        exact k
      have hc52 : (Own.b2i (own_has (own_add (own_add (fun _ => 0) v3) v5) v7)) = (0 : Int32) := by rw [own_h2 (own_rem (own_size hv1).1 hv3).1 (own_rem (own_size hv1).1 hv5).1 (own_rem (own_size hv1).1 hv7).1]; simp [Own.b2i, hc16, hc42]
      obtain ⟨T53, _, L53, X53, ⟨rfl, Nq53, e53⟩, st53⟩ := Own.callV (y := (⟨"com/example/sluice/sluice/FieldSet", "size", "()I"⟩ : MethodName)) (W := 0) (argsL := []) (rest := []) (a := b8) X40 hx hZ hown (hw _ (List.mem_of_getElem? (i := 24) rfl)) (hw _ (List.mem_of_getElem? (i := 25) rfl)) (hw _ (List.mem_of_getElem? (i := 27) rfl)) (hw _ (List.mem_of_getElem? (i := 26) rfl)) (hw _ (List.mem_of_getElem? (i := 3) rfl)) (hw _ (List.mem_of_getElem? (i := 28) rfl)) (by decide) e40 FS37.1 (rm5 l Z a0 hw [] b8 r11 n11 (own_add (own_add (fun _ => 0) v3) v5) T37.heap n0 FS37) (by decide) (by decide) (by decide) (by decide) (g := (mkF m 179 #[.val (.int p0), .val (.int p1), .val (.int p2), .val (.int p3), .val (.int v1), .val (.int v3), .val (.int v5), .val (.int v7), .val (.ref b8), .val (.int (1 : Int32)), .val (.int (1 : Int32)), .val (.int (1 : Int32)), .val (.int (Own.b2i (own_has (own_add (own_add (fun _ => 0) v3) v5) v3))), .val (.int (Own.b2i (own_has (own_add (own_add (fun _ => 0) v3) v5) v5))), .val (.int (1 : Int32)), .unset] [(.ref b8)])) rfl (by rw [hml]; rfl) (lenOf pd_3 rfl) rfl (by show 2 * 0 + _ ≤ _; exact Nat.le_of_eq rfl) (hb hby at_179)
      have N53 := Fr.app N40 Nq53
      refine hD _ (T53.setTop (mkF m 186 #[.val (.int p0), .val (.int p1), .val (.int p2), .val (.int p3), .val (.int v1), .val (.int v3), .val (.int v5), .val (.int v7), .val (.ref b8), .val (.int (1 : Int32)), .val (.int (1 : Int32)), .val (.int (1 : Int32)), .val (.int (Own.b2i (own_has (own_add (own_add (fun _ => 0) v3) v5) v3))), .val (.int (Own.b2i (own_has (own_add (own_add (fun _ => 0) v3) v5) v5))), .val (.int (1 : Int32)), .unset] [(.int v5), (.int v3), (.int (own_sz n11 (own_add (own_add (fun _ => 0) v3) v5)))])) (fun t k => ?_) ?_
      · show Steps p.tables e below (T40.setTop (mkF m 167 #[.val (.int p0), .val (.int p1), .val (.int p2), .val (.int p3), .val (.int v1), .val (.int v3), .val (.int v5), .val (.int v7), .val (.ref b8), .val (.int (1 : Int32)), .val (.int (1 : Int32)), .val (.int (1 : Int32)), .val (.int (Own.b2i (own_has (own_add (own_add (fun _ => 0) v3) v5) v3))), .val (.int (Own.b2i (own_has (own_add (own_add (fun _ => 0) v3) v5) v5))), .unset, .unset] [(.int (0 : Int32)), (.int (Own.b2i (own_has (own_add (own_add (fun _ => 0) v3) v5) v7)))])) t
        refine XS.icmpNo X40.here hx rfl (hb hby at_167) rfl (teq hc52).2 ?_
        show Steps p.tables e below (T40.setTop (mkF m 170 #[.val (.int p0), .val (.int p1), .val (.int p2), .val (.int p3), .val (.int v1), .val (.int v3), .val (.int v5), .val (.int v7), .val (.ref b8), .val (.int (1 : Int32)), .val (.int (1 : Int32)), .val (.int (1 : Int32)), .val (.int (Own.b2i (own_has (own_add (own_add (fun _ => 0) v3) v5) v3))), .val (.int (Own.b2i (own_has (own_add (own_add (fun _ => 0) v3) v5) v5))), .unset, .unset] [])) t
        refine XS.iconst X40.here hx rfl (hb hby at_170) ?_
        show Steps p.tables e below (T40.setTop (mkF m 171 #[.val (.int p0), .val (.int p1), .val (.int p2), .val (.int p3), .val (.int v1), .val (.int v3), .val (.int v5), .val (.int v7), .val (.ref b8), .val (.int (1 : Int32)), .val (.int (1 : Int32)), .val (.int (1 : Int32)), .val (.int (Own.b2i (own_has (own_add (own_add (fun _ => 0) v3) v5) v3))), .val (.int (Own.b2i (own_has (own_add (own_add (fun _ => 0) v3) v5) v5))), .unset, .unset] [(.int (1 : Int32))])) t
        refine XS.goto X40.here hx rfl (pc0 := 171) (pc' := 175) rfl (hb hby at_171) (by decide) (by decide) ?_
        show Steps p.tables e below (T40.setTop (mkF m 175 #[.val (.int p0), .val (.int p1), .val (.int p2), .val (.int p3), .val (.int v1), .val (.int v3), .val (.int v5), .val (.int v7), .val (.ref b8), .val (.int (1 : Int32)), .val (.int (1 : Int32)), .val (.int (1 : Int32)), .val (.int (Own.b2i (own_has (own_add (own_add (fun _ => 0) v3) v5) v3))), .val (.int (Own.b2i (own_has (own_add (own_add (fun _ => 0) v3) v5) v5))), .unset, .unset] [(.int (1 : Int32))])) t
        refine XS.istore X40.here hx rfl (hb hby at_175) rfl (l' := #[.val (.int p0), .val (.int p1), .val (.int p2), .val (.int p3), .val (.int v1), .val (.int v3), .val (.int v5), .val (.int v7), .val (.ref b8), .val (.int (1 : Int32)), .val (.int (1 : Int32)), .val (.int (1 : Int32)), .val (.int (Own.b2i (own_has (own_add (own_add (fun _ => 0) v3) v5) v3))), .val (.int (Own.b2i (own_has (own_add (own_add (fun _ => 0) v3) v5) v5))), .val (.int (1 : Int32)), .unset]) rfl ?_
        show Steps p.tables e below (T40.setTop (mkF m 177 #[.val (.int p0), .val (.int p1), .val (.int p2), .val (.int p3), .val (.int v1), .val (.int v3), .val (.int v5), .val (.int v7), .val (.ref b8), .val (.int (1 : Int32)), .val (.int (1 : Int32)), .val (.int (1 : Int32)), .val (.int (Own.b2i (own_has (own_add (own_add (fun _ => 0) v3) v5) v3))), .val (.int (Own.b2i (own_has (own_add (own_add (fun _ => 0) v3) v5) v5))), .val (.int (1 : Int32)), .unset] [])) t
        refine XS.aload X40.here hx rfl (hb hby at_177) rfl rfl ?_
        show Steps p.tables e below (T40.setTop (mkF m 179 #[.val (.int p0), .val (.int p1), .val (.int p2), .val (.int p3), .val (.int v1), .val (.int v3), .val (.int v5), .val (.int v7), .val (.ref b8), .val (.int (1 : Int32)), .val (.int (1 : Int32)), .val (.int (1 : Int32)), .val (.int (Own.b2i (own_has (own_add (own_add (fun _ => 0) v3) v5) v3))), .val (.int (Own.b2i (own_has (own_add (own_add (fun _ => 0) v3) v5) v5))), .val (.int (1 : Int32)), .unset] [(.ref b8)])) t
        refine st53 _ ?_
        show Steps p.tables e below (T53.setTop (mkF m 182 #[.val (.int p0), .val (.int p1), .val (.int p2), .val (.int p3), .val (.int v1), .val (.int v3), .val (.int v5), .val (.int v7), .val (.ref b8), .val (.int (1 : Int32)), .val (.int (1 : Int32)), .val (.int (1 : Int32)), .val (.int (Own.b2i (own_has (own_add (own_add (fun _ => 0) v3) v5) v3))), .val (.int (Own.b2i (own_has (own_add (own_add (fun _ => 0) v3) v5) v5))), .val (.int (1 : Int32)), .unset] [(.int (own_sz n11 (own_add (own_add (fun _ => 0) v3) v5)))])) t
        refine XS.iload X53.here hx rfl (hb hby at_182) rfl ?_
        show Steps p.tables e below (T53.setTop (mkF m 184 #[.val (.int p0), .val (.int p1), .val (.int p2), .val (.int p3), .val (.int v1), .val (.int v3), .val (.int v5), .val (.int v7), .val (.ref b8), .val (.int (1 : Int32)), .val (.int (1 : Int32)), .val (.int (1 : Int32)), .val (.int (Own.b2i (own_has (own_add (own_add (fun _ => 0) v3) v5) v3))), .val (.int (Own.b2i (own_has (own_add (own_add (fun _ => 0) v3) v5) v5))), .val (.int (1 : Int32)), .unset] [(.int v3), (.int (own_sz n11 (own_add (own_add (fun _ => 0) v3) v5)))])) t
        refine XS.iload X53.here hx rfl (hb hby at_184) rfl ?_
        show Steps p.tables e below (T53.setTop (mkF m 186 #[.val (.int p0), .val (.int p1), .val (.int p2), .val (.int p3), .val (.int v1), .val (.int v3), .val (.int v5), .val (.int v7), .val (.ref b8), .val (.int (1 : Int32)), .val (.int (1 : Int32)), .val (.int (1 : Int32)), .val (.int (Own.b2i (own_has (own_add (own_add (fun _ => 0) v3) v5) v3))), .val (.int (Own.b2i (own_has (own_add (own_add (fun _ => 0) v3) v5) v5))), .val (.int (1 : Int32)), .unset] [(.int v5), (.int v3), (.int (own_sz n11 (own_add (own_add (fun _ => 0) v3) v5)))])) t
        exact k
      by_cases hc54 : v3 = v5
      · refine hD _ (T53.setTop (mkF m 194 #[.val (.int p0), .val (.int p1), .val (.int p2), .val (.int p3), .val (.int v1), .val (.int v3), .val (.int v5), .val (.int v7), .val (.ref b8), .val (.int (1 : Int32)), .val (.int (1 : Int32)), .val (.int (1 : Int32)), .val (.int (Own.b2i (own_has (own_add (own_add (fun _ => 0) v3) v5) v3))), .val (.int (Own.b2i (own_has (own_add (own_add (fun _ => 0) v3) v5) v5))), .val (.int (1 : Int32)), .unset] [(.int (1 : Int32)), (.int (own_sz n11 (own_add (own_add (fun _ => 0) v3) v5)))])) (fun t k => ?_) ?_
        · show Steps p.tables e below (T53.setTop (mkF m 186 #[.val (.int p0), .val (.int p1), .val (.int p2), .val (.int p3), .val (.int v1), .val (.int v3), .val (.int v5), .val (.int v7), .val (.ref b8), .val (.int (1 : Int32)), .val (.int (1 : Int32)), .val (.int (1 : Int32)), .val (.int (Own.b2i (own_has (own_add (own_add (fun _ => 0) v3) v5) v3))), .val (.int (Own.b2i (own_has (own_add (own_add (fun _ => 0) v3) v5) v5))), .val (.int (1 : Int32)), .unset] [(.int v5), (.int v3), (.int (own_sz n11 (own_add (own_add (fun _ => 0) v3) v5)))])) t
          refine XS.icmpNo X53.here hx rfl (hb hby at_186) rfl (teq hc54).2 ?_
          show Steps p.tables e below (T53.setTop (mkF m 189 #[.val (.int p0), .val (.int p1), .val (.int p2), .val (.int p3), .val (.int v1), .val (.int v3), .val (.int v5), .val (.int v7), .val (.ref b8), .val (.int (1 : Int32)), .val (.int (1 : Int32)), .val (.int (1 : Int32)), .val (.int (Own.b2i (own_has (own_add (own_add (fun _ => 0) v3) v5) v3))), .val (.int (Own.b2i (own_has (own_add (own_add (fun _ => 0) v3) v5) v5))), .val (.int (1 : Int32)), .unset] [(.int (own_sz n11 (own_add (own_add (fun _ => 0) v3) v5)))])) t
          refine XS.iconst X53.here hx rfl (hb hby at_189) ?_
          show Steps p.tables e below (T53.setTop (mkF m 190 #[.val (.int p0), .val (.int p1), .val (.int p2), .val (.int p3), .val (.int v1), .val (.int v3), .val (.int v5), .val (.int v7), .val (.ref b8), .val (.int (1 : Int32)), .val (.int (1 : Int32)), .val (.int (1 : Int32)), .val (.int (Own.b2i (own_has (own_add (own_add (fun _ => 0) v3) v5) v3))), .val (.int (Own.b2i (own_has (own_add (own_add (fun _ => 0) v3) v5) v5))), .val (.int (1 : Int32)), .unset] [(.int (1 : Int32)), (.int (own_sz n11 (own_add (own_add (fun _ => 0) v3) v5)))])) t
          refine XS.goto X53.here hx rfl (pc0 := 190) (pc' := 194) rfl (hb hby at_190) (by decide) (by decide) ?_
          show Steps p.tables e below (T53.setTop (mkF m 194 #[.val (.int p0), .val (.int p1), .val (.int p2), .val (.int p3), .val (.int v1), .val (.int v3), .val (.int v5), .val (.int v7), .val (.ref b8), .val (.int (1 : Int32)), .val (.int (1 : Int32)), .val (.int (1 : Int32)), .val (.int (Own.b2i (own_has (own_add (own_add (fun _ => 0) v3) v5) v3))), .val (.int (Own.b2i (own_has (own_add (own_add (fun _ => 0) v3) v5) v5))), .val (.int (1 : Int32)), .unset] [(.int (1 : Int32)), (.int (own_sz n11 (own_add (own_add (fun _ => 0) v3) v5)))])) t
          exact k
        have hc55 : (own_sz n11 (own_add (own_add (fun _ => 0) v3) v5)) = (1 : Int32) := by rw [own_szT (own_in (own_rem (own_size hv1).1 hv3) hn11) (own_in (own_rem (own_size hv1).1 hv5) hn11)]; simp [hc54]
        refine hD _ (T53.setTop (mkF m 221 #[.val (.int p0), .val (.int p1), .val (.int p2), .val (.int p3), .val (.int v1), .val (.int v3), .val (.int v5), .val (.int v7), .val (.ref b8), .val (.int (1 : Int32)), .val (.int (1 : Int32)), .val (.int (1 : Int32)), .val (.int (Own.b2i (own_has (own_add (own_add (fun _ => 0) v3) v5) v3))), .val (.int (Own.b2i (own_has (own_add (own_add (fun _ => 0) v3) v5) v5))), .val (.int (1 : Int32)), .val (.int (1 : Int32))] [(.int (Own.b2i (own_has (own_add (own_add (fun _ => 0) v3) v5) v3)))])) (fun t k => ?_) ?_
        · show Steps p.tables e below (T53.setTop (mkF m 194 #[.val (.int p0), .val (.int p1), .val (.int p2), .val (.int p3), .val (.int v1), .val (.int v3), .val (.int v5), .val (.int v7), .val (.ref b8), .val (.int (1 : Int32)), .val (.int (1 : Int32)), .val (.int (1 : Int32)), .val (.int (Own.b2i (own_has (own_add (own_add (fun _ => 0) v3) v5) v3))), .val (.int (Own.b2i (own_has (own_add (own_add (fun _ => 0) v3) v5) v5))), .val (.int (1 : Int32)), .unset] [(.int (1 : Int32)), (.int (own_sz n11 (own_add (own_add (fun _ => 0) v3) v5)))])) t
          refine XS.icmpNo X53.here hx rfl (hb hby at_194) rfl (teq hc55).2 ?_
          show Steps p.tables e below (T53.setTop (mkF m 197 #[.val (.int p0), .val (.int p1), .val (.int p2), .val (.int p3), .val (.int v1), .val (.int v3), .val (.int v5), .val (.int v7), .val (.ref b8), .val (.int (1 : Int32)), .val (.int (1 : Int32)), .val (.int (1 : Int32)), .val (.int (Own.b2i (own_has (own_add (own_add (fun _ => 0) v3) v5) v3))), .val (.int (Own.b2i (own_has (own_add (own_add (fun _ => 0) v3) v5) v5))), .val (.int (1 : Int32)), .unset] [])) t
          refine XS.iconst X53.here hx rfl (hb hby at_197) ?_
          show Steps p.tables e below (T53.setTop (mkF m 198 #[.val (.int p0), .val (.int p1), .val (.int p2), .val (.int p3), .val (.int v1), .val (.int v3), .val (.int v5), .val (.int v7), .val (.ref b8), .val (.int (1 : Int32)), .val (.int (1 : Int32)), .val (.int (1 : Int32)), .val (.int (Own.b2i (own_has (own_add (own_add (fun _ => 0) v3) v5) v3))), .val (.int (Own.b2i (own_has (own_add (own_add (fun _ => 0) v3) v5) v5))), .val (.int (1 : Int32)), .unset] [(.int (1 : Int32))])) t
          refine XS.goto X53.here hx rfl (pc0 := 198) (pc' := 202) rfl (hb hby at_198) (by decide) (by decide) ?_
          show Steps p.tables e below (T53.setTop (mkF m 202 #[.val (.int p0), .val (.int p1), .val (.int p2), .val (.int p3), .val (.int v1), .val (.int v3), .val (.int v5), .val (.int v7), .val (.ref b8), .val (.int (1 : Int32)), .val (.int (1 : Int32)), .val (.int (1 : Int32)), .val (.int (Own.b2i (own_has (own_add (own_add (fun _ => 0) v3) v5) v3))), .val (.int (Own.b2i (own_has (own_add (own_add (fun _ => 0) v3) v5) v5))), .val (.int (1 : Int32)), .unset] [(.int (1 : Int32))])) t
          refine XS.istore X53.here hx rfl (hb hby at_202) rfl (l' := #[.val (.int p0), .val (.int p1), .val (.int p2), .val (.int p3), .val (.int v1), .val (.int v3), .val (.int v5), .val (.int v7), .val (.ref b8), .val (.int (1 : Int32)), .val (.int (1 : Int32)), .val (.int (1 : Int32)), .val (.int (Own.b2i (own_has (own_add (own_add (fun _ => 0) v3) v5) v3))), .val (.int (Own.b2i (own_has (own_add (own_add (fun _ => 0) v3) v5) v5))), .val (.int (1 : Int32)), .val (.int (1 : Int32))]) rfl ?_
          show Steps p.tables e below (T53.setTop (mkF m 204 #[.val (.int p0), .val (.int p1), .val (.int p2), .val (.int p3), .val (.int v1), .val (.int v3), .val (.int v5), .val (.int v7), .val (.ref b8), .val (.int (1 : Int32)), .val (.int (1 : Int32)), .val (.int (1 : Int32)), .val (.int (Own.b2i (own_has (own_add (own_add (fun _ => 0) v3) v5) v3))), .val (.int (Own.b2i (own_has (own_add (own_add (fun _ => 0) v3) v5) v5))), .val (.int (1 : Int32)), .val (.int (1 : Int32))] [])) t
          refine XS.iload X53.here hx rfl (hb hby at_204) rfl ?_
          show Steps p.tables e below (T53.setTop (mkF m 206 #[.val (.int p0), .val (.int p1), .val (.int p2), .val (.int p3), .val (.int v1), .val (.int v3), .val (.int v5), .val (.int v7), .val (.ref b8), .val (.int (1 : Int32)), .val (.int (1 : Int32)), .val (.int (1 : Int32)), .val (.int (Own.b2i (own_has (own_add (own_add (fun _ => 0) v3) v5) v3))), .val (.int (Own.b2i (own_has (own_add (own_add (fun _ => 0) v3) v5) v5))), .val (.int (1 : Int32)), .val (.int (1 : Int32))] [(.int (1 : Int32))])) t
          refine XS.ifNo X53.here hx rfl (hb hby at_206) rfl (by decide) ?_
          show Steps p.tables e below (T53.setTop (mkF m 209 #[.val (.int p0), .val (.int p1), .val (.int p2), .val (.int p3), .val (.int v1), .val (.int v3), .val (.int v5), .val (.int v7), .val (.ref b8), .val (.int (1 : Int32)), .val (.int (1 : Int32)), .val (.int (1 : Int32)), .val (.int (Own.b2i (own_has (own_add (own_add (fun _ => 0) v3) v5) v3))), .val (.int (Own.b2i (own_has (own_add (own_add (fun _ => 0) v3) v5) v5))), .val (.int (1 : Int32)), .val (.int (1 : Int32))] [])) t
          refine XS.iload X53.here hx rfl (hb hby at_209) rfl ?_
          show Steps p.tables e below (T53.setTop (mkF m 211 #[.val (.int p0), .val (.int p1), .val (.int p2), .val (.int p3), .val (.int v1), .val (.int v3), .val (.int v5), .val (.int v7), .val (.ref b8), .val (.int (1 : Int32)), .val (.int (1 : Int32)), .val (.int (1 : Int32)), .val (.int (Own.b2i (own_has (own_add (own_add (fun _ => 0) v3) v5) v3))), .val (.int (Own.b2i (own_has (own_add (own_add (fun _ => 0) v3) v5) v5))), .val (.int (1 : Int32)), .val (.int (1 : Int32))] [(.int (1 : Int32))])) t
          refine XS.ifNo X53.here hx rfl (hb hby at_211) rfl (by decide) ?_
          show Steps p.tables e below (T53.setTop (mkF m 214 #[.val (.int p0), .val (.int p1), .val (.int p2), .val (.int p3), .val (.int v1), .val (.int v3), .val (.int v5), .val (.int v7), .val (.ref b8), .val (.int (1 : Int32)), .val (.int (1 : Int32)), .val (.int (1 : Int32)), .val (.int (Own.b2i (own_has (own_add (own_add (fun _ => 0) v3) v5) v3))), .val (.int (Own.b2i (own_has (own_add (own_add (fun _ => 0) v3) v5) v5))), .val (.int (1 : Int32)), .val (.int (1 : Int32))] [])) t
          refine XS.iload X53.here hx rfl (hb hby at_214) rfl ?_
          show Steps p.tables e below (T53.setTop (mkF m 216 #[.val (.int p0), .val (.int p1), .val (.int p2), .val (.int p3), .val (.int v1), .val (.int v3), .val (.int v5), .val (.int v7), .val (.ref b8), .val (.int (1 : Int32)), .val (.int (1 : Int32)), .val (.int (1 : Int32)), .val (.int (Own.b2i (own_has (own_add (own_add (fun _ => 0) v3) v5) v3))), .val (.int (Own.b2i (own_has (own_add (own_add (fun _ => 0) v3) v5) v5))), .val (.int (1 : Int32)), .val (.int (1 : Int32))] [(.int (1 : Int32))])) t
          refine XS.ifNo X53.here hx rfl (hb hby at_216) rfl (by decide) ?_
          show Steps p.tables e below (T53.setTop (mkF m 219 #[.val (.int p0), .val (.int p1), .val (.int p2), .val (.int p3), .val (.int v1), .val (.int v3), .val (.int v5), .val (.int v7), .val (.ref b8), .val (.int (1 : Int32)), .val (.int (1 : Int32)), .val (.int (1 : Int32)), .val (.int (Own.b2i (own_has (own_add (own_add (fun _ => 0) v3) v5) v3))), .val (.int (Own.b2i (own_has (own_add (own_add (fun _ => 0) v3) v5) v5))), .val (.int (1 : Int32)), .val (.int (1 : Int32))] [])) t
          refine XS.iload X53.here hx rfl (hb hby at_219) rfl ?_
          show Steps p.tables e below (T53.setTop (mkF m 221 #[.val (.int p0), .val (.int p1), .val (.int p2), .val (.int p3), .val (.int v1), .val (.int v3), .val (.int v5), .val (.int v7), .val (.ref b8), .val (.int (1 : Int32)), .val (.int (1 : Int32)), .val (.int (1 : Int32)), .val (.int (Own.b2i (own_has (own_add (own_add (fun _ => 0) v3) v5) v3))), .val (.int (Own.b2i (own_has (own_add (own_add (fun _ => 0) v3) v5) v5))), .val (.int (1 : Int32)), .val (.int (1 : Int32))] [(.int (Own.b2i (own_has (own_add (own_add (fun _ => 0) v3) v5) v3)))])) t
          exact k
        have hc56 : (own_has (own_add (own_add (fun _ => 0) v3) v5) v3) = true := by rw [own_h2 (own_rem (own_size hv1).1 hv3).1 (own_rem (own_size hv1).1 hv5).1 (own_rem (own_size hv1).1 hv3).1]; simp
        refine hD _ (T53.setTop (mkF m 226 #[.val (.int p0), .val (.int p1), .val (.int p2), .val (.int p3), .val (.int v1), .val (.int v3), .val (.int v5), .val (.int v7), .val (.ref b8), .val (.int (1 : Int32)), .val (.int (1 : Int32)), .val (.int (1 : Int32)), .val (.int (Own.b2i (own_has (own_add (own_add (fun _ => 0) v3) v5) v3))), .val (.int (Own.b2i (own_has (own_add (own_add (fun _ => 0) v3) v5) v5))), .val (.int (1 : Int32)), .val (.int (1 : Int32))] [(.int (Own.b2i (own_has (own_add (own_add (fun _ => 0) v3) v5) v5)))])) (fun t k => ?_) ?_
        · show Steps p.tables e below (T53.setTop (mkF m 221 #[.val (.int p0), .val (.int p1), .val (.int p2), .val (.int p3), .val (.int v1), .val (.int v3), .val (.int v5), .val (.int v7), .val (.ref b8), .val (.int (1 : Int32)), .val (.int (1 : Int32)), .val (.int (1 : Int32)), .val (.int (Own.b2i (own_has (own_add (own_add (fun _ => 0) v3) v5) v3))), .val (.int (Own.b2i (own_has (own_add (own_add (fun _ => 0) v3) v5) v5))), .val (.int (1 : Int32)), .val (.int (1 : Int32))] [(.int (Own.b2i (own_has (own_add (own_add (fun _ => 0) v3) v5) v3)))])) t
          refine XS.ifNo X53.here hx rfl (hb hby at_221) rfl ((if0 _ _).trans (feq (fun q => Own.b2i_eq0.mp q hc56)).1) ?_
          show Steps p.tables e below (T53.setTop (mkF m 224 #[.val (.int p0), .val (.int p1), .val (.int p2), .val (.int p3), .val (.int v1), .val (.int v3), .val (.int v5), .val (.int v7), .val (.ref b8), .val (.int (1 : Int32)), .val (.int (1 : Int32)), .val (.int (1 : Int32)), .val (.int (Own.b2i (own_has (own_add (own_add (fun _ => 0) v3) v5) v3))), .val (.int (Own.b2i (own_has (own_add (own_add (fun _ => 0) v3) v5) v5))), .val (.int (1 : Int32)), .val (.int (1 : Int32))] [])) t
          refine XS.iload X53.here hx rfl (hb hby at_224) rfl ?_
          show Steps p.tables e below (T53.setTop (mkF m 226 #[.val (.int p0), .val (.int p1), .val (.int p2), .val (.int p3), .val (.int v1), .val (.int v3), .val (.int v5), .val (.int v7), .val (.ref b8), .val (.int (1 : Int32)), .val (.int (1 : Int32)), .val (.int (1 : Int32)), .val (.int (Own.b2i (own_has (own_add (own_add (fun _ => 0) v3) v5) v3))), .val (.int (Own.b2i (own_has (own_add (own_add (fun _ => 0) v3) v5) v5))), .val (.int (1 : Int32)), .val (.int (1 : Int32))] [(.int (Own.b2i (own_has (own_add (own_add (fun _ => 0) v3) v5) v5)))])) t
          exact k
        have hc57 : (own_has (own_add (own_add (fun _ => 0) v3) v5) v5) = true := by rw [own_h2 (own_rem (own_size hv1).1 hv3).1 (own_rem (own_size hv1).1 hv5).1 (own_rem (own_size hv1).1 hv5).1]; simp
        refine hD _ (T53.setTop (mkF m 244 #[.val (.int p0), .val (.int p1), .val (.int p2), .val (.int p3), .val (.int v1), .val (.int v3), .val (.int v5), .val (.int v7), .val (.ref b8), .val (.int (1 : Int32)), .val (.int (1 : Int32)), .val (.int (1 : Int32)), .val (.int (Own.b2i (own_has (own_add (own_add (fun _ => 0) v3) v5) v3))), .val (.int (Own.b2i (own_has (own_add (own_add (fun _ => 0) v3) v5) v5))), .val (.int (1 : Int32)), .val (.int (1 : Int32))] [(.int (1 : Int32))])) (fun t k => ?_) ?_
        · show Steps p.tables e below (T53.setTop (mkF m 226 #[.val (.int p0), .val (.int p1), .val (.int p2), .val (.int p3), .val (.int v1), .val (.int v3), .val (.int v5), .val (.int v7), .val (.ref b8), .val (.int (1 : Int32)), .val (.int (1 : Int32)), .val (.int (1 : Int32)), .val (.int (Own.b2i (own_has (own_add (own_add (fun _ => 0) v3) v5) v3))), .val (.int (Own.b2i (own_has (own_add (own_add (fun _ => 0) v3) v5) v5))), .val (.int (1 : Int32)), .val (.int (1 : Int32))] [(.int (Own.b2i (own_has (own_add (own_add (fun _ => 0) v3) v5) v5)))])) t
          refine XS.ifNo X53.here hx rfl (hb hby at_226) rfl ((if0 _ _).trans (feq (fun q => Own.b2i_eq0.mp q hc57)).1) ?_
          show Steps p.tables e below (T53.setTop (mkF m 229 #[.val (.int p0), .val (.int p1), .val (.int p2), .val (.int p3), .val (.int v1), .val (.int v3), .val (.int v5), .val (.int v7), .val (.ref b8), .val (.int (1 : Int32)), .val (.int (1 : Int32)), .val (.int (1 : Int32)), .val (.int (Own.b2i (own_has (own_add (own_add (fun _ => 0) v3) v5) v3))), .val (.int (Own.b2i (own_has (own_add (own_add (fun _ => 0) v3) v5) v5))), .val (.int (1 : Int32)), .val (.int (1 : Int32))] [])) t
          refine XS.iload X53.here hx rfl (hb hby at_229) rfl ?_
          show Steps p.tables e below (T53.setTop (mkF m 231 #[.val (.int p0), .val (.int p1), .val (.int p2), .val (.int p3), .val (.int v1), .val (.int v3), .val (.int v5), .val (.int v7), .val (.ref b8), .val (.int (1 : Int32)), .val (.int (1 : Int32)), .val (.int (1 : Int32)), .val (.int (Own.b2i (own_has (own_add (own_add (fun _ => 0) v3) v5) v3))), .val (.int (Own.b2i (own_has (own_add (own_add (fun _ => 0) v3) v5) v5))), .val (.int (1 : Int32)), .val (.int (1 : Int32))] [(.int (1 : Int32))])) t
          refine XS.ifNo X53.here hx rfl (hb hby at_231) rfl (by decide) ?_
          show Steps p.tables e below (T53.setTop (mkF m 234 #[.val (.int p0), .val (.int p1), .val (.int p2), .val (.int p3), .val (.int v1), .val (.int v3), .val (.int v5), .val (.int v7), .val (.ref b8), .val (.int (1 : Int32)), .val (.int (1 : Int32)), .val (.int (1 : Int32)), .val (.int (Own.b2i (own_has (own_add (own_add (fun _ => 0) v3) v5) v3))), .val (.int (Own.b2i (own_has (own_add (own_add (fun _ => 0) v3) v5) v5))), .val (.int (1 : Int32)), .val (.int (1 : Int32))] [])) t
          refine XS.iload X53.here hx rfl (hb hby at_234) rfl ?_
          show Steps p.tables e below (T53.setTop (mkF m 236 #[.val (.int p0), .val (.int p1), .val (.int p2), .val (.int p3), .val (.int v1), .val (.int v3), .val (.int v5), .val (.int v7), .val (.ref b8), .val (.int (1 : Int32)), .val (.int (1 : Int32)), .val (.int (1 : Int32)), .val (.int (Own.b2i (own_has (own_add (own_add (fun _ => 0) v3) v5) v3))), .val (.int (Own.b2i (own_has (own_add (own_add (fun _ => 0) v3) v5) v5))), .val (.int (1 : Int32)), .val (.int (1 : Int32))] [(.int (1 : Int32))])) t
          refine XS.ifNo X53.here hx rfl (hb hby at_236) rfl (by decide) ?_
          show Steps p.tables e below (T53.setTop (mkF m 239 #[.val (.int p0), .val (.int p1), .val (.int p2), .val (.int p3), .val (.int v1), .val (.int v3), .val (.int v5), .val (.int v7), .val (.ref b8), .val (.int (1 : Int32)), .val (.int (1 : Int32)), .val (.int (1 : Int32)), .val (.int (Own.b2i (own_has (own_add (own_add (fun _ => 0) v3) v5) v3))), .val (.int (Own.b2i (own_has (own_add (own_add (fun _ => 0) v3) v5) v5))), .val (.int (1 : Int32)), .val (.int (1 : Int32))] [])) t
          refine XS.iconst X53.here hx rfl (hb hby at_239) ?_
          show Steps p.tables e below (T53.setTop (mkF m 240 #[.val (.int p0), .val (.int p1), .val (.int p2), .val (.int p3), .val (.int v1), .val (.int v3), .val (.int v5), .val (.int v7), .val (.ref b8), .val (.int (1 : Int32)), .val (.int (1 : Int32)), .val (.int (1 : Int32)), .val (.int (Own.b2i (own_has (own_add (own_add (fun _ => 0) v3) v5) v3))), .val (.int (Own.b2i (own_has (own_add (own_add (fun _ => 0) v3) v5) v5))), .val (.int (1 : Int32)), .val (.int (1 : Int32))] [(.int (1 : Int32))])) t
          refine XS.goto X53.here hx rfl (pc0 := 240) (pc' := 244) rfl (hb hby at_240) (by decide) (by decide) ?_
          show Steps p.tables e below (T53.setTop (mkF m 244 #[.val (.int p0), .val (.int p1), .val (.int p2), .val (.int p3), .val (.int v1), .val (.int v3), .val (.int v5), .val (.int v7), .val (.ref b8), .val (.int (1 : Int32)), .val (.int (1 : Int32)), .val (.int (1 : Int32)), .val (.int (Own.b2i (own_has (own_add (own_add (fun _ => 0) v3) v5) v3))), .val (.int (Own.b2i (own_has (own_add (own_add (fun _ => 0) v3) v5) v5))), .val (.int (1 : Int32)), .val (.int (1 : Int32))] [(.int (1 : Int32))])) t
          exact k
        exact Own.retN hR X53 hx (t := .boolean) hret (by simp) (hb hby at_244) (by decide) (by decide) (by decide) ⟨rfl, N53⟩
      · refine hD _ (T53.setTop (mkF m 194 #[.val (.int p0), .val (.int p1), .val (.int p2), .val (.int p3), .val (.int v1), .val (.int v3), .val (.int v5), .val (.int v7), .val (.ref b8), .val (.int (1 : Int32)), .val (.int (1 : Int32)), .val (.int (1 : Int32)), .val (.int (Own.b2i (own_has (own_add (own_add (fun _ => 0) v3) v5) v3))), .val (.int (Own.b2i (own_has (own_add (own_add (fun _ => 0) v3) v5) v5))), .val (.int (1 : Int32)), .unset] [(.int (2 : Int32)), (.int (own_sz n11 (own_add (own_add (fun _ => 0) v3) v5)))])) (fun t k => ?_) ?_
        · show Steps p.tables e below (T53.setTop (mkF m 186 #[.val (.int p0), .val (.int p1), .val (.int p2), .val (.int p3), .val (.int v1), .val (.int v3), .val (.int v5), .val (.int v7), .val (.ref b8), .val (.int (1 : Int32)), .val (.int (1 : Int32)), .val (.int (1 : Int32)), .val (.int (Own.b2i (own_has (own_add (own_add (fun _ => 0) v3) v5) v3))), .val (.int (Own.b2i (own_has (own_add (own_add (fun _ => 0) v3) v5) v5))), .val (.int (1 : Int32)), .unset] [(.int v5), (.int v3), (.int (own_sz n11 (own_add (own_add (fun _ => 0) v3) v5)))])) t
          refine XS.icmpYes X53.here hx rfl (pc0 := 186) (pc' := 193) rfl (hb hby at_186) rfl (feq hc54).2 (by decide) (by decide) ?_
          show Steps p.tables e below (T53.setTop (mkF m 193 #[.val (.int p0), .val (.int p1), .val (.int p2), .val (.int p3), .val (.int v1), .val (.int v3), .val (.int v5), .val (.int v7), .val (.ref b8), .val (.int (1 : Int32)), .val (.int (1 : Int32)), .val (.int (1 : Int32)), .val (.int (Own.b2i (own_has (own_add (own_add (fun _ => 0) v3) v5) v3))), .val (.int (Own.b2i (own_has (own_add (own_add (fun _ => 0) v3) v5) v5))), .val (.int (1 : Int32)), .unset] [(.int (own_sz n11 (own_add (own_add (fun _ => 0) v3) v5)))])) t
          refine XS.iconst X53.here hx rfl (hb hby at_193) ?_
          show Steps p.tables e below (T53.setTop (mkF m 194 #[.val (.int p0), .val (.int p1), .val (.int p2), .val (.int p3), .val (.int v1), .val (.int v3), .val (.int v5), .val (.int v7), .val (.ref b8), .val (.int (1 : Int32)), .val (.int (1 : Int32)), .val (.int (1 : Int32)), .val (.int (Own.b2i (own_has (own_add (own_add (fun _ => 0) v3) v5) v3))), .val (.int (Own.b2i (own_has (own_add (own_add (fun _ => 0) v3) v5) v5))), .val (.int (1 : Int32)), .unset] [(.int (2 : Int32)), (.int (own_sz n11 (own_add (own_add (fun _ => 0) v3) v5)))])) t
          exact k
        have hc58 : (own_sz n11 (own_add (own_add (fun _ => 0) v3) v5)) = (2 : Int32) := by rw [own_szT (own_in (own_rem (own_size hv1).1 hv3) hn11) (own_in (own_rem (own_size hv1).1 hv5) hn11)]; simp [hc54]
        refine hD _ (T53.setTop (mkF m 221 #[.val (.int p0), .val (.int p1), .val (.int p2), .val (.int p3), .val (.int v1), .val (.int v3), .val (.int v5), .val (.int v7), .val (.ref b8), .val (.int (1 : Int32)), .val (.int (1 : Int32)), .val (.int (1 : Int32)), .val (.int (Own.b2i (own_has (own_add (own_add (fun _ => 0) v3) v5) v3))), .val (.int (Own.b2i (own_has (own_add (own_add (fun _ => 0) v3) v5) v5))), .val (.int (1 : Int32)), .val (.int (1 : Int32))] [(.int (Own.b2i (own_has (own_add (own_add (fun _ => 0) v3) v5) v3)))])) (fun t k => ?_) ?_
        · show Steps p.tables e below (T53.setTop (mkF m 194 #[.val (.int p0), .val (.int p1), .val (.int p2), .val (.int p3), .val (.int v1), .val (.int v3), .val (.int v5), .val (.int v7), .val (.ref b8), .val (.int (1 : Int32)), .val (.int (1 : Int32)), .val (.int (1 : Int32)), .val (.int (Own.b2i (own_has (own_add (own_add (fun _ => 0) v3) v5) v3))), .val (.int (Own.b2i (own_has (own_add (own_add (fun _ => 0) v3) v5) v5))), .val (.int (1 : Int32)), .unset] [(.int (2 : Int32)), (.int (own_sz n11 (own_add (own_add (fun _ => 0) v3) v5)))])) t
          refine XS.icmpNo X53.here hx rfl (hb hby at_194) rfl (teq hc58).2 ?_
          show Steps p.tables e below (T53.setTop (mkF m 197 #[.val (.int p0), .val (.int p1), .val (.int p2), .val (.int p3), .val (.int v1), .val (.int v3), .val (.int v5), .val (.int v7), .val (.ref b8), .val (.int (1 : Int32)), .val (.int (1 : Int32)), .val (.int (1 : Int32)), .val (.int (Own.b2i (own_has (own_add (own_add (fun _ => 0) v3) v5) v3))), .val (.int (Own.b2i (own_has (own_add (own_add (fun _ => 0) v3) v5) v5))), .val (.int (1 : Int32)), .unset] [])) t
          refine XS.iconst X53.here hx rfl (hb hby at_197) ?_
          show Steps p.tables e below (T53.setTop (mkF m 198 #[.val (.int p0), .val (.int p1), .val (.int p2), .val (.int p3), .val (.int v1), .val (.int v3), .val (.int v5), .val (.int v7), .val (.ref b8), .val (.int (1 : Int32)), .val (.int (1 : Int32)), .val (.int (1 : Int32)), .val (.int (Own.b2i (own_has (own_add (own_add (fun _ => 0) v3) v5) v3))), .val (.int (Own.b2i (own_has (own_add (own_add (fun _ => 0) v3) v5) v5))), .val (.int (1 : Int32)), .unset] [(.int (1 : Int32))])) t
          refine XS.goto X53.here hx rfl (pc0 := 198) (pc' := 202) rfl (hb hby at_198) (by decide) (by decide) ?_
          show Steps p.tables e below (T53.setTop (mkF m 202 #[.val (.int p0), .val (.int p1), .val (.int p2), .val (.int p3), .val (.int v1), .val (.int v3), .val (.int v5), .val (.int v7), .val (.ref b8), .val (.int (1 : Int32)), .val (.int (1 : Int32)), .val (.int (1 : Int32)), .val (.int (Own.b2i (own_has (own_add (own_add (fun _ => 0) v3) v5) v3))), .val (.int (Own.b2i (own_has (own_add (own_add (fun _ => 0) v3) v5) v5))), .val (.int (1 : Int32)), .unset] [(.int (1 : Int32))])) t
          refine XS.istore X53.here hx rfl (hb hby at_202) rfl (l' := #[.val (.int p0), .val (.int p1), .val (.int p2), .val (.int p3), .val (.int v1), .val (.int v3), .val (.int v5), .val (.int v7), .val (.ref b8), .val (.int (1 : Int32)), .val (.int (1 : Int32)), .val (.int (1 : Int32)), .val (.int (Own.b2i (own_has (own_add (own_add (fun _ => 0) v3) v5) v3))), .val (.int (Own.b2i (own_has (own_add (own_add (fun _ => 0) v3) v5) v5))), .val (.int (1 : Int32)), .val (.int (1 : Int32))]) rfl ?_
          show Steps p.tables e below (T53.setTop (mkF m 204 #[.val (.int p0), .val (.int p1), .val (.int p2), .val (.int p3), .val (.int v1), .val (.int v3), .val (.int v5), .val (.int v7), .val (.ref b8), .val (.int (1 : Int32)), .val (.int (1 : Int32)), .val (.int (1 : Int32)), .val (.int (Own.b2i (own_has (own_add (own_add (fun _ => 0) v3) v5) v3))), .val (.int (Own.b2i (own_has (own_add (own_add (fun _ => 0) v3) v5) v5))), .val (.int (1 : Int32)), .val (.int (1 : Int32))] [])) t
          refine XS.iload X53.here hx rfl (hb hby at_204) rfl ?_
          show Steps p.tables e below (T53.setTop (mkF m 206 #[.val (.int p0), .val (.int p1), .val (.int p2), .val (.int p3), .val (.int v1), .val (.int v3), .val (.int v5), .val (.int v7), .val (.ref b8), .val (.int (1 : Int32)), .val (.int (1 : Int32)), .val (.int (1 : Int32)), .val (.int (Own.b2i (own_has (own_add (own_add (fun _ => 0) v3) v5) v3))), .val (.int (Own.b2i (own_has (own_add (own_add (fun _ => 0) v3) v5) v5))), .val (.int (1 : Int32)), .val (.int (1 : Int32))] [(.int (1 : Int32))])) t
          refine XS.ifNo X53.here hx rfl (hb hby at_206) rfl (by decide) ?_
          show Steps p.tables e below (T53.setTop (mkF m 209 #[.val (.int p0), .val (.int p1), .val (.int p2), .val (.int p3), .val (.int v1), .val (.int v3), .val (.int v5), .val (.int v7), .val (.ref b8), .val (.int (1 : Int32)), .val (.int (1 : Int32)), .val (.int (1 : Int32)), .val (.int (Own.b2i (own_has (own_add (own_add (fun _ => 0) v3) v5) v3))), .val (.int (Own.b2i (own_has (own_add (own_add (fun _ => 0) v3) v5) v5))), .val (.int (1 : Int32)), .val (.int (1 : Int32))] [])) t
          refine XS.iload X53.here hx rfl (hb hby at_209) rfl ?_
          show Steps p.tables e below (T53.setTop (mkF m 211 #[.val (.int p0), .val (.int p1), .val (.int p2), .val (.int p3), .val (.int v1), .val (.int v3), .val (.int v5), .val (.int v7), .val (.ref b8), .val (.int (1 : Int32)), .val (.int (1 : Int32)), .val (.int (1 : Int32)), .val (.int (Own.b2i (own_has (own_add (own_add (fun _ => 0) v3) v5) v3))), .val (.int (Own.b2i (own_has (own_add (own_add (fun _ => 0) v3) v5) v5))), .val (.int (1 : Int32)), .val (.int (1 : Int32))] [(.int (1 : Int32))])) t
          refine XS.ifNo X53.here hx rfl (hb hby at_211) rfl (by decide) ?_
          show Steps p.tables e below (T53.setTop (mkF m 214 #[.val (.int p0), .val (.int p1), .val (.int p2), .val (.int p3), .val (.int v1), .val (.int v3), .val (.int v5), .val (.int v7), .val (.ref b8), .val (.int (1 : Int32)), .val (.int (1 : Int32)), .val (.int (1 : Int32)), .val (.int (Own.b2i (own_has (own_add (own_add (fun _ => 0) v3) v5) v3))), .val (.int (Own.b2i (own_has (own_add (own_add (fun _ => 0) v3) v5) v5))), .val (.int (1 : Int32)), .val (.int (1 : Int32))] [])) t
          refine XS.iload X53.here hx rfl (hb hby at_214) rfl ?_
          show Steps p.tables e below (T53.setTop (mkF m 216 #[.val (.int p0), .val (.int p1), .val (.int p2), .val (.int p3), .val (.int v1), .val (.int v3), .val (.int v5), .val (.int v7), .val (.ref b8), .val (.int (1 : Int32)), .val (.int (1 : Int32)), .val (.int (1 : Int32)), .val (.int (Own.b2i (own_has (own_add (own_add (fun _ => 0) v3) v5) v3))), .val (.int (Own.b2i (own_has (own_add (own_add (fun _ => 0) v3) v5) v5))), .val (.int (1 : Int32)), .val (.int (1 : Int32))] [(.int (1 : Int32))])) t
          refine XS.ifNo X53.here hx rfl (hb hby at_216) rfl (by decide) ?_
          show Steps p.tables e below (T53.setTop (mkF m 219 #[.val (.int p0), .val (.int p1), .val (.int p2), .val (.int p3), .val (.int v1), .val (.int v3), .val (.int v5), .val (.int v7), .val (.ref b8), .val (.int (1 : Int32)), .val (.int (1 : Int32)), .val (.int (1 : Int32)), .val (.int (Own.b2i (own_has (own_add (own_add (fun _ => 0) v3) v5) v3))), .val (.int (Own.b2i (own_has (own_add (own_add (fun _ => 0) v3) v5) v5))), .val (.int (1 : Int32)), .val (.int (1 : Int32))] [])) t
          refine XS.iload X53.here hx rfl (hb hby at_219) rfl ?_
          show Steps p.tables e below (T53.setTop (mkF m 221 #[.val (.int p0), .val (.int p1), .val (.int p2), .val (.int p3), .val (.int v1), .val (.int v3), .val (.int v5), .val (.int v7), .val (.ref b8), .val (.int (1 : Int32)), .val (.int (1 : Int32)), .val (.int (1 : Int32)), .val (.int (Own.b2i (own_has (own_add (own_add (fun _ => 0) v3) v5) v3))), .val (.int (Own.b2i (own_has (own_add (own_add (fun _ => 0) v3) v5) v5))), .val (.int (1 : Int32)), .val (.int (1 : Int32))] [(.int (Own.b2i (own_has (own_add (own_add (fun _ => 0) v3) v5) v3)))])) t
          exact k
        have hc59 : (own_has (own_add (own_add (fun _ => 0) v3) v5) v3) = true := by rw [own_h2 (own_rem (own_size hv1).1 hv3).1 (own_rem (own_size hv1).1 hv5).1 (own_rem (own_size hv1).1 hv3).1]; simp
        refine hD _ (T53.setTop (mkF m 226 #[.val (.int p0), .val (.int p1), .val (.int p2), .val (.int p3), .val (.int v1), .val (.int v3), .val (.int v5), .val (.int v7), .val (.ref b8), .val (.int (1 : Int32)), .val (.int (1 : Int32)), .val (.int (1 : Int32)), .val (.int (Own.b2i (own_has (own_add (own_add (fun _ => 0) v3) v5) v3))), .val (.int (Own.b2i (own_has (own_add (own_add (fun _ => 0) v3) v5) v5))), .val (.int (1 : Int32)), .val (.int (1 : Int32))] [(.int (Own.b2i (own_has (own_add (own_add (fun _ => 0) v3) v5) v5)))])) (fun t k => ?_) ?_
        · show Steps p.tables e below (T53.setTop (mkF m 221 #[.val (.int p0), .val (.int p1), .val (.int p2), .val (.int p3), .val (.int v1), .val (.int v3), .val (.int v5), .val (.int v7), .val (.ref b8), .val (.int (1 : Int32)), .val (.int (1 : Int32)), .val (.int (1 : Int32)), .val (.int (Own.b2i (own_has (own_add (own_add (fun _ => 0) v3) v5) v3))), .val (.int (Own.b2i (own_has (own_add (own_add (fun _ => 0) v3) v5) v5))), .val (.int (1 : Int32)), .val (.int (1 : Int32))] [(.int (Own.b2i (own_has (own_add (own_add (fun _ => 0) v3) v5) v3)))])) t
          refine XS.ifNo X53.here hx rfl (hb hby at_221) rfl ((if0 _ _).trans (feq (fun q => Own.b2i_eq0.mp q hc59)).1) ?_
          show Steps p.tables e below (T53.setTop (mkF m 224 #[.val (.int p0), .val (.int p1), .val (.int p2), .val (.int p3), .val (.int v1), .val (.int v3), .val (.int v5), .val (.int v7), .val (.ref b8), .val (.int (1 : Int32)), .val (.int (1 : Int32)), .val (.int (1 : Int32)), .val (.int (Own.b2i (own_has (own_add (own_add (fun _ => 0) v3) v5) v3))), .val (.int (Own.b2i (own_has (own_add (own_add (fun _ => 0) v3) v5) v5))), .val (.int (1 : Int32)), .val (.int (1 : Int32))] [])) t
          refine XS.iload X53.here hx rfl (hb hby at_224) rfl ?_
          show Steps p.tables e below (T53.setTop (mkF m 226 #[.val (.int p0), .val (.int p1), .val (.int p2), .val (.int p3), .val (.int v1), .val (.int v3), .val (.int v5), .val (.int v7), .val (.ref b8), .val (.int (1 : Int32)), .val (.int (1 : Int32)), .val (.int (1 : Int32)), .val (.int (Own.b2i (own_has (own_add (own_add (fun _ => 0) v3) v5) v3))), .val (.int (Own.b2i (own_has (own_add (own_add (fun _ => 0) v3) v5) v5))), .val (.int (1 : Int32)), .val (.int (1 : Int32))] [(.int (Own.b2i (own_has (own_add (own_add (fun _ => 0) v3) v5) v5)))])) t
          exact k
        have hc60 : (own_has (own_add (own_add (fun _ => 0) v3) v5) v5) = true := by rw [own_h2 (own_rem (own_size hv1).1 hv3).1 (own_rem (own_size hv1).1 hv5).1 (own_rem (own_size hv1).1 hv5).1]; simp
        refine hD _ (T53.setTop (mkF m 244 #[.val (.int p0), .val (.int p1), .val (.int p2), .val (.int p3), .val (.int v1), .val (.int v3), .val (.int v5), .val (.int v7), .val (.ref b8), .val (.int (1 : Int32)), .val (.int (1 : Int32)), .val (.int (1 : Int32)), .val (.int (Own.b2i (own_has (own_add (own_add (fun _ => 0) v3) v5) v3))), .val (.int (Own.b2i (own_has (own_add (own_add (fun _ => 0) v3) v5) v5))), .val (.int (1 : Int32)), .val (.int (1 : Int32))] [(.int (1 : Int32))])) (fun t k => ?_) ?_
        · show Steps p.tables e below (T53.setTop (mkF m 226 #[.val (.int p0), .val (.int p1), .val (.int p2), .val (.int p3), .val (.int v1), .val (.int v3), .val (.int v5), .val (.int v7), .val (.ref b8), .val (.int (1 : Int32)), .val (.int (1 : Int32)), .val (.int (1 : Int32)), .val (.int (Own.b2i (own_has (own_add (own_add (fun _ => 0) v3) v5) v3))), .val (.int (Own.b2i (own_has (own_add (own_add (fun _ => 0) v3) v5) v5))), .val (.int (1 : Int32)), .val (.int (1 : Int32))] [(.int (Own.b2i (own_has (own_add (own_add (fun _ => 0) v3) v5) v5)))])) t
          refine XS.ifNo X53.here hx rfl (hb hby at_226) rfl ((if0 _ _).trans (feq (fun q => Own.b2i_eq0.mp q hc60)).1) ?_
          show Steps p.tables e below (T53.setTop (mkF m 229 #[.val (.int p0), .val (.int p1), .val (.int p2), .val (.int p3), .val (.int v1), .val (.int v3), .val (.int v5), .val (.int v7), .val (.ref b8), .val (.int (1 : Int32)), .val (.int (1 : Int32)), .val (.int (1 : Int32)), .val (.int (Own.b2i (own_has (own_add (own_add (fun _ => 0) v3) v5) v3))), .val (.int (Own.b2i (own_has (own_add (own_add (fun _ => 0) v3) v5) v5))), .val (.int (1 : Int32)), .val (.int (1 : Int32))] [])) t
          refine XS.iload X53.here hx rfl (hb hby at_229) rfl ?_
          show Steps p.tables e below (T53.setTop (mkF m 231 #[.val (.int p0), .val (.int p1), .val (.int p2), .val (.int p3), .val (.int v1), .val (.int v3), .val (.int v5), .val (.int v7), .val (.ref b8), .val (.int (1 : Int32)), .val (.int (1 : Int32)), .val (.int (1 : Int32)), .val (.int (Own.b2i (own_has (own_add (own_add (fun _ => 0) v3) v5) v3))), .val (.int (Own.b2i (own_has (own_add (own_add (fun _ => 0) v3) v5) v5))), .val (.int (1 : Int32)), .val (.int (1 : Int32))] [(.int (1 : Int32))])) t
          refine XS.ifNo X53.here hx rfl (hb hby at_231) rfl (by decide) ?_
          show Steps p.tables e below (T53.setTop (mkF m 234 #[.val (.int p0), .val (.int p1), .val (.int p2), .val (.int p3), .val (.int v1), .val (.int v3), .val (.int v5), .val (.int v7), .val (.ref b8), .val (.int (1 : Int32)), .val (.int (1 : Int32)), .val (.int (1 : Int32)), .val (.int (Own.b2i (own_has (own_add (own_add (fun _ => 0) v3) v5) v3))), .val (.int (Own.b2i (own_has (own_add (own_add (fun _ => 0) v3) v5) v5))), .val (.int (1 : Int32)), .val (.int (1 : Int32))] [])) t
          refine XS.iload X53.here hx rfl (hb hby at_234) rfl ?_
          show Steps p.tables e below (T53.setTop (mkF m 236 #[.val (.int p0), .val (.int p1), .val (.int p2), .val (.int p3), .val (.int v1), .val (.int v3), .val (.int v5), .val (.int v7), .val (.ref b8), .val (.int (1 : Int32)), .val (.int (1 : Int32)), .val (.int (1 : Int32)), .val (.int (Own.b2i (own_has (own_add (own_add (fun _ => 0) v3) v5) v3))), .val (.int (Own.b2i (own_has (own_add (own_add (fun _ => 0) v3) v5) v5))), .val (.int (1 : Int32)), .val (.int (1 : Int32))] [(.int (1 : Int32))])) t
          refine XS.ifNo X53.here hx rfl (hb hby at_236) rfl (by decide) ?_
          show Steps p.tables e below (T53.setTop (mkF m 239 #[.val (.int p0), .val (.int p1), .val (.int p2), .val (.int p3), .val (.int v1), .val (.int v3), .val (.int v5), .val (.int v7), .val (.ref b8), .val (.int (1 : Int32)), .val (.int (1 : Int32)), .val (.int (1 : Int32)), .val (.int (Own.b2i (own_has (own_add (own_add (fun _ => 0) v3) v5) v3))), .val (.int (Own.b2i (own_has (own_add (own_add (fun _ => 0) v3) v5) v5))), .val (.int (1 : Int32)), .val (.int (1 : Int32))] [])) t
          refine XS.iconst X53.here hx rfl (hb hby at_239) ?_
          show Steps p.tables e below (T53.setTop (mkF m 240 #[.val (.int p0), .val (.int p1), .val (.int p2), .val (.int p3), .val (.int v1), .val (.int v3), .val (.int v5), .val (.int v7), .val (.ref b8), .val (.int (1 : Int32)), .val (.int (1 : Int32)), .val (.int (1 : Int32)), .val (.int (Own.b2i (own_has (own_add (own_add (fun _ => 0) v3) v5) v3))), .val (.int (Own.b2i (own_has (own_add (own_add (fun _ => 0) v3) v5) v5))), .val (.int (1 : Int32)), .val (.int (1 : Int32))] [(.int (1 : Int32))])) t
          refine XS.goto X53.here hx rfl (pc0 := 240) (pc' := 244) rfl (hb hby at_240) (by decide) (by decide) ?_
          show Steps p.tables e below (T53.setTop (mkF m 244 #[.val (.int p0), .val (.int p1), .val (.int p2), .val (.int p3), .val (.int v1), .val (.int v3), .val (.int v5), .val (.int v7), .val (.ref b8), .val (.int (1 : Int32)), .val (.int (1 : Int32)), .val (.int (1 : Int32)), .val (.int (Own.b2i (own_has (own_add (own_add (fun _ => 0) v3) v5) v3))), .val (.int (Own.b2i (own_has (own_add (own_add (fun _ => 0) v3) v5) v5))), .val (.int (1 : Int32)), .val (.int (1 : Int32))] [(.int (1 : Int32))])) t
          exact k
        exact Own.retN hR X53 hx (t := .boolean) hret (by simp) (hb hby at_244) (by decide) (by decide) (by decide) ⟨rfl, N53⟩
set_option maxRecDepth 65536 in
set_option maxHeartbeats 40000000 in
theorem comes_1 {Post : Tables → Env → Array Value → State → Outcome → State → Prop} (hpost : ∀ tb e args s v u, (limb_1_1.after args s (.returned v) u = true ∧ limb_1_2.after args s (.returned v) u = true ∧ True) → FrameEnd s (.returned v) u (Jvm.fieldLocs frame_1_writes args s ++ Jvm.arrayLocs frame_1_arrays args s ++ Jvm.staticLocs frame_1_statics s) 16 128 → Post tb e args s (.returned v) u) :
    ArmFor flags0 classFile x code maxLocals ret World_1 tables_1 room_1 Calls_1 rest_1 Pre_1 Post := by
  intro l hfl _ _ p e ha hc hk s m args below hf hA hF happ hP
  obtain ⟨hcalls, hrest, hpre⟩ := hP
  obtain ⟨-, -, -, hnamed, -, -, -, hat⟩ := (Spec.applies_iff hf).mp happ
  obtain ⟨hg, hn⟩ := and_e (Cond.before_iff.mp (show (Jvm.Cond.and given_1 narrow_1).before args s = true from hpre))
  obtain ⟨hcnt, hg0⟩ := and_e hg
  obtain ⟨ga0, hg1⟩ := and_e hg0
  obtain ⟨ga1, hg2⟩ := and_e hg1
  obtain ⟨ga2, hg3⟩ := and_e hg2
  obtain ⟨w0, w1, w2, w3, rfl⟩ : ∃ w0 w1 w2 w3 : Value, args = #[w0, w1, w2, w3] := by
    have hs : args.size = 4 := by simpa [Cond.value, given_1] using hcnt
    obtain ⟨L⟩ := args
    match L, hs with
    | [w0, w1, w2, w3], _ => exact ⟨w0, w1, w2, w3, rfl⟩
  have hw := fun d (hd : d ∈ tables_1) => atoms_spec (ws := Jvm.Cond.code x code maxLocals ret :: tables_1) hat d (List.mem_cons_of_mem _ hd)
  obtain ⟨i0, ei0⟩ := is_v ga0
  obtain rfl : w0 = (.int i0) := Option.some.inj ei0
  obtain ⟨i1, ei1⟩ := is_v ga1
  obtain rfl : w1 = (.int i1) := Option.some.inj ei1
  obtain ⟨i2, ei2⟩ := is_v ga2
  obtain rfl : w2 = (.int i2) := Option.some.inj ei2
  obtain ⟨i3, ei3⟩ := is_v hg3
  obtain rfl : w3 = (.int i3) := Option.some.inj ei3
  obtain ⟨n, o, h1, h2, h3, _, L, rfl, ⟨rfl, N⟩, hq⟩ := rm0 l s _ hw tables_1 i0 i1 i2 i3 s.heap s.heap.size (Nat.le_refl _) p e ha hc hk s m _ below hf ((Spec.applies_iff_loose hf).mp happ).1 ⟨rfl, State.Warmed39.refl s, rfl⟩ trivial
  refine ⟨n, _, h1, h2, h3, hpost _ _ _ _ _ _ ⟨Cond.after_iff.mpr rfl, Cond.after_iff.mpr (eq_i res_at (Term.int_eval (1)) rfl), trivial⟩ ⟨hq.1, hq.2.1, (hq.2.2.sift fun y hy => Or.inr (N y hy)).mono (by decide) (by decide)⟩⟩
theorem main_1_1 : Claimed_1_1 := comes_1 fun _ _ _ _ _ _ h hF => ⟨h.1, hF⟩
theorem main_1_2 : Claimed_1_2 := comes_1 fun _ _ _ _ _ _ h hF => ⟨h.2.1, hF⟩
end Jvm.Pilot.@@N@@
namespace Jvm.Pilot.@@N@@
open Jvm Jvm.ClassFile Sem Op Lib Jvm.Free Jvm.Stand Jvm.Pilot.@@N@@.Jvm.D
/-! MADE BY PROGRAM (witnessworld.py) out of the Statement's table words and the real class files: 16 classes; the members and pool entries that the words name. The judged class is class 1, her method 1. -/
namespace start1
open Jvm.ClassFile
def u (s : String) : CpInfo := .utf8 (stringToUtf16 s)
/-- a pool by its gaps: so many unusable entries, then the entry; so many at the end -/
def gap : Nat → List CpInfo → List CpInfo
  | 0, r => r
  | n + 1, r => .unusable :: gap n r
def poolList (es : List (Nat × CpInfo)) (last : Nat) : List CpInfo := es.foldr (fun e r => gap e.1 (e.2 :: r)) (gap last [])
def pool (es : List (Nat × CpInfo)) (last : Nat) : Array CpInfo := ⟨poolList es last⟩
def fileOf (pool : Array CpInfo) (this : Nat) (attrs : Array Attribute := #[]) (ms : Array MethodInfo := #[]) (fl : Nat := 33) (sup : Nat := 0) (ifs : Array Nat := #[]) (fds : Array FieldInfo := #[]) : ClassFile where
  minorVersion := 0
  majorVersion := 65
  constantPool := pool
  accessFlags := fl
  thisClass := this
  superClass := sup
  interfaces := ifs
  fields := fds
  methods := ms
  attributes := attrs
def plain (name : String) (sup : Option ClassId) : Class where
  name := name
  kind := .ordinary
  loader := none
  accessFlags := 33
  super := sup
  interfaces := #[]
  cf := none
  fields := #[]
  methods := #[]
  instanceTypes := #[]
  staticTypes := #[]
  resolved := #[]
  callSites := []
  init := .initialized
  statics := none
  mirror := none

def pool0 : Array CpInfo := pool [(5, u "<init>"), (0, u "()V"), (1, .class_ 10), (1, u "java/lang/Object")] 113

def k0c0 : Code := { maxStack := 0, maxLocals := 1, code := object_method_1_code, exceptionTable := #[], attributes := #[] }
def k0m0 : Method := { name := "<init>", desc := "()V", sig := { parameters := [], returnType := none }, accessFlags := 1, code := some k0c0 }
/-- java/lang/Object -/
def k0 : Class := { plain "java/lang/Object" none with
  accessFlags := 33
  interfaces := #[]
  cf := some (fileOf pool0 8 #[] #[{ accessFlags := 1, nameIndex := 5, descriptorIndex := 6, attributes := #[] }] 33 0 #[] #[])
  fields := #[]
  methods := #[k0m0]
  instanceTypes := #[]
  staticTypes := #[]
  resolved := Array.replicate 124 none
  statics := none }

def pool1 : Array CpInfo := pool [(2, .class_ 4), (1, u "java/lang/Object"), (0, u "<init>"), (0, u "()V"), (0, .integer 2147483647), (0, .class_ 9), (0, u "com/example/sluice/sluice/FieldSet"), (0, .methodref 8 11), (0, .nameAndType 5 12), (0, u "(I)V"), (0, .methodref 8 14), (0, .nameAndType 15 16), (0, u "contains"), (0, u "(I)Z"), (0, .methodref 8 18), (0, .nameAndType 19 12), (0, u "add"), (0, .methodref 8 21), (0, .nameAndType 22 23), (0, u "size"), (0, u "()I"), (0, .class_ 25), (0, u "com/example/sluice/sluice/FieldSetAddPinLaw"), (2, u "law"), (0, u "(IIII)Z")] 3

def k1m0 : Method := { name := "<init>", desc := "()V", sig := { parameters := [], returnType := none }, accessFlags := 1, code := none }
def k1c1 : Code := { maxStack := 3, maxLocals := 16, code := code, exceptionTable := #[], attributes := #[] }
def k1m1 : Method := { name := "law", desc := "(IIII)Z", sig := { parameters := [.int, .int, .int, .int], returnType := some .boolean }, accessFlags := 9, code := some k1c1 }
/-- com/example/sluice/sluice/FieldSetAddPinLaw -/
def k1 : Class := { plain "com/example/sluice/sluice/FieldSetAddPinLaw" (some 0) with
  accessFlags := 49
  interfaces := #[]
  cf := some (fileOf pool1 24 #[] #[{ accessFlags := 1, nameIndex := 5, descriptorIndex := 6, attributes := #[] }, { accessFlags := 9, nameIndex := 28, descriptorIndex := 29, attributes := #[] }] 49 2 #[] #[])
  fields := #[]
  methods := #[k1m0, k1m1]
  instanceTypes := #[]
  staticTypes := #[]
  resolved := Array.replicate 33 none
  statics := none }

def pool2 : Array CpInfo := pool [(1, .methodref 2 3), (0, .class_ 4), (0, .nameAndType 5 6), (0, u "java/lang/Object"), (0, u "<init>"), (0, u "()V"), (0, .class_ 8), (0, u "java/lang/Long"), (0, .fieldref 10 11), (0, .class_ 12), (0, .nameAndType 13 14), (0, u "com/example/sluice/sluice/FieldSet"), (0, u "rest"), (0, u "[J"), (0, .fieldref 10 16), (0, .nameAndType 17 18), (0, u "first"), (0, u "J"), (0, .methodref 7 20), (0, .nameAndType 21 22), (0, u "bitCount"), (0, u "(J)I"), (0, u "(I)V"), (4, u "contains"), (0, u "(I)Z"), (0, u "add"), (0, u "size"), (0, u "()I")] 4

def k2c0 : Code := { maxStack := 3, maxLocals := 2, code := prog_7_method_1_code, exceptionTable := #[], attributes := #[] }
def k2m0 : Method := { name := "<init>", desc := "(I)V", sig := { parameters := [.int], returnType := none }, accessFlags := 0, code := some k2c0 }
def k2c1 : Code := { maxStack := 5, maxLocals := 4, code := prog_7_method_2_code, exceptionTable := #[], attributes := #[] }
def k2m1 : Method := { name := "contains", desc := "(I)Z", sig := { parameters := [.int], returnType := some .boolean }, accessFlags := 0, code := some k2c1 }
def k2c2 : Code := { maxStack := 7, maxLocals := 2, code := prog_7_method_3_code, exceptionTable := #[], attributes := #[] }
def k2m2 : Method := { name := "add", desc := "(I)V", sig := { parameters := [.int], returnType := none }, accessFlags := 0, code := some k2c2 }
def k2c3 : Code := { maxStack := 3, maxLocals := 7, code := prog_7_method_4_code, exceptionTable := #[], attributes := #[] }
def k2m3 : Method := { name := "size", desc := "()I", sig := { parameters := [], returnType := some .int }, accessFlags := 0, code := some k2c3 }
/-- com/example/sluice/sluice/FieldSet -/
def k2 : Class := { plain "com/example/sluice/sluice/FieldSet" (some 0) with
  accessFlags := 48
  interfaces := #[]
  cf := some (fileOf pool2 10 #[] #[{ accessFlags := 0, nameIndex := 5, descriptorIndex := 23, attributes := #[] }, { accessFlags := 0, nameIndex := 28, descriptorIndex := 29, attributes := #[] }, { accessFlags := 0, nameIndex := 30, descriptorIndex := 23, attributes := #[] }, { accessFlags := 0, nameIndex := 31, descriptorIndex := 32, attributes := #[] }] 48 2 #[] #[{ accessFlags := 2, nameIndex := 17, descriptorIndex := 18, attributes := #[] }, { accessFlags := 18, nameIndex := 13, descriptorIndex := 14, attributes := #[] }])
  fields := #[{ name := "first", type := .long, accessFlags := 2, slot := 0, constantValue := 0 }, { name := "rest", type := (.array .long), accessFlags := 18, slot := 1, constantValue := 0 }]
  methods := #[k2m0, k2m1, k2m2, k2m3]
  instanceTypes := #[.long, (.array .long)]
  staticTypes := #[]
  resolved := Array.replicate 37 none
  statics := none }

def pool3 : Array CpInfo := pool [(1, .class_ 2), (0, u "java/io/Serializable"), (0, .class_ 4), (0, u "java/lang/Object")] 2

/-- java/io/Serializable -/
def k3 : Class := { plain "java/io/Serializable" (some 0) with
  accessFlags := 1537
  interfaces := #[]
  cf := some (fileOf pool3 1 #[] #[] 1537 3 #[] #[])
  fields := #[]
  methods := #[]
  instanceTypes := #[]
  staticTypes := #[]
  resolved := Array.replicate 7 none
  statics := none }

def pool4 : Array CpInfo := pool [(2, .class_ 4), (1, u "java/lang/Object"), (0, u "<init>"), (0, u "()V"), (1, .class_ 10), (1, u "java/lang/Number"), (2, .class_ 14), (0, u "java/io/Serializable"), (0, u "serialVersionUID"), (0, u "J")] 20

def k4m0 : Method := { name := "<init>", desc := "()V", sig := { parameters := [], returnType := none }, accessFlags := 1, code := none }
/-- java/lang/Number -/
def k4 : Class := { plain "java/lang/Number" (some 0) with
  accessFlags := 1057
  interfaces := #[3]
  cf := some (fileOf pool4 8 #[] #[{ accessFlags := 1, nameIndex := 5, descriptorIndex := 6, attributes := #[] }] 1057 2 #[13] #[{ accessFlags := 26, nameIndex := 15, descriptorIndex := 16, attributes := #[] }])
  fields := #[{ name := "serialVersionUID", type := .long, accessFlags := 26, slot := 0, constantValue := 0 }]
  methods := #[k4m0]
  instanceTypes := #[]
  staticTypes := #[.long]
  resolved := Array.replicate 37 none
  statics := none }

def pool5 : Array CpInfo := pool [(1, .class_ 2), (0, u "java/lang/Comparable"), (0, .class_ 4), (0, u "java/lang/Object")] 7

/-- java/lang/Comparable -/
def k5 : Class := { plain "java/lang/Comparable" (some 0) with
  accessFlags := 1537
  interfaces := #[]
  cf := some (fileOf pool5 1 #[] #[] 1537 3 #[] #[])
  fields := #[]
  methods := #[]
  instanceTypes := #[]
  staticTypes := #[]
  resolved := Array.replicate 12 none
  statics := none }

def pool6 : Array CpInfo := pool [(1, .class_ 2), (0, u "java/lang/constant/Constable"), (0, .class_ 4), (0, u "java/lang/Object")] 6

/-- java/lang/constant/Constable -/
def k6 : Class := { plain "java/lang/constant/Constable" (some 0) with
  accessFlags := 1537
  interfaces := #[]
  cf := some (fileOf pool6 1 #[] #[] 1537 3 #[] #[])
  fields := #[]
  methods := #[]
  instanceTypes := #[]
  staticTypes := #[]
  resolved := Array.replicate 11 none
  statics := none }

def pool7 : Array CpInfo := pool [(1, .class_ 2), (0, u "java/lang/constant/ConstantDesc"), (0, .class_ 4), (0, u "java/lang/Object")] 32

/-- java/lang/constant/ConstantDesc -/
def k7 : Class := { plain "java/lang/constant/ConstantDesc" (some 0) with
  accessFlags := 1537
  interfaces := #[]
  cf := some (fileOf pool7 1 #[] #[] 1537 3 #[] #[])
  fields := #[]
  methods := #[]
  instanceTypes := #[]
  staticTypes := #[]
  resolved := Array.replicate 37 none
  statics := none }

def pool8 : Array CpInfo := pool [(1, .class_ 2), (0, u "java/lang/Long"), (98, u "(J)I"), (133, .class_ 237), (1, u "java/lang/Long$LongCache"), (33, .class_ 272), (0, u "java/lang/Number"), (2, u "value"), (0, u "J"), (37, .long 6148914691236517205), (1, .long 3689348814741910323), (1, .long 1085102592571150095), (42, u "TYPE"), (0, u "Ljava/lang/Class;"), (0, .class_ 364), (0, u "java/lang/Comparable"), (0, .class_ 366), (0, u "java/lang/constant/Constable"), (0, .class_ 368), (0, u "java/lang/constant/ConstantDesc"), (0, u "MIN_VALUE"), (1, u "MAX_VALUE"), (4, u "SIZE"), (0, u "I"), (1, u "BYTES"), (1, u "serialVersionUID"), (94, u "bitCount")] 47

def k8c0 : Code := { maxStack := 6, maxLocals := 2, code := jdk_35_method_50_code, exceptionTable := #[], attributes := #[] }
def k8m0 : Method := { name := "bitCount", desc := "(J)I", sig := { parameters := [.long], returnType := some .int }, accessFlags := 9, code := some k8c0 }
/-- java/lang/Long -/
def k8 : Class := { plain "java/lang/Long" (some 4) with
  accessFlags := 49
  interfaces := #[5, 6, 7]
  cf := some (fileOf pool8 1 #[.nestMembers #[235]] #[{ accessFlags := 9, nameIndex := 476, descriptorIndex := 101, attributes := #[] }] 49 271 #[363, 365, 367] #[{ accessFlags := 25, nameIndex := 369, descriptorIndex := 276, attributes := #[] }, { accessFlags := 25, nameIndex := 371, descriptorIndex := 276, attributes := #[] }, { accessFlags := 25, nameIndex := 361, descriptorIndex := 362, attributes := #[] }, { accessFlags := 18, nameIndex := 275, descriptorIndex := 276, attributes := #[] }, { accessFlags := 25, nameIndex := 376, descriptorIndex := 377, attributes := #[] }, { accessFlags := 25, nameIndex := 379, descriptorIndex := 377, attributes := #[] }, { accessFlags := 26, nameIndex := 381, descriptorIndex := 276, attributes := #[] }])
  fields := #[{ name := "MIN_VALUE", type := .long, accessFlags := 25, slot := 0, constantValue := 0 }, { name := "MAX_VALUE", type := .long, accessFlags := 25, slot := 1, constantValue := 0 }, { name := "TYPE", type := (.object "java/lang/Class"), accessFlags := 25, slot := 2, constantValue := 0 }, { name := "value", type := .long, accessFlags := 18, slot := 0, constantValue := 0 }, { name := "SIZE", type := .int, accessFlags := 25, slot := 3, constantValue := 0 }, { name := "BYTES", type := .int, accessFlags := 25, slot := 4, constantValue := 0 }, { name := "serialVersionUID", type := .long, accessFlags := 26, slot := 5, constantValue := 0 }]
  methods := #[k8m0]
  instanceTypes := #[.long]
  staticTypes := #[.long, .long, (.object "java/lang/Class"), .int, .int, .long]
  resolved := Array.replicate 524 none
  statics := none }

def pool9 : Array CpInfo := pool [(1, u "java/lang/Cloneable"), (0, .class_ 1), (0, u "java/lang/Object"), (0, .class_ 3)] 3

/-- java/lang/Cloneable -/
def k9 : Class := { plain "java/lang/Cloneable" (some 0) with
  accessFlags := 1537
  interfaces := #[]
  cf := some (fileOf pool9 2 #[] #[] 1537 4 #[] #[])
  fields := #[]
  methods := #[]
  instanceTypes := #[]
  staticTypes := #[]
  resolved := Array.replicate 8 none
  statics := none }

/-- the primitive byte -/
def k10 : Class := { plain "byte" none with kind := .primitive 'B', accessFlags := 0x411 }
/-- [B -/
def k11 : Class := { plain "[B" (some 0) with kind := .array 10 .byte, interfaces := #[9, 3], accessFlags := 1041 }

/-- the primitive int -/
def k12 : Class := { plain "int" none with kind := .primitive 'I', accessFlags := 0x411 }
/-- [I -/
def k13 : Class := { plain "[I" (some 0) with kind := .array 12 .int, interfaces := #[9, 3], accessFlags := 1041 }

/-- the primitive long -/
def k14 : Class := { plain "long" none with kind := .primitive 'J', accessFlags := 0x411 }
/-- [J -/
def k15 : Class := { plain "[J" (some 0) with kind := .array 14 .long, interfaces := #[9, 3], accessFlags := 1041 }

def heap : Heap := #[]
def classes : Array Class := #[k0, k1, k2, k3, k4, k5, k6, k7, k8, k9, k10, k11, k12, k13, k14, k15]
def interned : List (Array UInt16 × Addr) := []
def slotsUsed : Nat := 0
def theMethod : MethodId := ⟨1, 1⟩
def args0 : Array Value := #[.int 7, .int 7, .int 7, .int 7]
def aboutOver (below : List Frame) : State where
  vm := { classes := classes, interned := interned.toArray }
  heap := heap
  slotsUsed := slotsUsed
  threads := #[{ frames := .invoking theMethod args0 :: below }]
def below0 : List Frame := [.native { method := ⟨0, 0⟩, args := #[] }]
def about1 : State := aboutOver below0
def p0 : Program := .bare "" "" ""
def e0 : Env := launch0.env 0 0 0
theorem w_frames : about1.frames = Frame.invoking theMethod args0 :: below0 := rfl
set_option maxRecDepth 65536 in
theorem w_args : argsFit about1.vm theMethod args0 = true := by decide +kernel
set_option maxRecDepth 65536 in
theorem w_heap : heapFits about1 = true := by decide +kernel
set_option maxRecDepth 65536 in
theorem w_runnable : about1.curStatus? = some .runnable := by decide +kernel
set_option maxRecDepth 65536 in
theorem w_alone : about1.alone = true := by decide +kernel
set_option maxRecDepth 65536 in
theorem w_named : about1.methodNamed? x = some theMethod := by decide +kernel
set_option maxRecDepth 65536 in
theorem w_hears : about1.hears theMethod below0 = true := by decide +kernel
set_option maxRecDepth 65536 in
theorem w_ripe : about1.ripe theMethod args0 below0 = true := by decide +kernel
theorem w_running : about1.status = .running := rfl
set_option maxRecDepth 65536 in
theorem w_room : about1.hasRoom e0.platform room_1 = true :=
  launch0.hasRoom_least _ room_1 (by decide +kernel) (by decide +kernel) (by decide +kernel) (by decide +kernel) (by decide +kernel) (by decide +kernel)
theorem allAtoms_all (ts : List Jvm.Cond) (a : Array Jvm.Value) (st : Jvm.State) : (allAtoms ts).before a st = ts.all (fun c => c.before a st) := by
  induction ts with
  | nil => rfl
  | cons c t ih =>
    show (Jvm.Cond.and c (allAtoms t)).before a st = _
    rw [Jvm.Cond.before_and, ih, List.all_cons]
def words1 : List Jvm.Cond := Jvm.Cond.code x code maxLocals ret :: tables_1
/-- a 'code' word, met by the world's own term for the bytes: nothing is compared byte by byte -/
theorem code_word {y : MethodName} {bytes : ByteArray} {mx : Nat} {rt : Option FieldType} {a : Array Value} {s : State} {m : MethodId} {meth : Method} {c : Code} (h1 : s.methodNamed? y = some m) (h2 : s.vm.method? m = some meth) (h3 : meth.code = some c) (h4 : c.code = bytes)
    (h5 : (c.maxLocals == mx && c.exceptionTable.isEmpty && decide (c.maxStack ≤ mostOperands) && decide (meth.sig.returnType = rt) && !meth.locks && decide (parseMethodDescriptor y.desc = some meth.sig)) = true) : (Jvm.Cond.code y bytes mx rt).before a s = true := by
  simp only [Bool.and_eq_true, beq_iff_eq, Bool.not_eq_true', decide_eq_true_eq] at h5
  obtain ⟨⟨⟨⟨⟨g1, g2⟩, g3⟩, g4⟩, g5⟩, g6⟩ := h5
  simp [Cond.before, Cond.holds, Cond.value, h1, h2, h3, h4, g1, g2, g3, g4, g5, g6]
def isCode : Jvm.Cond → Bool
  | .code _ _ _ _ => true
  | _ => false
theorem all_split {L : List Jvm.Cond} {P : Jvm.Cond → Bool} (h1 : L.all (fun c => isCode c || P c) = true) (h2 : ∀ c ∈ L.filter isCode, P c = true) : L.all P = true := by
  refine List.all_eq_true.mpr fun c hc => ?_
  have h := List.all_eq_true.mp h1 c hc
  rcases Bool.eq_false_or_eq_true (isCode c) with hi | hi
  · exact h2 c (List.mem_filter.mpr ⟨hc, hi⟩)
  · simpa [hi] using h
set_option maxRecDepth 65536 in
theorem w_c0 : (Jvm.Cond.code x code maxLocals ret).before args0 about1 = true := code_word (m := ⟨1, 1⟩) (meth := k1m1) (c := k1c1) (by decide +kernel) rfl rfl rfl (by decide +kernel)
set_option maxRecDepth 65536 in
theorem w_c1 : (Jvm.Cond.code ({ cls := "com/example/sluice/sluice/FieldSet", name := "<init>", desc := "(I)V" } : Jvm.MethodName) prog_7_method_1_code (2 : Nat) (Option.none : Option Jvm.ClassFile.FieldType)).before args0 about1 = true := code_word (m := ⟨2, 0⟩) (meth := k2m0) (c := k2c0) (by decide +kernel) rfl rfl rfl (by decide +kernel)
set_option maxRecDepth 65536 in
theorem w_c2 : (Jvm.Cond.code ({ cls := "java/lang/Object", name := "<init>", desc := "()V" } : Jvm.MethodName) object_method_1_code (1 : Nat) (Option.none : Option Jvm.ClassFile.FieldType)).before args0 about1 = true := code_word (m := ⟨0, 0⟩) (meth := k0m0) (c := k0c0) (by decide +kernel) rfl rfl rfl (by decide +kernel)
set_option maxRecDepth 65536 in
theorem w_c3 : (Jvm.Cond.code ({ cls := "com/example/sluice/sluice/FieldSet", name := "contains", desc := "(I)Z" } : Jvm.MethodName) prog_7_method_2_code (4 : Nat) (Option.some Jvm.ClassFile.FieldType.boolean)).before args0 about1 = true := code_word (m := ⟨2, 1⟩) (meth := k2m1) (c := k2c1) (by decide +kernel) rfl rfl rfl (by decide +kernel)
set_option maxRecDepth 65536 in
theorem w_c4 : (Jvm.Cond.code ({ cls := "com/example/sluice/sluice/FieldSet", name := "add", desc := "(I)V" } : Jvm.MethodName) prog_7_method_3_code (2 : Nat) (Option.none : Option Jvm.ClassFile.FieldType)).before args0 about1 = true := code_word (m := ⟨2, 2⟩) (meth := k2m2) (c := k2c2) (by decide +kernel) rfl rfl rfl (by decide +kernel)
set_option maxRecDepth 65536 in
theorem w_c5 : (Jvm.Cond.code ({ cls := "com/example/sluice/sluice/FieldSet", name := "size", desc := "()I" } : Jvm.MethodName) prog_7_method_4_code (7 : Nat) (Option.some Jvm.ClassFile.FieldType.int)).before args0 about1 = true := code_word (m := ⟨2, 3⟩) (meth := k2m3) (c := k2c3) (by decide +kernel) rfl rfl rfl (by decide +kernel)
set_option maxRecDepth 65536 in
theorem w_c6 : (Jvm.Cond.code ({ cls := "java/lang/Long", name := "bitCount", desc := "(J)I" } : Jvm.MethodName) jdk_35_method_50_code (2 : Nat) (Option.some Jvm.ClassFile.FieldType.int)).before args0 about1 = true := code_word (m := ⟨8, 0⟩) (meth := k8m0) (c := k8c0) (by decide +kernel) rfl rfl rfl (by decide +kernel)
def codes1 : List Jvm.Cond := [Jvm.Cond.code x code maxLocals ret, Jvm.Cond.code ({ cls := "com/example/sluice/sluice/FieldSet", name := "<init>", desc := "(I)V" } : Jvm.MethodName) prog_7_method_1_code (2 : Nat) (Option.none : Option Jvm.ClassFile.FieldType), Jvm.Cond.code ({ cls := "java/lang/Object", name := "<init>", desc := "()V" } : Jvm.MethodName) object_method_1_code (1 : Nat) (Option.none : Option Jvm.ClassFile.FieldType), Jvm.Cond.code ({ cls := "com/example/sluice/sluice/FieldSet", name := "contains", desc := "(I)Z" } : Jvm.MethodName) prog_7_method_2_code (4 : Nat) (Option.some Jvm.ClassFile.FieldType.boolean), Jvm.Cond.code ({ cls := "com/example/sluice/sluice/FieldSet", name := "add", desc := "(I)V" } : Jvm.MethodName) prog_7_method_3_code (2 : Nat) (Option.none : Option Jvm.ClassFile.FieldType), Jvm.Cond.code ({ cls := "com/example/sluice/sluice/FieldSet", name := "size", desc := "()I" } : Jvm.MethodName) prog_7_method_4_code (7 : Nat) (Option.some Jvm.ClassFile.FieldType.int), Jvm.Cond.code ({ cls := "java/lang/Long", name := "bitCount", desc := "(J)I" } : Jvm.MethodName) jdk_35_method_50_code (2 : Nat) (Option.some Jvm.ClassFile.FieldType.int)]
set_option maxRecDepth 65536 in
theorem codes_eq : words1.filter isCode = codes1 := rfl
theorem w_codes : ∀ c ∈ words1.filter isCode, c.before args0 about1 = true := by
  rw [codes_eq]
  intro c hc
  simp only [codes1, List.mem_cons, List.not_mem_nil, or_false] at hc
  rcases hc with rfl | rfl | rfl | rfl | rfl | rfl | rfl
  · exact w_c0
  · exact w_c1
  · exact w_c2
  · exact w_c3
  · exact w_c4
  · exact w_c5
  · exact w_c6
set_option maxRecDepth 65536 in
theorem w_t1 : (words1.take 24).all (fun c => isCode c || c.before args0 about1) = true := by decide +kernel
set_option maxRecDepth 65536 in
theorem w_t2 : (words1.drop 24).all (fun c => isCode c || c.before args0 about1) = true := by decide +kernel
theorem w_tables : (allAtoms (Jvm.Cond.code x code maxLocals ret :: tables_1)).before args0 about1 = true := by
  rw [allAtoms_all]
  show words1.all (fun c => c.before args0 about1) = true
  refine all_split ?_ w_codes
  rw [← List.take_append_drop 24 words1, List.all_append, w_t1, w_t2]
  rfl
set_option maxRecDepth 65536 in
theorem w_case : (Jvm.Cond.and given_1 narrow_1).before args0 about1 = true := by decide +kernel
theorem w_applies : (headSpec (Jvm.Cond.code x code maxLocals ret :: tables_1) room_1).applies x e0.platform about1 = true :=
  (Spec.applies_iff w_frames).mpr ⟨w_running, w_runnable, w_alone, w_named, w_hears, w_ripe, w_room, w_tables⟩
theorem atStart : AtStart classFile x code maxLocals ret World_1 tables_1 room_1 Calls_1 rest_1 Pre_1 launch0 p0 e0 about1 theMethod args0 below0 :=
  ⟨lists_1, trivial, launch0.admits_env _ _ _, launch0.least_env, fairChoices_fair.cas, fairChoices_fair.clock, w_frames, w_args, w_heap, w_applies, trivial, trivial, w_case⟩
end start1
theorem witness_1 : WitnessClaimed_1 := ⟨start1.p0, start1.e0, start1.about1, start1.theMethod, start1.args0, start1.below0, start1.atStart⟩
end Jvm.Pilot.@@N@@
