import JvmDerived
import JvmDerived.Pilot.@@N@@Statement
import JvmDerived.Pilot.@@N@@Code
set_option linter.unusedVariables false
set_option linter.unusedSimpArgs false
@@BLOCK:NumsL.lean.txt@@
@@BLOCK:Masks.lean.txt@@
namespace Jvm.Own
open Sem ClassFile Op Lib Jvm.Stand Jvm.Free Jvm.LawKit Jvm.RoadKit
section Kit
variable {p : Program} {l : Launch} {e : Env} {R : Room} {s : State} {m : MethodId} {args : Array Value} {below : List Frame} {meth : Method} {c : Code} {T : State} {locs : List Loc} {cells slots : Nat} {Z : State} {a0 : Array Value} {h : Heap}
/-- D is closed under going back over steps -/
def Clo (p : Program) (e : Env) (below : List Frame) (D : State → Prop) : Prop := ∀ (U U' : State), (∀ t, Steps p.tables e below U' t → Steps p.tables e below U t) → D U' → D U
/-- D holds wherever the body returns with what Q says -/
def Ret (p : Program) (l : Launch) (e : Env) (R : Room) (s : State) (m : MethodId) (args : Array Value) (below : List Frame) (meth : Method) (c : Code) (Q : Option Value → Heap → List Loc → Prop) (C N : Nat) (D : State → Prop) : Prop :=
  ∀ (T : State) (locs : List Loc) (cells slots : Nat) (v : Option Value) (U : State), Stand p l e R s m args below meth c T locs cells slots → (meth.sig.returnType = none → v = none) → cells ≤ C → slots ≤ N → Q v T.heap locs →
    (∀ fs, (∀ (f : JFrame) (acts : List Action), f.method = m → f.locked = none → f.entered = [] → (doReturn e (T.setTop f) acts v).1 = T.setFrames fs) → Steps p.tables e below U (T.setFrames fs)) → D U
theorem enter {y : MethodName} {code : ByteArray} {maxL : Nat} {ret : Option FieldType} {ws : List Cond} {rm : Room} {as' : Array Value} {h0 : Heap} {Q : Option Value → Heap → List Loc → Prop} {C N : Nat} (hpl : plainFor y = true)
    (body : ∀ (p : Program) (e : Env) (s : State) (m : MethodId) (below : List Frame) (meth : Method) (c : Code) (s₁ : State) (D : State → Prop),
      p.tables.exec = Jvm.exec → c.code = code → c.maxLocals = maxL → s.vm.findClass y.cls = some m.cls → meth.name = y.name → meth.sig.returnType = ret → Z.Warmed39 s.vm → Stand p l e rm s m as' below meth c s₁ [] 0 0 → s₁.heap = h0 →
      Clo p e below D → Ret p l e rm s m as' below meth c Q C N D → D (s₁.setTop (entryFrame m as' maxL))) :
    MetFree l y (head1 (Jvm.Cond.code y code maxL ret :: ws) rm) (fun a U => a = as' ∧ Z.Warmed39 U.vm ∧ U.heap = h0) (fun _ _ _ _ _ => True) (fun _ U o U' => ∃ v L, o = .returned v ∧ Q v U'.heap L ∧ FrameEnd U o U' L C N) := by
  refine MetFree.of_bodySF hpl hisR ?_
  intro p e s m args below meth c s₁ Bd hml hP hK
  obtain ⟨rfl, hZ, hh⟩ := hP
  have X0 : Stand p l e rm s m args below meth c s₁ [] 0 0 := Stand.of_body Bd
  refine body p e s m below meth c s₁ (fun U => ∃ s₂ o, Steps p.tables e below U s₂ ∧ s₂.status = .running ∧ Ended s₂ below o ∧ ∃ v L, o = .returned v ∧ Q v s₂.heap L ∧ FrameEnd s o s₂ L C N) Bd.exec Bd.bytes hml (findClass_of_methodNamed Bd.named) (name_of_methodNamed Bd.named Bd.method).1 Bd.returns hZ X0 (by rw [← hh, Bd.state]; rfl) ?_ ?_
  · rintro U U' k ⟨s₂, o, st, r⟩
    exact ⟨s₂, o, k _ st, r⟩
  · intro T locs cells slots v U X hv hc hn hQ k
    obtain ⟨fs, hr, hrun, hended, hW, hsame⟩ := X.leave (v := v) hv
    exact ⟨_, _, k fs hr, hrun, hended, v, locs, rfl, hQ, ⟨_, rfl⟩, hW, hsame.mono hc hn⟩
theorem mono {c' n' : Nat} (X : Stand p l e R s m args below meth c T locs cells slots) (hc : cells ≤ c') (hn : slots ≤ n') : Stand p l e R s m args below meth c T locs c' n' :=
  { X with same := X.same.weaken (fun _ hy _ => hy) hc hn }
theorem forget {k : Nat} (X : Stand p l e R s m args below meth c T locs cells slots) (N : Fr k locs) (hk : s.heap.size ≤ k) : Stand p l e R s m args below meth c T [] cells slots :=
  { X with same := X.same.weaken (fun y hy hlt => absurd hlt (Nat.not_lt.mpr (Nat.le_trans hk (N y hy)))) (Nat.le_refl _) (Nat.le_refl _) }
variable {Q : Option Value → Heap → List Loc → Prop} {C N : Nat} {D : State → Prop}
theorem retI (hR : Ret p l e R s m args below meth c Q C N D) (X : Stand p l e R s m args below meth c T locs cells slots) (hx : p.tables.exec = Jvm.exec) {pc : Nat} {Ls : Array Slot} {z : Int32} {rest : List Value} (hret : meth.sig.returnType = some .int) (hd : decode c.code pc = .ok (.ireturn, 1)) (hc : cells ≤ C) (hn : slots ≤ N) (hQ : Q (some (.int z)) T.heap locs) : D (T.setTop (mkF m pc Ls (.int z :: rest))) := by
  refine hR T locs cells slots (some (.int z)) _ X (fun h => by rw [hret] at h; cases h) hc hn hQ fun fs hl => ?_
  have hm' : T.vm.method? m = some meth := X.method'
  have hn : narrow .int (.int z) = .int z := rfl
  show Steps p.tables e below (T.setTop { method := m, pc := pc, locals := Ls, stack := _ :: rest, locked := none }) _
  jvm_step X.here [X.here.top, hx, hd, hm', hret, hn]
  first | (intro acts; rw [hl _ acts rfl rfl rfl]) | rw [hl _ _ rfl rfl rfl]
  exact Steps.refl _
theorem retN (hR : Ret p l e R s m args below meth c Q C N D) (X : Stand p l e R s m args below meth c T locs cells slots) (hx : p.tables.exec = Jvm.exec) {pc : Nat} {Ls : Array Slot} {z : Int32} {t : FieldType} {rest : List Value} (hret : meth.sig.returnType = some t) (ht : t = .boolean ∨ t = .byte ∨ t = .char ∨ t = .short) (hd : decode c.code pc = .ok (.ireturn, 1)) (hc : cells ≤ C) (hn : slots ≤ N) (hz : nar t z = z) (hQ : Q (some (.int z)) T.heap locs) : D (T.setTop (mkF m pc Ls (.int z :: rest))) := by
  refine hR T locs cells slots (some (.int z)) _ X (fun h => by rw [hret] at h; cases h) hc hn hQ fun fs hl => ?_
  exact Jvm.RoadKit.retN X hx hret ht hd (by rw [hz]; exact hl)
theorem retJ (hR : Ret p l e R s m args below meth c Q C N D) (X : Stand p l e R s m args below meth c T locs cells slots) (hx : p.tables.exec = Jvm.exec) {pc : Nat} {Ls : Array Slot} {z : Int64} (hret : meth.sig.returnType = some .long) (hd : decode c.code pc = .ok (.lreturn, 1)) (hc : cells ≤ C) (hn : slots ≤ N) (hQ : Q (some (.long z)) T.heap locs) : D (T.setTop (mkF m pc Ls [.long z])) :=
  hR T locs cells slots (some (.long z)) _ X (fun h => by rw [hret] at h; cases h) hc hn hQ fun fs hl => X.lreturnOut hx hret hd hl
theorem retA (hR : Ret p l e R s m args below meth c Q C N D) (X : Stand p l e R s m args below meth c T locs cells slots) (hx : p.tables.exec = Jvm.exec) {pc : Nat} {Ls : Array Slot} {w : Value} {t : FieldType} (hw : w.isRef = true) (hret : meth.sig.returnType = some t) (ht : t.isReference = true) (hd : decode c.code pc = .ok (.areturn, 1)) (hc : cells ≤ C) (hn : slots ≤ N) (hQ : Q (some w) T.heap locs) : D (T.setTop (mkF m pc Ls [w])) :=
  hR T locs cells slots (some w) _ X (fun h => by rw [hret] at h; cases h) hc hn hQ fun fs hl => X.areturnOut hx hw hret ht hd hl
theorem retV (hR : Ret p l e R s m args below meth c Q C N D) (X : Stand p l e R s m args below meth c T locs cells slots) (hx : p.tables.exec = Jvm.exec) {pc : Nat} {Ls : Array Slot} (hret : meth.sig.returnType = none) (hd : decode c.code pc = .ok (.return_, 1)) (hc : cells ≤ C) (hn : slots ≤ N) (hQ : Q none T.heap locs) : D (T.setTop (mkF m pc Ls [])) :=
  hR T locs cells slots none _ X (fun _ => rfl) hc hn hQ fun fs hl => X.returnOut hx hret hd hl
/-! calls -/
variable {y z : MethodName} {bytes : ByteArray} {maxL : Nat} {ret : Option FieldType} {rm : Room} {W : Nat} {Qc : Option Value → Heap → List Loc → Prop} {own Cn : String} {index : Nat} {g : JFrame} {argsL rest : List Value} {a : Addr}
theorem callS (X : Stand p l e R s m args below meth c T locs cells slots) (hx : p.tables.exec = Jvm.exec) (hZ : Z.Warmed39 s.vm) (hown : s.vm.findClass own = some m.cls)
    (w1 : (Cond.methodLink own index y).before a0 Z = true) (w2 : (Cond.static y).before a0 Z = true) (w3 : (Cond.initialized y.cls).before a0 Z = true) (w4 : (Cond.code y bytes maxL ret).before a0 Z = true)
    (hy : y.cls ≠ "java/lang/invoke/MethodHandle" ∧ y.cls ≠ "java/lang/invoke/VarHandle") (e0 : T.heap = h)
    (hM : MetFree l y (head1 [Cond.code y bytes maxL ret] rm) (fun a U => a = argsL.toArray ∧ Z.Warmed39 U.vm ∧ U.heap = h) (fun _ _ _ _ _ => True) (fun _ U o U' => ∃ v L, o = .returned v ∧ Qc v U'.heap L ∧ FrameEnd U o U' L rm.cells rm.slots))
    (hf : rm.frames + 1 ≤ R.frames) (hl : W + (maxL + 11) + rm.locals ≤ R.locals) (hcells : cells + rm.cells ≤ R.cells) (hslots : slots + rm.slots ≤ R.slots)
    (hg : g.method = m) (hsize : g.locals.size = c.maxLocals) (hlen : ∀ sig, parseMethodDescriptor y.desc = some sig → argsL.length = sig.parameters.length)
    (hstack : g.stack = argsL.reverse ++ rest) (hW : 2 * g.monitorRoom + (rest.map fun v => v.category).sum ≤ W) (hdg : decode c.code g.pc = .ok (.invokestatic index, 3)) :
    ∃ (T' : State) (v : Option Value) (L : List Loc), Stand p l e R s m args below meth c T' (locs ++ L) (cells + rm.cells) (slots + rm.slots) ∧ Qc v T'.heap L ∧
      ∀ t, Steps p.tables e below (T'.setTop { g with pc := g.pc + 3, stack := v.toList ++ rest }) t → Steps p.tables e below (T.setTop g) t := by
  obtain ⟨v, _, ⟨T', L', k', n'⟩, -, X', ⟨Lc, hQ, l1, y1, z1⟩, st⟩ := Jvm.LawKit.callS X hx (y := y) hown (mvT hZ w1) (mvT hZ w2) (mvT hZ w3) (mvT hZ w4) hy (backOf (W := W) hM hZ w4 w3 hf hl) hg hsize hlen hstack hW hdg (fun _ _ => ⟨rfl, e0, hcells, hslots⟩)
  dsimp only [Pt.U, Pt.locs, Pt.cells, Pt.slots] at X' l1 y1 z1 st hQ
  subst l1 y1 z1
  exact ⟨T', v, Lc, X', hQ, st⟩
theorem callI (X : Stand p l e R s m args below meth c T locs cells slots) (hx : p.tables.exec = Jvm.exec) (hZ : Z.Warmed39 s.vm) (hown : s.vm.findClass own = some m.cls) (hy1 : y.name = "<init>")
    (w1 : (Cond.methodLink own index y).before a0 Z = true) (w2 : (Cond.instanceMethod y).before a0 Z = true) (w3 : (Cond.initialized y.cls).before a0 Z = true) (w4 : (Cond.code y bytes maxL none).before a0 Z = true)
    (hy : y.cls ≠ "java/lang/invoke/MethodHandle" ∧ y.cls ≠ "java/lang/invoke/VarHandle") (e0 : T.heap = h)
    (hM : MetFree l y (head1 [Cond.code y bytes maxL none] rm) (fun q U => q = (.ref a :: argsL).toArray ∧ Z.Warmed39 U.vm ∧ U.heap = h) (fun _ _ _ _ _ => True) (fun _ U o U' => ∃ v L, o = .returned v ∧ Qc v U'.heap L ∧ FrameEnd U o U' L rm.cells rm.slots))
    (hf : rm.frames + 1 ≤ R.frames) (hl : W + (maxL + 11) + rm.locals ≤ R.locals) (hcells : cells + rm.cells ≤ R.cells) (hslots : slots + rm.slots ≤ R.slots)
    (hg : g.method = m) (hsize : g.locals.size = c.maxLocals) (hlen : ∀ sig, parseMethodDescriptor y.desc = some sig → argsL.length = sig.parameters.length)
    (hstack : g.stack = argsL.reverse ++ .ref a :: rest) (hW : 2 * g.monitorRoom + (rest.map fun v => v.category).sum ≤ W) (hdg : decode c.code g.pc = .ok (.invokespecial index, 3)) :
    ∃ (T' : State) (v : Option Value) (L : List Loc), Stand p l e R s m args below meth c T' (locs ++ L) (cells + rm.cells) (slots + rm.slots) ∧ Qc v T'.heap L ∧
      ∀ t, Steps p.tables e below (T'.setTop { g with pc := g.pc + 3, stack := v.toList ++ rest }) t → Steps p.tables e below (T.setTop g) t := by
  obtain ⟨v, _, ⟨T', L', k', n'⟩, -, X', ⟨Lc, hQ, l1, y1, z1⟩, st⟩ := X.specialBack hx (y := y) hy1 hown (mvT hZ w1) (mvT hZ w2) (mvT hZ w4) hy (backOf (W := W) hM hZ w4 w3 hf hl) hg hsize (Steps.refl _) hlen hstack hW hdg (fun _ _ => ⟨rfl, e0, hcells, hslots⟩)
  dsimp only [Pt.U, Pt.locs, Pt.cells, Pt.slots] at X' l1 y1 z1 st hQ
  subst l1 y1 z1
  exact ⟨T', v, Lc, X', hQ, fun t k => st.trans k⟩
theorem callV (X : Stand p l e R s m args below meth c T locs cells slots) (hx : p.tables.exec = Jvm.exec) (hZ : Z.Warmed39 s.vm) (hown : s.vm.findClass own = some m.cls)
    (w1 : (Cond.methodLink own index y).before a0 Z = true) (w5 : (Cond.declares y).before a0 Z = true) (w6 : (Cond.selects Cn y y).before a0 Z = true) (w2 : (Cond.instanceMethod y).before a0 Z = true) (w3 : (Cond.initialized y.cls).before a0 Z = true) (w4 : (Cond.code y bytes maxL ret).before a0 Z = true)
    (hy : y.cls ≠ "java/lang/invoke/MethodHandle" ∧ y.cls ≠ "java/lang/invoke/VarHandle") (e0 : T.heap = h) (E : Exa Z h a Cn)
    (hM : MetFree l y (head1 [Cond.code y bytes maxL ret] rm) (fun q U => q = (.ref a :: argsL).toArray ∧ Z.Warmed39 U.vm ∧ U.heap = h) (fun _ _ _ _ _ => True) (fun _ U o U' => ∃ v L, o = .returned v ∧ Qc v U'.heap L ∧ FrameEnd U o U' L rm.cells rm.slots))
    (hf : rm.frames + 1 ≤ R.frames) (hl : W + (maxL + 11) + rm.locals ≤ R.locals) (hcells : cells + rm.cells ≤ R.cells) (hslots : slots + rm.slots ≤ R.slots)
    (hg : g.method = m) (hsize : g.locals.size = c.maxLocals) (hlen : ∀ sig, parseMethodDescriptor y.desc = some sig → argsL.length = sig.parameters.length)
    (hstack : g.stack = argsL.reverse ++ .ref a :: rest) (hW : 2 * g.monitorRoom + (rest.map fun v => v.category).sum ≤ W) (hdg : decode c.code g.pc = .ok (.invokevirtual index, 3)) :
    ∃ (T' : State) (v : Option Value) (L : List Loc), Stand p l e R s m args below meth c T' (locs ++ L) (cells + rm.cells) (slots + rm.slots) ∧ Qc v T'.heap L ∧
      ∀ t, Steps p.tables e below (T'.setTop { g with pc := g.pc + 3, stack := v.toList ++ rest }) t → Steps p.tables e below (T.setTop g) t := by
  obtain ⟨cq, kq, q1, q2, q3⟩ := isOf hZ e0 E
  obtain ⟨v, _, ⟨T', L', k', n'⟩, -, X', ⟨Lc, hQ, l1, y1, z1⟩, st⟩ := X.virtualBack hx (y := y) (z := y) hown (mvT hZ w1) (mvT hZ w5) (notFace_of_selects (args := #[]) (mvT hZ w6)) (mvT hZ w6) (mvT hZ w2) hy (backOf (W := W) hM hZ w4 w3 hf hl) q1 q3 hg hsize (Steps.refl _) hlen hstack hW hdg (fun _ _ => ⟨rfl, e0, hcells, hslots⟩)
  dsimp only [Pt.U, Pt.locs, Pt.cells, Pt.slots] at X' l1 y1 z1 st hQ
  subst l1 y1 z1
  exact ⟨T', v, Lc, X', hQ, fun t k => st.trans k⟩
/-! arrays, as functions of the place -/
def AvI (Z : State) (h : Heap) (a : Addr) (ty : FieldType) (n : Nat) (f : Nat → Int32) : Prop := ∃ c : Cell, Arr Z h a c ty ∧ c.slots.size = n ∧ n < 2 ^ 31 ∧ ∀ i, i < n → c.slots[i]? = some (.int (f i))
def AvJ (Z : State) (h : Heap) (a : Addr) (n : Nat) (f : Nat → Int64) : Prop := ∃ c : Cell, Arr Z h a c .long ∧ c.slots.size = n ∧ n < 2 ^ 31 ∧ ∀ i, i < n → c.slots[i]? = some (.long (f i))
variable {h' : Heap} {ty : FieldType} {n : Nat} {f f' : Nat → Int32} {fj fj' : Nat → Int64} {j x : Int32} {xl : Int64} {b : Addr} {sl : Nat} {v : Value} {ws : List Addr}
theorem clamp (hj : 0 ≤ j.toInt ∧ j.toInt < n) : j.toNatClampNeg = j.toInt.toNat ∧ ¬ j < 0 := by
  refine ⟨rfl, ?_⟩
  rw [Int32.lt_iff_toInt_lt, Int32.toInt_zero]; omega
theorem inb {c : Cell} (S : c.slots.size = n) (hj : 0 ≤ j.toInt ∧ j.toInt < n) : ¬ (j < 0 ∨ c.slots.size ≤ j.toNatClampNeg) := by
  have q := clamp hj
  rw [q.1, S]
  intro w
  rcases w with w | w
  · exact q.2 w
  · omega
theorem AvI.lt (A : AvI Z h a ty n f) : a < h.size := by obtain ⟨c, A, -⟩ := A; exact A.lt
theorem AvJ.lt (A : AvJ Z h a n fj) : a < h.size := by obtain ⟨c, A, -⟩ := A; exact A.lt
theorem AvI.ext (A : AvI Z h a ty n f) (E : Ext h h') : AvI Z h' a ty n f := by obtain ⟨c, A, r⟩ := A; exact ⟨c, A.ext E, r⟩
theorem AvJ.ext (A : AvJ Z h a n fj) (E : Ext h h') : AvJ Z h' a n fj := by obtain ⟨c, A, r⟩ := A; exact ⟨c, A.ext E, r⟩
theorem AvI.other (A : AvI Z h b ty n f) (W : Wr h h' a sl v) (q : b ≠ a) : AvI Z h' b ty n f := by obtain ⟨c, A, r⟩ := A; exact ⟨c, A.other W q, r⟩
theorem AvJ.other (A : AvJ Z h b n fj) (W : Wr h h' a sl v) (q : b ≠ a) : AvJ Z h' b n fj := by obtain ⟨c, A, r⟩ := A; exact ⟨c, A.other W q, r⟩
theorem AvI.keep (A : AvI Z h a ty n f) (K : Keep h h' ws) (q : a ∉ ws) : AvI Z h' a ty n f := by obtain ⟨c, A, r⟩ := A; exact ⟨c, ⟨K.2.1 a c A.1 q, A.2⟩, r⟩
theorem AvJ.keep (A : AvJ Z h a n fj) (K : Keep h h' ws) (q : a ∉ ws) : AvJ Z h' a n fj := by obtain ⟨c, A, r⟩ := A; exact ⟨c, ⟨K.2.1 a c A.1 q, A.2⟩, r⟩
theorem AvI.congr (A : AvI Z h a ty n f) (q : ∀ i, i < n → f' i = f i) : AvI Z h a ty n f' := by obtain ⟨c, A, S, M, H⟩ := A; exact ⟨c, A, S, M, fun i hi => by rw [q i hi]; exact H i hi⟩
theorem AvJ.congr (A : AvJ Z h a n fj) (q : ∀ i, i < n → fj' i = fj i) : AvJ Z h a n fj' := by obtain ⟨c, A, S, M, H⟩ := A; exact ⟨c, A, S, M, fun i hi => by rw [q i hi]; exact H i hi⟩
theorem AvI.new {cA : ClassId} {z : Int32} (A : Arr Z h a (newA cA ty z) ty) (hz : z.toInt = n) (hd : defaultValue ty = .int 0) : AvI Z h a ty n (fun _ => 0) := by
  have q : z.toNatClampNeg = n := by show z.toInt.toNat = n; omega
  refine ⟨_, A, by rw [sz_new]; exact q, by have := z.toInt_lt; omega, fun i hi => ?_⟩
  simp [newA, q, hi, hd]
theorem AvJ.new {cA : ClassId} {z : Int32} (A : Arr Z h a (newA cA .long z) .long) (hz : z.toInt = n) : AvJ Z h a n (fun _ => 0) := by
  have q : z.toNatClampNeg = n := by show z.toInt.toNat = n; omega
  refine ⟨_, A, by rw [sz_new]; exact q, by have := z.toInt_lt; omega, fun i hi => ?_⟩
  simp [newA, q, hi, defaultValue]
theorem len_nat {c : Cell} (S : c.slots.size = n) (M : n < 2 ^ 31) : c.slots.size.toInt32 = Int32.ofNat n := by rw [S]
theorem lenI (X : Stand p l e R s m args below meth c T locs cells slots) (hx : p.tables.exec = Jvm.exec) (hZ : Z.Warmed39 s.vm) (e0 : T.heap = h) (A : AvI Z h a ty n f) (hg : g.method = m) (hs : g.stack = .ref a :: rest) (hd : decode c.code g.pc = .ok (.arraylength, 1)) :
    ∀ t, Steps p.tables e below (T.setTop { g with pc := g.pc + 1, stack := .int (Int32.ofNat n) :: rest }) t → Steps p.tables e below (T.setTop g) t := by
  obtain ⟨c, A, S, M, H⟩ := A
  intro t k
  refine X.arraylength hx (by rw [e0]; exact A.1) (State.isArrayOf_alike hZ.alike A.2.1) hg hs hd _ ?_
  rw [len_nat S M]; exact k
theorem lenJ (X : Stand p l e R s m args below meth c T locs cells slots) (hx : p.tables.exec = Jvm.exec) (hZ : Z.Warmed39 s.vm) (e0 : T.heap = h) (A : AvJ Z h a n fj) (hg : g.method = m) (hs : g.stack = .ref a :: rest) (hd : decode c.code g.pc = .ok (.arraylength, 1)) :
    ∀ t, Steps p.tables e below (T.setTop { g with pc := g.pc + 1, stack := .int (Int32.ofNat n) :: rest }) t → Steps p.tables e below (T.setTop g) t := by
  obtain ⟨c, A, S, M, H⟩ := A
  intro t k
  refine X.arraylength hx (by rw [e0]; exact A.1) (State.isArrayOf_alike hZ.alike A.2.1) hg hs hd _ ?_
  rw [len_nat S M]; exact k
theorem ldI (X : Stand p l e R s m args below meth c T locs cells slots) (hx : p.tables.exec = Jvm.exec) (hZ : Z.Warmed39 s.vm) (e0 : T.heap = h) (A : AvI Z h a .int n f) (hj : 0 ≤ j.toInt ∧ j.toInt < n) (hg : g.method = m) (hs : g.stack = .int j :: .ref a :: rest) (hd : decode c.code g.pc = .ok (.iaload, 1)) :
    ∀ t, Steps p.tables e below (T.setTop { g with pc := g.pc + 1, stack := .int (f j.toInt.toNat) :: rest }) t → Steps p.tables e below (T.setTop g) t := by
  obtain ⟨c, A, S, M, H⟩ := A
  exact fun t k => X.iaload hx (by rw [e0]; exact A.1) (State.isArrayOf_alike hZ.alike A.2.1) A.2.2 (inb S hj) (by rw [(clamp hj).1]; exact H _ (by omega)) hg hs hd _ k
theorem ldJ (X : Stand p l e R s m args below meth c T locs cells slots) (hx : p.tables.exec = Jvm.exec) (hZ : Z.Warmed39 s.vm) (e0 : T.heap = h) (A : AvJ Z h a n fj) (hj : 0 ≤ j.toInt ∧ j.toInt < n) (hg : g.method = m) (hs : g.stack = .int j :: .ref a :: rest) (hd : decode c.code g.pc = .ok (.laload, 1)) :
    ∀ t, Steps p.tables e below (T.setTop { g with pc := g.pc + 1, stack := .long (fj j.toInt.toNat) :: rest }) t → Steps p.tables e below (T.setTop g) t := by
  obtain ⟨c, A, S, M, H⟩ := A
  exact fun t k => X.laload hx (by rw [e0]; exact A.1) (State.isArrayOf_alike hZ.alike A.2.1) A.2.2 (inb S hj) (by rw [(clamp hj).1]; exact H _ (by omega)) hg hs hd _ k
theorem ldB (X : Stand p l e R s m args below meth c T locs cells slots) (hx : p.tables.exec = Jvm.exec) (hZ : Z.Warmed39 s.vm) (e0 : T.heap = h) (A : AvI Z h a .byte n f) (hj : 0 ≤ j.toInt ∧ j.toInt < n) (hg : g.method = m) (hs : g.stack = .int j :: .ref a :: rest) (hd : decode c.code g.pc = .ok (.baload, 1)) :
    ∀ t, Steps p.tables e below (T.setTop { g with pc := g.pc + 1, stack := .int (f j.toInt.toNat) :: rest }) t → Steps p.tables e below (T.setTop g) t := by
  obtain ⟨c, A, S, M, H⟩ := A
  exact fun t k => X.baloadBytes hx (by rw [e0]; exact A.1) (State.isArrayOf_alike hZ.alike A.2.1) A.2.2 (inb S hj) (by rw [(clamp hj).1]; exact H _ (by omega)) hg hs hd _ k
theorem AvI.set (A : AvI Z h a ty n f) (hj : 0 ≤ j.toInt ∧ j.toInt < n) (W : Wr h h' a j.toNatClampNeg (.int x)) : AvI Z h' a ty n (fun i => if i = j.toInt.toNat then x else f i) := by
  obtain ⟨c, A, S, M, H⟩ := A
  refine ⟨_, A.same W, by rw [sz_set]; exact S, M, fun i hi => ?_⟩
  rw [(clamp hj).1]
  by_cases q : i = j.toInt.toNat
  · subst q
    simp only [Cell.setSlot, if_true]
    show (c.slots.setIfInBounds j.toInt.toNat _)[j.toInt.toNat]? = _
    rw [Array.getElem?_setIfInBounds, if_pos rfl, if_pos (by rw [S]; exact hi)]
  · simp only [Cell.setSlot, q, if_false]
    rw [Array.getElem?_setIfInBounds_ne (Ne.symm q)]; exact H i hi
theorem AvJ.set (A : AvJ Z h a n fj) (hj : 0 ≤ j.toInt ∧ j.toInt < n) (W : Wr h h' a j.toNatClampNeg (.long xl)) : AvJ Z h' a n (fun i => if i = j.toInt.toNat then xl else fj i) := by
  obtain ⟨c, A, S, M, H⟩ := A
  refine ⟨_, A.same W, by rw [sz_set]; exact S, M, fun i hi => ?_⟩
  rw [(clamp hj).1]
  by_cases q : i = j.toInt.toNat
  · subst q
    simp only [Cell.setSlot, if_true]
    show (c.slots.setIfInBounds j.toInt.toNat _)[j.toInt.toNat]? = _
    rw [Array.getElem?_setIfInBounds, if_pos rfl, if_pos (by rw [S]; exact hi)]
  · simp only [Cell.setSlot, q, if_false]
    rw [Array.getElem?_setIfInBounds_ne (Ne.symm q)]; exact H i hi
theorem stoI (X : Stand p l e R s m args below meth c T locs cells slots) (hx : p.tables.exec = Jvm.exec) (hZ : Z.Warmed39 s.vm) (e0 : T.heap = h) (A : AvI Z h a .int n f) (hj : 0 ≤ j.toInt ∧ j.toInt < n) (hg : g.method = m) (hs : g.stack = .int x :: .int j :: .ref a :: rest) (hd : decode c.code g.pc = .ok (.iastore, 1)) :
    ∃ T' h', Stand p l e R s m args below meth c T' (locs ++ [⟨a, j.toNatClampNeg⟩]) cells slots ∧ T'.heap = h' ∧ AvI Z h' a .int n (fun i => if i = j.toInt.toNat then x else f i) ∧ Wr h h' a j.toNatClampNeg (.int x) ∧ ∀ t, Steps p.tables e below (T'.setTop { g with pc := g.pc + 1, stack := rest }) t → Steps p.tables e below (T.setTop g) t := by
  obtain ⟨c, A', S, M, H⟩ := id A
  obtain ⟨T', h', X', e', W, st⟩ := stI X hx hZ e0 A' (inb S hj) hg hs hd
  exact ⟨T', h', X', e', A.set hj W, W, st⟩
theorem stoJ (X : Stand p l e R s m args below meth c T locs cells slots) (hx : p.tables.exec = Jvm.exec) (hZ : Z.Warmed39 s.vm) (e0 : T.heap = h) (A : AvJ Z h a n fj) (hj : 0 ≤ j.toInt ∧ j.toInt < n) (hg : g.method = m) (hs : g.stack = .long xl :: .int j :: .ref a :: rest) (hd : decode c.code g.pc = .ok (.lastore, 1)) :
    ∃ T' h', Stand p l e R s m args below meth c T' (locs ++ [⟨a, j.toNatClampNeg⟩]) cells slots ∧ T'.heap = h' ∧ AvJ Z h' a n (fun i => if i = j.toInt.toNat then xl else fj i) ∧ Wr h h' a j.toNatClampNeg (.long xl) ∧ ∀ t, Steps p.tables e below (T'.setTop { g with pc := g.pc + 1, stack := rest }) t → Steps p.tables e below (T.setTop g) t := by
  obtain ⟨c, A', S, M, H⟩ := id A
  obtain ⟨T', h', X', e', W, st⟩ := stJ X hx hZ e0 A' (inb S hj) hg hs hd
  exact ⟨T', h', X', e', A.set hj W, W, st⟩
theorem stoB (X : Stand p l e R s m args below meth c T locs cells slots) (hx : p.tables.exec = Jvm.exec) (hZ : Z.Warmed39 s.vm) (e0 : T.heap = h) (A : AvI Z h a .byte n f) (hj : 0 ≤ j.toInt ∧ j.toInt < n) (hg : g.method = m) (hs : g.stack = .int x :: .int j :: .ref a :: rest) (hd : decode c.code g.pc = .ok (.bastore, 1)) :
    ∃ T' h', Stand p l e R s m args below meth c T' (locs ++ [⟨a, j.toNatClampNeg⟩]) cells slots ∧ T'.heap = h' ∧ AvI Z h' a .byte n (fun i => if i = j.toInt.toNat then nar .byte x else f i) ∧ Wr h h' a j.toNatClampNeg (.int (nar .byte x)) ∧ ∀ t, Steps p.tables e below (T'.setTop { g with pc := g.pc + 1, stack := rest }) t → Steps p.tables e below (T.setTop g) t := by
  obtain ⟨c, A', S, M, H⟩ := id A
  obtain ⟨T', h', X', e', W, st⟩ := stB X hx hZ e0 A' (inb S hj) hg hs hd
  exact ⟨T', h', X', e', A.set hj W, W, st⟩
theorem stoZ (X : Stand p l e R s m args below meth c T locs cells slots) (hx : p.tables.exec = Jvm.exec) (hZ : Z.Warmed39 s.vm) (e0 : T.heap = h) (A : AvI Z h a .boolean n f) (hj : 0 ≤ j.toInt ∧ j.toInt < n) (hg : g.method = m) (hs : g.stack = .int x :: .int j :: .ref a :: rest) (hd : decode c.code g.pc = .ok (.bastore, 1)) :
    ∃ T' h', Stand p l e R s m args below meth c T' (locs ++ [⟨a, j.toNatClampNeg⟩]) cells slots ∧ T'.heap = h' ∧ AvI Z h' a .boolean n (fun i => if i = j.toInt.toNat then nar .boolean x else f i) ∧ Wr h h' a j.toNatClampNeg (.int (nar .boolean x)) ∧ ∀ t, Steps p.tables e below (T'.setTop { g with pc := g.pc + 1, stack := rest }) t → Steps p.tables e below (T.setTop g) t := by
  obtain ⟨c, A', S, M, H⟩ := id A
  obtain ⟨T', h', X', e', W, st⟩ := stZ X hx hZ e0 A' (inb S hj) hg hs hd
  exact ⟨T', h', X', e', A.set hj W, W, st⟩
theorem snoc {k : Nat} (N : Fr k locs) (q : k ≤ a) : Fr k (locs ++ [⟨a, sl⟩]) := N.app fun y hy => by cases List.mem_singleton.mp hy; exact q
theorem nmI {v x : Int32} {pc : Nat} {ls : Array Slot} {st : List Value} {t : State} (q : v = x) (k : Steps p.tables e below (T.setTop (mkF m pc ls (.int v :: st))) t) : Steps p.tables e below (T.setTop (mkF m pc ls (.int x :: st))) t := by subst q; exact k
theorem nmJ {v x : Int64} {pc : Nat} {ls : Array Slot} {st : List Value} {t : State} (q : v = x) (k : Steps p.tables e below (T.setTop (mkF m pc ls (.long v :: st))) t) : Steps p.tables e below (T.setTop (mkF m pc ls (.long x :: st))) t := by subst q; exact k
theorem ne_of {x y : Nat} (q : @Ne Nat x y) : @Ne Addr x y := q
theorem ldZ (X : Stand p l e R s m args below meth c T locs cells slots) (hx : p.tables.exec = Jvm.exec) (hZ : Z.Warmed39 s.vm) (e0 : T.heap = h) (A : AvI Z h a .boolean n f) (hj : 0 ≤ j.toInt ∧ j.toInt < n) (hg : g.method = m) (hs : g.stack = .int j :: .ref a :: rest) (hd : decode c.code g.pc = .ok (.baload, 1)) :
    ∀ t, Steps p.tables e below (T.setTop { g with pc := g.pc + 1, stack := .int (f j.toInt.toNat) :: rest }) t → Steps p.tables e below (T.setTop g) t := by
  obtain ⟨c, A, S, M, H⟩ := A
  exact fun t k => X.baloadBooleans hx (by rw [e0]; exact A.1) (State.isArrayOf_alike hZ.alike A.2.1) A.2.2 (inb S hj) (by rw [(clamp hj).1]; exact H _ (by omega)) hg hs hd _ k
theorem lrem_eq (x y : Int64) : x - x / y * y = x % y := by
  apply Int64.toInt_inj.mp
  have hy := Int64.toInt_mod x y
  have q := Int64.toInt_div x y
  rw [hy, Int64.toInt_sub, Int64.toInt_mul, q]
  have h1 := Int.tmod_add_mul_tdiv x.toInt y.toInt
  have h2 : x.toInt.tmod y.toInt = x.toInt - x.toInt.tdiv y.toInt * y.toInt := by rw [Int.mul_comm]; omega
  have h3 := rng64 x
  have h4 := rng64 y
  have h5 : (x.toInt.tmod y.toInt) % (2 ^ 64) = (x.toInt - x.toInt.tdiv y.toInt * y.toInt) % (2 ^ 64) := by rw [h2]
  have h6 : -2 ^ 63 ≤ x.toInt.tmod y.toInt ∧ x.toInt.tmod y.toInt < 2 ^ 63 := by rw [← hy]; exact ⟨(x % y).le_toInt, (x % y).toInt_lt⟩
  rw [← Int.bmod_eq_of_le (n := x.toInt.tmod y.toInt) (m := 2 ^ 64) (by omega) (by omega), h2]
  simp only [Int.bmod_sub_bmod, Int.sub_bmod_bmod, Int.bmod_mul_bmod, Int.mul_bmod_bmod]
theorem lremM {t : State} (X : Stand p l e R s m args below meth c T locs cells slots) (hx : p.tables.exec = Jvm.exec) (hg : g.method = m) {x y : Int64} (hd : decode c.code g.pc = .ok (.lrem, 1)) (hs : g.stack = .long y :: .long x :: rest) (hy : y ≠ 0)
    (hr : Steps p.tables e below (T.setTop { g with pc := g.pc + 1, stack := .long (x % y) :: rest }) t) : Steps p.tables e below (T.setTop g) t :=
  XS.lrem X.here hx hg hd hs hy (by rw [lrem_eq]; exact hr)
/-- a boolean as an int -/
def b2i (b : Bool) : Int32 := if b then 1 else 0
theorem b2i_t : b2i true = 1 := rfl
theorem b2i_f : b2i false = 0 := rfl
theorem b2i_nar (b : Bool) : nar .boolean (b2i b) = b2i b := by cases b <;> decide
theorem b2i_eq0 {b : Bool} : b2i b = 0 ↔ ¬ b = true := by cases b <;> decide
theorem b2i_inj {b b' : Bool} : b2i b = b2i b' ↔ b = b' := by cases b <;> cases b' <;> decide
end Kit
end Jvm.Own
namespace Jvm.Pilot.@@N@@
open Jvm Jvm.ClassFile Sem Op Lib Jvm.Free Jvm.Stand Jvm.LawKit Jvm.RoadKit Bundle Jvm.Pilot.@@N@@.Jvm.D
def own_FS (Z : State) (h : Heap) (a r n : Nat) (w : Nat → Int64) : Prop :=
  Exa Z h a "com/example/sluice/sluice/FieldSet" ∧ Fld Z h a "com/example/sluice/sluice/FieldSet" "first" "J" (.long (w 0)) ∧ n ≤ 3 ∧ ((n = 0 ∧ r = a ∧ Fld Z h a "com/example/sluice/sluice/FieldSet" "rest" "[J" .null) ∨ (0 < n ∧ @Ne Nat a r ∧ Fld Z h a "com/example/sluice/sluice/FieldSet" "rest" "[J" (.ref r) ∧ Own.AvJ Z h r n (fun k => w (k + 1))))
section FS
variable {Z : State} {h h' : Heap} {a r n : Nat} {w : Nat → Int64} {ws : List Addr}
theorem own_FS.ext (F : own_FS Z h a r n w) (E : Ext h h') : own_FS Z h' a r n w := by
  obtain ⟨f1, f2, f3, f4⟩ := F
  refine ⟨f1.ext E, f2.ext E, f3, ?_⟩
  rcases f4 with ⟨q1, q2, q3⟩ | ⟨q1, q2, q3, q4⟩
  · exact Or.inl ⟨q1, q2, q3.ext E⟩
  · exact Or.inr ⟨q1, q2, q3.ext E, q4.ext E⟩
theorem own_FS.keep (F : own_FS Z h a r n w) (K : Keep h h' ws) (ha : a ∉ ws) (hr : r ∉ ws) : own_FS Z h' a r n w := by
  obtain ⟨f1, f2, f3, f4⟩ := F
  refine ⟨f1.keep K, f2.keep K ha, f3, ?_⟩
  rcases f4 with ⟨q1, q2, q3⟩ | ⟨q1, q2, q3, q4⟩
  · exact Or.inl ⟨q1, q2, q3.keep K ha⟩
  · exact Or.inr ⟨q1, q2, q3.keep K ha, q4.keep K hr⟩
theorem own_FS.lt0 (F : own_FS Z h a r n w) : a < h.size := F.1.lt
theorem own_FS.lt1 (F : own_FS Z h a r n w) : r < h.size := by
  obtain ⟨f1, f2, f3, f4⟩ := F
  rcases f4 with ⟨q1, q2, q3⟩ | ⟨q1, q2, q3, q4⟩
  · rw [q2]; exact f1.lt
  · exact q4.lt
end FS
theorem own_eq {a b : Int32} : a = b ↔ a.toInt = b.toInt := Int32.toInt_inj.symm
theorem own_lt {a b : Int32} : a < b ↔ a.toInt < b.toInt := Int32.lt_iff_toInt_lt
def own_bit (i : Int32) : Int64 := (1 : Int64) <<< (i &&& 0x3f).toInt64
def own_ix (i : Int32) : Nat := (i.toInt / 64).toNat
def own_add (w : Nat → Int64) (i : Int32) : Nat → Int64 := fun k => if k = own_ix i then w k ||| own_bit i else w k
def own_has (w : Nat → Int64) (i : Int32) : Bool := decide (¬ w (own_ix i) &&& own_bit i = 0)
theorem own_k64 : (64 : Int32).toInt = 64 := by decide
theorem own_k1 : (1 : Int32).toInt = 1 := by decide
theorem own_div {i : Int32} (hi : 0 ≤ i.toInt) : (i / 64).toInt = i.toInt / 64 := by
  rw [Jvm.Kit.i32_div (by rw [own_k64]; omega), own_k64, Int.tdiv_eq_ediv_of_nonneg hi]
theorem own_dv1 {i : Int32} (hi : 0 ≤ i.toInt) : (i / 64 - 1).toInt = i.toInt / 64 - 1 := by
  have := rng32 i
  rw [Jvm.Kit.i32_sub, own_div hi, own_k1] <;> (try rw [own_div hi, own_k1]) <;> omega
theorem own_k {p : Int32} (h1 : 1 ≤ p.toInt ∧ p.toInt ≤ 256) (hc : (64 : Int32) < p) : ∃ k : Nat, ((p - 1) / 64).toInt = k ∧ 0 < k ∧ k ≤ 3 ∧ (k : Int) = (p.toInt - 1) / 64 := by
  rw [own_lt, own_k64] at hc
  have e1 : (p - 1).toInt = p.toInt - 1 := by rw [Jvm.Kit.i32_sub, own_k1] <;> (try rw [own_k1]) <;> omega
  have e2 : ((p - 1) / 64).toInt = (p.toInt - 1) / 64 := by rw [own_div (by omega), e1]
  exact ⟨((p.toInt - 1) / 64).toNat, by rw [e2]; omega, by omega, by omega, by omega⟩
theorem own_nn {z : Int32} {k : Nat} (h : z.toInt = k) : ¬ z < 0 := by
  rw [own_lt, h]; have : (0 : Int32).toInt = 0 := by decide
  rw [this]; omega
theorem own_cl {z : Int32} {k c : Nat} (h : z.toInt = k) (hk : k ≤ c) : z.toNatClampNeg ≤ c := by show z.toInt.toNat ≤ c; omega
theorem own_ix0 {i : Int32} (hi : 0 ≤ i.toInt) (h : i < 64) : own_ix i = 0 := by rw [own_lt, own_k64] at h; unfold own_ix; omega
theorem own_smod : ∀ m : Fin 64, ((Int32.ofNat m.val).toInt64.toBitVec.smod 64).toNat = m.val := by decide +kernel
theorem own_and63 (i : Int32) : (i &&& 0x3f) = Int32.ofNat (i.toInt % 64).toNat := by
  rw [own_eq, show (0x3f : Int32) = 63 from rfl, Jvm.Kit.i32_mask i 63 (k := 6) (by decide) (by decide), Int32.toInt_ofNat_of_lt (by omega)]
  omega
theorem own_bitB (i : Int32) : (own_bit i).toBitVec = BitVec.twoPow 64 (i.toInt % 64).toNat := by
  have h := own_smod ⟨(i.toInt % 64).toNat, by omega⟩
  unfold own_bit
  rw [own_and63, Int64.toBitVec_shiftLeft, BitVec.shiftLeft_eq', h, BitVec.twoPow]
  rfl
theorem own_and0 (x : BitVec 64) (m : Nat) (hm : m < 64) : x &&& BitVec.twoPow 64 m = 0#64 ↔ x.getLsbD m = false := by
  rw [BitVec.and_twoPow]
  cases h : x.getLsbD m
  · simp
  · simp only [if_true, Bool.true_eq_false, iff_false]
    intro q
    have := congrArg (fun z => z.getLsbD m) q
    simp [BitVec.getLsbD_twoPow, hm] at this
theorem own_hasB (w : Nat → Int64) (i : Int32) : own_has w i = (w (own_ix i)).toBitVec.getLsbD (i.toInt % 64).toNat := by
  unfold own_has
  have e : (w (own_ix i) &&& own_bit i = 0) ↔ (w (own_ix i)).toBitVec &&& BitVec.twoPow 64 (i.toInt % 64).toNat = 0#64 := by
    rw [← Int64.toBitVec_inj, Int64.toBitVec_and, own_bitB]; rfl
  have e2 := e.trans (own_and0 _ _ (by omega))
  cases hb : (w (own_ix i)).toBitVec.getLsbD (i.toInt % 64).toNat
  · exact decide_eq_false (fun q => q (e2.mpr hb))
  · exact decide_eq_true (fun q => by rw [e2.mp q] at hb; cases hb)
theorem own_hadd (w : Nat → Int64) {i j : Int32} (hi : 0 ≤ i.toInt) (hj : 0 ≤ j.toInt) : own_has (own_add w i) j = (own_has w j || decide (j = i)) := by
  rw [own_hasB, own_hasB]
  unfold own_add
  by_cases q : own_ix j = own_ix i
  · rw [if_pos q, Int64.toBitVec_or, BitVec.getLsbD_or, own_bitB, BitVec.getLsbD_twoPow]
    congr 1
    have : (i.toInt % 64).toNat = (j.toInt % 64).toNat ↔ j = i := by
      rw [own_eq]; unfold own_ix at q; omega
    simp [this]; omega
  · rw [if_neg q]
    have : ¬ j = i := fun e => q (by rw [e])
    simp [this]
theorem own_has0 (j : Int32) : own_has (fun _ => 0) j = false := by
  rw [own_hasB]; simp
theorem own_rem {v x n : Int32} (hn : 1 ≤ n.toInt) (h : v = (x &&& 2147483647) % n) : 0 ≤ v.toInt ∧ v.toInt < n.toInt := by
  have hm : (x &&& 2147483647).toInt = x.toInt % 2 ^ 31 := Jvm.Kit.i32_mask x 2147483647 (k := 31) (by decide) (by decide)
  rw [h, Jvm.Kit.i32_rem_nonneg (by omega)]
  exact ⟨Int.emod_nonneg _ (by omega), Int.emod_lt_of_pos _ (by omega)⟩
theorem own_nz {n : Int32} (hn : 1 ≤ n.toInt) : n ≠ 0 := fun q => by rw [q] at hn; exact absurd hn (by decide)
theorem own_in {v n : Int32} {k : Nat} (hv : 0 ≤ v.toInt ∧ v.toInt < n.toInt) (hk : (k : Int) = (n.toInt - 1) / 64) : 0 ≤ v.toInt ∧ v.toInt / 64 ≤ k := by omega
theorem own_cases {Z : State} {h : Heap} {a r n : Nat} {w : Nat → Int64} (F : own_FS Z h a r n w) : (n = 0 ∧ Fld Z h a "com/example/sluice/sluice/FieldSet" "rest" "[J" .null) ∨ (n = 1 ∧ Fld Z h a "com/example/sluice/sluice/FieldSet" "rest" "[J" (.ref r) ∧ Own.AvJ Z h r 1 (fun k => w (k + 1))) ∨ (n = 2 ∧ Fld Z h a "com/example/sluice/sluice/FieldSet" "rest" "[J" (.ref r) ∧ Own.AvJ Z h r 2 (fun k => w (k + 1))) ∨ (n = 3 ∧ Fld Z h a "com/example/sluice/sluice/FieldSet" "rest" "[J" (.ref r) ∧ Own.AvJ Z h r 3 (fun k => w (k + 1))) := by
  obtain ⟨-, -, h3, ⟨q1, -, q3⟩ | ⟨q1, -, q3, q4⟩⟩ := F
  · exact Or.inl ⟨q1, q3⟩
  · rcases (show n = 1 ∨ n = 2 ∨ n = 3 by omega) with rfl | rfl | rfl
    · exact Or.inr (Or.inl ⟨rfl, q3, q4⟩)
    · exact Or.inr (Or.inr (Or.inl ⟨rfl, q3, q4⟩))
    · exact Or.inr (Or.inr (Or.inr ⟨rfl, q3, q4⟩))

theorem d1_0 : decode prog_7_method_1_code 0 = .ok (.aload_n 0, 1) := by decide +kernel
theorem d1_1 : decode prog_7_method_1_code 1 = .ok (.invokespecial 1, 3) := by decide +kernel
theorem d1_4 : decode prog_7_method_1_code 4 = .ok (.aload_n 0, 1) := by decide +kernel
theorem d1_5 : decode prog_7_method_1_code 5 = .ok (.iload_n 1, 1) := by decide +kernel
theorem d1_6 : decode prog_7_method_1_code 6 = .ok (.bipush 64, 2) := by decide +kernel
theorem d1_8 : decode prog_7_method_1_code 8 = .ok (.if_icmp .le 14, 3) := by decide +kernel
theorem d1_11 : decode prog_7_method_1_code 11 = .ok (.iload_n 1, 1) := by decide +kernel
theorem d1_12 : decode prog_7_method_1_code 12 = .ok (.iconst 1, 1) := by decide +kernel
theorem d1_13 : decode prog_7_method_1_code 13 = .ok (.isub, 1) := by decide +kernel
theorem d1_14 : decode prog_7_method_1_code 14 = .ok (.bipush 64, 2) := by decide +kernel
theorem d1_16 : decode prog_7_method_1_code 16 = .ok (.idiv, 1) := by decide +kernel
theorem d1_17 : decode prog_7_method_1_code 17 = .ok (.newarray .long, 2) := by decide +kernel
theorem d1_19 : decode prog_7_method_1_code 19 = .ok (.goto 4, 3) := by decide +kernel
theorem d1_22 : decode prog_7_method_1_code 22 = .ok (.aconst_null, 1) := by decide +kernel
theorem d1_23 : decode prog_7_method_1_code 23 = .ok (.putfield 9, 3) := by decide +kernel
theorem d1_26 : decode prog_7_method_1_code 26 = .ok (.return_, 1) := by decide +kernel
theorem pn_0 : plainName "com/example/sluice/sluice/FieldSet" = true := by first | (simp [plainName, overriddenIn]; done) | decide +kernel
theorem ef_1 (m : MethodId) (o0 : Addr) (p1 : Int32) : entryFrame m #[(.ref o0), (.int p1)] 2 = mkF m 0 #[.val (.ref o0), .val (.int p1)] [] := by first | (simp [entryFrame, mkF, argsToLocals, Value.category]; done) | rfl
def Q1 (Z : State) (o0 : Nat) (p1 : Int32) (h0 : Heap) (n0 : Nat) (v : Option Value) (h : Heap) (L : List Loc) : Prop := v = none ∧ Fr n0 L ∧ Keep h0 h [o0] ∧ ∃ r n : Nat, own_FS Z h o0 r n (fun _ => 0) ∧ (n : Int) = (p1.toInt - 1) / 64 ∧ (r = o0 ∨ h0.size ≤ r)
set_option maxRecDepth 65536 in
set_option maxHeartbeats 40000000 in
theorem rm1 (l : Launch) (Z : State) (a0 : Array Value) (hw : ∀ d ∈ tables_1, d.before a0 Z = true) (ws : List Jvm.Cond) (o0 : Nat) (p1 : Int32) (h0 : Heap) (n0 : Nat) (Z0 : n0 ≤ h0.size) (g0 : n0 ≤ o0) (hs : 1 ≤ p1.toInt ∧ p1.toInt ≤ 256) (E_a0 : Exa Z h0 o0 "com/example/sluice/sluice/FieldSet") (F_first : Fld Z h0 o0 "com/example/sluice/sluice/FieldSet" "first" "J" (.long (0 : Int64))) (F_rest : Fld Z h0 o0 "com/example/sluice/sluice/FieldSet" "rest" "[J" .null) :
    MetFree l (⟨"com/example/sluice/sluice/FieldSet", "<init>", "(I)V"⟩ : MethodName) (head1 (Jvm.Cond.code (⟨"com/example/sluice/sluice/FieldSet", "<init>", "(I)V"⟩ : MethodName) prog_7_method_1_code 2 none :: ws) ({ frames := 1, cells := 1, slots := 3, locals := 12 } : Room)) (fun a U => a = #[(.ref o0), (.int p1)] ∧ Z.Warmed39 U.vm ∧ U.heap = h0) (fun _ _ _ _ _ => True) (fun _ U o U' => ∃ v L, o = .returned v ∧ Q1 Z o0 p1 h0 n0 v U'.heap L ∧ FrameEnd U o U' L ({ frames := 1, cells := 1, slots := 3, locals := 12 } : Room).cells ({ frames := 1, cells := 1, slots := 3, locals := 12 } : Room).slots) := by
  refine Own.enter (Q := Q1 Z o0 p1 h0 n0) (plainFor_of_name pn_0) ?_
  intro p e s m below meth c s₁ D hx hby hml hown hnm hret hZ X0 e0 hD hR
  have N0 := Fr.nil n0
  have K0 : Keep h0 h0 [o0] := Keep.refl h0 _
  rw [show entryFrame m #[(.ref o0), (.int p1)] 2 = mkF m 0 #[.val (.ref o0), .val (.int p1)] [] from ef_1 m o0 p1]
  obtain ⟨T1, X1, e1, st1⟩ := initO X0 hx hZ hown (hw _ (List.mem_of_getElem? (i := 11) rfl)) (hw _ (List.mem_of_getElem? (i := 12) rfl)) (hw _ (List.mem_of_getElem? (i := 13) rfl)) e0 (g := (mkF m 1 #[.val (.ref o0), .val (.int p1)] [(.ref o0)])) rfl (by rw [hml]; rfl) rfl (hb hby d1_1) (by decide) (W := 0) (by show 2 * 0 + _ ≤ _; exact Nat.le_of_eq rfl) (by decide)
  refine hD _ (T1.setTop (mkF m 8 #[.val (.ref o0), .val (.int p1)] [(.int (64 : Int32)), (.int p1), (.ref o0)])) (fun t k => ?_) ?_
  · show Steps p.tables e below (s₁.setTop (mkF m 0 #[.val (.ref o0), .val (.int p1)] [])) t
    refine XS.aloadN X0.here hx rfl (hb hby d1_0) rfl rfl ?_
    show Steps p.tables e below (s₁.setTop (mkF m 1 #[.val (.ref o0), .val (.int p1)] [(.ref o0)])) t
    refine st1 _ ?_
    show Steps p.tables e below (T1.setTop (mkF m 4 #[.val (.ref o0), .val (.int p1)] [])) t
    refine XS.aloadN X1.here hx rfl (hb hby d1_4) rfl rfl ?_
    show Steps p.tables e below (T1.setTop (mkF m 5 #[.val (.ref o0), .val (.int p1)] [(.ref o0)])) t
    refine XS.iloadN X1.here hx rfl (hb hby d1_5) rfl ?_
    show Steps p.tables e below (T1.setTop (mkF m 6 #[.val (.ref o0), .val (.int p1)] [(.int p1), (.ref o0)])) t
    refine XS.bipush X1.here hx rfl (hb hby d1_6) ?_
    show Steps p.tables e below (T1.setTop (mkF m 8 #[.val (.ref o0), .val (.int p1)] [(.int (64 : Int32)), (.int p1), (.ref o0)])) t
    exact k
  by_cases hc2 : (64 : Int32) < p1
  · have hnz3 : (64 : Int32) ≠ 0 := by decide
    obtain ⟨k, hk1, hk2, hk3, hk4⟩ := own_k hs hc2
    obtain ⟨T4, h4, k4, X4, e4, E4, A4, st4⟩ := newP X1 hx hZ (hw _ (List.mem_of_getElem? (i := 28) rfl)) e1 (g := (mkF m 17 #[.val (.ref o0), .val (.int p1)] [(.int ((p1 - (1 : Int32)) / (64 : Int32))), (.ref o0)])) rfl (hb hby d1_17) rfl (own_nn hk1) (cap := 3) (own_cl hk1 hk3) (by decide) (by decide) (by decide)
    obtain ⟨b4, g_b4⟩ : ∃ z : Nat, z = h0.size := ⟨_, rfl⟩
    rw [← g_b4] at A4 st4
    have lt_o0_b4 : (o0 : Nat) < b4 := by rw [g_b4]; exact E_a0.lt
    have g0_b4 : n0 ≤ b4 := by rw [g_b4]; exact Z0
    have gk_b4 : h0.size ≤ b4 := by rw [g_b4]; exact K0.1
    have f5 : Exa Z h4 o0 "com/example/sluice/sluice/FieldSet" := (E_a0.ext E4)
    have f6 : Fld Z h4 o0 "com/example/sluice/sluice/FieldSet" "first" "J" (.long (0 : Int64)) := (F_first.ext E4)
    have f7 : Fld Z h4 o0 "com/example/sluice/sluice/FieldSet" "rest" "[J" .null := (F_rest.ext E4)
    have f8 : Own.AvJ Z h4 b4 k (fun _ => 0) := Own.AvJ.new A4 hk1
    have Z4 : n0 ≤ h4.size := Nat.le_trans Z0 E4.1
    have K4 : Keep h0 h4 [o0] := K0.ext E4
    obtain ⟨T9, h9, X9, e9, W9, st9⟩ := putF X4 hx hZ hown (host := "") (Or.inl (hw _ (List.mem_of_getElem? (i := 14) rfl))) Via.refl e4 f7 f5 (Or.inr ⟨(hw _ (List.mem_of_getElem? (i := 15) rfl)), rfl, hnm⟩) (hw _ (List.mem_of_getElem? (i := 6) rfl)) (ty := (.array .long)) (by decide) rfl rfl (g := (mkF m 23 #[.val (.ref o0), .val (.int p1)] [(.ref b4), (.ref o0)])) rfl rfl (hb hby d1_23)
    have f10 : Fld Z h9 o0 "com/example/sluice/sluice/FieldSet" "rest" "[J" (.ref b4) := f7.same W9
    have f11 : Exa Z h9 o0 "com/example/sluice/sluice/FieldSet" := f5.wr W9
    have f12 : Fld Z h9 o0 "com/example/sluice/sluice/FieldSet" "first" "J" (.long (0 : Int64)) := f6.other W9 (Or.inr (slot_ne (Or.inl (hw _ (List.mem_of_getElem? (i := 22) rfl))) (Or.inr (hw _ (List.mem_of_getElem? (i := 15) rfl))) (by decide) (t := .long) (t' := (.array .long)) (by decide) (by decide)))
    have f13 : Own.AvJ Z h9 b4 k (fun _ => 0) := f8.other W9 (Own.ne_of (by omega))
    have N9 := Fr.snoc X9 N0 (show n0 ≤ o0 by omega)
    have Z9 : n0 ≤ h9.size := Nat.le_trans Z4 (Keep.of_wr W9).1
    have K9 : Keep h0 h9 [o0] := K4.wr W9 (Or.inl (List.mem_of_getElem? (i := 0) rfl))
    refine hD _ (T9.setTop (mkF m 26 #[.val (.ref o0), .val (.int p1)] [])) (fun t k => ?_) ?_
    · show Steps p.tables e below (T1.setTop (mkF m 8 #[.val (.ref o0), .val (.int p1)] [(.int (64 : Int32)), (.int p1), (.ref o0)])) t
      refine XS.icmpNo X1.here hx rfl (hb hby d1_8) rfl (tlt hc2).2.2.2 ?_
      show Steps p.tables e below (T1.setTop (mkF m 11 #[.val (.ref o0), .val (.int p1)] [(.ref o0)])) t
      refine XS.iloadN X1.here hx rfl (hb hby d1_11) rfl ?_
      show Steps p.tables e below (T1.setTop (mkF m 12 #[.val (.ref o0), .val (.int p1)] [(.int p1), (.ref o0)])) t
      refine XS.iconst X1.here hx rfl (hb hby d1_12) ?_
      show Steps p.tables e below (T1.setTop (mkF m 13 #[.val (.ref o0), .val (.int p1)] [(.int (1 : Int32)), (.int p1), (.ref o0)])) t
      refine XS.isub X1.here hx rfl (hb hby d1_13) rfl ?_
      show Steps p.tables e below (T1.setTop (mkF m 14 #[.val (.ref o0), .val (.int p1)] [(.int (p1 - (1 : Int32))), (.ref o0)])) t
      refine XS.bipush X1.here hx rfl (hb hby d1_14) ?_
      show Steps p.tables e below (T1.setTop (mkF m 16 #[.val (.ref o0), .val (.int p1)] [(.int (64 : Int32)), (.int (p1 - (1 : Int32))), (.ref o0)])) t
      refine XS.idiv X1.here hx rfl (hb hby d1_16) rfl hnz3 ?_
      show Steps p.tables e below (T1.setTop (mkF m 17 #[.val (.ref o0), .val (.int p1)] [(.int ((p1 - (1 : Int32)) / (64 : Int32))), (.ref o0)])) t
      refine st4 _ ?_
      show Steps p.tables e below (T4.setTop (mkF m 19 #[.val (.ref o0), .val (.int p1)] [(.ref b4), (.ref o0)])) t
      refine XS.goto X4.here hx rfl (pc0 := 19) (pc' := 23) rfl (hb hby d1_19) (by decide) (by decide) ?_
      show Steps p.tables e below (T4.setTop (mkF m 23 #[.val (.ref o0), .val (.int p1)] [(.ref b4), (.ref o0)])) t
      refine st9 _ ?_
      show Steps p.tables e below (T9.setTop (mkF m 26 #[.val (.ref o0), .val (.int p1)] [])) t
      exact k
    exact Own.retV hR X9 hx hret (hb hby d1_26) (by decide) (by decide) ⟨rfl, N9, by rw [e9]; exact K9, b4, k, by rw [e9]; exact ⟨f11, f12, hk3, Or.inr ⟨hk2, (show (o0 : Nat) ≠ b4 by omega), f10, f13⟩⟩, hk4, Or.inr gk_b4⟩
  · obtain ⟨T14, h14, X14, e14, W14, st14⟩ := putF X1 hx hZ hown (host := "") (Or.inl (hw _ (List.mem_of_getElem? (i := 14) rfl))) Via.refl e1 F_rest E_a0 (Or.inr ⟨(hw _ (List.mem_of_getElem? (i := 15) rfl)), rfl, hnm⟩) (hw _ (List.mem_of_getElem? (i := 6) rfl)) (ty := (.array .long)) (by decide) rfl rfl (g := (mkF m 23 #[.val (.ref o0), .val (.int p1)] [.null, (.ref o0)])) rfl rfl (hb hby d1_23)
    have f15 : Fld Z h14 o0 "com/example/sluice/sluice/FieldSet" "rest" "[J" .null := F_rest.same W14
    have f16 : Exa Z h14 o0 "com/example/sluice/sluice/FieldSet" := E_a0.wr W14
    have f17 : Fld Z h14 o0 "com/example/sluice/sluice/FieldSet" "first" "J" (.long (0 : Int64)) := F_first.other W14 (Or.inr (slot_ne (Or.inl (hw _ (List.mem_of_getElem? (i := 22) rfl))) (Or.inr (hw _ (List.mem_of_getElem? (i := 15) rfl))) (by decide) (t := .long) (t' := (.array .long)) (by decide) (by decide)))
    have N14 := Fr.snoc X14 N0 (show n0 ≤ o0 by omega)
    have Z14 : n0 ≤ h14.size := Nat.le_trans Z0 (Keep.of_wr W14).1
    have K14 : Keep h0 h14 [o0] := K0.wr W14 (Or.inl (List.mem_of_getElem? (i := 0) rfl))
    refine hD _ (T14.setTop (mkF m 26 #[.val (.ref o0), .val (.int p1)] [])) (fun t k => ?_) ?_
    · show Steps p.tables e below (T1.setTop (mkF m 8 #[.val (.ref o0), .val (.int p1)] [(.int (64 : Int32)), (.int p1), (.ref o0)])) t
      refine XS.icmpYes X1.here hx rfl (pc0 := 8) (pc' := 22) rfl (hb hby d1_8) rfl (flt hc2).2.2.2 (by decide) (by decide) ?_
      show Steps p.tables e below (T1.setTop (mkF m 22 #[.val (.ref o0), .val (.int p1)] [(.ref o0)])) t
      refine XS.aconstNull X1.here hx rfl (hb hby d1_22) ?_
      show Steps p.tables e below (T1.setTop (mkF m 23 #[.val (.ref o0), .val (.int p1)] [.null, (.ref o0)])) t
      refine st14 _ ?_
      show Steps p.tables e below (T14.setTop (mkF m 26 #[.val (.ref o0), .val (.int p1)] [])) t
      exact k
    have hle := hc2
    rw [own_lt, own_k64] at hle
    exact Own.retV hR X14 hx hret (hb hby d1_26) (by decide) (by decide) ⟨rfl, N14, by rw [e14]; exact K14, o0, 0, by rw [e14]; exact ⟨f16, f17, by decide, Or.inl ⟨rfl, rfl, f15⟩⟩, by omega, Or.inl rfl⟩
theorem d2_0 : decode prog_7_method_3_code 0 = .ok (.iload_n 1, 1) := by decide +kernel
theorem d2_1 : decode prog_7_method_3_code 1 = .ok (.bipush 64, 2) := by decide +kernel
theorem d2_3 : decode prog_7_method_3_code 3 = .ok (.if_icmp .ge 18, 3) := by decide +kernel
theorem d2_6 : decode prog_7_method_3_code 6 = .ok (.aload_n 0, 1) := by decide +kernel
theorem d2_7 : decode prog_7_method_3_code 7 = .ok (.dup, 1) := by decide +kernel
theorem d2_8 : decode prog_7_method_3_code 8 = .ok (.getfield 15, 3) := by decide +kernel
theorem d2_11 : decode prog_7_method_3_code 11 = .ok (.lconst 1, 1) := by decide +kernel
theorem d2_12 : decode prog_7_method_3_code 12 = .ok (.iload_n 1, 1) := by decide +kernel
theorem d2_13 : decode prog_7_method_3_code 13 = .ok (.lshl, 1) := by decide +kernel
theorem d2_14 : decode prog_7_method_3_code 14 = .ok (.lor, 1) := by decide +kernel
theorem d2_15 : decode prog_7_method_3_code 15 = .ok (.putfield 15, 3) := by decide +kernel
theorem d2_18 : decode prog_7_method_3_code 18 = .ok (.goto 20, 3) := by decide +kernel
theorem d2_21 : decode prog_7_method_3_code 21 = .ok (.aload_n 0, 1) := by decide +kernel
theorem d2_22 : decode prog_7_method_3_code 22 = .ok (.getfield 9, 3) := by decide +kernel
theorem d2_25 : decode prog_7_method_3_code 25 = .ok (.iload_n 1, 1) := by decide +kernel
theorem d2_26 : decode prog_7_method_3_code 26 = .ok (.bipush 64, 2) := by decide +kernel
theorem d2_28 : decode prog_7_method_3_code 28 = .ok (.idiv, 1) := by decide +kernel
theorem d2_29 : decode prog_7_method_3_code 29 = .ok (.iconst 1, 1) := by decide +kernel
theorem d2_30 : decode prog_7_method_3_code 30 = .ok (.isub, 1) := by decide +kernel
theorem d2_31 : decode prog_7_method_3_code 31 = .ok (.dup2, 1) := by decide +kernel
theorem d2_32 : decode prog_7_method_3_code 32 = .ok (.laload, 1) := by decide +kernel
theorem d2_33 : decode prog_7_method_3_code 33 = .ok (.lconst 1, 1) := by decide +kernel
theorem d2_34 : decode prog_7_method_3_code 34 = .ok (.iload_n 1, 1) := by decide +kernel
theorem d2_35 : decode prog_7_method_3_code 35 = .ok (.lshl, 1) := by decide +kernel
theorem d2_36 : decode prog_7_method_3_code 36 = .ok (.lor, 1) := by decide +kernel
theorem d2_37 : decode prog_7_method_3_code 37 = .ok (.lastore, 1) := by decide +kernel
theorem d2_38 : decode prog_7_method_3_code 38 = .ok (.return_, 1) := by decide +kernel
theorem ef_2 (m : MethodId) (o0 : Addr) (p1 : Int32) : entryFrame m #[(.ref o0), (.int p1)] 2 = mkF m 0 #[.val (.ref o0), .val (.int p1)] [] := by first | (simp [entryFrame, mkF, argsToLocals, Value.category]; done) | rfl
def Q2 (Z : State) (o0 : Nat) (p1 : Int32) (r n : Nat) (w : Nat → Int64) (h0 : Heap) (n0 : Nat) (v : Option Value) (h : Heap) (L : List Loc) : Prop := v = none ∧ Fr n0 L ∧ Keep h0 h [o0, r] ∧ own_FS Z h o0 r n (own_add w p1)
set_option maxRecDepth 65536 in
set_option maxHeartbeats 40000000 in
theorem rm2 (l : Launch) (Z : State) (a0 : Array Value) (hw : ∀ d ∈ tables_1, d.before a0 Z = true) (ws : List Jvm.Cond) (o0 : Nat) (p1 : Int32) (r n : Nat) (w : Nat → Int64) (h0 : Heap) (n0 : Nat) (Z0 : n0 ≤ h0.size) (g0 : n0 ≤ o0) (gr : n0 ≤ r) (hi : 0 ≤ p1.toInt ∧ p1.toInt / 64 ≤ n) (F : own_FS Z h0 o0 r n w) :
    MetFree l (⟨"com/example/sluice/sluice/FieldSet", "add", "(I)V"⟩ : MethodName) (head1 (Jvm.Cond.code (⟨"com/example/sluice/sluice/FieldSet", "add", "(I)V"⟩ : MethodName) prog_7_method_3_code 2 none :: ws) ({ frames := 0, cells := 0, slots := 0, locals := 0 } : Room)) (fun a U => a = #[(.ref o0), (.int p1)] ∧ Z.Warmed39 U.vm ∧ U.heap = h0) (fun _ _ _ _ _ => True) (fun _ U o U' => ∃ v L, o = .returned v ∧ Q2 Z o0 p1 r n w h0 n0 v U'.heap L ∧ FrameEnd U o U' L ({ frames := 0, cells := 0, slots := 0, locals := 0 } : Room).cells ({ frames := 0, cells := 0, slots := 0, locals := 0 } : Room).slots) := by
  refine Own.enter (Q := Q2 Z o0 p1 r n w h0 n0) (plainFor_of_name pn_0) ?_
  intro p e s m below meth c s₁ D hx hby hml hown hnm hret hZ X0 e0 hD hR
  have N0 := Fr.nil n0
  have K0 : Keep h0 h0 [o0, r] := Keep.refl h0 _
  rw [show entryFrame m #[(.ref o0), (.int p1)] 2 = mkF m 0 #[.val (.ref o0), .val (.int p1)] [] from ef_2 m o0 p1]
  obtain ⟨E_a0, F_first, hn3, hrest⟩ := F
  refine hD _ (s₁.setTop (mkF m 3 #[.val (.ref o0), .val (.int p1)] [(.int (64 : Int32)), (.int p1)])) (fun t k => ?_) ?_
  · show Steps p.tables e below (s₁.setTop (mkF m 0 #[.val (.ref o0), .val (.int p1)] [])) t
    refine XS.iloadN X0.here hx rfl (hb hby d2_0) rfl ?_
    show Steps p.tables e below (s₁.setTop (mkF m 1 #[.val (.ref o0), .val (.int p1)] [(.int p1)])) t
    refine XS.bipush X0.here hx rfl (hb hby d2_1) ?_
    show Steps p.tables e below (s₁.setTop (mkF m 3 #[.val (.ref o0), .val (.int p1)] [(.int (64 : Int32)), (.int p1)])) t
    exact k
  by_cases hc1 : p1 < (64 : Int32)
  · obtain ⟨T2, X2, e2, st2⟩ := getF X0 hx hZ hown (host := "") (Or.inl (hw _ (List.mem_of_getElem? (i := 21) rfl))) Via.refl e0 F_first (g := (mkF m 8 #[.val (.ref o0), .val (.int p1)] [(.ref o0), (.ref o0)])) rfl rfl (hb hby d2_8)
    obtain ⟨T3, h3, X3, e3, W3, st3⟩ := putF X2 hx hZ hown (host := "") (Or.inl (hw _ (List.mem_of_getElem? (i := 21) rfl))) Via.refl e2 F_first E_a0 (Or.inl (hw _ (List.mem_of_getElem? (i := 22) rfl))) (hw _ (List.mem_of_getElem? (i := 6) rfl)) (ty := .long) (by decide) rfl rfl (g := (mkF m 15 #[.val (.ref o0), .val (.int p1)] [(.long ((w 0) ||| ((1 : Int64) <<< (p1 &&& 0x3f).toInt64))), (.ref o0)])) rfl rfl (hb hby d2_15)
    have f4 : Fld Z h3 o0 "com/example/sluice/sluice/FieldSet" "first" "J" (.long ((w 0) ||| ((1 : Int64) <<< (p1 &&& 0x3f).toInt64))) := F_first.same W3
    have f5 : Exa Z h3 o0 "com/example/sluice/sluice/FieldSet" := E_a0.wr W3
    have N3 := Fr.snoc X3 N0 (show n0 ≤ o0 by omega)
    have Z3 : n0 ≤ h3.size := Nat.le_trans Z0 (Keep.of_wr W3).1
    have K3 : Keep h0 h3 [o0, r] := K0.wr W3 (Or.inl (List.mem_of_getElem? (i := 0) rfl))
    refine hD _ (T3.setTop (mkF m 38 #[.val (.ref o0), .val (.int p1)] [])) (fun t k => ?_) ?_
    · show Steps p.tables e below (s₁.setTop (mkF m 3 #[.val (.ref o0), .val (.int p1)] [(.int (64 : Int32)), (.int p1)])) t
      refine XS.icmpNo X0.here hx rfl (hb hby d2_3) rfl (tlt hc1).2.1 ?_
      show Steps p.tables e below (s₁.setTop (mkF m 6 #[.val (.ref o0), .val (.int p1)] [])) t
      refine XS.aloadN X0.here hx rfl (hb hby d2_6) rfl rfl ?_
      show Steps p.tables e below (s₁.setTop (mkF m 7 #[.val (.ref o0), .val (.int p1)] [(.ref o0)])) t
      refine XS.dup X0.here hx rfl (hb hby d2_7) rfl rfl ?_
      show Steps p.tables e below (s₁.setTop (mkF m 8 #[.val (.ref o0), .val (.int p1)] [(.ref o0), (.ref o0)])) t
      refine st2 _ ?_
      show Steps p.tables e below (T2.setTop (mkF m 11 #[.val (.ref o0), .val (.int p1)] [(.long (w 0)), (.ref o0)])) t
      refine XS.lconst X2.here hx rfl (hb hby d2_11) ?_
      show Steps p.tables e below (T2.setTop (mkF m 12 #[.val (.ref o0), .val (.int p1)] [(.long (1 : Int64)), (.long (w 0)), (.ref o0)])) t
      refine XS.iloadN X2.here hx rfl (hb hby d2_12) rfl ?_
      show Steps p.tables e below (T2.setTop (mkF m 13 #[.val (.ref o0), .val (.int p1)] [(.int p1), (.long (1 : Int64)), (.long (w 0)), (.ref o0)])) t
      refine XS.lshl X2.here hx rfl (hb hby d2_13) rfl ?_
      show Steps p.tables e below (T2.setTop (mkF m 14 #[.val (.ref o0), .val (.int p1)] [(.long ((1 : Int64) <<< (p1 &&& 0x3f).toInt64)), (.long (w 0)), (.ref o0)])) t
      refine XS.lor X2.here hx rfl (hb hby d2_14) rfl ?_
      show Steps p.tables e below (T2.setTop (mkF m 15 #[.val (.ref o0), .val (.int p1)] [(.long ((w 0) ||| ((1 : Int64) <<< (p1 &&& 0x3f).toInt64))), (.ref o0)])) t
      refine st3 _ ?_
      show Steps p.tables e below (T3.setTop (mkF m 18 #[.val (.ref o0), .val (.int p1)] [])) t
      refine XS.goto X3.here hx rfl (pc0 := 18) (pc' := 38) rfl (hb hby d2_18) (by decide) (by decide) ?_
      show Steps p.tables e below (T3.setTop (mkF m 38 #[.val (.ref o0), .val (.int p1)] [])) t
      exact k
    have hix := own_ix0 hi.1 hc1
    have hnew : own_FS Z h3 o0 r n (own_add w p1) := by
      refine ⟨f5, ?_, hn3, ?_⟩
      · rw [show own_add w p1 0 = w 0 ||| own_bit p1 from if_pos hix.symm]; exact f4
      · have hfun : (fun k => own_add w p1 (k + 1)) = fun k => w (k + 1) := by funext k; exact if_neg (by omega)
        rw [hfun]
        rcases hrest with ⟨q1, q2, q3⟩ | ⟨q1, q2, q3, q4⟩
        · exact Or.inl ⟨q1, q2, q3.other W3 (Or.inr (slot_ne (Or.inr (hw _ (List.mem_of_getElem? (i := 15) rfl))) (Or.inl (hw _ (List.mem_of_getElem? (i := 22) rfl))) (by decide) (t := (.array .long)) (t' := .long) (by decide) (by decide)))⟩
        · exact Or.inr ⟨q1, q2, q3.other W3 (Or.inr (slot_ne (Or.inr (hw _ (List.mem_of_getElem? (i := 15) rfl))) (Or.inl (hw _ (List.mem_of_getElem? (i := 22) rfl))) (by decide) (t := (.array .long)) (t' := .long) (by decide) (by decide))), q4.other W3 (Ne.symm (Own.ne_of q2))⟩
    exact Own.retV hR X3 hx hret (hb hby d2_38) (by decide) (by decide) ⟨rfl, N3, by rw [e3]; exact ⟨K3, hnew⟩⟩
  · have hge := hc1
    rw [own_lt, own_k64] at hge
    obtain ⟨q1, q2, F_rest, A_r⟩ : 0 < n ∧ @Ne Nat o0 r ∧ Fld Z h0 o0 "com/example/sluice/sluice/FieldSet" "rest" "[J" (.ref r) ∧ Own.AvJ Z h0 r n (fun k => w (k + 1)) := hrest.resolve_left (fun q => by omega)
    obtain ⟨T6, X6, e6, st6⟩ := getF X0 hx hZ hown (host := "") (Or.inl (hw _ (List.mem_of_getElem? (i := 14) rfl))) Via.refl e0 F_rest (g := (mkF m 22 #[.val (.ref o0), .val (.int p1)] [(.ref o0)])) rfl rfl (hb hby d2_22)
    have hnz7 : (64 : Int32) ≠ 0 := by decide
    have hj8 : 0 ≤ ((p1 / (64 : Int32)) - (1 : Int32)).toInt ∧ ((p1 / (64 : Int32)) - (1 : Int32)).toInt < (n : Nat) := by rw [own_dv1 hi.1]; omega
    have hj9 : 0 ≤ ((p1 / (64 : Int32)) - (1 : Int32)).toInt ∧ ((p1 / (64 : Int32)) - (1 : Int32)).toInt < (n : Nat) := by rw [own_dv1 hi.1]; omega
    obtain ⟨T10, h10, X10, e10, A10, W10, st10⟩ := Own.stoJ X6 hx hZ e6 A_r hj9 (g := (mkF m 37 #[.val (.ref o0), .val (.int p1)] [(.long (((fun k => w (k + 1)) ((p1 / (64 : Int32)) - (1 : Int32)).toInt.toNat) ||| ((1 : Int64) <<< (p1 &&& 0x3f).toInt64))), (.int ((p1 / (64 : Int32)) - (1 : Int32))), (.ref r)])) rfl rfl (hb hby d2_37)
    have f11 : Exa Z h10 o0 "com/example/sluice/sluice/FieldSet" := E_a0.wr W10
    have f12 : Fld Z h10 o0 "com/example/sluice/sluice/FieldSet" "first" "J" (.long (w 0)) := F_first.other W10 (Or.inl (Own.ne_of (by omega)))
    have f13 : Fld Z h10 o0 "com/example/sluice/sluice/FieldSet" "rest" "[J" (.ref r) := F_rest.other W10 (Or.inl (Own.ne_of (by omega)))
    have N10 := Fr.snoc X10 N0 (show n0 ≤ r by omega)
    have Z10 : n0 ≤ h10.size := Nat.le_trans Z0 (Keep.of_wr W10).1
    have K10 : Keep h0 h10 [o0, r] := K0.wr W10 (Or.inl (List.mem_of_getElem? (i := 1) rfl))
    refine hD _ (T10.setTop (mkF m 38 #[.val (.ref o0), .val (.int p1)] [])) (fun t k => ?_) ?_
    · show Steps p.tables e below (s₁.setTop (mkF m 3 #[.val (.ref o0), .val (.int p1)] [(.int (64 : Int32)), (.int p1)])) t
      refine XS.icmpYes X0.here hx rfl (pc0 := 3) (pc' := 21) rfl (hb hby d2_3) rfl (flt hc1).2.1 (by decide) (by decide) ?_
      show Steps p.tables e below (s₁.setTop (mkF m 21 #[.val (.ref o0), .val (.int p1)] [])) t
      refine XS.aloadN X0.here hx rfl (hb hby d2_21) rfl rfl ?_
      show Steps p.tables e below (s₁.setTop (mkF m 22 #[.val (.ref o0), .val (.int p1)] [(.ref o0)])) t
      refine st6 _ ?_
      show Steps p.tables e below (T6.setTop (mkF m 25 #[.val (.ref o0), .val (.int p1)] [(.ref r)])) t
      refine XS.iloadN X6.here hx rfl (hb hby d2_25) rfl ?_
      show Steps p.tables e below (T6.setTop (mkF m 26 #[.val (.ref o0), .val (.int p1)] [(.int p1), (.ref r)])) t
      refine XS.bipush X6.here hx rfl (hb hby d2_26) ?_
      show Steps p.tables e below (T6.setTop (mkF m 28 #[.val (.ref o0), .val (.int p1)] [(.int (64 : Int32)), (.int p1), (.ref r)])) t
      refine XS.idiv X6.here hx rfl (hb hby d2_28) rfl hnz7 ?_
      show Steps p.tables e below (T6.setTop (mkF m 29 #[.val (.ref o0), .val (.int p1)] [(.int (p1 / (64 : Int32))), (.ref r)])) t
      refine XS.iconst X6.here hx rfl (hb hby d2_29) ?_
      show Steps p.tables e below (T6.setTop (mkF m 30 #[.val (.ref o0), .val (.int p1)] [(.int (1 : Int32)), (.int (p1 / (64 : Int32))), (.ref r)])) t
      refine XS.isub X6.here hx rfl (hb hby d2_30) rfl ?_
      show Steps p.tables e below (T6.setTop (mkF m 31 #[.val (.ref o0), .val (.int p1)] [(.int ((p1 / (64 : Int32)) - (1 : Int32))), (.ref r)])) t
      refine XT.dup2 X6.here hx rfl (hb hby d2_31) rfl rfl rfl ?_
      show Steps p.tables e below (T6.setTop (mkF m 32 #[.val (.ref o0), .val (.int p1)] [(.int ((p1 / (64 : Int32)) - (1 : Int32))), (.ref r), (.int ((p1 / (64 : Int32)) - (1 : Int32))), (.ref r)])) t
      refine Own.ldJ X6 hx hZ e6 A_r hj8 (g := (mkF m 32 #[.val (.ref o0), .val (.int p1)] [(.int ((p1 / (64 : Int32)) - (1 : Int32))), (.ref r), (.int ((p1 / (64 : Int32)) - (1 : Int32))), (.ref r)])) rfl rfl (hb hby d2_32) _ ?_
      show Steps p.tables e below (T6.setTop (mkF m 33 #[.val (.ref o0), .val (.int p1)] [(.long ((fun k => w (k + 1)) ((p1 / (64 : Int32)) - (1 : Int32)).toInt.toNat)), (.int ((p1 / (64 : Int32)) - (1 : Int32))), (.ref r)])) t
      refine XS.lconst X6.here hx rfl (hb hby d2_33) ?_
      show Steps p.tables e below (T6.setTop (mkF m 34 #[.val (.ref o0), .val (.int p1)] [(.long (1 : Int64)), (.long ((fun k => w (k + 1)) ((p1 / (64 : Int32)) - (1 : Int32)).toInt.toNat)), (.int ((p1 / (64 : Int32)) - (1 : Int32))), (.ref r)])) t
      refine XS.iloadN X6.here hx rfl (hb hby d2_34) rfl ?_
      show Steps p.tables e below (T6.setTop (mkF m 35 #[.val (.ref o0), .val (.int p1)] [(.int p1), (.long (1 : Int64)), (.long ((fun k => w (k + 1)) ((p1 / (64 : Int32)) - (1 : Int32)).toInt.toNat)), (.int ((p1 / (64 : Int32)) - (1 : Int32))), (.ref r)])) t
      refine XS.lshl X6.here hx rfl (hb hby d2_35) rfl ?_
      show Steps p.tables e below (T6.setTop (mkF m 36 #[.val (.ref o0), .val (.int p1)] [(.long ((1 : Int64) <<< (p1 &&& 0x3f).toInt64)), (.long ((fun k => w (k + 1)) ((p1 / (64 : Int32)) - (1 : Int32)).toInt.toNat)), (.int ((p1 / (64 : Int32)) - (1 : Int32))), (.ref r)])) t
      refine XS.lor X6.here hx rfl (hb hby d2_36) rfl ?_
      show Steps p.tables e below (T6.setTop (mkF m 37 #[.val (.ref o0), .val (.int p1)] [(.long (((fun k => w (k + 1)) ((p1 / (64 : Int32)) - (1 : Int32)).toInt.toNat) ||| ((1 : Int64) <<< (p1 &&& 0x3f).toInt64))), (.int ((p1 / (64 : Int32)) - (1 : Int32))), (.ref r)])) t
      refine st10 _ ?_
      show Steps p.tables e below (T10.setTop (mkF m 38 #[.val (.ref o0), .val (.int p1)] [])) t
      exact k
    have hnew : own_FS Z h10 o0 r n (own_add w p1) := by
      have hix : own_ix p1 = (p1 / 64 - 1).toInt.toNat + 1 := by rw [own_dv1 hi.1]; unfold own_ix; omega
      refine ⟨f11, ?_, hn3, Or.inr ⟨q1, q2, f13, A10.congr fun i hi' => ?_⟩⟩
      · rw [show own_add w p1 0 = w 0 from if_neg (by omega)]; exact f12
      · unfold own_add; rw [hix]
        show (if i + 1 = (p1 / 64 - 1).toInt.toNat + 1 then w (i + 1) ||| own_bit p1 else w (i + 1)) = if i = (p1 / 64 - 1).toInt.toNat then w ((p1 / 64 - 1).toInt.toNat + 1) ||| own_bit p1 else w (i + 1)
        by_cases e : i = (p1 / 64 - 1).toInt.toNat
        · rw [if_pos (by omega), if_pos e, e]
        · rw [if_neg (by omega), if_neg e]
    exact Own.retV hR X10 hx hret (hb hby d2_38) (by decide) (by decide) ⟨rfl, N10, by rw [e10]; exact ⟨K10, hnew⟩⟩
theorem own_size {v x : Int32} (h : v = 1 + (x &&& 2147483647) % 192) : 1 ≤ v.toInt ∧ v.toInt ≤ 256 := by
  have hm : (x &&& 2147483647).toInt = x.toInt % 2 ^ 31 := Jvm.Kit.i32_mask x 2147483647 (k := 31) (by decide) (by decide)
  have k2 : (192 : Int32).toInt = 192 := by decide
  have hr : ((x &&& 2147483647) % 192).toInt = (x &&& 2147483647).toInt % 192 := by rw [Jvm.Kit.i32_rem_nonneg (by omega), k2]
  rw [h, Jvm.Kit.i32_add, hr, own_k1] <;> (try rw [hr, own_k1]) <;> omega
def own_sub : Nat → (Nat → Int64) → (Nat → Int64) → Bool
  | 0, w, u => decide (w 0 &&& u 0 = u 0)
  | k + 1, w, u => own_sub k w u && decide (w (k + 1) &&& u (k + 1) = u (k + 1))
theorem own_subT (n : Nat) (w u : Nat → Int64) : own_sub n w u = true ↔ ∀ k, k ≤ n → w k &&& u k = u k := by
  induction n with
  | zero => rw [own_sub, decide_eq_true_eq]; exact ⟨fun h k hk => by rw [show k = 0 by omega]; exact h, fun h => h 0 (Nat.le_refl _)⟩
  | succ n ih =>
    rw [own_sub, Bool.and_eq_true, ih, decide_eq_true_eq]
    exact ⟨fun h k hk => if q : k = n + 1 then by rw [q]; exact h.2 else h.1 k (by omega), fun h => ⟨fun k hk => h k (by omega), h _ (Nat.le_refl _)⟩⟩
theorem own_addB (w : Nat → Int64) (i : Int32) (k m : Nat) (hm : m < 64) : (own_add w i k).toBitVec.getLsbD m = ((w k).toBitVec.getLsbD m || decide (k = own_ix i ∧ (i.toInt % 64).toNat = m)) := by
  unfold own_add
  by_cases q : k = own_ix i
  · rw [if_pos q, Int64.toBitVec_or, BitVec.getLsbD_or, own_bitB, BitVec.getLsbD_twoPow]
    have hlt : i.toInt % 64 < 64 := by omega
    simp [q, hm, hlt]
  · rw [if_neg q]; simp [q]
theorem own_subset {n : Nat} {w : Nat → Int64} {b c : Int32} (hb : 0 ≤ b.toInt ∧ b.toInt / 64 ≤ n) (hc : 0 ≤ c.toInt ∧ c.toInt / 64 ≤ n) : own_sub n w (own_add (own_add (fun _ => 0) b) c) = (own_has w b && own_has w c) := by
  rw [Bool.eq_iff_iff, own_subT, Bool.and_eq_true, own_hasB, own_hasB]
  have U : ∀ k m, m < 64 → (own_add (own_add (fun _ => 0) b) c k).toBitVec.getLsbD m = (decide (k = own_ix b ∧ (b.toInt % 64).toNat = m) || decide (k = own_ix c ∧ (c.toInt % 64).toNat = m)) := by
    intro k m hm
    rw [own_addB _ _ _ _ hm, own_addB _ _ _ _ hm]; simp
  have W : ∀ k m, w k &&& own_add (own_add (fun _ => 0) b) c k = own_add (own_add (fun _ => 0) b) c k → (own_add (own_add (fun _ => 0) b) c k).toBitVec.getLsbD m = true → (w k).toBitVec.getLsbD m = true := by
    intro k m h q
    rw [← h, Int64.toBitVec_and, BitVec.getLsbD_and, Bool.and_eq_true] at q
    exact q.1
  constructor
  · intro h
    refine ⟨W _ _ (h _ (by unfold own_ix; omega)) ?_, W _ _ (h _ (by unfold own_ix; omega)) ?_⟩
    · rw [U _ _ (by omega)]; simp
    · rw [U _ _ (by omega)]; simp
  · rintro ⟨h1, h2⟩ k hk
    apply Int64.toBitVec_inj.mp
    apply BitVec.eq_of_getLsbD_eq
    intro m hm
    rw [Int64.toBitVec_and, BitVec.getLsbD_and, U _ _ hm]
    by_cases q1 : k = own_ix b ∧ (b.toInt % 64).toNat = m
    · obtain ⟨rfl, rfl⟩ := q1
      rw [h1, Bool.true_and]
    · by_cases q2 : k = own_ix c ∧ (c.toInt % 64).toNat = m
      · obtain ⟨rfl, rfl⟩ := q2
        rw [h2, Bool.true_and]
      · simp [q1, q2]
theorem own_h2 {i j k : Int32} (hi : 0 ≤ i.toInt) (hj : 0 ≤ j.toInt) (hk : 0 ≤ k.toInt) : own_has (own_add (own_add (fun _ => 0) i) j) k = (decide (k = i) || decide (k = j)) := by
  rw [own_hadd _ hj hk, own_hadd _ hi hk, own_has0, Bool.false_or]
theorem own_exp {n : Nat} {a1 a2 b c : Int32} (h1 : 0 ≤ a1.toInt) (h2 : 0 ≤ a2.toInt) (hb : 0 ≤ b.toInt ∧ b.toInt / 64 ≤ n) (hc : 0 ≤ c.toInt ∧ c.toInt / 64 ≤ n) :
    own_sub n (own_add (own_add (fun _ => 0) a1) a2) (own_add (own_add (fun _ => 0) b) c) = ((decide (b = a1) || decide (b = a2)) && (decide (c = a1) || decide (c = a2))) := by
  rw [own_subset hb hc, own_h2 h1 h2 hb.1, own_h2 h1 h2 hc.1]
theorem own_ush {v x n : Int32} (hn : 1 ≤ n.toInt) (h : v = (x.toUInt32 >>> ((2 : Int32) &&& 31).toUInt32).toInt32 % n) : 0 ≤ v.toInt ∧ v.toInt < n.toInt := by
  have hm : 0 ≤ (x.toUInt32 >>> ((2 : Int32) &&& 31).toUInt32).toInt32 := Jvm.Kit.i32_iushr_nonneg x (k := 2) (by decide) (by decide) (by decide)
  rw [Jvm.Kit.i32_nonneg] at hm
  rw [h, Jvm.Kit.i32_rem_nonneg hm]
  exact ⟨Int.emod_nonneg _ (by omega), Int.emod_lt_of_pos _ (by omega)⟩
theorem d4_0 : decode method_3_code 0 = .ok (.iload_n 0, 1) := by decide +kernel
theorem d4_1 : decode method_3_code 1 = .ok (.iconst 3, 1) := by decide +kernel
theorem d4_2 : decode method_3_code 2 = .ok (.iand, 1) := by decide +kernel
theorem d4_3 : decode method_3_code 3 = .ok (.istore 4, 2) := by decide +kernel
theorem d4_5 : decode method_3_code 5 = .ok (.iload 4, 2) := by decide +kernel
theorem d4_7 : decode method_3_code 7 = .ok (.ifCond .ne 5, 3) := by decide +kernel
theorem d4_10 : decode method_3_code 10 = .ok (.iload_n 1, 1) := by decide +kernel
theorem d4_11 : decode method_3_code 11 = .ok (.ireturn, 1) := by decide +kernel
theorem d4_12 : decode method_3_code 12 = .ok (.iload 4, 2) := by decide +kernel
theorem d4_14 : decode method_3_code 14 = .ok (.iconst 1, 1) := by decide +kernel
theorem d4_15 : decode method_3_code 15 = .ok (.if_icmp .ne 5, 3) := by decide +kernel
theorem d4_18 : decode method_3_code 18 = .ok (.iload_n 2, 1) := by decide +kernel
theorem d4_19 : decode method_3_code 19 = .ok (.ireturn, 1) := by decide +kernel
theorem d4_20 : decode method_3_code 20 = .ok (.iload_n 0, 1) := by decide +kernel
theorem d4_21 : decode method_3_code 21 = .ok (.iconst 2, 1) := by decide +kernel
theorem d4_22 : decode method_3_code 22 = .ok (.iushr, 1) := by decide +kernel
theorem d4_23 : decode method_3_code 23 = .ok (.iload_n 3, 1) := by decide +kernel
theorem d4_24 : decode method_3_code 24 = .ok (.irem, 1) := by decide +kernel
theorem d4_25 : decode method_3_code 25 = .ok (.ireturn, 1) := by decide +kernel
theorem pn_1 : plainName "com/example/sluice/sluice/FieldSetContainsAllPinLaw" = true := by first | (simp [plainName, overriddenIn]; done) | decide +kernel
theorem ef_4 (m : MethodId) (p0 : Int32) (p1 : Int32) (p2 : Int32) (p3 : Int32) : entryFrame m #[(.int p0), (.int p1), (.int p2), (.int p3)] 5 = mkF m 0 #[.val (.int p0), .val (.int p1), .val (.int p2), .val (.int p3), .unset] [] := by first | (simp [entryFrame, mkF, argsToLocals, Value.category]; done) | rfl
def Q4 (Z : State) (p0 : Int32) (p1 : Int32) (p2 : Int32) (p3 : Int32) (h0 : Heap) (n0 : Nat) (v : Option Value) (h : Heap) (L : List Loc) : Prop := (∃ r : Int32, v = some (.int r) ∧ 0 ≤ r.toInt ∧ r.toInt < p3.toInt) ∧ Fr n0 L ∧ h = h0
set_option maxRecDepth 65536 in
set_option maxHeartbeats 40000000 in
theorem rm4 (l : Launch) (Z : State) (a0 : Array Value) (hw : ∀ d ∈ tables_1, d.before a0 Z = true) (ws : List Jvm.Cond) (p0 : Int32) (p1 : Int32) (p2 : Int32) (p3 : Int32) (h0 : Heap) (n0 : Nat) (hs : 1 ≤ p3.toInt) (h1 : 0 ≤ p1.toInt ∧ p1.toInt < p3.toInt) (h2 : 0 ≤ p2.toInt ∧ p2.toInt < p3.toInt) :
    MetFree l (⟨"com/example/sluice/sluice/FieldSetContainsAllPinLaw", "pick", "(IIII)I"⟩ : MethodName) (head1 (Jvm.Cond.code (⟨"com/example/sluice/sluice/FieldSetContainsAllPinLaw", "pick", "(IIII)I"⟩ : MethodName) method_3_code 5 (some .int) :: ws) ({ frames := 0, cells := 0, slots := 0, locals := 0 } : Room)) (fun a U => a = #[(.int p0), (.int p1), (.int p2), (.int p3)] ∧ Z.Warmed39 U.vm ∧ U.heap = h0) (fun _ _ _ _ _ => True) (fun _ U o U' => ∃ v L, o = .returned v ∧ Q4 Z p0 p1 p2 p3 h0 n0 v U'.heap L ∧ FrameEnd U o U' L ({ frames := 0, cells := 0, slots := 0, locals := 0 } : Room).cells ({ frames := 0, cells := 0, slots := 0, locals := 0 } : Room).slots) := by
  refine Own.enter (Q := Q4 Z p0 p1 p2 p3 h0 n0) (plainFor_of_name pn_1) ?_
  intro p e s m below meth c s₁ D hx hby hml hown hnm hret hZ X0 e0 hD hR
  have N0 := Fr.nil n0
  rw [show entryFrame m #[(.int p0), (.int p1), (.int p2), (.int p3)] 5 = mkF m 0 #[.val (.int p0), .val (.int p1), .val (.int p2), .val (.int p3), .unset] [] from ef_4 m p0 p1 p2 p3]
  obtain ⟨v1, hv1⟩ : ∃ z : Int32, z = (p0 &&& (3 : Int32)) := ⟨_, rfl⟩
  refine hD _ (s₁.setTop (mkF m 7 #[.val (.int p0), .val (.int p1), .val (.int p2), .val (.int p3), .val (.int v1)] [(.int v1)])) (fun t k => ?_) ?_
  · show Steps p.tables e below (s₁.setTop (mkF m 0 #[.val (.int p0), .val (.int p1), .val (.int p2), .val (.int p3), .unset] [])) t
    refine XS.iloadN X0.here hx rfl (hb hby d4_0) rfl ?_
    show Steps p.tables e below (s₁.setTop (mkF m 1 #[.val (.int p0), .val (.int p1), .val (.int p2), .val (.int p3), .unset] [(.int p0)])) t
    refine XS.iconst X0.here hx rfl (hb hby d4_1) ?_
    show Steps p.tables e below (s₁.setTop (mkF m 2 #[.val (.int p0), .val (.int p1), .val (.int p2), .val (.int p3), .unset] [(.int (3 : Int32)), (.int p0)])) t
    refine XS.iand X0.here hx rfl (hb hby d4_2) rfl ?_
    show Steps p.tables e below (s₁.setTop (mkF m 3 #[.val (.int p0), .val (.int p1), .val (.int p2), .val (.int p3), .unset] [(.int (p0 &&& (3 : Int32)))])) t
    refine Own.nmI hv1 ?_
    show Steps p.tables e below (s₁.setTop (mkF m 3 #[.val (.int p0), .val (.int p1), .val (.int p2), .val (.int p3), .unset] [(.int v1)])) t
    refine XS.istore X0.here hx rfl (hb hby d4_3) rfl (l' := #[.val (.int p0), .val (.int p1), .val (.int p2), .val (.int p3), .val (.int v1)]) rfl ?_
    show Steps p.tables e below (s₁.setTop (mkF m 5 #[.val (.int p0), .val (.int p1), .val (.int p2), .val (.int p3), .val (.int v1)] [])) t
    refine XS.iload X0.here hx rfl (hb hby d4_5) rfl ?_
    show Steps p.tables e below (s₁.setTop (mkF m 7 #[.val (.int p0), .val (.int p1), .val (.int p2), .val (.int p3), .val (.int v1)] [(.int v1)])) t
    exact k
  by_cases hc2 : v1 = (0 : Int32)
  · refine hD _ (s₁.setTop (mkF m 11 #[.val (.int p0), .val (.int p1), .val (.int p2), .val (.int p3), .val (.int v1)] [(.int p1)])) (fun t k => ?_) ?_
    · show Steps p.tables e below (s₁.setTop (mkF m 7 #[.val (.int p0), .val (.int p1), .val (.int p2), .val (.int p3), .val (.int v1)] [(.int v1)])) t
      refine XS.ifNo X0.here hx rfl (hb hby d4_7) rfl ((if0 _ _).trans (teq hc2).2) ?_
      show Steps p.tables e below (s₁.setTop (mkF m 10 #[.val (.int p0), .val (.int p1), .val (.int p2), .val (.int p3), .val (.int v1)] [])) t
      refine XS.iloadN X0.here hx rfl (hb hby d4_10) rfl ?_
      show Steps p.tables e below (s₁.setTop (mkF m 11 #[.val (.int p0), .val (.int p1), .val (.int p2), .val (.int p3), .val (.int v1)] [(.int p1)])) t
      exact k
    exact Own.retI hR X0 hx hret (hb hby d4_11) (by decide) (by decide) ⟨⟨_, rfl, h1⟩, N0, e0⟩
  · refine hD _ (s₁.setTop (mkF m 15 #[.val (.int p0), .val (.int p1), .val (.int p2), .val (.int p3), .val (.int v1)] [(.int (1 : Int32)), (.int v1)])) (fun t k => ?_) ?_
    · show Steps p.tables e below (s₁.setTop (mkF m 7 #[.val (.int p0), .val (.int p1), .val (.int p2), .val (.int p3), .val (.int v1)] [(.int v1)])) t
      refine XS.ifYes X0.here hx rfl (pc0 := 7) (pc' := 12) rfl (hb hby d4_7) rfl ((if0 _ _).trans (feq hc2).2) (by decide) (by decide) ?_
      show Steps p.tables e below (s₁.setTop (mkF m 12 #[.val (.int p0), .val (.int p1), .val (.int p2), .val (.int p3), .val (.int v1)] [])) t
      refine XS.iload X0.here hx rfl (hb hby d4_12) rfl ?_
      show Steps p.tables e below (s₁.setTop (mkF m 14 #[.val (.int p0), .val (.int p1), .val (.int p2), .val (.int p3), .val (.int v1)] [(.int v1)])) t
      refine XS.iconst X0.here hx rfl (hb hby d4_14) ?_
      show Steps p.tables e below (s₁.setTop (mkF m 15 #[.val (.int p0), .val (.int p1), .val (.int p2), .val (.int p3), .val (.int v1)] [(.int (1 : Int32)), (.int v1)])) t
      exact k
    by_cases hc3 : v1 = (1 : Int32)
    · refine hD _ (s₁.setTop (mkF m 19 #[.val (.int p0), .val (.int p1), .val (.int p2), .val (.int p3), .val (.int v1)] [(.int p2)])) (fun t k => ?_) ?_
      · show Steps p.tables e below (s₁.setTop (mkF m 15 #[.val (.int p0), .val (.int p1), .val (.int p2), .val (.int p3), .val (.int v1)] [(.int (1 : Int32)), (.int v1)])) t
        refine XS.icmpNo X0.here hx rfl (hb hby d4_15) rfl (teq hc3).2 ?_
        show Steps p.tables e below (s₁.setTop (mkF m 18 #[.val (.int p0), .val (.int p1), .val (.int p2), .val (.int p3), .val (.int v1)] [])) t
        refine XS.iloadN X0.here hx rfl (hb hby d4_18) rfl ?_
        show Steps p.tables e below (s₁.setTop (mkF m 19 #[.val (.int p0), .val (.int p1), .val (.int p2), .val (.int p3), .val (.int v1)] [(.int p2)])) t
        exact k
      exact Own.retI hR X0 hx hret (hb hby d4_19) (by decide) (by decide) ⟨⟨_, rfl, h2⟩, N0, e0⟩
    · have hnz4 : p3 ≠ 0 := own_nz hs
      refine hD _ (s₁.setTop (mkF m 25 #[.val (.int p0), .val (.int p1), .val (.int p2), .val (.int p3), .val (.int v1)] [(.int (((p0.toUInt32 >>> ((2 : Int32) &&& 31).toUInt32).toInt32) % p3))])) (fun t k => ?_) ?_
      · show Steps p.tables e below (s₁.setTop (mkF m 15 #[.val (.int p0), .val (.int p1), .val (.int p2), .val (.int p3), .val (.int v1)] [(.int (1 : Int32)), (.int v1)])) t
        refine XS.icmpYes X0.here hx rfl (pc0 := 15) (pc' := 20) rfl (hb hby d4_15) rfl (feq hc3).2 (by decide) (by decide) ?_
        show Steps p.tables e below (s₁.setTop (mkF m 20 #[.val (.int p0), .val (.int p1), .val (.int p2), .val (.int p3), .val (.int v1)] [])) t
        refine XS.iloadN X0.here hx rfl (hb hby d4_20) rfl ?_
        show Steps p.tables e below (s₁.setTop (mkF m 21 #[.val (.int p0), .val (.int p1), .val (.int p2), .val (.int p3), .val (.int v1)] [(.int p0)])) t
        refine XS.iconst X0.here hx rfl (hb hby d4_21) ?_
        show Steps p.tables e below (s₁.setTop (mkF m 22 #[.val (.int p0), .val (.int p1), .val (.int p2), .val (.int p3), .val (.int v1)] [(.int (2 : Int32)), (.int p0)])) t
        refine XS.iushr X0.here hx rfl (hb hby d4_22) rfl ?_
        show Steps p.tables e below (s₁.setTop (mkF m 23 #[.val (.int p0), .val (.int p1), .val (.int p2), .val (.int p3), .val (.int v1)] [(.int ((p0.toUInt32 >>> ((2 : Int32) &&& 31).toUInt32).toInt32))])) t
        refine XS.iloadN X0.here hx rfl (hb hby d4_23) rfl ?_
        show Steps p.tables e below (s₁.setTop (mkF m 24 #[.val (.int p0), .val (.int p1), .val (.int p2), .val (.int p3), .val (.int v1)] [(.int p3), (.int ((p0.toUInt32 >>> ((2 : Int32) &&& 31).toUInt32).toInt32))])) t
        refine Jvm.RoadKit.iremM (g := (mkF m 24 #[.val (.int p0), .val (.int p1), .val (.int p2), .val (.int p3), .val (.int v1)] [(.int p3), (.int ((p0.toUInt32 >>> ((2 : Int32) &&& 31).toUInt32).toInt32))])) X0 hx rfl (hb hby d4_24) rfl hnz4 ?_
        show Steps p.tables e below (s₁.setTop (mkF m 25 #[.val (.int p0), .val (.int p1), .val (.int p2), .val (.int p3), .val (.int v1)] [(.int (((p0.toUInt32 >>> ((2 : Int32) &&& 31).toUInt32).toInt32) % p3))])) t
        exact k
      exact Own.retI hR X0 hx hret (hb hby d4_25) (by decide) (by decide) ⟨⟨_, rfl, own_ush hs rfl⟩, N0, e0⟩
theorem own_arr {Z : State} {h : Heap} {a r n : Nat} {w : Nat → Int64} (F : own_FS Z h a r (n + 1) w) : Fld Z h a "com/example/sluice/sluice/FieldSet" "rest" "[J" (.ref r) ∧ Own.AvJ Z h r (n + 1) (fun k => w (k + 1)) := by
  obtain ⟨-, -, h3, ⟨q1, -, q3⟩ | ⟨q1, -, q3, q4⟩⟩ := F
  · omega
  · exact ⟨q3, q4⟩
theorem d5_0 : decode prog_7_method_5_code 0 = .ok (.aload_n 0, 1) := by decide +kernel
theorem d5_1 : decode prog_7_method_5_code 1 = .ok (.getfield 15, 3) := by decide +kernel
theorem d5_4 : decode prog_7_method_5_code 4 = .ok (.aload_n 1, 1) := by decide +kernel
theorem d5_5 : decode prog_7_method_5_code 5 = .ok (.getfield 15, 3) := by decide +kernel
theorem d5_8 : decode prog_7_method_5_code 8 = .ok (.land, 1) := by decide +kernel
theorem d5_9 : decode prog_7_method_5_code 9 = .ok (.aload_n 1, 1) := by decide +kernel
theorem d5_10 : decode prog_7_method_5_code 10 = .ok (.getfield 15, 3) := by decide +kernel
theorem d5_13 : decode prog_7_method_5_code 13 = .ok (.lcmp, 1) := by decide +kernel
theorem d5_14 : decode prog_7_method_5_code 14 = .ok (.ifCond .ne 7, 3) := by decide +kernel
theorem d5_17 : decode prog_7_method_5_code 17 = .ok (.iconst 1, 1) := by decide +kernel
theorem d5_18 : decode prog_7_method_5_code 18 = .ok (.goto 4, 3) := by decide +kernel
theorem d5_21 : decode prog_7_method_5_code 21 = .ok (.iconst 0, 1) := by decide +kernel
theorem d5_22 : decode prog_7_method_5_code 22 = .ok (.istore_n 2, 1) := by decide +kernel
theorem d5_23 : decode prog_7_method_5_code 23 = .ok (.aload_n 0, 1) := by decide +kernel
theorem d5_24 : decode prog_7_method_5_code 24 = .ok (.getfield 9, 3) := by decide +kernel
theorem d5_27 : decode prog_7_method_5_code 27 = .ok (.ifnull 53, 3) := by decide +kernel
theorem d5_30 : decode prog_7_method_5_code 30 = .ok (.iconst 0, 1) := by decide +kernel
theorem d5_31 : decode prog_7_method_5_code 31 = .ok (.istore_n 3, 1) := by decide +kernel
theorem d5_32 : decode prog_7_method_5_code 32 = .ok (.iload_n 2, 1) := by decide +kernel
theorem d5_33 : decode prog_7_method_5_code 33 = .ok (.ifCond .eq 47, 3) := by decide +kernel
theorem d5_36 : decode prog_7_method_5_code 36 = .ok (.iload_n 3, 1) := by decide +kernel
theorem d5_37 : decode prog_7_method_5_code 37 = .ok (.aload_n 0, 1) := by decide +kernel
theorem d5_38 : decode prog_7_method_5_code 38 = .ok (.getfield 9, 3) := by decide +kernel
theorem d5_41 : decode prog_7_method_5_code 41 = .ok (.arraylength, 1) := by decide +kernel
theorem d5_42 : decode prog_7_method_5_code 42 = .ok (.if_icmp .ge 38, 3) := by decide +kernel
theorem d5_45 : decode prog_7_method_5_code 45 = .ok (.aload_n 0, 1) := by decide +kernel
theorem d5_46 : decode prog_7_method_5_code 46 = .ok (.getfield 9, 3) := by decide +kernel
theorem d5_49 : decode prog_7_method_5_code 49 = .ok (.iload_n 3, 1) := by decide +kernel
theorem d5_50 : decode prog_7_method_5_code 50 = .ok (.laload, 1) := by decide +kernel
theorem d5_51 : decode prog_7_method_5_code 51 = .ok (.aload_n 1, 1) := by decide +kernel
theorem d5_52 : decode prog_7_method_5_code 52 = .ok (.getfield 9, 3) := by decide +kernel
theorem d5_55 : decode prog_7_method_5_code 55 = .ok (.iload_n 3, 1) := by decide +kernel
theorem d5_56 : decode prog_7_method_5_code 56 = .ok (.laload, 1) := by decide +kernel
theorem d5_57 : decode prog_7_method_5_code 57 = .ok (.land, 1) := by decide +kernel
theorem d5_58 : decode prog_7_method_5_code 58 = .ok (.aload_n 1, 1) := by decide +kernel
theorem d5_59 : decode prog_7_method_5_code 59 = .ok (.getfield 9, 3) := by decide +kernel
theorem d5_62 : decode prog_7_method_5_code 62 = .ok (.iload_n 3, 1) := by decide +kernel
theorem d5_63 : decode prog_7_method_5_code 63 = .ok (.laload, 1) := by decide +kernel
theorem d5_64 : decode prog_7_method_5_code 64 = .ok (.lcmp, 1) := by decide +kernel
theorem d5_65 : decode prog_7_method_5_code 65 = .ok (.ifCond .ne 7, 3) := by decide +kernel
theorem d5_68 : decode prog_7_method_5_code 68 = .ok (.iconst 1, 1) := by decide +kernel
theorem d5_69 : decode prog_7_method_5_code 69 = .ok (.goto 4, 3) := by decide +kernel
theorem d5_72 : decode prog_7_method_5_code 72 = .ok (.iconst 0, 1) := by decide +kernel
theorem d5_73 : decode prog_7_method_5_code 73 = .ok (.istore_n 2, 1) := by decide +kernel
theorem d5_74 : decode prog_7_method_5_code 74 = .ok (.iinc 3 1, 3) := by decide +kernel
theorem d5_77 : decode prog_7_method_5_code 77 = .ok (.goto (-45), 3) := by decide +kernel
theorem d5_80 : decode prog_7_method_5_code 80 = .ok (.iload_n 2, 1) := by decide +kernel
theorem d5_81 : decode prog_7_method_5_code 81 = .ok (.ireturn, 1) := by decide +kernel
theorem ef_5 (m : MethodId) (o0 : Addr) (o1 : Addr) : entryFrame m #[(.ref o0), (.ref o1)] 4 = mkF m 0 #[.val (.ref o0), .val (.ref o1), .unset, .unset] [] := by first | (simp [entryFrame, mkF, argsToLocals, Value.category]; done) | rfl
def Q5 (Z : State) (o0 : Nat) (o1 : Nat) (n r : Nat) (w : Nat → Int64) (r' : Nat) (w' : Nat → Int64) (h0 : Heap) (n0 : Nat) (v : Option Value) (h : Heap) (L : List Loc) : Prop := v = some (.int (Own.b2i (own_sub n w w'))) ∧ Fr n0 L ∧ h = h0
set_option maxRecDepth 65536 in
set_option maxHeartbeats 40000000 in
theorem rm5 (l : Launch) (Z : State) (a0 : Array Value) (hw : ∀ d ∈ tables_1, d.before a0 Z = true) (ws : List Jvm.Cond) (o0 : Nat) (o1 : Nat) (n r : Nat) (w : Nat → Int64) (r' : Nat) (w' : Nat → Int64) (h0 : Heap) (n0 : Nat) (F : own_FS Z h0 o0 r n w) (F' : own_FS Z h0 o1 r' n w') :
    MetFree l (⟨"com/example/sluice/sluice/FieldSet", "containsAll", "(Lcom/example/sluice/sluice/FieldSet;)Z"⟩ : MethodName) (head1 (Jvm.Cond.code (⟨"com/example/sluice/sluice/FieldSet", "containsAll", "(Lcom/example/sluice/sluice/FieldSet;)Z"⟩ : MethodName) prog_7_method_5_code 4 (some .boolean) :: ws) ({ frames := 0, cells := 0, slots := 0, locals := 0 } : Room)) (fun a U => a = #[(.ref o0), (.ref o1)] ∧ Z.Warmed39 U.vm ∧ U.heap = h0) (fun _ _ _ _ _ => True) (fun _ U o U' => ∃ v L, o = .returned v ∧ Q5 Z o0 o1 n r w r' w' h0 n0 v U'.heap L ∧ FrameEnd U o U' L ({ frames := 0, cells := 0, slots := 0, locals := 0 } : Room).cells ({ frames := 0, cells := 0, slots := 0, locals := 0 } : Room).slots) := by
  refine Own.enter (Q := Q5 Z o0 o1 n r w r' w' h0 n0) (plainFor_of_name pn_0) ?_
  intro p e s m below meth c s₁ D hx hby hml hown hnm hret hZ X0 e0 hD hR
  have N0 := Fr.nil n0
  rw [show entryFrame m #[(.ref o0), (.ref o1)] 4 = mkF m 0 #[.val (.ref o0), .val (.ref o1), .unset, .unset] [] from ef_5 m o0 o1]
  have F_first := F.2.1
  have F_first' := F'.2.1
  rcases own_cases F with ⟨rfl, F_rest⟩ | ⟨rfl, F_rest, A_r⟩ | ⟨rfl, F_rest, A_r⟩ | ⟨rfl, F_rest, A_r⟩
  · obtain ⟨T1, X1, e1, st1⟩ := getF X0 hx hZ hown (host := "") (Or.inl (hw _ (List.mem_of_getElem? (i := 21) rfl))) Via.refl e0 F_first (g := (mkF m 1 #[.val (.ref o0), .val (.ref o1), .unset, .unset] [(.ref o0)])) rfl rfl (hb hby d5_1)
    obtain ⟨T2, X2, e2, st2⟩ := getF X1 hx hZ hown (host := "") (Or.inl (hw _ (List.mem_of_getElem? (i := 21) rfl))) Via.refl e1 F_first' (g := (mkF m 5 #[.val (.ref o0), .val (.ref o1), .unset, .unset] [(.ref o1), (.long (w 0))])) rfl rfl (hb hby d5_5)
    obtain ⟨T3, X3, e3, st3⟩ := getF X2 hx hZ hown (host := "") (Or.inl (hw _ (List.mem_of_getElem? (i := 21) rfl))) Via.refl e2 F_first' (g := (mkF m 10 #[.val (.ref o0), .val (.ref o1), .unset, .unset] [(.ref o1), (.long ((w 0) &&& (w' 0)))])) rfl rfl (hb hby d5_10)
    refine hD _ (T3.setTop (mkF m 14 #[.val (.ref o0), .val (.ref o1), .unset, .unset] [(.int (lcmpW ((w 0) &&& (w' 0)) (w' 0)))])) (fun t k => ?_) ?_
    · show Steps p.tables e below (s₁.setTop (mkF m 0 #[.val (.ref o0), .val (.ref o1), .unset, .unset] [])) t
      refine XS.aloadN X0.here hx rfl (hb hby d5_0) rfl rfl ?_
      show Steps p.tables e below (s₁.setTop (mkF m 1 #[.val (.ref o0), .val (.ref o1), .unset, .unset] [(.ref o0)])) t
      refine st1 _ ?_
      show Steps p.tables e below (T1.setTop (mkF m 4 #[.val (.ref o0), .val (.ref o1), .unset, .unset] [(.long (w 0))])) t
      refine XS.aloadN X1.here hx rfl (hb hby d5_4) rfl rfl ?_
      show Steps p.tables e below (T1.setTop (mkF m 5 #[.val (.ref o0), .val (.ref o1), .unset, .unset] [(.ref o1), (.long (w 0))])) t
      refine st2 _ ?_
      show Steps p.tables e below (T2.setTop (mkF m 8 #[.val (.ref o0), .val (.ref o1), .unset, .unset] [(.long (w' 0)), (.long (w 0))])) t
      refine XS.land X2.here hx rfl (hb hby d5_8) rfl ?_
      show Steps p.tables e below (T2.setTop (mkF m 9 #[.val (.ref o0), .val (.ref o1), .unset, .unset] [(.long ((w 0) &&& (w' 0)))])) t
      refine XS.aloadN X2.here hx rfl (hb hby d5_9) rfl rfl ?_
      show Steps p.tables e below (T2.setTop (mkF m 10 #[.val (.ref o0), .val (.ref o1), .unset, .unset] [(.ref o1), (.long ((w 0) &&& (w' 0)))])) t
      refine st3 _ ?_
      show Steps p.tables e below (T3.setTop (mkF m 13 #[.val (.ref o0), .val (.ref o1), .unset, .unset] [(.long (w' 0)), (.long ((w 0) &&& (w' 0)))])) t
      refine XS.lcmp X3.here hx rfl (hb hby d5_13) rfl ?_
      show Steps p.tables e below (T3.setTop (mkF m 14 #[.val (.ref o0), .val (.ref o1), .unset, .unset] [(.int (lcmpW ((w 0) &&& (w' 0)) (w' 0)))])) t
      exact k
    by_cases hc4 : ((w 0) &&& (w' 0)) = (w' 0)
    · obtain ⟨T5, X5, e5, st5⟩ := getF X3 hx hZ hown (host := "") (Or.inl (hw _ (List.mem_of_getElem? (i := 14) rfl))) Via.refl e3 F_rest (g := (mkF m 24 #[.val (.ref o0), .val (.ref o1), .val (.int (1 : Int32)), .unset] [(.ref o0)])) rfl rfl (hb hby d5_24)
      refine hD _ (T5.setTop (mkF m 81 #[.val (.ref o0), .val (.ref o1), .val (.int (1 : Int32)), .unset] [(.int (1 : Int32))])) (fun t k => ?_) ?_
      · show Steps p.tables e below (T3.setTop (mkF m 14 #[.val (.ref o0), .val (.ref o1), .unset, .unset] [(.int (lcmpW ((w 0) &&& (w' 0)) (w' 0)))])) t
        refine XS.ifNo X3.here hx rfl (hb hby d5_14) rfl ((if0 _ _).trans (teq ((lw_eq ((w 0) &&& (w' 0)) (w' 0)).mpr hc4)).2) ?_
        show Steps p.tables e below (T3.setTop (mkF m 17 #[.val (.ref o0), .val (.ref o1), .unset, .unset] [])) t
        refine XS.iconst X3.here hx rfl (hb hby d5_17) ?_
        show Steps p.tables e below (T3.setTop (mkF m 18 #[.val (.ref o0), .val (.ref o1), .unset, .unset] [(.int (1 : Int32))])) t
        refine XS.goto X3.here hx rfl (pc0 := 18) (pc' := 22) rfl (hb hby d5_18) (by decide) (by decide) ?_
        show Steps p.tables e below (T3.setTop (mkF m 22 #[.val (.ref o0), .val (.ref o1), .unset, .unset] [(.int (1 : Int32))])) t
        refine XS.istoreN X3.here hx rfl (hb hby d5_22) rfl (l' := #[.val (.ref o0), .val (.ref o1), .val (.int (1 : Int32)), .unset]) rfl ?_
        show Steps p.tables e below (T3.setTop (mkF m 23 #[.val (.ref o0), .val (.ref o1), .val (.int (1 : Int32)), .unset] [])) t
        refine XS.aloadN X3.here hx rfl (hb hby d5_23) rfl rfl ?_
        show Steps p.tables e below (T3.setTop (mkF m 24 #[.val (.ref o0), .val (.ref o1), .val (.int (1 : Int32)), .unset] [(.ref o0)])) t
        refine st5 _ ?_
        show Steps p.tables e below (T5.setTop (mkF m 27 #[.val (.ref o0), .val (.ref o1), .val (.int (1 : Int32)), .unset] [.null])) t
        refine XS.ifnullYes X5.here hx rfl (pc0 := 27) (pc' := 80) rfl (hb hby d5_27) rfl (by decide) (by decide) ?_
        show Steps p.tables e below (T5.setTop (mkF m 80 #[.val (.ref o0), .val (.ref o1), .val (.int (1 : Int32)), .unset] [])) t
        refine XS.iloadN X5.here hx rfl (hb hby d5_80) rfl ?_
        show Steps p.tables e below (T5.setTop (mkF m 81 #[.val (.ref o0), .val (.ref o1), .val (.int (1 : Int32)), .unset] [(.int (1 : Int32))])) t
        exact k
      exact Own.retN hR X5 hx (t := .boolean) hret (by simp) (hb hby d5_81) (by decide) (by decide) (by decide) ⟨by simp [own_sub, Own.b2i, hc4], N0, e5⟩
    · obtain ⟨T6, X6, e6, st6⟩ := getF X3 hx hZ hown (host := "") (Or.inl (hw _ (List.mem_of_getElem? (i := 14) rfl))) Via.refl e3 F_rest (g := (mkF m 24 #[.val (.ref o0), .val (.ref o1), .val (.int (0 : Int32)), .unset] [(.ref o0)])) rfl rfl (hb hby d5_24)
      refine hD _ (T6.setTop (mkF m 81 #[.val (.ref o0), .val (.ref o1), .val (.int (0 : Int32)), .unset] [(.int (0 : Int32))])) (fun t k => ?_) ?_
      · show Steps p.tables e below (T3.setTop (mkF m 14 #[.val (.ref o0), .val (.ref o1), .unset, .unset] [(.int (lcmpW ((w 0) &&& (w' 0)) (w' 0)))])) t
        refine XS.ifYes X3.here hx rfl (pc0 := 14) (pc' := 21) rfl (hb hby d5_14) rfl ((if0 _ _).trans (feq (fun q => hc4 ((lw_eq ((w 0) &&& (w' 0)) (w' 0)).mp q))).2) (by decide) (by decide) ?_
        show Steps p.tables e below (T3.setTop (mkF m 21 #[.val (.ref o0), .val (.ref o1), .unset, .unset] [])) t
        refine XS.iconst X3.here hx rfl (hb hby d5_21) ?_
        show Steps p.tables e below (T3.setTop (mkF m 22 #[.val (.ref o0), .val (.ref o1), .unset, .unset] [(.int (0 : Int32))])) t
        refine XS.istoreN X3.here hx rfl (hb hby d5_22) rfl (l' := #[.val (.ref o0), .val (.ref o1), .val (.int (0 : Int32)), .unset]) rfl ?_
        show Steps p.tables e below (T3.setTop (mkF m 23 #[.val (.ref o0), .val (.ref o1), .val (.int (0 : Int32)), .unset] [])) t
        refine XS.aloadN X3.here hx rfl (hb hby d5_23) rfl rfl ?_
        show Steps p.tables e below (T3.setTop (mkF m 24 #[.val (.ref o0), .val (.ref o1), .val (.int (0 : Int32)), .unset] [(.ref o0)])) t
        refine st6 _ ?_
        show Steps p.tables e below (T6.setTop (mkF m 27 #[.val (.ref o0), .val (.ref o1), .val (.int (0 : Int32)), .unset] [.null])) t
        refine XS.ifnullYes X6.here hx rfl (pc0 := 27) (pc' := 80) rfl (hb hby d5_27) rfl (by decide) (by decide) ?_
        show Steps p.tables e below (T6.setTop (mkF m 80 #[.val (.ref o0), .val (.ref o1), .val (.int (0 : Int32)), .unset] [])) t
        refine XS.iloadN X6.here hx rfl (hb hby d5_80) rfl ?_
        show Steps p.tables e below (T6.setTop (mkF m 81 #[.val (.ref o0), .val (.ref o1), .val (.int (0 : Int32)), .unset] [(.int (0 : Int32))])) t
        exact k
      exact Own.retN hR X6 hx (t := .boolean) hret (by simp) (hb hby d5_81) (by decide) (by decide) (by decide) ⟨by simp [own_sub, Own.b2i, hc4], N0, e6⟩
  · obtain ⟨F_rest', A_r'⟩ := own_arr F'
    obtain ⟨T7, X7, e7, st7⟩ := getF X0 hx hZ hown (host := "") (Or.inl (hw _ (List.mem_of_getElem? (i := 21) rfl))) Via.refl e0 F_first (g := (mkF m 1 #[.val (.ref o0), .val (.ref o1), .unset, .unset] [(.ref o0)])) rfl rfl (hb hby d5_1)
    obtain ⟨T8, X8, e8, st8⟩ := getF X7 hx hZ hown (host := "") (Or.inl (hw _ (List.mem_of_getElem? (i := 21) rfl))) Via.refl e7 F_first' (g := (mkF m 5 #[.val (.ref o0), .val (.ref o1), .unset, .unset] [(.ref o1), (.long (w 0))])) rfl rfl (hb hby d5_5)
    obtain ⟨T9, X9, e9, st9⟩ := getF X8 hx hZ hown (host := "") (Or.inl (hw _ (List.mem_of_getElem? (i := 21) rfl))) Via.refl e8 F_first' (g := (mkF m 10 #[.val (.ref o0), .val (.ref o1), .unset, .unset] [(.ref o1), (.long ((w 0) &&& (w' 0)))])) rfl rfl (hb hby d5_10)
    refine hD _ (T9.setTop (mkF m 14 #[.val (.ref o0), .val (.ref o1), .unset, .unset] [(.int (lcmpW ((w 0) &&& (w' 0)) (w' 0)))])) (fun t k => ?_) ?_
    · show Steps p.tables e below (s₁.setTop (mkF m 0 #[.val (.ref o0), .val (.ref o1), .unset, .unset] [])) t
      refine XS.aloadN X0.here hx rfl (hb hby d5_0) rfl rfl ?_
      show Steps p.tables e below (s₁.setTop (mkF m 1 #[.val (.ref o0), .val (.ref o1), .unset, .unset] [(.ref o0)])) t
      refine st7 _ ?_
      show Steps p.tables e below (T7.setTop (mkF m 4 #[.val (.ref o0), .val (.ref o1), .unset, .unset] [(.long (w 0))])) t
      refine XS.aloadN X7.here hx rfl (hb hby d5_4) rfl rfl ?_
      show Steps p.tables e below (T7.setTop (mkF m 5 #[.val (.ref o0), .val (.ref o1), .unset, .unset] [(.ref o1), (.long (w 0))])) t
      refine st8 _ ?_
      show Steps p.tables e below (T8.setTop (mkF m 8 #[.val (.ref o0), .val (.ref o1), .unset, .unset] [(.long (w' 0)), (.long (w 0))])) t
      refine XS.land X8.here hx rfl (hb hby d5_8) rfl ?_
      show Steps p.tables e below (T8.setTop (mkF m 9 #[.val (.ref o0), .val (.ref o1), .unset, .unset] [(.long ((w 0) &&& (w' 0)))])) t
      refine XS.aloadN X8.here hx rfl (hb hby d5_9) rfl rfl ?_
      show Steps p.tables e below (T8.setTop (mkF m 10 #[.val (.ref o0), .val (.ref o1), .unset, .unset] [(.ref o1), (.long ((w 0) &&& (w' 0)))])) t
      refine st9 _ ?_
      show Steps p.tables e below (T9.setTop (mkF m 13 #[.val (.ref o0), .val (.ref o1), .unset, .unset] [(.long (w' 0)), (.long ((w 0) &&& (w' 0)))])) t
      refine XS.lcmp X9.here hx rfl (hb hby d5_13) rfl ?_
      show Steps p.tables e below (T9.setTop (mkF m 14 #[.val (.ref o0), .val (.ref o1), .unset, .unset] [(.int (lcmpW ((w 0) &&& (w' 0)) (w' 0)))])) t
      exact k
    by_cases hc10 : ((w 0) &&& (w' 0)) = (w' 0)
    · obtain ⟨T11, X11, e11, st11⟩ := getF X9 hx hZ hown (host := "") (Or.inl (hw _ (List.mem_of_getElem? (i := 14) rfl))) Via.refl e9 F_rest (g := (mkF m 24 #[.val (.ref o0), .val (.ref o1), .val (.int (1 : Int32)), .unset] [(.ref o0)])) rfl rfl (hb hby d5_24)
      obtain ⟨T12, X12, e12, st12⟩ := getF X11 hx hZ hown (host := "") (Or.inl (hw _ (List.mem_of_getElem? (i := 14) rfl))) Via.refl e11 F_rest (g := (mkF m 38 #[.val (.ref o0), .val (.ref o1), .val (.int (1 : Int32)), .val (.int (0 : Int32))] [(.ref o0), (.int (0 : Int32))])) rfl rfl (hb hby d5_38)
      obtain ⟨T13, X13, e13, st13⟩ := getF X12 hx hZ hown (host := "") (Or.inl (hw _ (List.mem_of_getElem? (i := 14) rfl))) Via.refl e12 F_rest (g := (mkF m 46 #[.val (.ref o0), .val (.ref o1), .val (.int (1 : Int32)), .val (.int (0 : Int32))] [(.ref o0)])) rfl rfl (hb hby d5_46)
      have hj14 : 0 ≤ (0 : Int32).toInt ∧ (0 : Int32).toInt < (1 : Nat) := ⟨by decide, by decide⟩
      obtain ⟨T15, X15, e15, st15⟩ := getF X13 hx hZ hown (host := "") (Or.inl (hw _ (List.mem_of_getElem? (i := 14) rfl))) Via.refl e13 F_rest' (g := (mkF m 52 #[.val (.ref o0), .val (.ref o1), .val (.int (1 : Int32)), .val (.int (0 : Int32))] [(.ref o1), (.long ((fun k => w (k + 1)) 0))])) rfl rfl (hb hby d5_52)
      have hj16 : 0 ≤ (0 : Int32).toInt ∧ (0 : Int32).toInt < (1 : Nat) := ⟨by decide, by decide⟩
      obtain ⟨T17, X17, e17, st17⟩ := getF X15 hx hZ hown (host := "") (Or.inl (hw _ (List.mem_of_getElem? (i := 14) rfl))) Via.refl e15 F_rest' (g := (mkF m 59 #[.val (.ref o0), .val (.ref o1), .val (.int (1 : Int32)), .val (.int (0 : Int32))] [(.ref o1), (.long (((fun k => w (k + 1)) 0) &&& ((fun k => w' (k + 1)) 0)))])) rfl rfl (hb hby d5_59)
      have hj18 : 0 ≤ (0 : Int32).toInt ∧ (0 : Int32).toInt < (1 : Nat) := ⟨by decide, by decide⟩
      refine hD _ (T17.setTop (mkF m 65 #[.val (.ref o0), .val (.ref o1), .val (.int (1 : Int32)), .val (.int (0 : Int32))] [(.int (lcmpW (((fun k => w (k + 1)) 0) &&& ((fun k => w' (k + 1)) 0)) ((fun k => w' (k + 1)) 0)))])) (fun t k => ?_) ?_
      · show Steps p.tables e below (T9.setTop (mkF m 14 #[.val (.ref o0), .val (.ref o1), .unset, .unset] [(.int (lcmpW ((w 0) &&& (w' 0)) (w' 0)))])) t
        refine XS.ifNo X9.here hx rfl (hb hby d5_14) rfl ((if0 _ _).trans (teq ((lw_eq ((w 0) &&& (w' 0)) (w' 0)).mpr hc10)).2) ?_
        show Steps p.tables e below (T9.setTop (mkF m 17 #[.val (.ref o0), .val (.ref o1), .unset, .unset] [])) t
        refine XS.iconst X9.here hx rfl (hb hby d5_17) ?_
        show Steps p.tables e below (T9.setTop (mkF m 18 #[.val (.ref o0), .val (.ref o1), .unset, .unset] [(.int (1 : Int32))])) t
        refine XS.goto X9.here hx rfl (pc0 := 18) (pc' := 22) rfl (hb hby d5_18) (by decide) (by decide) ?_
        show Steps p.tables e below (T9.setTop (mkF m 22 #[.val (.ref o0), .val (.ref o1), .unset, .unset] [(.int (1 : Int32))])) t
        refine XS.istoreN X9.here hx rfl (hb hby d5_22) rfl (l' := #[.val (.ref o0), .val (.ref o1), .val (.int (1 : Int32)), .unset]) rfl ?_
        show Steps p.tables e below (T9.setTop (mkF m 23 #[.val (.ref o0), .val (.ref o1), .val (.int (1 : Int32)), .unset] [])) t
        refine XS.aloadN X9.here hx rfl (hb hby d5_23) rfl rfl ?_
        show Steps p.tables e below (T9.setTop (mkF m 24 #[.val (.ref o0), .val (.ref o1), .val (.int (1 : Int32)), .unset] [(.ref o0)])) t
        refine st11 _ ?_
        show Steps p.tables e below (T11.setTop (mkF m 27 #[.val (.ref o0), .val (.ref o1), .val (.int (1 : Int32)), .unset] [(.ref r)])) t
        refine XS.ifnullNo X11.here hx rfl (hb hby d5_27) rfl ?_
        show Steps p.tables e below (T11.setTop (mkF m 30 #[.val (.ref o0), .val (.ref o1), .val (.int (1 : Int32)), .unset] [])) t
        refine XS.iconst X11.here hx rfl (hb hby d5_30) ?_
        show Steps p.tables e below (T11.setTop (mkF m 31 #[.val (.ref o0), .val (.ref o1), .val (.int (1 : Int32)), .unset] [(.int (0 : Int32))])) t
        refine XS.istoreN X11.here hx rfl (hb hby d5_31) rfl (l' := #[.val (.ref o0), .val (.ref o1), .val (.int (1 : Int32)), .val (.int (0 : Int32))]) rfl ?_
        show Steps p.tables e below (T11.setTop (mkF m 32 #[.val (.ref o0), .val (.ref o1), .val (.int (1 : Int32)), .val (.int (0 : Int32))] [])) t
        refine XS.iloadN X11.here hx rfl (hb hby d5_32) rfl ?_
        show Steps p.tables e below (T11.setTop (mkF m 33 #[.val (.ref o0), .val (.ref o1), .val (.int (1 : Int32)), .val (.int (0 : Int32))] [(.int (1 : Int32))])) t
        refine XS.ifNo X11.here hx rfl (hb hby d5_33) rfl (by decide) ?_
        show Steps p.tables e below (T11.setTop (mkF m 36 #[.val (.ref o0), .val (.ref o1), .val (.int (1 : Int32)), .val (.int (0 : Int32))] [])) t
        refine XS.iloadN X11.here hx rfl (hb hby d5_36) rfl ?_
        show Steps p.tables e below (T11.setTop (mkF m 37 #[.val (.ref o0), .val (.ref o1), .val (.int (1 : Int32)), .val (.int (0 : Int32))] [(.int (0 : Int32))])) t
        refine XS.aloadN X11.here hx rfl (hb hby d5_37) rfl rfl ?_
        show Steps p.tables e below (T11.setTop (mkF m 38 #[.val (.ref o0), .val (.ref o1), .val (.int (1 : Int32)), .val (.int (0 : Int32))] [(.ref o0), (.int (0 : Int32))])) t
        refine st12 _ ?_
        show Steps p.tables e below (T12.setTop (mkF m 41 #[.val (.ref o0), .val (.ref o1), .val (.int (1 : Int32)), .val (.int (0 : Int32))] [(.ref r), (.int (0 : Int32))])) t
        refine Own.lenJ X12 hx hZ e12 A_r (g := (mkF m 41 #[.val (.ref o0), .val (.ref o1), .val (.int (1 : Int32)), .val (.int (0 : Int32))] [(.ref r), (.int (0 : Int32))])) rfl rfl (hb hby d5_41) _ ?_
        show Steps p.tables e below (T12.setTop (mkF m 42 #[.val (.ref o0), .val (.ref o1), .val (.int (1 : Int32)), .val (.int (0 : Int32))] [(.int (Int32.ofNat 1)), (.int (0 : Int32))])) t
        refine Own.nmI (by decide : (1 : Int32) = (Int32.ofNat 1)) ?_
        show Steps p.tables e below (T12.setTop (mkF m 42 #[.val (.ref o0), .val (.ref o1), .val (.int (1 : Int32)), .val (.int (0 : Int32))] [(.int (1 : Int32)), (.int (0 : Int32))])) t
        refine XS.icmpNo X12.here hx rfl (hb hby d5_42) rfl (by decide) ?_
        show Steps p.tables e below (T12.setTop (mkF m 45 #[.val (.ref o0), .val (.ref o1), .val (.int (1 : Int32)), .val (.int (0 : Int32))] [])) t
        refine XS.aloadN X12.here hx rfl (hb hby d5_45) rfl rfl ?_
        show Steps p.tables e below (T12.setTop (mkF m 46 #[.val (.ref o0), .val (.ref o1), .val (.int (1 : Int32)), .val (.int (0 : Int32))] [(.ref o0)])) t
        refine st13 _ ?_
        show Steps p.tables e below (T13.setTop (mkF m 49 #[.val (.ref o0), .val (.ref o1), .val (.int (1 : Int32)), .val (.int (0 : Int32))] [(.ref r)])) t
        refine XS.iloadN X13.here hx rfl (hb hby d5_49) rfl ?_
        show Steps p.tables e below (T13.setTop (mkF m 50 #[.val (.ref o0), .val (.ref o1), .val (.int (1 : Int32)), .val (.int (0 : Int32))] [(.int (0 : Int32)), (.ref r)])) t
        refine Own.ldJ X13 hx hZ e13 A_r hj14 (g := (mkF m 50 #[.val (.ref o0), .val (.ref o1), .val (.int (1 : Int32)), .val (.int (0 : Int32))] [(.int (0 : Int32)), (.ref r)])) rfl rfl (hb hby d5_50) _ ?_
        show Steps p.tables e below (T13.setTop (mkF m 51 #[.val (.ref o0), .val (.ref o1), .val (.int (1 : Int32)), .val (.int (0 : Int32))] [(.long ((fun k => w (k + 1)) 0))])) t
        refine XS.aloadN X13.here hx rfl (hb hby d5_51) rfl rfl ?_
        show Steps p.tables e below (T13.setTop (mkF m 52 #[.val (.ref o0), .val (.ref o1), .val (.int (1 : Int32)), .val (.int (0 : Int32))] [(.ref o1), (.long ((fun k => w (k + 1)) 0))])) t
        refine st15 _ ?_
        show Steps p.tables e below (T15.setTop (mkF m 55 #[.val (.ref o0), .val (.ref o1), .val (.int (1 : Int32)), .val (.int (0 : Int32))] [(.ref r'), (.long ((fun k => w (k + 1)) 0))])) t
        refine XS.iloadN X15.here hx rfl (hb hby d5_55) rfl ?_
        show Steps p.tables e below (T15.setTop (mkF m 56 #[.val (.ref o0), .val (.ref o1), .val (.int (1 : Int32)), .val (.int (0 : Int32))] [(.int (0 : Int32)), (.ref r'), (.long ((fun k => w (k + 1)) 0))])) t
        refine Own.ldJ X15 hx hZ e15 A_r' hj16 (g := (mkF m 56 #[.val (.ref o0), .val (.ref o1), .val (.int (1 : Int32)), .val (.int (0 : Int32))] [(.int (0 : Int32)), (.ref r'), (.long ((fun k => w (k + 1)) 0))])) rfl rfl (hb hby d5_56) _ ?_
        show Steps p.tables e below (T15.setTop (mkF m 57 #[.val (.ref o0), .val (.ref o1), .val (.int (1 : Int32)), .val (.int (0 : Int32))] [(.long ((fun k => w' (k + 1)) 0)), (.long ((fun k => w (k + 1)) 0))])) t
        refine XS.land X15.here hx rfl (hb hby d5_57) rfl ?_
        show Steps p.tables e below (T15.setTop (mkF m 58 #[.val (.ref o0), .val (.ref o1), .val (.int (1 : Int32)), .val (.int (0 : Int32))] [(.long (((fun k => w (k + 1)) 0) &&& ((fun k => w' (k + 1)) 0)))])) t
        refine XS.aloadN X15.here hx rfl (hb hby d5_58) rfl rfl ?_
        show Steps p.tables e below (T15.setTop (mkF m 59 #[.val (.ref o0), .val (.ref o1), .val (.int (1 : Int32)), .val (.int (0 : Int32))] [(.ref o1), (.long (((fun k => w (k + 1)) 0) &&& ((fun k => w' (k + 1)) 0)))])) t
        refine st17 _ ?_
        show Steps p.tables e below (T17.setTop (mkF m 62 #[.val (.ref o0), .val (.ref o1), .val (.int (1 : Int32)), .val (.int (0 : Int32))] [(.ref r'), (.long (((fun k => w (k + 1)) 0) &&& ((fun k => w' (k + 1)) 0)))])) t
        refine XS.iloadN X17.here hx rfl (hb hby d5_62) rfl ?_
        show Steps p.tables e below (T17.setTop (mkF m 63 #[.val (.ref o0), .val (.ref o1), .val (.int (1 : Int32)), .val (.int (0 : Int32))] [(.int (0 : Int32)), (.ref r'), (.long (((fun k => w (k + 1)) 0) &&& ((fun k => w' (k + 1)) 0)))])) t
        refine Own.ldJ X17 hx hZ e17 A_r' hj18 (g := (mkF m 63 #[.val (.ref o0), .val (.ref o1), .val (.int (1 : Int32)), .val (.int (0 : Int32))] [(.int (0 : Int32)), (.ref r'), (.long (((fun k => w (k + 1)) 0) &&& ((fun k => w' (k + 1)) 0)))])) rfl rfl (hb hby d5_63) _ ?_
        show Steps p.tables e below (T17.setTop (mkF m 64 #[.val (.ref o0), .val (.ref o1), .val (.int (1 : Int32)), .val (.int (0 : Int32))] [(.long ((fun k => w' (k + 1)) 0)), (.long (((fun k => w (k + 1)) 0) &&& ((fun k => w' (k + 1)) 0)))])) t
        refine XS.lcmp X17.here hx rfl (hb hby d5_64) rfl ?_
        show Steps p.tables e below (T17.setTop (mkF m 65 #[.val (.ref o0), .val (.ref o1), .val (.int (1 : Int32)), .val (.int (0 : Int32))] [(.int (lcmpW (((fun k => w (k + 1)) 0) &&& ((fun k => w' (k + 1)) 0)) ((fun k => w' (k + 1)) 0)))])) t
        exact k
      by_cases hc19 : (((fun k => w (k + 1)) 0) &&& ((fun k => w' (k + 1)) 0)) = ((fun k => w' (k + 1)) 0)
      · obtain ⟨T20, X20, e20, st20⟩ := getF X17 hx hZ hown (host := "") (Or.inl (hw _ (List.mem_of_getElem? (i := 14) rfl))) Via.refl e17 F_rest (g := (mkF m 38 #[.val (.ref o0), .val (.ref o1), .val (.int (1 : Int32)), .val (.int (1 : Int32))] [(.ref o0), (.int (1 : Int32))])) rfl rfl (hb hby d5_38)
        refine hD _ (T20.setTop (mkF m 81 #[.val (.ref o0), .val (.ref o1), .val (.int (1 : Int32)), .val (.int (1 : Int32))] [(.int (1 : Int32))])) (fun t k => ?_) ?_
        · show Steps p.tables e below (T17.setTop (mkF m 65 #[.val (.ref o0), .val (.ref o1), .val (.int (1 : Int32)), .val (.int (0 : Int32))] [(.int (lcmpW (((fun k => w (k + 1)) 0) &&& ((fun k => w' (k + 1)) 0)) ((fun k => w' (k + 1)) 0)))])) t
          refine XS.ifNo X17.here hx rfl (hb hby d5_65) rfl ((if0 _ _).trans (teq ((lw_eq (((fun k => w (k + 1)) 0) &&& ((fun k => w' (k + 1)) 0)) ((fun k => w' (k + 1)) 0)).mpr hc19)).2) ?_
          show Steps p.tables e below (T17.setTop (mkF m 68 #[.val (.ref o0), .val (.ref o1), .val (.int (1 : Int32)), .val (.int (0 : Int32))] [])) t
          refine XS.iconst X17.here hx rfl (hb hby d5_68) ?_
          show Steps p.tables e below (T17.setTop (mkF m 69 #[.val (.ref o0), .val (.ref o1), .val (.int (1 : Int32)), .val (.int (0 : Int32))] [(.int (1 : Int32))])) t
          refine XS.goto X17.here hx rfl (pc0 := 69) (pc' := 73) rfl (hb hby d5_69) (by decide) (by decide) ?_
          show Steps p.tables e below (T17.setTop (mkF m 73 #[.val (.ref o0), .val (.ref o1), .val (.int (1 : Int32)), .val (.int (0 : Int32))] [(.int (1 : Int32))])) t
          refine XS.istoreN X17.here hx rfl (hb hby d5_73) rfl (l' := #[.val (.ref o0), .val (.ref o1), .val (.int (1 : Int32)), .val (.int (0 : Int32))]) rfl ?_
          show Steps p.tables e below (T17.setTop (mkF m 74 #[.val (.ref o0), .val (.ref o1), .val (.int (1 : Int32)), .val (.int (0 : Int32))] [])) t
          refine XS.iinc X17.here hx rfl (hb hby d5_74) rfl (l' := #[.val (.ref o0), .val (.ref o1), .val (.int (1 : Int32)), .val (.int ((0 : Int32) + (1 : Int32)))]) rfl ?_
          show Steps p.tables e below (T17.setTop (mkF m 77 #[.val (.ref o0), .val (.ref o1), .val (.int (1 : Int32)), .val (.int ((0 : Int32) + (1 : Int32)))] [])) t
          rw [show ((0 : Int32) + (1 : Int32)) = (1 : Int32) from by decide]
          show Steps p.tables e below (T17.setTop (mkF m 77 #[.val (.ref o0), .val (.ref o1), .val (.int (1 : Int32)), .val (.int (1 : Int32))] [])) t
          refine XS.goto X17.here hx rfl (pc0 := 77) (pc' := 32) rfl (hb hby d5_77) (by decide) (by decide) ?_
          show Steps p.tables e below (T17.setTop (mkF m 32 #[.val (.ref o0), .val (.ref o1), .val (.int (1 : Int32)), .val (.int (1 : Int32))] [])) t
          refine XS.iloadN X17.here hx rfl (hb hby d5_32) rfl ?_
          show Steps p.tables e below (T17.setTop (mkF m 33 #[.val (.ref o0), .val (.ref o1), .val (.int (1 : Int32)), .val (.int (1 : Int32))] [(.int (1 : Int32))])) t
          refine XS.ifNo X17.here hx rfl (hb hby d5_33) rfl (by decide) ?_
          show Steps p.tables e below (T17.setTop (mkF m 36 #[.val (.ref o0), .val (.ref o1), .val (.int (1 : Int32)), .val (.int (1 : Int32))] [])) t
          refine XS.iloadN X17.here hx rfl (hb hby d5_36) rfl ?_
          show Steps p.tables e below (T17.setTop (mkF m 37 #[.val (.ref o0), .val (.ref o1), .val (.int (1 : Int32)), .val (.int (1 : Int32))] [(.int (1 : Int32))])) t
          refine XS.aloadN X17.here hx rfl (hb hby d5_37) rfl rfl ?_
          show Steps p.tables e below (T17.setTop (mkF m 38 #[.val (.ref o0), .val (.ref o1), .val (.int (1 : Int32)), .val (.int (1 : Int32))] [(.ref o0), (.int (1 : Int32))])) t
          refine st20 _ ?_
          show Steps p.tables e below (T20.setTop (mkF m 41 #[.val (.ref o0), .val (.ref o1), .val (.int (1 : Int32)), .val (.int (1 : Int32))] [(.ref r), (.int (1 : Int32))])) t
          refine Own.lenJ X20 hx hZ e20 A_r (g := (mkF m 41 #[.val (.ref o0), .val (.ref o1), .val (.int (1 : Int32)), .val (.int (1 : Int32))] [(.ref r), (.int (1 : Int32))])) rfl rfl (hb hby d5_41) _ ?_
          show Steps p.tables e below (T20.setTop (mkF m 42 #[.val (.ref o0), .val (.ref o1), .val (.int (1 : Int32)), .val (.int (1 : Int32))] [(.int (Int32.ofNat 1)), (.int (1 : Int32))])) t
          refine Own.nmI (by decide : (1 : Int32) = (Int32.ofNat 1)) ?_
          show Steps p.tables e below (T20.setTop (mkF m 42 #[.val (.ref o0), .val (.ref o1), .val (.int (1 : Int32)), .val (.int (1 : Int32))] [(.int (1 : Int32)), (.int (1 : Int32))])) t
          refine XS.icmpYes X20.here hx rfl (pc0 := 42) (pc' := 80) rfl (hb hby d5_42) rfl (by decide) (by decide) (by decide) ?_
          show Steps p.tables e below (T20.setTop (mkF m 80 #[.val (.ref o0), .val (.ref o1), .val (.int (1 : Int32)), .val (.int (1 : Int32))] [])) t
          refine XS.iloadN X20.here hx rfl (hb hby d5_80) rfl ?_
          show Steps p.tables e below (T20.setTop (mkF m 81 #[.val (.ref o0), .val (.ref o1), .val (.int (1 : Int32)), .val (.int (1 : Int32))] [(.int (1 : Int32))])) t
          exact k
        exact Own.retN hR X20 hx (t := .boolean) hret (by simp) (hb hby d5_81) (by decide) (by decide) (by decide) ⟨by simp [own_sub, Own.b2i, hc10, hc19], N0, e20⟩
      · refine hD _ (T17.setTop (mkF m 81 #[.val (.ref o0), .val (.ref o1), .val (.int (0 : Int32)), .val (.int (1 : Int32))] [(.int (0 : Int32))])) (fun t k => ?_) ?_
        · show Steps p.tables e below (T17.setTop (mkF m 65 #[.val (.ref o0), .val (.ref o1), .val (.int (1 : Int32)), .val (.int (0 : Int32))] [(.int (lcmpW (((fun k => w (k + 1)) 0) &&& ((fun k => w' (k + 1)) 0)) ((fun k => w' (k + 1)) 0)))])) t
          refine XS.ifYes X17.here hx rfl (pc0 := 65) (pc' := 72) rfl (hb hby d5_65) rfl ((if0 _ _).trans (feq (fun q => hc19 ((lw_eq (((fun k => w (k + 1)) 0) &&& ((fun k => w' (k + 1)) 0)) ((fun k => w' (k + 1)) 0)).mp q))).2) (by decide) (by decide) ?_
          show Steps p.tables e below (T17.setTop (mkF m 72 #[.val (.ref o0), .val (.ref o1), .val (.int (1 : Int32)), .val (.int (0 : Int32))] [])) t
          refine XS.iconst X17.here hx rfl (hb hby d5_72) ?_
          show Steps p.tables e below (T17.setTop (mkF m 73 #[.val (.ref o0), .val (.ref o1), .val (.int (1 : Int32)), .val (.int (0 : Int32))] [(.int (0 : Int32))])) t
          refine XS.istoreN X17.here hx rfl (hb hby d5_73) rfl (l' := #[.val (.ref o0), .val (.ref o1), .val (.int (0 : Int32)), .val (.int (0 : Int32))]) rfl ?_
          show Steps p.tables e below (T17.setTop (mkF m 74 #[.val (.ref o0), .val (.ref o1), .val (.int (0 : Int32)), .val (.int (0 : Int32))] [])) t
          refine XS.iinc X17.here hx rfl (hb hby d5_74) rfl (l' := #[.val (.ref o0), .val (.ref o1), .val (.int (0 : Int32)), .val (.int ((0 : Int32) + (1 : Int32)))]) rfl ?_
          show Steps p.tables e below (T17.setTop (mkF m 77 #[.val (.ref o0), .val (.ref o1), .val (.int (0 : Int32)), .val (.int ((0 : Int32) + (1 : Int32)))] [])) t
          rw [show ((0 : Int32) + (1 : Int32)) = (1 : Int32) from by decide]
          show Steps p.tables e below (T17.setTop (mkF m 77 #[.val (.ref o0), .val (.ref o1), .val (.int (0 : Int32)), .val (.int (1 : Int32))] [])) t
          refine XS.goto X17.here hx rfl (pc0 := 77) (pc' := 32) rfl (hb hby d5_77) (by decide) (by decide) ?_
          show Steps p.tables e below (T17.setTop (mkF m 32 #[.val (.ref o0), .val (.ref o1), .val (.int (0 : Int32)), .val (.int (1 : Int32))] [])) t
          refine XS.iloadN X17.here hx rfl (hb hby d5_32) rfl ?_
          show Steps p.tables e below (T17.setTop (mkF m 33 #[.val (.ref o0), .val (.ref o1), .val (.int (0 : Int32)), .val (.int (1 : Int32))] [(.int (0 : Int32))])) t
          refine XS.ifYes X17.here hx rfl (pc0 := 33) (pc' := 80) rfl (hb hby d5_33) rfl (by decide) (by decide) (by decide) ?_
          show Steps p.tables e below (T17.setTop (mkF m 80 #[.val (.ref o0), .val (.ref o1), .val (.int (0 : Int32)), .val (.int (1 : Int32))] [])) t
          refine XS.iloadN X17.here hx rfl (hb hby d5_80) rfl ?_
          show Steps p.tables e below (T17.setTop (mkF m 81 #[.val (.ref o0), .val (.ref o1), .val (.int (0 : Int32)), .val (.int (1 : Int32))] [(.int (0 : Int32))])) t
          exact k
        exact Own.retN hR X17 hx (t := .boolean) hret (by simp) (hb hby d5_81) (by decide) (by decide) (by decide) ⟨by simp [own_sub, Own.b2i, hc10, hc19], N0, e17⟩
    · obtain ⟨T21, X21, e21, st21⟩ := getF X9 hx hZ hown (host := "") (Or.inl (hw _ (List.mem_of_getElem? (i := 14) rfl))) Via.refl e9 F_rest (g := (mkF m 24 #[.val (.ref o0), .val (.ref o1), .val (.int (0 : Int32)), .unset] [(.ref o0)])) rfl rfl (hb hby d5_24)
      refine hD _ (T21.setTop (mkF m 81 #[.val (.ref o0), .val (.ref o1), .val (.int (0 : Int32)), .val (.int (0 : Int32))] [(.int (0 : Int32))])) (fun t k => ?_) ?_
      · show Steps p.tables e below (T9.setTop (mkF m 14 #[.val (.ref o0), .val (.ref o1), .unset, .unset] [(.int (lcmpW ((w 0) &&& (w' 0)) (w' 0)))])) t
        refine XS.ifYes X9.here hx rfl (pc0 := 14) (pc' := 21) rfl (hb hby d5_14) rfl ((if0 _ _).trans (feq (fun q => hc10 ((lw_eq ((w 0) &&& (w' 0)) (w' 0)).mp q))).2) (by decide) (by decide) ?_
        show Steps p.tables e below (T9.setTop (mkF m 21 #[.val (.ref o0), .val (.ref o1), .unset, .unset] [])) t
        refine XS.iconst X9.here hx rfl (hb hby d5_21) ?_
        show Steps p.tables e below (T9.setTop (mkF m 22 #[.val (.ref o0), .val (.ref o1), .unset, .unset] [(.int (0 : Int32))])) t
        refine XS.istoreN X9.here hx rfl (hb hby d5_22) rfl (l' := #[.val (.ref o0), .val (.ref o1), .val (.int (0 : Int32)), .unset]) rfl ?_
        show Steps p.tables e below (T9.setTop (mkF m 23 #[.val (.ref o0), .val (.ref o1), .val (.int (0 : Int32)), .unset] [])) t
        refine XS.aloadN X9.here hx rfl (hb hby d5_23) rfl rfl ?_
        show Steps p.tables e below (T9.setTop (mkF m 24 #[.val (.ref o0), .val (.ref o1), .val (.int (0 : Int32)), .unset] [(.ref o0)])) t
        refine st21 _ ?_
        show Steps p.tables e below (T21.setTop (mkF m 27 #[.val (.ref o0), .val (.ref o1), .val (.int (0 : Int32)), .unset] [(.ref r)])) t
        refine XS.ifnullNo X21.here hx rfl (hb hby d5_27) rfl ?_
        show Steps p.tables e below (T21.setTop (mkF m 30 #[.val (.ref o0), .val (.ref o1), .val (.int (0 : Int32)), .unset] [])) t
        refine XS.iconst X21.here hx rfl (hb hby d5_30) ?_
        show Steps p.tables e below (T21.setTop (mkF m 31 #[.val (.ref o0), .val (.ref o1), .val (.int (0 : Int32)), .unset] [(.int (0 : Int32))])) t
        refine XS.istoreN X21.here hx rfl (hb hby d5_31) rfl (l' := #[.val (.ref o0), .val (.ref o1), .val (.int (0 : Int32)), .val (.int (0 : Int32))]) rfl ?_
        show Steps p.tables e below (T21.setTop (mkF m 32 #[.val (.ref o0), .val (.ref o1), .val (.int (0 : Int32)), .val (.int (0 : Int32))] [])) t
        refine XS.iloadN X21.here hx rfl (hb hby d5_32) rfl ?_
        show Steps p.tables e below (T21.setTop (mkF m 33 #[.val (.ref o0), .val (.ref o1), .val (.int (0 : Int32)), .val (.int (0 : Int32))] [(.int (0 : Int32))])) t
        refine XS.ifYes X21.here hx rfl (pc0 := 33) (pc' := 80) rfl (hb hby d5_33) rfl (by decide) (by decide) (by decide) ?_
        show Steps p.tables e below (T21.setTop (mkF m 80 #[.val (.ref o0), .val (.ref o1), .val (.int (0 : Int32)), .val (.int (0 : Int32))] [])) t
        refine XS.iloadN X21.here hx rfl (hb hby d5_80) rfl ?_
        show Steps p.tables e below (T21.setTop (mkF m 81 #[.val (.ref o0), .val (.ref o1), .val (.int (0 : Int32)), .val (.int (0 : Int32))] [(.int (0 : Int32))])) t
        exact k
      exact Own.retN hR X21 hx (t := .boolean) hret (by simp) (hb hby d5_81) (by decide) (by decide) (by decide) ⟨by simp [own_sub, Own.b2i, hc10], N0, e21⟩
  · obtain ⟨F_rest', A_r'⟩ := own_arr F'
    obtain ⟨T22, X22, e22, st22⟩ := getF X0 hx hZ hown (host := "") (Or.inl (hw _ (List.mem_of_getElem? (i := 21) rfl))) Via.refl e0 F_first (g := (mkF m 1 #[.val (.ref o0), .val (.ref o1), .unset, .unset] [(.ref o0)])) rfl rfl (hb hby d5_1)
    obtain ⟨T23, X23, e23, st23⟩ := getF X22 hx hZ hown (host := "") (Or.inl (hw _ (List.mem_of_getElem? (i := 21) rfl))) Via.refl e22 F_first' (g := (mkF m 5 #[.val (.ref o0), .val (.ref o1), .unset, .unset] [(.ref o1), (.long (w 0))])) rfl rfl (hb hby d5_5)
    obtain ⟨T24, X24, e24, st24⟩ := getF X23 hx hZ hown (host := "") (Or.inl (hw _ (List.mem_of_getElem? (i := 21) rfl))) Via.refl e23 F_first' (g := (mkF m 10 #[.val (.ref o0), .val (.ref o1), .unset, .unset] [(.ref o1), (.long ((w 0) &&& (w' 0)))])) rfl rfl (hb hby d5_10)
    refine hD _ (T24.setTop (mkF m 14 #[.val (.ref o0), .val (.ref o1), .unset, .unset] [(.int (lcmpW ((w 0) &&& (w' 0)) (w' 0)))])) (fun t k => ?_) ?_
    · show Steps p.tables e below (s₁.setTop (mkF m 0 #[.val (.ref o0), .val (.ref o1), .unset, .unset] [])) t
      refine XS.aloadN X0.here hx rfl (hb hby d5_0) rfl rfl ?_
      show Steps p.tables e below (s₁.setTop (mkF m 1 #[.val (.ref o0), .val (.ref o1), .unset, .unset] [(.ref o0)])) t
      refine st22 _ ?_
      show Steps p.tables e below (T22.setTop (mkF m 4 #[.val (.ref o0), .val (.ref o1), .unset, .unset] [(.long (w 0))])) t
      refine XS.aloadN X22.here hx rfl (hb hby d5_4) rfl rfl ?_
      show Steps p.tables e below (T22.setTop (mkF m 5 #[.val (.ref o0), .val (.ref o1), .unset, .unset] [(.ref o1), (.long (w 0))])) t
      refine st23 _ ?_
      show Steps p.tables e below (T23.setTop (mkF m 8 #[.val (.ref o0), .val (.ref o1), .unset, .unset] [(.long (w' 0)), (.long (w 0))])) t
      refine XS.land X23.here hx rfl (hb hby d5_8) rfl ?_
      show Steps p.tables e below (T23.setTop (mkF m 9 #[.val (.ref o0), .val (.ref o1), .unset, .unset] [(.long ((w 0) &&& (w' 0)))])) t
      refine XS.aloadN X23.here hx rfl (hb hby d5_9) rfl rfl ?_
      show Steps p.tables e below (T23.setTop (mkF m 10 #[.val (.ref o0), .val (.ref o1), .unset, .unset] [(.ref o1), (.long ((w 0) &&& (w' 0)))])) t
      refine st24 _ ?_
      show Steps p.tables e below (T24.setTop (mkF m 13 #[.val (.ref o0), .val (.ref o1), .unset, .unset] [(.long (w' 0)), (.long ((w 0) &&& (w' 0)))])) t
      refine XS.lcmp X24.here hx rfl (hb hby d5_13) rfl ?_
      show Steps p.tables e below (T24.setTop (mkF m 14 #[.val (.ref o0), .val (.ref o1), .unset, .unset] [(.int (lcmpW ((w 0) &&& (w' 0)) (w' 0)))])) t
      exact k
    by_cases hc25 : ((w 0) &&& (w' 0)) = (w' 0)
    · obtain ⟨T26, X26, e26, st26⟩ := getF X24 hx hZ hown (host := "") (Or.inl (hw _ (List.mem_of_getElem? (i := 14) rfl))) Via.refl e24 F_rest (g := (mkF m 24 #[.val (.ref o0), .val (.ref o1), .val (.int (1 : Int32)), .unset] [(.ref o0)])) rfl rfl (hb hby d5_24)
      obtain ⟨T27, X27, e27, st27⟩ := getF X26 hx hZ hown (host := "") (Or.inl (hw _ (List.mem_of_getElem? (i := 14) rfl))) Via.refl e26 F_rest (g := (mkF m 38 #[.val (.ref o0), .val (.ref o1), .val (.int (1 : Int32)), .val (.int (0 : Int32))] [(.ref o0), (.int (0 : Int32))])) rfl rfl (hb hby d5_38)
      obtain ⟨T28, X28, e28, st28⟩ := getF X27 hx hZ hown (host := "") (Or.inl (hw _ (List.mem_of_getElem? (i := 14) rfl))) Via.refl e27 F_rest (g := (mkF m 46 #[.val (.ref o0), .val (.ref o1), .val (.int (1 : Int32)), .val (.int (0 : Int32))] [(.ref o0)])) rfl rfl (hb hby d5_46)
      have hj29 : 0 ≤ (0 : Int32).toInt ∧ (0 : Int32).toInt < (2 : Nat) := ⟨by decide, by decide⟩
      obtain ⟨T30, X30, e30, st30⟩ := getF X28 hx hZ hown (host := "") (Or.inl (hw _ (List.mem_of_getElem? (i := 14) rfl))) Via.refl e28 F_rest' (g := (mkF m 52 #[.val (.ref o0), .val (.ref o1), .val (.int (1 : Int32)), .val (.int (0 : Int32))] [(.ref o1), (.long ((fun k => w (k + 1)) 0))])) rfl rfl (hb hby d5_52)
      have hj31 : 0 ≤ (0 : Int32).toInt ∧ (0 : Int32).toInt < (2 : Nat) := ⟨by decide, by decide⟩
      obtain ⟨T32, X32, e32, st32⟩ := getF X30 hx hZ hown (host := "") (Or.inl (hw _ (List.mem_of_getElem? (i := 14) rfl))) Via.refl e30 F_rest' (g := (mkF m 59 #[.val (.ref o0), .val (.ref o1), .val (.int (1 : Int32)), .val (.int (0 : Int32))] [(.ref o1), (.long (((fun k => w (k + 1)) 0) &&& ((fun k => w' (k + 1)) 0)))])) rfl rfl (hb hby d5_59)
      have hj33 : 0 ≤ (0 : Int32).toInt ∧ (0 : Int32).toInt < (2 : Nat) := ⟨by decide, by decide⟩
      refine hD _ (T32.setTop (mkF m 65 #[.val (.ref o0), .val (.ref o1), .val (.int (1 : Int32)), .val (.int (0 : Int32))] [(.int (lcmpW (((fun k => w (k + 1)) 0) &&& ((fun k => w' (k + 1)) 0)) ((fun k => w' (k + 1)) 0)))])) (fun t k => ?_) ?_
      · show Steps p.tables e below (T24.setTop (mkF m 14 #[.val (.ref o0), .val (.ref o1), .unset, .unset] [(.int (lcmpW ((w 0) &&& (w' 0)) (w' 0)))])) t
        refine XS.ifNo X24.here hx rfl (hb hby d5_14) rfl ((if0 _ _).trans (teq ((lw_eq ((w 0) &&& (w' 0)) (w' 0)).mpr hc25)).2) ?_
        show Steps p.tables e below (T24.setTop (mkF m 17 #[.val (.ref o0), .val (.ref o1), .unset, .unset] [])) t
        refine XS.iconst X24.here hx rfl (hb hby d5_17) ?_
        show Steps p.tables e below (T24.setTop (mkF m 18 #[.val (.ref o0), .val (.ref o1), .unset, .unset] [(.int (1 : Int32))])) t
        refine XS.goto X24.here hx rfl (pc0 := 18) (pc' := 22) rfl (hb hby d5_18) (by decide) (by decide) ?_
        show Steps p.tables e below (T24.setTop (mkF m 22 #[.val (.ref o0), .val (.ref o1), .unset, .unset] [(.int (1 : Int32))])) t
        refine XS.istoreN X24.here hx rfl (hb hby d5_22) rfl (l' := #[.val (.ref o0), .val (.ref o1), .val (.int (1 : Int32)), .unset]) rfl ?_
        show Steps p.tables e below (T24.setTop (mkF m 23 #[.val (.ref o0), .val (.ref o1), .val (.int (1 : Int32)), .unset] [])) t
        refine XS.aloadN X24.here hx rfl (hb hby d5_23) rfl rfl ?_
        show Steps p.tables e below (T24.setTop (mkF m 24 #[.val (.ref o0), .val (.ref o1), .val (.int (1 : Int32)), .unset] [(.ref o0)])) t
        refine st26 _ ?_
        show Steps p.tables e below (T26.setTop (mkF m 27 #[.val (.ref o0), .val (.ref o1), .val (.int (1 : Int32)), .unset] [(.ref r)])) t
        refine XS.ifnullNo X26.here hx rfl (hb hby d5_27) rfl ?_
        show Steps p.tables e below (T26.setTop (mkF m 30 #[.val (.ref o0), .val (.ref o1), .val (.int (1 : Int32)), .unset] [])) t
        refine XS.iconst X26.here hx rfl (hb hby d5_30) ?_
        show Steps p.tables e below (T26.setTop (mkF m 31 #[.val (.ref o0), .val (.ref o1), .val (.int (1 : Int32)), .unset] [(.int (0 : Int32))])) t
        refine XS.istoreN X26.here hx rfl (hb hby d5_31) rfl (l' := #[.val (.ref o0), .val (.ref o1), .val (.int (1 : Int32)), .val (.int (0 : Int32))]) rfl ?_
        show Steps p.tables e below (T26.setTop (mkF m 32 #[.val (.ref o0), .val (.ref o1), .val (.int (1 : Int32)), .val (.int (0 : Int32))] [])) t
        refine XS.iloadN X26.here hx rfl (hb hby d5_32) rfl ?_
        show Steps p.tables e below (T26.setTop (mkF m 33 #[.val (.ref o0), .val (.ref o1), .val (.int (1 : Int32)), .val (.int (0 : Int32))] [(.int (1 : Int32))])) t
        refine XS.ifNo X26.here hx rfl (hb hby d5_33) rfl (by decide) ?_
        show Steps p.tables e below (T26.setTop (mkF m 36 #[.val (.ref o0), .val (.ref o1), .val (.int (1 : Int32)), .val (.int (0 : Int32))] [])) t
        refine XS.iloadN X26.here hx rfl (hb hby d5_36) rfl ?_
        show Steps p.tables e below (T26.setTop (mkF m 37 #[.val (.ref o0), .val (.ref o1), .val (.int (1 : Int32)), .val (.int (0 : Int32))] [(.int (0 : Int32))])) t
        refine XS.aloadN X26.here hx rfl (hb hby d5_37) rfl rfl ?_
        show Steps p.tables e below (T26.setTop (mkF m 38 #[.val (.ref o0), .val (.ref o1), .val (.int (1 : Int32)), .val (.int (0 : Int32))] [(.ref o0), (.int (0 : Int32))])) t
        refine st27 _ ?_
        show Steps p.tables e below (T27.setTop (mkF m 41 #[.val (.ref o0), .val (.ref o1), .val (.int (1 : Int32)), .val (.int (0 : Int32))] [(.ref r), (.int (0 : Int32))])) t
        refine Own.lenJ X27 hx hZ e27 A_r (g := (mkF m 41 #[.val (.ref o0), .val (.ref o1), .val (.int (1 : Int32)), .val (.int (0 : Int32))] [(.ref r), (.int (0 : Int32))])) rfl rfl (hb hby d5_41) _ ?_
        show Steps p.tables e below (T27.setTop (mkF m 42 #[.val (.ref o0), .val (.ref o1), .val (.int (1 : Int32)), .val (.int (0 : Int32))] [(.int (Int32.ofNat 2)), (.int (0 : Int32))])) t
        refine Own.nmI (by decide : (2 : Int32) = (Int32.ofNat 2)) ?_
        show Steps p.tables e below (T27.setTop (mkF m 42 #[.val (.ref o0), .val (.ref o1), .val (.int (1 : Int32)), .val (.int (0 : Int32))] [(.int (2 : Int32)), (.int (0 : Int32))])) t
        refine XS.icmpNo X27.here hx rfl (hb hby d5_42) rfl (by decide) ?_
        show Steps p.tables e below (T27.setTop (mkF m 45 #[.val (.ref o0), .val (.ref o1), .val (.int (1 : Int32)), .val (.int (0 : Int32))] [])) t
        refine XS.aloadN X27.here hx rfl (hb hby d5_45) rfl rfl ?_
        show Steps p.tables e below (T27.setTop (mkF m 46 #[.val (.ref o0), .val (.ref o1), .val (.int (1 : Int32)), .val (.int (0 : Int32))] [(.ref o0)])) t
        refine st28 _ ?_
        show Steps p.tables e below (T28.setTop (mkF m 49 #[.val (.ref o0), .val (.ref o1), .val (.int (1 : Int32)), .val (.int (0 : Int32))] [(.ref r)])) t
        refine XS.iloadN X28.here hx rfl (hb hby d5_49) rfl ?_
        show Steps p.tables e below (T28.setTop (mkF m 50 #[.val (.ref o0), .val (.ref o1), .val (.int (1 : Int32)), .val (.int (0 : Int32))] [(.int (0 : Int32)), (.ref r)])) t
        refine Own.ldJ X28 hx hZ e28 A_r hj29 (g := (mkF m 50 #[.val (.ref o0), .val (.ref o1), .val (.int (1 : Int32)), .val (.int (0 : Int32))] [(.int (0 : Int32)), (.ref r)])) rfl rfl (hb hby d5_50) _ ?_
        show Steps p.tables e below (T28.setTop (mkF m 51 #[.val (.ref o0), .val (.ref o1), .val (.int (1 : Int32)), .val (.int (0 : Int32))] [(.long ((fun k => w (k + 1)) 0))])) t
        refine XS.aloadN X28.here hx rfl (hb hby d5_51) rfl rfl ?_
        show Steps p.tables e below (T28.setTop (mkF m 52 #[.val (.ref o0), .val (.ref o1), .val (.int (1 : Int32)), .val (.int (0 : Int32))] [(.ref o1), (.long ((fun k => w (k + 1)) 0))])) t
        refine st30 _ ?_
        show Steps p.tables e below (T30.setTop (mkF m 55 #[.val (.ref o0), .val (.ref o1), .val (.int (1 : Int32)), .val (.int (0 : Int32))] [(.ref r'), (.long ((fun k => w (k + 1)) 0))])) t
        refine XS.iloadN X30.here hx rfl (hb hby d5_55) rfl ?_
        show Steps p.tables e below (T30.setTop (mkF m 56 #[.val (.ref o0), .val (.ref o1), .val (.int (1 : Int32)), .val (.int (0 : Int32))] [(.int (0 : Int32)), (.ref r'), (.long ((fun k => w (k + 1)) 0))])) t
        refine Own.ldJ X30 hx hZ e30 A_r' hj31 (g := (mkF m 56 #[.val (.ref o0), .val (.ref o1), .val (.int (1 : Int32)), .val (.int (0 : Int32))] [(.int (0 : Int32)), (.ref r'), (.long ((fun k => w (k + 1)) 0))])) rfl rfl (hb hby d5_56) _ ?_
        show Steps p.tables e below (T30.setTop (mkF m 57 #[.val (.ref o0), .val (.ref o1), .val (.int (1 : Int32)), .val (.int (0 : Int32))] [(.long ((fun k => w' (k + 1)) 0)), (.long ((fun k => w (k + 1)) 0))])) t
        refine XS.land X30.here hx rfl (hb hby d5_57) rfl ?_
        show Steps p.tables e below (T30.setTop (mkF m 58 #[.val (.ref o0), .val (.ref o1), .val (.int (1 : Int32)), .val (.int (0 : Int32))] [(.long (((fun k => w (k + 1)) 0) &&& ((fun k => w' (k + 1)) 0)))])) t
        refine XS.aloadN X30.here hx rfl (hb hby d5_58) rfl rfl ?_
        show Steps p.tables e below (T30.setTop (mkF m 59 #[.val (.ref o0), .val (.ref o1), .val (.int (1 : Int32)), .val (.int (0 : Int32))] [(.ref o1), (.long (((fun k => w (k + 1)) 0) &&& ((fun k => w' (k + 1)) 0)))])) t
        refine st32 _ ?_
        show Steps p.tables e below (T32.setTop (mkF m 62 #[.val (.ref o0), .val (.ref o1), .val (.int (1 : Int32)), .val (.int (0 : Int32))] [(.ref r'), (.long (((fun k => w (k + 1)) 0) &&& ((fun k => w' (k + 1)) 0)))])) t
        refine XS.iloadN X32.here hx rfl (hb hby d5_62) rfl ?_
        show Steps p.tables e below (T32.setTop (mkF m 63 #[.val (.ref o0), .val (.ref o1), .val (.int (1 : Int32)), .val (.int (0 : Int32))] [(.int (0 : Int32)), (.ref r'), (.long (((fun k => w (k + 1)) 0) &&& ((fun k => w' (k + 1)) 0)))])) t
        refine Own.ldJ X32 hx hZ e32 A_r' hj33 (g := (mkF m 63 #[.val (.ref o0), .val (.ref o1), .val (.int (1 : Int32)), .val (.int (0 : Int32))] [(.int (0 : Int32)), (.ref r'), (.long (((fun k => w (k + 1)) 0) &&& ((fun k => w' (k + 1)) 0)))])) rfl rfl (hb hby d5_63) _ ?_
        show Steps p.tables e below (T32.setTop (mkF m 64 #[.val (.ref o0), .val (.ref o1), .val (.int (1 : Int32)), .val (.int (0 : Int32))] [(.long ((fun k => w' (k + 1)) 0)), (.long (((fun k => w (k + 1)) 0) &&& ((fun k => w' (k + 1)) 0)))])) t
        refine XS.lcmp X32.here hx rfl (hb hby d5_64) rfl ?_
        show Steps p.tables e below (T32.setTop (mkF m 65 #[.val (.ref o0), .val (.ref o1), .val (.int (1 : Int32)), .val (.int (0 : Int32))] [(.int (lcmpW (((fun k => w (k + 1)) 0) &&& ((fun k => w' (k + 1)) 0)) ((fun k => w' (k + 1)) 0)))])) t
        exact k
      by_cases hc34 : (((fun k => w (k + 1)) 0) &&& ((fun k => w' (k + 1)) 0)) = ((fun k => w' (k + 1)) 0)
      · obtain ⟨T35, X35, e35, st35⟩ := getF X32 hx hZ hown (host := "") (Or.inl (hw _ (List.mem_of_getElem? (i := 14) rfl))) Via.refl e32 F_rest (g := (mkF m 38 #[.val (.ref o0), .val (.ref o1), .val (.int (1 : Int32)), .val (.int (1 : Int32))] [(.ref o0), (.int (1 : Int32))])) rfl rfl (hb hby d5_38)
        obtain ⟨T36, X36, e36, st36⟩ := getF X35 hx hZ hown (host := "") (Or.inl (hw _ (List.mem_of_getElem? (i := 14) rfl))) Via.refl e35 F_rest (g := (mkF m 46 #[.val (.ref o0), .val (.ref o1), .val (.int (1 : Int32)), .val (.int (1 : Int32))] [(.ref o0)])) rfl rfl (hb hby d5_46)
        have hj37 : 0 ≤ (1 : Int32).toInt ∧ (1 : Int32).toInt < (2 : Nat) := ⟨by decide, by decide⟩
        obtain ⟨T38, X38, e38, st38⟩ := getF X36 hx hZ hown (host := "") (Or.inl (hw _ (List.mem_of_getElem? (i := 14) rfl))) Via.refl e36 F_rest' (g := (mkF m 52 #[.val (.ref o0), .val (.ref o1), .val (.int (1 : Int32)), .val (.int (1 : Int32))] [(.ref o1), (.long ((fun k => w (k + 1)) 1))])) rfl rfl (hb hby d5_52)
        have hj39 : 0 ≤ (1 : Int32).toInt ∧ (1 : Int32).toInt < (2 : Nat) := ⟨by decide, by decide⟩
        obtain ⟨T40, X40, e40, st40⟩ := getF X38 hx hZ hown (host := "") (Or.inl (hw _ (List.mem_of_getElem? (i := 14) rfl))) Via.refl e38 F_rest' (g := (mkF m 59 #[.val (.ref o0), .val (.ref o1), .val (.int (1 : Int32)), .val (.int (1 : Int32))] [(.ref o1), (.long (((fun k => w (k + 1)) 1) &&& ((fun k => w' (k + 1)) 1)))])) rfl rfl (hb hby d5_59)
        have hj41 : 0 ≤ (1 : Int32).toInt ∧ (1 : Int32).toInt < (2 : Nat) := ⟨by decide, by decide⟩
        refine hD _ (T40.setTop (mkF m 65 #[.val (.ref o0), .val (.ref o1), .val (.int (1 : Int32)), .val (.int (1 : Int32))] [(.int (lcmpW (((fun k => w (k + 1)) 1) &&& ((fun k => w' (k + 1)) 1)) ((fun k => w' (k + 1)) 1)))])) (fun t k => ?_) ?_
        · show Steps p.tables e below (T32.setTop (mkF m 65 #[.val (.ref o0), .val (.ref o1), .val (.int (1 : Int32)), .val (.int (0 : Int32))] [(.int (lcmpW (((fun k => w (k + 1)) 0) &&& ((fun k => w' (k + 1)) 0)) ((fun k => w' (k + 1)) 0)))])) t
          refine XS.ifNo X32.here hx rfl (hb hby d5_65) rfl ((if0 _ _).trans (teq ((lw_eq (((fun k => w (k + 1)) 0) &&& ((fun k => w' (k + 1)) 0)) ((fun k => w' (k + 1)) 0)).mpr hc34)).2) ?_
          show Steps p.tables e below (T32.setTop (mkF m 68 #[.val (.ref o0), .val (.ref o1), .val (.int (1 : Int32)), .val (.int (0 : Int32))] [])) t
          refine XS.iconst X32.here hx rfl (hb hby d5_68) ?_
          show Steps p.tables e below (T32.setTop (mkF m 69 #[.val (.ref o0), .val (.ref o1), .val (.int (1 : Int32)), .val (.int (0 : Int32))] [(.int (1 : Int32))])) t
          refine XS.goto X32.here hx rfl (pc0 := 69) (pc' := 73) rfl (hb hby d5_69) (by decide) (by decide) ?_
          show Steps p.tables e below (T32.setTop (mkF m 73 #[.val (.ref o0), .val (.ref o1), .val (.int (1 : Int32)), .val (.int (0 : Int32))] [(.int (1 : Int32))])) t
          refine XS.istoreN X32.here hx rfl (hb hby d5_73) rfl (l' := #[.val (.ref o0), .val (.ref o1), .val (.int (1 : Int32)), .val (.int (0 : Int32))]) rfl ?_
          show Steps p.tables e below (T32.setTop (mkF m 74 #[.val (.ref o0), .val (.ref o1), .val (.int (1 : Int32)), .val (.int (0 : Int32))] [])) t
          refine XS.iinc X32.here hx rfl (hb hby d5_74) rfl (l' := #[.val (.ref o0), .val (.ref o1), .val (.int (1 : Int32)), .val (.int ((0 : Int32) + (1 : Int32)))]) rfl ?_
          show Steps p.tables e below (T32.setTop (mkF m 77 #[.val (.ref o0), .val (.ref o1), .val (.int (1 : Int32)), .val (.int ((0 : Int32) + (1 : Int32)))] [])) t
          rw [show ((0 : Int32) + (1 : Int32)) = (1 : Int32) from by decide]
          show Steps p.tables e below (T32.setTop (mkF m 77 #[.val (.ref o0), .val (.ref o1), .val (.int (1 : Int32)), .val (.int (1 : Int32))] [])) t
          refine XS.goto X32.here hx rfl (pc0 := 77) (pc' := 32) rfl (hb hby d5_77) (by decide) (by decide) ?_
          show Steps p.tables e below (T32.setTop (mkF m 32 #[.val (.ref o0), .val (.ref o1), .val (.int (1 : Int32)), .val (.int (1 : Int32))] [])) t
          refine XS.iloadN X32.here hx rfl (hb hby d5_32) rfl ?_
          show Steps p.tables e below (T32.setTop (mkF m 33 #[.val (.ref o0), .val (.ref o1), .val (.int (1 : Int32)), .val (.int (1 : Int32))] [(.int (1 : Int32))])) t
          refine XS.ifNo X32.here hx rfl (hb hby d5_33) rfl (by decide) ?_
          show Steps p.tables e below (T32.setTop (mkF m 36 #[.val (.ref o0), .val (.ref o1), .val (.int (1 : Int32)), .val (.int (1 : Int32))] [])) t
          refine XS.iloadN X32.here hx rfl (hb hby d5_36) rfl ?_
          show Steps p.tables e below (T32.setTop (mkF m 37 #[.val (.ref o0), .val (.ref o1), .val (.int (1 : Int32)), .val (.int (1 : Int32))] [(.int (1 : Int32))])) t
          refine XS.aloadN X32.here hx rfl (hb hby d5_37) rfl rfl ?_
          show Steps p.tables e below (T32.setTop (mkF m 38 #[.val (.ref o0), .val (.ref o1), .val (.int (1 : Int32)), .val (.int (1 : Int32))] [(.ref o0), (.int (1 : Int32))])) t
          refine st35 _ ?_
          show Steps p.tables e below (T35.setTop (mkF m 41 #[.val (.ref o0), .val (.ref o1), .val (.int (1 : Int32)), .val (.int (1 : Int32))] [(.ref r), (.int (1 : Int32))])) t
          refine Own.lenJ X35 hx hZ e35 A_r (g := (mkF m 41 #[.val (.ref o0), .val (.ref o1), .val (.int (1 : Int32)), .val (.int (1 : Int32))] [(.ref r), (.int (1 : Int32))])) rfl rfl (hb hby d5_41) _ ?_
          show Steps p.tables e below (T35.setTop (mkF m 42 #[.val (.ref o0), .val (.ref o1), .val (.int (1 : Int32)), .val (.int (1 : Int32))] [(.int (Int32.ofNat 2)), (.int (1 : Int32))])) t
          refine Own.nmI (by decide : (2 : Int32) = (Int32.ofNat 2)) ?_
          show Steps p.tables e below (T35.setTop (mkF m 42 #[.val (.ref o0), .val (.ref o1), .val (.int (1 : Int32)), .val (.int (1 : Int32))] [(.int (2 : Int32)), (.int (1 : Int32))])) t
          refine XS.icmpNo X35.here hx rfl (hb hby d5_42) rfl (by decide) ?_
          show Steps p.tables e below (T35.setTop (mkF m 45 #[.val (.ref o0), .val (.ref o1), .val (.int (1 : Int32)), .val (.int (1 : Int32))] [])) t
          refine XS.aloadN X35.here hx rfl (hb hby d5_45) rfl rfl ?_
          show Steps p.tables e below (T35.setTop (mkF m 46 #[.val (.ref o0), .val (.ref o1), .val (.int (1 : Int32)), .val (.int (1 : Int32))] [(.ref o0)])) t
          refine st36 _ ?_
          show Steps p.tables e below (T36.setTop (mkF m 49 #[.val (.ref o0), .val (.ref o1), .val (.int (1 : Int32)), .val (.int (1 : Int32))] [(.ref r)])) t
          refine XS.iloadN X36.here hx rfl (hb hby d5_49) rfl ?_
          show Steps p.tables e below (T36.setTop (mkF m 50 #[.val (.ref o0), .val (.ref o1), .val (.int (1 : Int32)), .val (.int (1 : Int32))] [(.int (1 : Int32)), (.ref r)])) t
          refine Own.ldJ X36 hx hZ e36 A_r hj37 (g := (mkF m 50 #[.val (.ref o0), .val (.ref o1), .val (.int (1 : Int32)), .val (.int (1 : Int32))] [(.int (1 : Int32)), (.ref r)])) rfl rfl (hb hby d5_50) _ ?_
          show Steps p.tables e below (T36.setTop (mkF m 51 #[.val (.ref o0), .val (.ref o1), .val (.int (1 : Int32)), .val (.int (1 : Int32))] [(.long ((fun k => w (k + 1)) 1))])) t
          refine XS.aloadN X36.here hx rfl (hb hby d5_51) rfl rfl ?_
          show Steps p.tables e below (T36.setTop (mkF m 52 #[.val (.ref o0), .val (.ref o1), .val (.int (1 : Int32)), .val (.int (1 : Int32))] [(.ref o1), (.long ((fun k => w (k + 1)) 1))])) t
          refine st38 _ ?_
          show Steps p.tables e below (T38.setTop (mkF m 55 #[.val (.ref o0), .val (.ref o1), .val (.int (1 : Int32)), .val (.int (1 : Int32))] [(.ref r'), (.long ((fun k => w (k + 1)) 1))])) t
          refine XS.iloadN X38.here hx rfl (hb hby d5_55) rfl ?_
          show Steps p.tables e below (T38.setTop (mkF m 56 #[.val (.ref o0), .val (.ref o1), .val (.int (1 : Int32)), .val (.int (1 : Int32))] [(.int (1 : Int32)), (.ref r'), (.long ((fun k => w (k + 1)) 1))])) t
          refine Own.ldJ X38 hx hZ e38 A_r' hj39 (g := (mkF m 56 #[.val (.ref o0), .val (.ref o1), .val (.int (1 : Int32)), .val (.int (1 : Int32))] [(.int (1 : Int32)), (.ref r'), (.long ((fun k => w (k + 1)) 1))])) rfl rfl (hb hby d5_56) _ ?_
          show Steps p.tables e below (T38.setTop (mkF m 57 #[.val (.ref o0), .val (.ref o1), .val (.int (1 : Int32)), .val (.int (1 : Int32))] [(.long ((fun k => w' (k + 1)) 1)), (.long ((fun k => w (k + 1)) 1))])) t
          refine XS.land X38.here hx rfl (hb hby d5_57) rfl ?_
          show Steps p.tables e below (T38.setTop (mkF m 58 #[.val (.ref o0), .val (.ref o1), .val (.int (1 : Int32)), .val (.int (1 : Int32))] [(.long (((fun k => w (k + 1)) 1) &&& ((fun k => w' (k + 1)) 1)))])) t
          refine XS.aloadN X38.here hx rfl (hb hby d5_58) rfl rfl ?_
          show Steps p.tables e below (T38.setTop (mkF m 59 #[.val (.ref o0), .val (.ref o1), .val (.int (1 : Int32)), .val (.int (1 : Int32))] [(.ref o1), (.long (((fun k => w (k + 1)) 1) &&& ((fun k => w' (k + 1)) 1)))])) t
          refine st40 _ ?_
          show Steps p.tables e below (T40.setTop (mkF m 62 #[.val (.ref o0), .val (.ref o1), .val (.int (1 : Int32)), .val (.int (1 : Int32))] [(.ref r'), (.long (((fun k => w (k + 1)) 1) &&& ((fun k => w' (k + 1)) 1)))])) t
          refine XS.iloadN X40.here hx rfl (hb hby d5_62) rfl ?_
          show Steps p.tables e below (T40.setTop (mkF m 63 #[.val (.ref o0), .val (.ref o1), .val (.int (1 : Int32)), .val (.int (1 : Int32))] [(.int (1 : Int32)), (.ref r'), (.long (((fun k => w (k + 1)) 1) &&& ((fun k => w' (k + 1)) 1)))])) t
          refine Own.ldJ X40 hx hZ e40 A_r' hj41 (g := (mkF m 63 #[.val (.ref o0), .val (.ref o1), .val (.int (1 : Int32)), .val (.int (1 : Int32))] [(.int (1 : Int32)), (.ref r'), (.long (((fun k => w (k + 1)) 1) &&& ((fun k => w' (k + 1)) 1)))])) rfl rfl (hb hby d5_63) _ ?_
          show Steps p.tables e below (T40.setTop (mkF m 64 #[.val (.ref o0), .val (.ref o1), .val (.int (1 : Int32)), .val (.int (1 : Int32))] [(.long ((fun k => w' (k + 1)) 1)), (.long (((fun k => w (k + 1)) 1) &&& ((fun k => w' (k + 1)) 1)))])) t
          refine XS.lcmp X40.here hx rfl (hb hby d5_64) rfl ?_
          show Steps p.tables e below (T40.setTop (mkF m 65 #[.val (.ref o0), .val (.ref o1), .val (.int (1 : Int32)), .val (.int (1 : Int32))] [(.int (lcmpW (((fun k => w (k + 1)) 1) &&& ((fun k => w' (k + 1)) 1)) ((fun k => w' (k + 1)) 1)))])) t
          exact k
        by_cases hc42 : (((fun k => w (k + 1)) 1) &&& ((fun k => w' (k + 1)) 1)) = ((fun k => w' (k + 1)) 1)
        · obtain ⟨T43, X43, e43, st43⟩ := getF X40 hx hZ hown (host := "") (Or.inl (hw _ (List.mem_of_getElem? (i := 14) rfl))) Via.refl e40 F_rest (g := (mkF m 38 #[.val (.ref o0), .val (.ref o1), .val (.int (1 : Int32)), .val (.int (2 : Int32))] [(.ref o0), (.int (2 : Int32))])) rfl rfl (hb hby d5_38)
          refine hD _ (T43.setTop (mkF m 81 #[.val (.ref o0), .val (.ref o1), .val (.int (1 : Int32)), .val (.int (2 : Int32))] [(.int (1 : Int32))])) (fun t k => ?_) ?_
          · show Steps p.tables e below (T40.setTop (mkF m 65 #[.val (.ref o0), .val (.ref o1), .val (.int (1 : Int32)), .val (.int (1 : Int32))] [(.int (lcmpW (((fun k => w (k + 1)) 1) &&& ((fun k => w' (k + 1)) 1)) ((fun k => w' (k + 1)) 1)))])) t
            refine XS.ifNo X40.here hx rfl (hb hby d5_65) rfl ((if0 _ _).trans (teq ((lw_eq (((fun k => w (k + 1)) 1) &&& ((fun k => w' (k + 1)) 1)) ((fun k => w' (k + 1)) 1)).mpr hc42)).2) ?_
            show Steps p.tables e below (T40.setTop (mkF m 68 #[.val (.ref o0), .val (.ref o1), .val (.int (1 : Int32)), .val (.int (1 : Int32))] [])) t
            refine XS.iconst X40.here hx rfl (hb hby d5_68) ?_
            show Steps p.tables e below (T40.setTop (mkF m 69 #[.val (.ref o0), .val (.ref o1), .val (.int (1 : Int32)), .val (.int (1 : Int32))] [(.int (1 : Int32))])) t
            refine XS.goto X40.here hx rfl (pc0 := 69) (pc' := 73) rfl (hb hby d5_69) (by decide) (by decide) ?_
            show Steps p.tables e below (T40.setTop (mkF m 73 #[.val (.ref o0), .val (.ref o1), .val (.int (1 : Int32)), .val (.int (1 : Int32))] [(.int (1 : Int32))])) t
            refine XS.istoreN X40.here hx rfl (hb hby d5_73) rfl (l' := #[.val (.ref o0), .val (.ref o1), .val (.int (1 : Int32)), .val (.int (1 : Int32))]) rfl ?_
            show Steps p.tables e below (T40.setTop (mkF m 74 #[.val (.ref o0), .val (.ref o1), .val (.int (1 : Int32)), .val (.int (1 : Int32))] [])) t
            refine XS.iinc X40.here hx rfl (hb hby d5_74) rfl (l' := #[.val (.ref o0), .val (.ref o1), .val (.int (1 : Int32)), .val (.int ((1 : Int32) + (1 : Int32)))]) rfl ?_
            show Steps p.tables e below (T40.setTop (mkF m 77 #[.val (.ref o0), .val (.ref o1), .val (.int (1 : Int32)), .val (.int ((1 : Int32) + (1 : Int32)))] [])) t
            rw [show ((1 : Int32) + (1 : Int32)) = (2 : Int32) from by decide]
            show Steps p.tables e below (T40.setTop (mkF m 77 #[.val (.ref o0), .val (.ref o1), .val (.int (1 : Int32)), .val (.int (2 : Int32))] [])) t
            refine XS.goto X40.here hx rfl (pc0 := 77) (pc' := 32) rfl (hb hby d5_77) (by decide) (by decide) ?_
            show Steps p.tables e below (T40.setTop (mkF m 32 #[.val (.ref o0), .val (.ref o1), .val (.int (1 : Int32)), .val (.int (2 : Int32))] [])) t
            refine XS.iloadN X40.here hx rfl (hb hby d5_32) rfl ?_
            show Steps p.tables e below (T40.setTop (mkF m 33 #[.val (.ref o0), .val (.ref o1), .val (.int (1 : Int32)), .val (.int (2 : Int32))] [(.int (1 : Int32))])) t
            refine XS.ifNo X40.here hx rfl (hb hby d5_33) rfl (by decide) ?_
            show Steps p.tables e below (T40.setTop (mkF m 36 #[.val (.ref o0), .val (.ref o1), .val (.int (1 : Int32)), .val (.int (2 : Int32))] [])) t
            refine XS.iloadN X40.here hx rfl (hb hby d5_36) rfl ?_
            show Steps p.tables e below (T40.setTop (mkF m 37 #[.val (.ref o0), .val (.ref o1), .val (.int (1 : Int32)), .val (.int (2 : Int32))] [(.int (2 : Int32))])) t
            refine XS.aloadN X40.here hx rfl (hb hby d5_37) rfl rfl ?_
            show Steps p.tables e below (T40.setTop (mkF m 38 #[.val (.ref o0), .val (.ref o1), .val (.int (1 : Int32)), .val (.int (2 : Int32))] [(.ref o0), (.int (2 : Int32))])) t
            refine st43 _ ?_
            show Steps p.tables e below (T43.setTop (mkF m 41 #[.val (.ref o0), .val (.ref o1), .val (.int (1 : Int32)), .val (.int (2 : Int32))] [(.ref r), (.int (2 : Int32))])) t
            refine Own.lenJ X43 hx hZ e43 A_r (g := (mkF m 41 #[.val (.ref o0), .val (.ref o1), .val (.int (1 : Int32)), .val (.int (2 : Int32))] [(.ref r), (.int (2 : Int32))])) rfl rfl (hb hby d5_41) _ ?_
            show Steps p.tables e below (T43.setTop (mkF m 42 #[.val (.ref o0), .val (.ref o1), .val (.int (1 : Int32)), .val (.int (2 : Int32))] [(.int (Int32.ofNat 2)), (.int (2 : Int32))])) t
            refine Own.nmI (by decide : (2 : Int32) = (Int32.ofNat 2)) ?_
            show Steps p.tables e below (T43.setTop (mkF m 42 #[.val (.ref o0), .val (.ref o1), .val (.int (1 : Int32)), .val (.int (2 : Int32))] [(.int (2 : Int32)), (.int (2 : Int32))])) t
            refine XS.icmpYes X43.here hx rfl (pc0 := 42) (pc' := 80) rfl (hb hby d5_42) rfl (by decide) (by decide) (by decide) ?_
            show Steps p.tables e below (T43.setTop (mkF m 80 #[.val (.ref o0), .val (.ref o1), .val (.int (1 : Int32)), .val (.int (2 : Int32))] [])) t
            refine XS.iloadN X43.here hx rfl (hb hby d5_80) rfl ?_
            show Steps p.tables e below (T43.setTop (mkF m 81 #[.val (.ref o0), .val (.ref o1), .val (.int (1 : Int32)), .val (.int (2 : Int32))] [(.int (1 : Int32))])) t
            exact k
          exact Own.retN hR X43 hx (t := .boolean) hret (by simp) (hb hby d5_81) (by decide) (by decide) (by decide) ⟨by simp [own_sub, Own.b2i, hc25, hc34, hc42], N0, e43⟩
        · refine hD _ (T40.setTop (mkF m 81 #[.val (.ref o0), .val (.ref o1), .val (.int (0 : Int32)), .val (.int (2 : Int32))] [(.int (0 : Int32))])) (fun t k => ?_) ?_
          · show Steps p.tables e below (T40.setTop (mkF m 65 #[.val (.ref o0), .val (.ref o1), .val (.int (1 : Int32)), .val (.int (1 : Int32))] [(.int (lcmpW (((fun k => w (k + 1)) 1) &&& ((fun k => w' (k + 1)) 1)) ((fun k => w' (k + 1)) 1)))])) t
            refine XS.ifYes X40.here hx rfl (pc0 := 65) (pc' := 72) rfl (hb hby d5_65) rfl ((if0 _ _).trans (feq (fun q => hc42 ((lw_eq (((fun k => w (k + 1)) 1) &&& ((fun k => w' (k + 1)) 1)) ((fun k => w' (k + 1)) 1)).mp q))).2) (by decide) (by decide) ?_
            show Steps p.tables e below (T40.setTop (mkF m 72 #[.val (.ref o0), .val (.ref o1), .val (.int (1 : Int32)), .val (.int (1 : Int32))] [])) t
            refine XS.iconst X40.here hx rfl (hb hby d5_72) ?_
            show Steps p.tables e below (T40.setTop (mkF m 73 #[.val (.ref o0), .val (.ref o1), .val (.int (1 : Int32)), .val (.int (1 : Int32))] [(.int (0 : Int32))])) t
            refine XS.istoreN X40.here hx rfl (hb hby d5_73) rfl (l' := #[.val (.ref o0), .val (.ref o1), .val (.int (0 : Int32)), .val (.int (1 : Int32))]) rfl ?_
            show Steps p.tables e below (T40.setTop (mkF m 74 #[.val (.ref o0), .val (.ref o1), .val (.int (0 : Int32)), .val (.int (1 : Int32))] [])) t
            refine XS.iinc X40.here hx rfl (hb hby d5_74) rfl (l' := #[.val (.ref o0), .val (.ref o1), .val (.int (0 : Int32)), .val (.int ((1 : Int32) + (1 : Int32)))]) rfl ?_
            show Steps p.tables e below (T40.setTop (mkF m 77 #[.val (.ref o0), .val (.ref o1), .val (.int (0 : Int32)), .val (.int ((1 : Int32) + (1 : Int32)))] [])) t
            rw [show ((1 : Int32) + (1 : Int32)) = (2 : Int32) from by decide]
            show Steps p.tables e below (T40.setTop (mkF m 77 #[.val (.ref o0), .val (.ref o1), .val (.int (0 : Int32)), .val (.int (2 : Int32))] [])) t
            refine XS.goto X40.here hx rfl (pc0 := 77) (pc' := 32) rfl (hb hby d5_77) (by decide) (by decide) ?_
            show Steps p.tables e below (T40.setTop (mkF m 32 #[.val (.ref o0), .val (.ref o1), .val (.int (0 : Int32)), .val (.int (2 : Int32))] [])) t
            refine XS.iloadN X40.here hx rfl (hb hby d5_32) rfl ?_
            show Steps p.tables e below (T40.setTop (mkF m 33 #[.val (.ref o0), .val (.ref o1), .val (.int (0 : Int32)), .val (.int (2 : Int32))] [(.int (0 : Int32))])) t
            refine XS.ifYes X40.here hx rfl (pc0 := 33) (pc' := 80) rfl (hb hby d5_33) rfl (by decide) (by decide) (by decide) ?_
            show Steps p.tables e below (T40.setTop (mkF m 80 #[.val (.ref o0), .val (.ref o1), .val (.int (0 : Int32)), .val (.int (2 : Int32))] [])) t
            refine XS.iloadN X40.here hx rfl (hb hby d5_80) rfl ?_
            show Steps p.tables e below (T40.setTop (mkF m 81 #[.val (.ref o0), .val (.ref o1), .val (.int (0 : Int32)), .val (.int (2 : Int32))] [(.int (0 : Int32))])) t
            exact k
          exact Own.retN hR X40 hx (t := .boolean) hret (by simp) (hb hby d5_81) (by decide) (by decide) (by decide) ⟨by simp [own_sub, Own.b2i, hc25, hc34, hc42], N0, e40⟩
      · refine hD _ (T32.setTop (mkF m 81 #[.val (.ref o0), .val (.ref o1), .val (.int (0 : Int32)), .val (.int (1 : Int32))] [(.int (0 : Int32))])) (fun t k => ?_) ?_
        · show Steps p.tables e below (T32.setTop (mkF m 65 #[.val (.ref o0), .val (.ref o1), .val (.int (1 : Int32)), .val (.int (0 : Int32))] [(.int (lcmpW (((fun k => w (k + 1)) 0) &&& ((fun k => w' (k + 1)) 0)) ((fun k => w' (k + 1)) 0)))])) t
          refine XS.ifYes X32.here hx rfl (pc0 := 65) (pc' := 72) rfl (hb hby d5_65) rfl ((if0 _ _).trans (feq (fun q => hc34 ((lw_eq (((fun k => w (k + 1)) 0) &&& ((fun k => w' (k + 1)) 0)) ((fun k => w' (k + 1)) 0)).mp q))).2) (by decide) (by decide) ?_
          show Steps p.tables e below (T32.setTop (mkF m 72 #[.val (.ref o0), .val (.ref o1), .val (.int (1 : Int32)), .val (.int (0 : Int32))] [])) t
          refine XS.iconst X32.here hx rfl (hb hby d5_72) ?_
          show Steps p.tables e below (T32.setTop (mkF m 73 #[.val (.ref o0), .val (.ref o1), .val (.int (1 : Int32)), .val (.int (0 : Int32))] [(.int (0 : Int32))])) t
          refine XS.istoreN X32.here hx rfl (hb hby d5_73) rfl (l' := #[.val (.ref o0), .val (.ref o1), .val (.int (0 : Int32)), .val (.int (0 : Int32))]) rfl ?_
          show Steps p.tables e below (T32.setTop (mkF m 74 #[.val (.ref o0), .val (.ref o1), .val (.int (0 : Int32)), .val (.int (0 : Int32))] [])) t
          refine XS.iinc X32.here hx rfl (hb hby d5_74) rfl (l' := #[.val (.ref o0), .val (.ref o1), .val (.int (0 : Int32)), .val (.int ((0 : Int32) + (1 : Int32)))]) rfl ?_
          show Steps p.tables e below (T32.setTop (mkF m 77 #[.val (.ref o0), .val (.ref o1), .val (.int (0 : Int32)), .val (.int ((0 : Int32) + (1 : Int32)))] [])) t
          rw [show ((0 : Int32) + (1 : Int32)) = (1 : Int32) from by decide]
          show Steps p.tables e below (T32.setTop (mkF m 77 #[.val (.ref o0), .val (.ref o1), .val (.int (0 : Int32)), .val (.int (1 : Int32))] [])) t
          refine XS.goto X32.here hx rfl (pc0 := 77) (pc' := 32) rfl (hb hby d5_77) (by decide) (by decide) ?_
          show Steps p.tables e below (T32.setTop (mkF m 32 #[.val (.ref o0), .val (.ref o1), .val (.int (0 : Int32)), .val (.int (1 : Int32))] [])) t
          refine XS.iloadN X32.here hx rfl (hb hby d5_32) rfl ?_
          show Steps p.tables e below (T32.setTop (mkF m 33 #[.val (.ref o0), .val (.ref o1), .val (.int (0 : Int32)), .val (.int (1 : Int32))] [(.int (0 : Int32))])) t
          refine XS.ifYes X32.here hx rfl (pc0 := 33) (pc' := 80) rfl (hb hby d5_33) rfl (by decide) (by decide) (by decide) ?_
          show Steps p.tables e below (T32.setTop (mkF m 80 #[.val (.ref o0), .val (.ref o1), .val (.int (0 : Int32)), .val (.int (1 : Int32))] [])) t
          refine XS.iloadN X32.here hx rfl (hb hby d5_80) rfl ?_
          show Steps p.tables e below (T32.setTop (mkF m 81 #[.val (.ref o0), .val (.ref o1), .val (.int (0 : Int32)), .val (.int (1 : Int32))] [(.int (0 : Int32))])) t
          exact k
        exact Own.retN hR X32 hx (t := .boolean) hret (by simp) (hb hby d5_81) (by decide) (by decide) (by decide) ⟨by simp [own_sub, Own.b2i, hc25, hc34], N0, e32⟩
    · obtain ⟨T44, X44, e44, st44⟩ := getF X24 hx hZ hown (host := "") (Or.inl (hw _ (List.mem_of_getElem? (i := 14) rfl))) Via.refl e24 F_rest (g := (mkF m 24 #[.val (.ref o0), .val (.ref o1), .val (.int (0 : Int32)), .unset] [(.ref o0)])) rfl rfl (hb hby d5_24)
      refine hD _ (T44.setTop (mkF m 81 #[.val (.ref o0), .val (.ref o1), .val (.int (0 : Int32)), .val (.int (0 : Int32))] [(.int (0 : Int32))])) (fun t k => ?_) ?_
      · show Steps p.tables e below (T24.setTop (mkF m 14 #[.val (.ref o0), .val (.ref o1), .unset, .unset] [(.int (lcmpW ((w 0) &&& (w' 0)) (w' 0)))])) t
        refine XS.ifYes X24.here hx rfl (pc0 := 14) (pc' := 21) rfl (hb hby d5_14) rfl ((if0 _ _).trans (feq (fun q => hc25 ((lw_eq ((w 0) &&& (w' 0)) (w' 0)).mp q))).2) (by decide) (by decide) ?_
        show Steps p.tables e below (T24.setTop (mkF m 21 #[.val (.ref o0), .val (.ref o1), .unset, .unset] [])) t
        refine XS.iconst X24.here hx rfl (hb hby d5_21) ?_
        show Steps p.tables e below (T24.setTop (mkF m 22 #[.val (.ref o0), .val (.ref o1), .unset, .unset] [(.int (0 : Int32))])) t
        refine XS.istoreN X24.here hx rfl (hb hby d5_22) rfl (l' := #[.val (.ref o0), .val (.ref o1), .val (.int (0 : Int32)), .unset]) rfl ?_
        show Steps p.tables e below (T24.setTop (mkF m 23 #[.val (.ref o0), .val (.ref o1), .val (.int (0 : Int32)), .unset] [])) t
        refine XS.aloadN X24.here hx rfl (hb hby d5_23) rfl rfl ?_
        show Steps p.tables e below (T24.setTop (mkF m 24 #[.val (.ref o0), .val (.ref o1), .val (.int (0 : Int32)), .unset] [(.ref o0)])) t
        refine st44 _ ?_
        show Steps p.tables e below (T44.setTop (mkF m 27 #[.val (.ref o0), .val (.ref o1), .val (.int (0 : Int32)), .unset] [(.ref r)])) t
        refine XS.ifnullNo X44.here hx rfl (hb hby d5_27) rfl ?_
        show Steps p.tables e below (T44.setTop (mkF m 30 #[.val (.ref o0), .val (.ref o1), .val (.int (0 : Int32)), .unset] [])) t
        refine XS.iconst X44.here hx rfl (hb hby d5_30) ?_
        show Steps p.tables e below (T44.setTop (mkF m 31 #[.val (.ref o0), .val (.ref o1), .val (.int (0 : Int32)), .unset] [(.int (0 : Int32))])) t
        refine XS.istoreN X44.here hx rfl (hb hby d5_31) rfl (l' := #[.val (.ref o0), .val (.ref o1), .val (.int (0 : Int32)), .val (.int (0 : Int32))]) rfl ?_
        show Steps p.tables e below (T44.setTop (mkF m 32 #[.val (.ref o0), .val (.ref o1), .val (.int (0 : Int32)), .val (.int (0 : Int32))] [])) t
        refine XS.iloadN X44.here hx rfl (hb hby d5_32) rfl ?_
        show Steps p.tables e below (T44.setTop (mkF m 33 #[.val (.ref o0), .val (.ref o1), .val (.int (0 : Int32)), .val (.int (0 : Int32))] [(.int (0 : Int32))])) t
        refine XS.ifYes X44.here hx rfl (pc0 := 33) (pc' := 80) rfl (hb hby d5_33) rfl (by decide) (by decide) (by decide) ?_
        show Steps p.tables e below (T44.setTop (mkF m 80 #[.val (.ref o0), .val (.ref o1), .val (.int (0 : Int32)), .val (.int (0 : Int32))] [])) t
        refine XS.iloadN X44.here hx rfl (hb hby d5_80) rfl ?_
        show Steps p.tables e below (T44.setTop (mkF m 81 #[.val (.ref o0), .val (.ref o1), .val (.int (0 : Int32)), .val (.int (0 : Int32))] [(.int (0 : Int32))])) t
        exact k
      exact Own.retN hR X44 hx (t := .boolean) hret (by simp) (hb hby d5_81) (by decide) (by decide) (by decide) ⟨by simp [own_sub, Own.b2i, hc25], N0, e44⟩
  · obtain ⟨F_rest', A_r'⟩ := own_arr F'
    obtain ⟨T45, X45, e45, st45⟩ := getF X0 hx hZ hown (host := "") (Or.inl (hw _ (List.mem_of_getElem? (i := 21) rfl))) Via.refl e0 F_first (g := (mkF m 1 #[.val (.ref o0), .val (.ref o1), .unset, .unset] [(.ref o0)])) rfl rfl (hb hby d5_1)
    obtain ⟨T46, X46, e46, st46⟩ := getF X45 hx hZ hown (host := "") (Or.inl (hw _ (List.mem_of_getElem? (i := 21) rfl))) Via.refl e45 F_first' (g := (mkF m 5 #[.val (.ref o0), .val (.ref o1), .unset, .unset] [(.ref o1), (.long (w 0))])) rfl rfl (hb hby d5_5)
    obtain ⟨T47, X47, e47, st47⟩ := getF X46 hx hZ hown (host := "") (Or.inl (hw _ (List.mem_of_getElem? (i := 21) rfl))) Via.refl e46 F_first' (g := (mkF m 10 #[.val (.ref o0), .val (.ref o1), .unset, .unset] [(.ref o1), (.long ((w 0) &&& (w' 0)))])) rfl rfl (hb hby d5_10)
    refine hD _ (T47.setTop (mkF m 14 #[.val (.ref o0), .val (.ref o1), .unset, .unset] [(.int (lcmpW ((w 0) &&& (w' 0)) (w' 0)))])) (fun t k => ?_) ?_
    · show Steps p.tables e below (s₁.setTop (mkF m 0 #[.val (.ref o0), .val (.ref o1), .unset, .unset] [])) t
      refine XS.aloadN X0.here hx rfl (hb hby d5_0) rfl rfl ?_
      show Steps p.tables e below (s₁.setTop (mkF m 1 #[.val (.ref o0), .val (.ref o1), .unset, .unset] [(.ref o0)])) t
      refine st45 _ ?_
      show Steps p.tables e below (T45.setTop (mkF m 4 #[.val (.ref o0), .val (.ref o1), .unset, .unset] [(.long (w 0))])) t
      refine XS.aloadN X45.here hx rfl (hb hby d5_4) rfl rfl ?_
      show Steps p.tables e below (T45.setTop (mkF m 5 #[.val (.ref o0), .val (.ref o1), .unset, .unset] [(.ref o1), (.long (w 0))])) t
      refine st46 _ ?_
      show Steps p.tables e below (T46.setTop (mkF m 8 #[.val (.ref o0), .val (.ref o1), .unset, .unset] [(.long (w' 0)), (.long (w 0))])) t
      refine XS.land X46.here hx rfl (hb hby d5_8) rfl ?_
      show Steps p.tables e below (T46.setTop (mkF m 9 #[.val (.ref o0), .val (.ref o1), .unset, .unset] [(.long ((w 0) &&& (w' 0)))])) t
      refine XS.aloadN X46.here hx rfl (hb hby d5_9) rfl rfl ?_
      show Steps p.tables e below (T46.setTop (mkF m 10 #[.val (.ref o0), .val (.ref o1), .unset, .unset] [(.ref o1), (.long ((w 0) &&& (w' 0)))])) t
      refine st47 _ ?_
      show Steps p.tables e below (T47.setTop (mkF m 13 #[.val (.ref o0), .val (.ref o1), .unset, .unset] [(.long (w' 0)), (.long ((w 0) &&& (w' 0)))])) t
      refine XS.lcmp X47.here hx rfl (hb hby d5_13) rfl ?_
      show Steps p.tables e below (T47.setTop (mkF m 14 #[.val (.ref o0), .val (.ref o1), .unset, .unset] [(.int (lcmpW ((w 0) &&& (w' 0)) (w' 0)))])) t
      exact k
    by_cases hc48 : ((w 0) &&& (w' 0)) = (w' 0)
    · obtain ⟨T49, X49, e49, st49⟩ := getF X47 hx hZ hown (host := "") (Or.inl (hw _ (List.mem_of_getElem? (i := 14) rfl))) Via.refl e47 F_rest (g := (mkF m 24 #[.val (.ref o0), .val (.ref o1), .val (.int (1 : Int32)), .unset] [(.ref o0)])) rfl rfl (hb hby d5_24)
      obtain ⟨T50, X50, e50, st50⟩ := getF X49 hx hZ hown (host := "") (Or.inl (hw _ (List.mem_of_getElem? (i := 14) rfl))) Via.refl e49 F_rest (g := (mkF m 38 #[.val (.ref o0), .val (.ref o1), .val (.int (1 : Int32)), .val (.int (0 : Int32))] [(.ref o0), (.int (0 : Int32))])) rfl rfl (hb hby d5_38)
      obtain ⟨T51, X51, e51, st51⟩ := getF X50 hx hZ hown (host := "") (Or.inl (hw _ (List.mem_of_getElem? (i := 14) rfl))) Via.refl e50 F_rest (g := (mkF m 46 #[.val (.ref o0), .val (.ref o1), .val (.int (1 : Int32)), .val (.int (0 : Int32))] [(.ref o0)])) rfl rfl (hb hby d5_46)
      have hj52 : 0 ≤ (0 : Int32).toInt ∧ (0 : Int32).toInt < (3 : Nat) := ⟨by decide, by decide⟩
      obtain ⟨T53, X53, e53, st53⟩ := getF X51 hx hZ hown (host := "") (Or.inl (hw _ (List.mem_of_getElem? (i := 14) rfl))) Via.refl e51 F_rest' (g := (mkF m 52 #[.val (.ref o0), .val (.ref o1), .val (.int (1 : Int32)), .val (.int (0 : Int32))] [(.ref o1), (.long ((fun k => w (k + 1)) 0))])) rfl rfl (hb hby d5_52)
      have hj54 : 0 ≤ (0 : Int32).toInt ∧ (0 : Int32).toInt < (3 : Nat) := ⟨by decide, by decide⟩
      obtain ⟨T55, X55, e55, st55⟩ := getF X53 hx hZ hown (host := "") (Or.inl (hw _ (List.mem_of_getElem? (i := 14) rfl))) Via.refl e53 F_rest' (g := (mkF m 59 #[.val (.ref o0), .val (.ref o1), .val (.int (1 : Int32)), .val (.int (0 : Int32))] [(.ref o1), (.long (((fun k => w (k + 1)) 0) &&& ((fun k => w' (k + 1)) 0)))])) rfl rfl (hb hby d5_59)
      have hj56 : 0 ≤ (0 : Int32).toInt ∧ (0 : Int32).toInt < (3 : Nat) := ⟨by decide, by decide⟩
      refine hD _ (T55.setTop (mkF m 65 #[.val (.ref o0), .val (.ref o1), .val (.int (1 : Int32)), .val (.int (0 : Int32))] [(.int (lcmpW (((fun k => w (k + 1)) 0) &&& ((fun k => w' (k + 1)) 0)) ((fun k => w' (k + 1)) 0)))])) (fun t k => ?_) ?_
      · show Steps p.tables e below (T47.setTop (mkF m 14 #[.val (.ref o0), .val (.ref o1), .unset, .unset] [(.int (lcmpW ((w 0) &&& (w' 0)) (w' 0)))])) t
        refine XS.ifNo X47.here hx rfl (hb hby d5_14) rfl ((if0 _ _).trans (teq ((lw_eq ((w 0) &&& (w' 0)) (w' 0)).mpr hc48)).2) ?_
        show Steps p.tables e below (T47.setTop (mkF m 17 #[.val (.ref o0), .val (.ref o1), .unset, .unset] [])) t
        refine XS.iconst X47.here hx rfl (hb hby d5_17) ?_
        show Steps p.tables e below (T47.setTop (mkF m 18 #[.val (.ref o0), .val (.ref o1), .unset, .unset] [(.int (1 : Int32))])) t
        refine XS.goto X47.here hx rfl (pc0 := 18) (pc' := 22) rfl (hb hby d5_18) (by decide) (by decide) ?_
        show Steps p.tables e below (T47.setTop (mkF m 22 #[.val (.ref o0), .val (.ref o1), .unset, .unset] [(.int (1 : Int32))])) t
        refine XS.istoreN X47.here hx rfl (hb hby d5_22) rfl (l' := #[.val (.ref o0), .val (.ref o1), .val (.int (1 : Int32)), .unset]) rfl ?_
        show Steps p.tables e below (T47.setTop (mkF m 23 #[.val (.ref o0), .val (.ref o1), .val (.int (1 : Int32)), .unset] [])) t
        refine XS.aloadN X47.here hx rfl (hb hby d5_23) rfl rfl ?_
        show Steps p.tables e below (T47.setTop (mkF m 24 #[.val (.ref o0), .val (.ref o1), .val (.int (1 : Int32)), .unset] [(.ref o0)])) t
        refine st49 _ ?_
        show Steps p.tables e below (T49.setTop (mkF m 27 #[.val (.ref o0), .val (.ref o1), .val (.int (1 : Int32)), .unset] [(.ref r)])) t
        refine XS.ifnullNo X49.here hx rfl (hb hby d5_27) rfl ?_
        show Steps p.tables e below (T49.setTop (mkF m 30 #[.val (.ref o0), .val (.ref o1), .val (.int (1 : Int32)), .unset] [])) t
        refine XS.iconst X49.here hx rfl (hb hby d5_30) ?_
        show Steps p.tables e below (T49.setTop (mkF m 31 #[.val (.ref o0), .val (.ref o1), .val (.int (1 : Int32)), .unset] [(.int (0 : Int32))])) t
        refine XS.istoreN X49.here hx rfl (hb hby d5_31) rfl (l' := #[.val (.ref o0), .val (.ref o1), .val (.int (1 : Int32)), .val (.int (0 : Int32))]) rfl ?_
        show Steps p.tables e below (T49.setTop (mkF m 32 #[.val (.ref o0), .val (.ref o1), .val (.int (1 : Int32)), .val (.int (0 : Int32))] [])) t
        refine XS.iloadN X49.here hx rfl (hb hby d5_32) rfl ?_
        show Steps p.tables e below (T49.setTop (mkF m 33 #[.val (.ref o0), .val (.ref o1), .val (.int (1 : Int32)), .val (.int (0 : Int32))] [(.int (1 : Int32))])) t
        refine XS.ifNo X49.here hx rfl (hb hby d5_33) rfl (by decide) ?_
        show Steps p.tables e below (T49.setTop (mkF m 36 #[.val (.ref o0), .val (.ref o1), .val (.int (1 : Int32)), .val (.int (0 : Int32))] [])) t
        refine XS.iloadN X49.here hx rfl (hb hby d5_36) rfl ?_
        show Steps p.tables e below (T49.setTop (mkF m 37 #[.val (.ref o0), .val (.ref o1), .val (.int (1 : Int32)), .val (.int (0 : Int32))] [(.int (0 : Int32))])) t
        refine XS.aloadN X49.here hx rfl (hb hby d5_37) rfl rfl ?_
        show Steps p.tables e below (T49.setTop (mkF m 38 #[.val (.ref o0), .val (.ref o1), .val (.int (1 : Int32)), .val (.int (0 : Int32))] [(.ref o0), (.int (0 : Int32))])) t
        refine st50 _ ?_
        show Steps p.tables e below (T50.setTop (mkF m 41 #[.val (.ref o0), .val (.ref o1), .val (.int (1 : Int32)), .val (.int (0 : Int32))] [(.ref r), (.int (0 : Int32))])) t
        refine Own.lenJ X50 hx hZ e50 A_r (g := (mkF m 41 #[.val (.ref o0), .val (.ref o1), .val (.int (1 : Int32)), .val (.int (0 : Int32))] [(.ref r), (.int (0 : Int32))])) rfl rfl (hb hby d5_41) _ ?_
        show Steps p.tables e below (T50.setTop (mkF m 42 #[.val (.ref o0), .val (.ref o1), .val (.int (1 : Int32)), .val (.int (0 : Int32))] [(.int (Int32.ofNat 3)), (.int (0 : Int32))])) t
        refine Own.nmI (by decide : (3 : Int32) = (Int32.ofNat 3)) ?_
        show Steps p.tables e below (T50.setTop (mkF m 42 #[.val (.ref o0), .val (.ref o1), .val (.int (1 : Int32)), .val (.int (0 : Int32))] [(.int (3 : Int32)), (.int (0 : Int32))])) t
        refine XS.icmpNo X50.here hx rfl (hb hby d5_42) rfl (by decide) ?_
        show Steps p.tables e below (T50.setTop (mkF m 45 #[.val (.ref o0), .val (.ref o1), .val (.int (1 : Int32)), .val (.int (0 : Int32))] [])) t
        refine XS.aloadN X50.here hx rfl (hb hby d5_45) rfl rfl ?_
        show Steps p.tables e below (T50.setTop (mkF m 46 #[.val (.ref o0), .val (.ref o1), .val (.int (1 : Int32)), .val (.int (0 : Int32))] [(.ref o0)])) t
        refine st51 _ ?_
        show Steps p.tables e below (T51.setTop (mkF m 49 #[.val (.ref o0), .val (.ref o1), .val (.int (1 : Int32)), .val (.int (0 : Int32))] [(.ref r)])) t
        refine XS.iloadN X51.here hx rfl (hb hby d5_49) rfl ?_
        show Steps p.tables e below (T51.setTop (mkF m 50 #[.val (.ref o0), .val (.ref o1), .val (.int (1 : Int32)), .val (.int (0 : Int32))] [(.int (0 : Int32)), (.ref r)])) t
        refine Own.ldJ X51 hx hZ e51 A_r hj52 (g := (mkF m 50 #[.val (.ref o0), .val (.ref o1), .val (.int (1 : Int32)), .val (.int (0 : Int32))] [(.int (0 : Int32)), (.ref r)])) rfl rfl (hb hby d5_50) _ ?_
        show Steps p.tables e below (T51.setTop (mkF m 51 #[.val (.ref o0), .val (.ref o1), .val (.int (1 : Int32)), .val (.int (0 : Int32))] [(.long ((fun k => w (k + 1)) 0))])) t
        refine XS.aloadN X51.here hx rfl (hb hby d5_51) rfl rfl ?_
        show Steps p.tables e below (T51.setTop (mkF m 52 #[.val (.ref o0), .val (.ref o1), .val (.int (1 : Int32)), .val (.int (0 : Int32))] [(.ref o1), (.long ((fun k => w (k + 1)) 0))])) t
        refine st53 _ ?_
        show Steps p.tables e below (T53.setTop (mkF m 55 #[.val (.ref o0), .val (.ref o1), .val (.int (1 : Int32)), .val (.int (0 : Int32))] [(.ref r'), (.long ((fun k => w (k + 1)) 0))])) t
        refine XS.iloadN X53.here hx rfl (hb hby d5_55) rfl ?_
        show Steps p.tables e below (T53.setTop (mkF m 56 #[.val (.ref o0), .val (.ref o1), .val (.int (1 : Int32)), .val (.int (0 : Int32))] [(.int (0 : Int32)), (.ref r'), (.long ((fun k => w (k + 1)) 0))])) t
        refine Own.ldJ X53 hx hZ e53 A_r' hj54 (g := (mkF m 56 #[.val (.ref o0), .val (.ref o1), .val (.int (1 : Int32)), .val (.int (0 : Int32))] [(.int (0 : Int32)), (.ref r'), (.long ((fun k => w (k + 1)) 0))])) rfl rfl (hb hby d5_56) _ ?_
        show Steps p.tables e below (T53.setTop (mkF m 57 #[.val (.ref o0), .val (.ref o1), .val (.int (1 : Int32)), .val (.int (0 : Int32))] [(.long ((fun k => w' (k + 1)) 0)), (.long ((fun k => w (k + 1)) 0))])) t
        refine XS.land X53.here hx rfl (hb hby d5_57) rfl ?_
        show Steps p.tables e below (T53.setTop (mkF m 58 #[.val (.ref o0), .val (.ref o1), .val (.int (1 : Int32)), .val (.int (0 : Int32))] [(.long (((fun k => w (k + 1)) 0) &&& ((fun k => w' (k + 1)) 0)))])) t
        refine XS.aloadN X53.here hx rfl (hb hby d5_58) rfl rfl ?_
        show Steps p.tables e below (T53.setTop (mkF m 59 #[.val (.ref o0), .val (.ref o1), .val (.int (1 : Int32)), .val (.int (0 : Int32))] [(.ref o1), (.long (((fun k => w (k + 1)) 0) &&& ((fun k => w' (k + 1)) 0)))])) t
        refine st55 _ ?_
        show Steps p.tables e below (T55.setTop (mkF m 62 #[.val (.ref o0), .val (.ref o1), .val (.int (1 : Int32)), .val (.int (0 : Int32))] [(.ref r'), (.long (((fun k => w (k + 1)) 0) &&& ((fun k => w' (k + 1)) 0)))])) t
        refine XS.iloadN X55.here hx rfl (hb hby d5_62) rfl ?_
        show Steps p.tables e below (T55.setTop (mkF m 63 #[.val (.ref o0), .val (.ref o1), .val (.int (1 : Int32)), .val (.int (0 : Int32))] [(.int (0 : Int32)), (.ref r'), (.long (((fun k => w (k + 1)) 0) &&& ((fun k => w' (k + 1)) 0)))])) t
        refine Own.ldJ X55 hx hZ e55 A_r' hj56 (g := (mkF m 63 #[.val (.ref o0), .val (.ref o1), .val (.int (1 : Int32)), .val (.int (0 : Int32))] [(.int (0 : Int32)), (.ref r'), (.long (((fun k => w (k + 1)) 0) &&& ((fun k => w' (k + 1)) 0)))])) rfl rfl (hb hby d5_63) _ ?_
        show Steps p.tables e below (T55.setTop (mkF m 64 #[.val (.ref o0), .val (.ref o1), .val (.int (1 : Int32)), .val (.int (0 : Int32))] [(.long ((fun k => w' (k + 1)) 0)), (.long (((fun k => w (k + 1)) 0) &&& ((fun k => w' (k + 1)) 0)))])) t
        refine XS.lcmp X55.here hx rfl (hb hby d5_64) rfl ?_
        show Steps p.tables e below (T55.setTop (mkF m 65 #[.val (.ref o0), .val (.ref o1), .val (.int (1 : Int32)), .val (.int (0 : Int32))] [(.int (lcmpW (((fun k => w (k + 1)) 0) &&& ((fun k => w' (k + 1)) 0)) ((fun k => w' (k + 1)) 0)))])) t
        exact k
      by_cases hc57 : (((fun k => w (k + 1)) 0) &&& ((fun k => w' (k + 1)) 0)) = ((fun k => w' (k + 1)) 0)
      · obtain ⟨T58, X58, e58, st58⟩ := getF X55 hx hZ hown (host := "") (Or.inl (hw _ (List.mem_of_getElem? (i := 14) rfl))) Via.refl e55 F_rest (g := (mkF m 38 #[.val (.ref o0), .val (.ref o1), .val (.int (1 : Int32)), .val (.int (1 : Int32))] [(.ref o0), (.int (1 : Int32))])) rfl rfl (hb hby d5_38)
        obtain ⟨T59, X59, e59, st59⟩ := getF X58 hx hZ hown (host := "") (Or.inl (hw _ (List.mem_of_getElem? (i := 14) rfl))) Via.refl e58 F_rest (g := (mkF m 46 #[.val (.ref o0), .val (.ref o1), .val (.int (1 : Int32)), .val (.int (1 : Int32))] [(.ref o0)])) rfl rfl (hb hby d5_46)
        have hj60 : 0 ≤ (1 : Int32).toInt ∧ (1 : Int32).toInt < (3 : Nat) := ⟨by decide, by decide⟩
        obtain ⟨T61, X61, e61, st61⟩ := getF X59 hx hZ hown (host := "") (Or.inl (hw _ (List.mem_of_getElem? (i := 14) rfl))) Via.refl e59 F_rest' (g := (mkF m 52 #[.val (.ref o0), .val (.ref o1), .val (.int (1 : Int32)), .val (.int (1 : Int32))] [(.ref o1), (.long ((fun k => w (k + 1)) 1))])) rfl rfl (hb hby d5_52)
        have hj62 : 0 ≤ (1 : Int32).toInt ∧ (1 : Int32).toInt < (3 : Nat) := ⟨by decide, by decide⟩
        obtain ⟨T63, X63, e63, st63⟩ := getF X61 hx hZ hown (host := "") (Or.inl (hw _ (List.mem_of_getElem? (i := 14) rfl))) Via.refl e61 F_rest' (g := (mkF m 59 #[.val (.ref o0), .val (.ref o1), .val (.int (1 : Int32)), .val (.int (1 : Int32))] [(.ref o1), (.long (((fun k => w (k + 1)) 1) &&& ((fun k => w' (k + 1)) 1)))])) rfl rfl (hb hby d5_59)
        have hj64 : 0 ≤ (1 : Int32).toInt ∧ (1 : Int32).toInt < (3 : Nat) := ⟨by decide, by decide⟩
        refine hD _ (T63.setTop (mkF m 65 #[.val (.ref o0), .val (.ref o1), .val (.int (1 : Int32)), .val (.int (1 : Int32))] [(.int (lcmpW (((fun k => w (k + 1)) 1) &&& ((fun k => w' (k + 1)) 1)) ((fun k => w' (k + 1)) 1)))])) (fun t k => ?_) ?_
        · show Steps p.tables e below (T55.setTop (mkF m 65 #[.val (.ref o0), .val (.ref o1), .val (.int (1 : Int32)), .val (.int (0 : Int32))] [(.int (lcmpW (((fun k => w (k + 1)) 0) &&& ((fun k => w' (k + 1)) 0)) ((fun k => w' (k + 1)) 0)))])) t
          refine XS.ifNo X55.here hx rfl (hb hby d5_65) rfl ((if0 _ _).trans (teq ((lw_eq (((fun k => w (k + 1)) 0) &&& ((fun k => w' (k + 1)) 0)) ((fun k => w' (k + 1)) 0)).mpr hc57)).2) ?_
          show Steps p.tables e below (T55.setTop (mkF m 68 #[.val (.ref o0), .val (.ref o1), .val (.int (1 : Int32)), .val (.int (0 : Int32))] [])) t
          refine XS.iconst X55.here hx rfl (hb hby d5_68) ?_
          show Steps p.tables e below (T55.setTop (mkF m 69 #[.val (.ref o0), .val (.ref o1), .val (.int (1 : Int32)), .val (.int (0 : Int32))] [(.int (1 : Int32))])) t
          refine XS.goto X55.here hx rfl (pc0 := 69) (pc' := 73) rfl (hb hby d5_69) (by decide) (by decide) ?_
          show Steps p.tables e below (T55.setTop (mkF m 73 #[.val (.ref o0), .val (.ref o1), .val (.int (1 : Int32)), .val (.int (0 : Int32))] [(.int (1 : Int32))])) t
          refine XS.istoreN X55.here hx rfl (hb hby d5_73) rfl (l' := #[.val (.ref o0), .val (.ref o1), .val (.int (1 : Int32)), .val (.int (0 : Int32))]) rfl ?_
          show Steps p.tables e below (T55.setTop (mkF m 74 #[.val (.ref o0), .val (.ref o1), .val (.int (1 : Int32)), .val (.int (0 : Int32))] [])) t
          refine XS.iinc X55.here hx rfl (hb hby d5_74) rfl (l' := #[.val (.ref o0), .val (.ref o1), .val (.int (1 : Int32)), .val (.int ((0 : Int32) + (1 : Int32)))]) rfl ?_
          show Steps p.tables e below (T55.setTop (mkF m 77 #[.val (.ref o0), .val (.ref o1), .val (.int (1 : Int32)), .val (.int ((0 : Int32) + (1 : Int32)))] [])) t
          rw [show ((0 : Int32) + (1 : Int32)) = (1 : Int32) from by decide]
          show Steps p.tables e below (T55.setTop (mkF m 77 #[.val (.ref o0), .val (.ref o1), .val (.int (1 : Int32)), .val (.int (1 : Int32))] [])) t
          refine XS.goto X55.here hx rfl (pc0 := 77) (pc' := 32) rfl (hb hby d5_77) (by decide) (by decide) ?_
          show Steps p.tables e below (T55.setTop (mkF m 32 #[.val (.ref o0), .val (.ref o1), .val (.int (1 : Int32)), .val (.int (1 : Int32))] [])) t
          refine XS.iloadN X55.here hx rfl (hb hby d5_32) rfl ?_
          show Steps p.tables e below (T55.setTop (mkF m 33 #[.val (.ref o0), .val (.ref o1), .val (.int (1 : Int32)), .val (.int (1 : Int32))] [(.int (1 : Int32))])) t
          refine XS.ifNo X55.here hx rfl (hb hby d5_33) rfl (by decide) ?_
          show Steps p.tables e below (T55.setTop (mkF m 36 #[.val (.ref o0), .val (.ref o1), .val (.int (1 : Int32)), .val (.int (1 : Int32))] [])) t
          refine XS.iloadN X55.here hx rfl (hb hby d5_36) rfl ?_
          show Steps p.tables e below (T55.setTop (mkF m 37 #[.val (.ref o0), .val (.ref o1), .val (.int (1 : Int32)), .val (.int (1 : Int32))] [(.int (1 : Int32))])) t
          refine XS.aloadN X55.here hx rfl (hb hby d5_37) rfl rfl ?_
          show Steps p.tables e below (T55.setTop (mkF m 38 #[.val (.ref o0), .val (.ref o1), .val (.int (1 : Int32)), .val (.int (1 : Int32))] [(.ref o0), (.int (1 : Int32))])) t
          refine st58 _ ?_
          show Steps p.tables e below (T58.setTop (mkF m 41 #[.val (.ref o0), .val (.ref o1), .val (.int (1 : Int32)), .val (.int (1 : Int32))] [(.ref r), (.int (1 : Int32))])) t
          refine Own.lenJ X58 hx hZ e58 A_r (g := (mkF m 41 #[.val (.ref o0), .val (.ref o1), .val (.int (1 : Int32)), .val (.int (1 : Int32))] [(.ref r), (.int (1 : Int32))])) rfl rfl (hb hby d5_41) _ ?_
          show Steps p.tables e below (T58.setTop (mkF m 42 #[.val (.ref o0), .val (.ref o1), .val (.int (1 : Int32)), .val (.int (1 : Int32))] [(.int (Int32.ofNat 3)), (.int (1 : Int32))])) t
          refine Own.nmI (by decide : (3 : Int32) = (Int32.ofNat 3)) ?_
          show Steps p.tables e below (T58.setTop (mkF m 42 #[.val (.ref o0), .val (.ref o1), .val (.int (1 : Int32)), .val (.int (1 : Int32))] [(.int (3 : Int32)), (.int (1 : Int32))])) t
          refine XS.icmpNo X58.here hx rfl (hb hby d5_42) rfl (by decide) ?_
          show Steps p.tables e below (T58.setTop (mkF m 45 #[.val (.ref o0), .val (.ref o1), .val (.int (1 : Int32)), .val (.int (1 : Int32))] [])) t
          refine XS.aloadN X58.here hx rfl (hb hby d5_45) rfl rfl ?_
          show Steps p.tables e below (T58.setTop (mkF m 46 #[.val (.ref o0), .val (.ref o1), .val (.int (1 : Int32)), .val (.int (1 : Int32))] [(.ref o0)])) t
          refine st59 _ ?_
          show Steps p.tables e below (T59.setTop (mkF m 49 #[.val (.ref o0), .val (.ref o1), .val (.int (1 : Int32)), .val (.int (1 : Int32))] [(.ref r)])) t
          refine XS.iloadN X59.here hx rfl (hb hby d5_49) rfl ?_
          show Steps p.tables e below (T59.setTop (mkF m 50 #[.val (.ref o0), .val (.ref o1), .val (.int (1 : Int32)), .val (.int (1 : Int32))] [(.int (1 : Int32)), (.ref r)])) t
          refine Own.ldJ X59 hx hZ e59 A_r hj60 (g := (mkF m 50 #[.val (.ref o0), .val (.ref o1), .val (.int (1 : Int32)), .val (.int (1 : Int32))] [(.int (1 : Int32)), (.ref r)])) rfl rfl (hb hby d5_50) _ ?_
          show Steps p.tables e below (T59.setTop (mkF m 51 #[.val (.ref o0), .val (.ref o1), .val (.int (1 : Int32)), .val (.int (1 : Int32))] [(.long ((fun k => w (k + 1)) 1))])) t
          refine XS.aloadN X59.here hx rfl (hb hby d5_51) rfl rfl ?_
          show Steps p.tables e below (T59.setTop (mkF m 52 #[.val (.ref o0), .val (.ref o1), .val (.int (1 : Int32)), .val (.int (1 : Int32))] [(.ref o1), (.long ((fun k => w (k + 1)) 1))])) t
          refine st61 _ ?_
          show Steps p.tables e below (T61.setTop (mkF m 55 #[.val (.ref o0), .val (.ref o1), .val (.int (1 : Int32)), .val (.int (1 : Int32))] [(.ref r'), (.long ((fun k => w (k + 1)) 1))])) t
          refine XS.iloadN X61.here hx rfl (hb hby d5_55) rfl ?_
          show Steps p.tables e below (T61.setTop (mkF m 56 #[.val (.ref o0), .val (.ref o1), .val (.int (1 : Int32)), .val (.int (1 : Int32))] [(.int (1 : Int32)), (.ref r'), (.long ((fun k => w (k + 1)) 1))])) t
          refine Own.ldJ X61 hx hZ e61 A_r' hj62 (g := (mkF m 56 #[.val (.ref o0), .val (.ref o1), .val (.int (1 : Int32)), .val (.int (1 : Int32))] [(.int (1 : Int32)), (.ref r'), (.long ((fun k => w (k + 1)) 1))])) rfl rfl (hb hby d5_56) _ ?_
          show Steps p.tables e below (T61.setTop (mkF m 57 #[.val (.ref o0), .val (.ref o1), .val (.int (1 : Int32)), .val (.int (1 : Int32))] [(.long ((fun k => w' (k + 1)) 1)), (.long ((fun k => w (k + 1)) 1))])) t
          refine XS.land X61.here hx rfl (hb hby d5_57) rfl ?_
          show Steps p.tables e below (T61.setTop (mkF m 58 #[.val (.ref o0), .val (.ref o1), .val (.int (1 : Int32)), .val (.int (1 : Int32))] [(.long (((fun k => w (k + 1)) 1) &&& ((fun k => w' (k + 1)) 1)))])) t
          refine XS.aloadN X61.here hx rfl (hb hby d5_58) rfl rfl ?_
          show Steps p.tables e below (T61.setTop (mkF m 59 #[.val (.ref o0), .val (.ref o1), .val (.int (1 : Int32)), .val (.int (1 : Int32))] [(.ref o1), (.long (((fun k => w (k + 1)) 1) &&& ((fun k => w' (k + 1)) 1)))])) t
          refine st63 _ ?_
          show Steps p.tables e below (T63.setTop (mkF m 62 #[.val (.ref o0), .val (.ref o1), .val (.int (1 : Int32)), .val (.int (1 : Int32))] [(.ref r'), (.long (((fun k => w (k + 1)) 1) &&& ((fun k => w' (k + 1)) 1)))])) t
          refine XS.iloadN X63.here hx rfl (hb hby d5_62) rfl ?_
          show Steps p.tables e below (T63.setTop (mkF m 63 #[.val (.ref o0), .val (.ref o1), .val (.int (1 : Int32)), .val (.int (1 : Int32))] [(.int (1 : Int32)), (.ref r'), (.long (((fun k => w (k + 1)) 1) &&& ((fun k => w' (k + 1)) 1)))])) t
          refine Own.ldJ X63 hx hZ e63 A_r' hj64 (g := (mkF m 63 #[.val (.ref o0), .val (.ref o1), .val (.int (1 : Int32)), .val (.int (1 : Int32))] [(.int (1 : Int32)), (.ref r'), (.long (((fun k => w (k + 1)) 1) &&& ((fun k => w' (k + 1)) 1)))])) rfl rfl (hb hby d5_63) _ ?_
          show Steps p.tables e below (T63.setTop (mkF m 64 #[.val (.ref o0), .val (.ref o1), .val (.int (1 : Int32)), .val (.int (1 : Int32))] [(.long ((fun k => w' (k + 1)) 1)), (.long (((fun k => w (k + 1)) 1) &&& ((fun k => w' (k + 1)) 1)))])) t
          refine XS.lcmp X63.here hx rfl (hb hby d5_64) rfl ?_
          show Steps p.tables e below (T63.setTop (mkF m 65 #[.val (.ref o0), .val (.ref o1), .val (.int (1 : Int32)), .val (.int (1 : Int32))] [(.int (lcmpW (((fun k => w (k + 1)) 1) &&& ((fun k => w' (k + 1)) 1)) ((fun k => w' (k + 1)) 1)))])) t
          exact k
        by_cases hc65 : (((fun k => w (k + 1)) 1) &&& ((fun k => w' (k + 1)) 1)) = ((fun k => w' (k + 1)) 1)
        · obtain ⟨T66, X66, e66, st66⟩ := getF X63 hx hZ hown (host := "") (Or.inl (hw _ (List.mem_of_getElem? (i := 14) rfl))) Via.refl e63 F_rest (g := (mkF m 38 #[.val (.ref o0), .val (.ref o1), .val (.int (1 : Int32)), .val (.int (2 : Int32))] [(.ref o0), (.int (2 : Int32))])) rfl rfl (hb hby d5_38)
          obtain ⟨T67, X67, e67, st67⟩ := getF X66 hx hZ hown (host := "") (Or.inl (hw _ (List.mem_of_getElem? (i := 14) rfl))) Via.refl e66 F_rest (g := (mkF m 46 #[.val (.ref o0), .val (.ref o1), .val (.int (1 : Int32)), .val (.int (2 : Int32))] [(.ref o0)])) rfl rfl (hb hby d5_46)
          have hj68 : 0 ≤ (2 : Int32).toInt ∧ (2 : Int32).toInt < (3 : Nat) := ⟨by decide, by decide⟩
          obtain ⟨T69, X69, e69, st69⟩ := getF X67 hx hZ hown (host := "") (Or.inl (hw _ (List.mem_of_getElem? (i := 14) rfl))) Via.refl e67 F_rest' (g := (mkF m 52 #[.val (.ref o0), .val (.ref o1), .val (.int (1 : Int32)), .val (.int (2 : Int32))] [(.ref o1), (.long ((fun k => w (k + 1)) 2))])) rfl rfl (hb hby d5_52)
          have hj70 : 0 ≤ (2 : Int32).toInt ∧ (2 : Int32).toInt < (3 : Nat) := ⟨by decide, by decide⟩
          obtain ⟨T71, X71, e71, st71⟩ := getF X69 hx hZ hown (host := "") (Or.inl (hw _ (List.mem_of_getElem? (i := 14) rfl))) Via.refl e69 F_rest' (g := (mkF m 59 #[.val (.ref o0), .val (.ref o1), .val (.int (1 : Int32)), .val (.int (2 : Int32))] [(.ref o1), (.long (((fun k => w (k + 1)) 2) &&& ((fun k => w' (k + 1)) 2)))])) rfl rfl (hb hby d5_59)
          have hj72 : 0 ≤ (2 : Int32).toInt ∧ (2 : Int32).toInt < (3 : Nat) := ⟨by decide, by decide⟩
          refine hD _ (T71.setTop (mkF m 65 #[.val (.ref o0), .val (.ref o1), .val (.int (1 : Int32)), .val (.int (2 : Int32))] [(.int (lcmpW (((fun k => w (k + 1)) 2) &&& ((fun k => w' (k + 1)) 2)) ((fun k => w' (k + 1)) 2)))])) (fun t k => ?_) ?_
          · show Steps p.tables e below (T63.setTop (mkF m 65 #[.val (.ref o0), .val (.ref o1), .val (.int (1 : Int32)), .val (.int (1 : Int32))] [(.int (lcmpW (((fun k => w (k + 1)) 1) &&& ((fun k => w' (k + 1)) 1)) ((fun k => w' (k + 1)) 1)))])) t
            refine XS.ifNo X63.here hx rfl (hb hby d5_65) rfl ((if0 _ _).trans (teq ((lw_eq (((fun k => w (k + 1)) 1) &&& ((fun k => w' (k + 1)) 1)) ((fun k => w' (k + 1)) 1)).mpr hc65)).2) ?_
            show Steps p.tables e below (T63.setTop (mkF m 68 #[.val (.ref o0), .val (.ref o1), .val (.int (1 : Int32)), .val (.int (1 : Int32))] [])) t
            refine XS.iconst X63.here hx rfl (hb hby d5_68) ?_
            show Steps p.tables e below (T63.setTop (mkF m 69 #[.val (.ref o0), .val (.ref o1), .val (.int (1 : Int32)), .val (.int (1 : Int32))] [(.int (1 : Int32))])) t
            refine XS.goto X63.here hx rfl (pc0 := 69) (pc' := 73) rfl (hb hby d5_69) (by decide) (by decide) ?_
            show Steps p.tables e below (T63.setTop (mkF m 73 #[.val (.ref o0), .val (.ref o1), .val (.int (1 : Int32)), .val (.int (1 : Int32))] [(.int (1 : Int32))])) t
            refine XS.istoreN X63.here hx rfl (hb hby d5_73) rfl (l' := #[.val (.ref o0), .val (.ref o1), .val (.int (1 : Int32)), .val (.int (1 : Int32))]) rfl ?_
            show Steps p.tables e below (T63.setTop (mkF m 74 #[.val (.ref o0), .val (.ref o1), .val (.int (1 : Int32)), .val (.int (1 : Int32))] [])) t
            refine XS.iinc X63.here hx rfl (hb hby d5_74) rfl (l' := #[.val (.ref o0), .val (.ref o1), .val (.int (1 : Int32)), .val (.int ((1 : Int32) + (1 : Int32)))]) rfl ?_
            show Steps p.tables e below (T63.setTop (mkF m 77 #[.val (.ref o0), .val (.ref o1), .val (.int (1 : Int32)), .val (.int ((1 : Int32) + (1 : Int32)))] [])) t
            rw [show ((1 : Int32) + (1 : Int32)) = (2 : Int32) from by decide]
            show Steps p.tables e below (T63.setTop (mkF m 77 #[.val (.ref o0), .val (.ref o1), .val (.int (1 : Int32)), .val (.int (2 : Int32))] [])) t
            refine XS.goto X63.here hx rfl (pc0 := 77) (pc' := 32) rfl (hb hby d5_77) (by decide) (by decide) ?_
            show Steps p.tables e below (T63.setTop (mkF m 32 #[.val (.ref o0), .val (.ref o1), .val (.int (1 : Int32)), .val (.int (2 : Int32))] [])) t
            refine XS.iloadN X63.here hx rfl (hb hby d5_32) rfl ?_
            show Steps p.tables e below (T63.setTop (mkF m 33 #[.val (.ref o0), .val (.ref o1), .val (.int (1 : Int32)), .val (.int (2 : Int32))] [(.int (1 : Int32))])) t
            refine XS.ifNo X63.here hx rfl (hb hby d5_33) rfl (by decide) ?_
            show Steps p.tables e below (T63.setTop (mkF m 36 #[.val (.ref o0), .val (.ref o1), .val (.int (1 : Int32)), .val (.int (2 : Int32))] [])) t
            refine XS.iloadN X63.here hx rfl (hb hby d5_36) rfl ?_
            show Steps p.tables e below (T63.setTop (mkF m 37 #[.val (.ref o0), .val (.ref o1), .val (.int (1 : Int32)), .val (.int (2 : Int32))] [(.int (2 : Int32))])) t
            refine XS.aloadN X63.here hx rfl (hb hby d5_37) rfl rfl ?_
            show Steps p.tables e below (T63.setTop (mkF m 38 #[.val (.ref o0), .val (.ref o1), .val (.int (1 : Int32)), .val (.int (2 : Int32))] [(.ref o0), (.int (2 : Int32))])) t
            refine st66 _ ?_
            show Steps p.tables e below (T66.setTop (mkF m 41 #[.val (.ref o0), .val (.ref o1), .val (.int (1 : Int32)), .val (.int (2 : Int32))] [(.ref r), (.int (2 : Int32))])) t
            refine Own.lenJ X66 hx hZ e66 A_r (g := (mkF m 41 #[.val (.ref o0), .val (.ref o1), .val (.int (1 : Int32)), .val (.int (2 : Int32))] [(.ref r), (.int (2 : Int32))])) rfl rfl (hb hby d5_41) _ ?_
            show Steps p.tables e below (T66.setTop (mkF m 42 #[.val (.ref o0), .val (.ref o1), .val (.int (1 : Int32)), .val (.int (2 : Int32))] [(.int (Int32.ofNat 3)), (.int (2 : Int32))])) t
            refine Own.nmI (by decide : (3 : Int32) = (Int32.ofNat 3)) ?_
            show Steps p.tables e below (T66.setTop (mkF m 42 #[.val (.ref o0), .val (.ref o1), .val (.int (1 : Int32)), .val (.int (2 : Int32))] [(.int (3 : Int32)), (.int (2 : Int32))])) t
            refine XS.icmpNo X66.here hx rfl (hb hby d5_42) rfl (by decide) ?_
            show Steps p.tables e below (T66.setTop (mkF m 45 #[.val (.ref o0), .val (.ref o1), .val (.int (1 : Int32)), .val (.int (2 : Int32))] [])) t
            refine XS.aloadN X66.here hx rfl (hb hby d5_45) rfl rfl ?_
            show Steps p.tables e below (T66.setTop (mkF m 46 #[.val (.ref o0), .val (.ref o1), .val (.int (1 : Int32)), .val (.int (2 : Int32))] [(.ref o0)])) t
            refine st67 _ ?_
            show Steps p.tables e below (T67.setTop (mkF m 49 #[.val (.ref o0), .val (.ref o1), .val (.int (1 : Int32)), .val (.int (2 : Int32))] [(.ref r)])) t
            refine XS.iloadN X67.here hx rfl (hb hby d5_49) rfl ?_
            show Steps p.tables e below (T67.setTop (mkF m 50 #[.val (.ref o0), .val (.ref o1), .val (.int (1 : Int32)), .val (.int (2 : Int32))] [(.int (2 : Int32)), (.ref r)])) t
            refine Own.ldJ X67 hx hZ e67 A_r hj68 (g := (mkF m 50 #[.val (.ref o0), .val (.ref o1), .val (.int (1 : Int32)), .val (.int (2 : Int32))] [(.int (2 : Int32)), (.ref r)])) rfl rfl (hb hby d5_50) _ ?_
            show Steps p.tables e below (T67.setTop (mkF m 51 #[.val (.ref o0), .val (.ref o1), .val (.int (1 : Int32)), .val (.int (2 : Int32))] [(.long ((fun k => w (k + 1)) 2))])) t
            refine XS.aloadN X67.here hx rfl (hb hby d5_51) rfl rfl ?_
            show Steps p.tables e below (T67.setTop (mkF m 52 #[.val (.ref o0), .val (.ref o1), .val (.int (1 : Int32)), .val (.int (2 : Int32))] [(.ref o1), (.long ((fun k => w (k + 1)) 2))])) t
            refine st69 _ ?_
            show Steps p.tables e below (T69.setTop (mkF m 55 #[.val (.ref o0), .val (.ref o1), .val (.int (1 : Int32)), .val (.int (2 : Int32))] [(.ref r'), (.long ((fun k => w (k + 1)) 2))])) t
            refine XS.iloadN X69.here hx rfl (hb hby d5_55) rfl ?_
            show Steps p.tables e below (T69.setTop (mkF m 56 #[.val (.ref o0), .val (.ref o1), .val (.int (1 : Int32)), .val (.int (2 : Int32))] [(.int (2 : Int32)), (.ref r'), (.long ((fun k => w (k + 1)) 2))])) t
            refine Own.ldJ X69 hx hZ e69 A_r' hj70 (g := (mkF m 56 #[.val (.ref o0), .val (.ref o1), .val (.int (1 : Int32)), .val (.int (2 : Int32))] [(.int (2 : Int32)), (.ref r'), (.long ((fun k => w (k + 1)) 2))])) rfl rfl (hb hby d5_56) _ ?_
            show Steps p.tables e below (T69.setTop (mkF m 57 #[.val (.ref o0), .val (.ref o1), .val (.int (1 : Int32)), .val (.int (2 : Int32))] [(.long ((fun k => w' (k + 1)) 2)), (.long ((fun k => w (k + 1)) 2))])) t
            refine XS.land X69.here hx rfl (hb hby d5_57) rfl ?_
            show Steps p.tables e below (T69.setTop (mkF m 58 #[.val (.ref o0), .val (.ref o1), .val (.int (1 : Int32)), .val (.int (2 : Int32))] [(.long (((fun k => w (k + 1)) 2) &&& ((fun k => w' (k + 1)) 2)))])) t
            refine XS.aloadN X69.here hx rfl (hb hby d5_58) rfl rfl ?_
            show Steps p.tables e below (T69.setTop (mkF m 59 #[.val (.ref o0), .val (.ref o1), .val (.int (1 : Int32)), .val (.int (2 : Int32))] [(.ref o1), (.long (((fun k => w (k + 1)) 2) &&& ((fun k => w' (k + 1)) 2)))])) t
            refine st71 _ ?_
            show Steps p.tables e below (T71.setTop (mkF m 62 #[.val (.ref o0), .val (.ref o1), .val (.int (1 : Int32)), .val (.int (2 : Int32))] [(.ref r'), (.long (((fun k => w (k + 1)) 2) &&& ((fun k => w' (k + 1)) 2)))])) t
            refine XS.iloadN X71.here hx rfl (hb hby d5_62) rfl ?_
            show Steps p.tables e below (T71.setTop (mkF m 63 #[.val (.ref o0), .val (.ref o1), .val (.int (1 : Int32)), .val (.int (2 : Int32))] [(.int (2 : Int32)), (.ref r'), (.long (((fun k => w (k + 1)) 2) &&& ((fun k => w' (k + 1)) 2)))])) t
            refine Own.ldJ X71 hx hZ e71 A_r' hj72 (g := (mkF m 63 #[.val (.ref o0), .val (.ref o1), .val (.int (1 : Int32)), .val (.int (2 : Int32))] [(.int (2 : Int32)), (.ref r'), (.long (((fun k => w (k + 1)) 2) &&& ((fun k => w' (k + 1)) 2)))])) rfl rfl (hb hby d5_63) _ ?_
            show Steps p.tables e below (T71.setTop (mkF m 64 #[.val (.ref o0), .val (.ref o1), .val (.int (1 : Int32)), .val (.int (2 : Int32))] [(.long ((fun k => w' (k + 1)) 2)), (.long (((fun k => w (k + 1)) 2) &&& ((fun k => w' (k + 1)) 2)))])) t
            refine XS.lcmp X71.here hx rfl (hb hby d5_64) rfl ?_
            show Steps p.tables e below (T71.setTop (mkF m 65 #[.val (.ref o0), .val (.ref o1), .val (.int (1 : Int32)), .val (.int (2 : Int32))] [(.int (lcmpW (((fun k => w (k + 1)) 2) &&& ((fun k => w' (k + 1)) 2)) ((fun k => w' (k + 1)) 2)))])) t
            exact k
          by_cases hc73 : (((fun k => w (k + 1)) 2) &&& ((fun k => w' (k + 1)) 2)) = ((fun k => w' (k + 1)) 2)
          · obtain ⟨T74, X74, e74, st74⟩ := getF X71 hx hZ hown (host := "") (Or.inl (hw _ (List.mem_of_getElem? (i := 14) rfl))) Via.refl e71 F_rest (g := (mkF m 38 #[.val (.ref o0), .val (.ref o1), .val (.int (1 : Int32)), .val (.int (3 : Int32))] [(.ref o0), (.int (3 : Int32))])) rfl rfl (hb hby d5_38)
            refine hD _ (T74.setTop (mkF m 81 #[.val (.ref o0), .val (.ref o1), .val (.int (1 : Int32)), .val (.int (3 : Int32))] [(.int (1 : Int32))])) (fun t k => ?_) ?_
            · show Steps p.tables e below (T71.setTop (mkF m 65 #[.val (.ref o0), .val (.ref o1), .val (.int (1 : Int32)), .val (.int (2 : Int32))] [(.int (lcmpW (((fun k => w (k + 1)) 2) &&& ((fun k => w' (k + 1)) 2)) ((fun k => w' (k + 1)) 2)))])) t
              refine XS.ifNo X71.here hx rfl (hb hby d5_65) rfl ((if0 _ _).trans (teq ((lw_eq (((fun k => w (k + 1)) 2) &&& ((fun k => w' (k + 1)) 2)) ((fun k => w' (k + 1)) 2)).mpr hc73)).2) ?_
              show Steps p.tables e below (T71.setTop (mkF m 68 #[.val (.ref o0), .val (.ref o1), .val (.int (1 : Int32)), .val (.int (2 : Int32))] [])) t
              refine XS.iconst X71.here hx rfl (hb hby d5_68) ?_
              show Steps p.tables e below (T71.setTop (mkF m 69 #[.val (.ref o0), .val (.ref o1), .val (.int (1 : Int32)), .val (.int (2 : Int32))] [(.int (1 : Int32))])) t
              refine XS.goto X71.here hx rfl (pc0 := 69) (pc' := 73) rfl (hb hby d5_69) (by decide) (by decide) ?_
              show Steps p.tables e below (T71.setTop (mkF m 73 #[.val (.ref o0), .val (.ref o1), .val (.int (1 : Int32)), .val (.int (2 : Int32))] [(.int (1 : Int32))])) t
              refine XS.istoreN X71.here hx rfl (hb hby d5_73) rfl (l' := #[.val (.ref o0), .val (.ref o1), .val (.int (1 : Int32)), .val (.int (2 : Int32))]) rfl ?_
              show Steps p.tables e below (T71.setTop (mkF m 74 #[.val (.ref o0), .val (.ref o1), .val (.int (1 : Int32)), .val (.int (2 : Int32))] [])) t
              refine XS.iinc X71.here hx rfl (hb hby d5_74) rfl (l' := #[.val (.ref o0), .val (.ref o1), .val (.int (1 : Int32)), .val (.int ((2 : Int32) + (1 : Int32)))]) rfl ?_
              show Steps p.tables e below (T71.setTop (mkF m 77 #[.val (.ref o0), .val (.ref o1), .val (.int (1 : Int32)), .val (.int ((2 : Int32) + (1 : Int32)))] [])) t
              rw [show ((2 : Int32) + (1 : Int32)) = (3 : Int32) from by decide]
              show Steps p.tables e below (T71.setTop (mkF m 77 #[.val (.ref o0), .val (.ref o1), .val (.int (1 : Int32)), .val (.int (3 : Int32))] [])) t
              refine XS.goto X71.here hx rfl (pc0 := 77) (pc' := 32) rfl (hb hby d5_77) (by decide) (by decide) ?_
              show Steps p.tables e below (T71.setTop (mkF m 32 #[.val (.ref o0), .val (.ref o1), .val (.int (1 : Int32)), .val (.int (3 : Int32))] [])) t
              refine XS.iloadN X71.here hx rfl (hb hby d5_32) rfl ?_
              show Steps p.tables e below (T71.setTop (mkF m 33 #[.val (.ref o0), .val (.ref o1), .val (.int (1 : Int32)), .val (.int (3 : Int32))] [(.int (1 : Int32))])) t
              refine XS.ifNo X71.here hx rfl (hb hby d5_33) rfl (by decide) ?_
              show Steps p.tables e below (T71.setTop (mkF m 36 #[.val (.ref o0), .val (.ref o1), .val (.int (1 : Int32)), .val (.int (3 : Int32))] [])) t
              refine XS.iloadN X71.here hx rfl (hb hby d5_36) rfl ?_
              show Steps p.tables e below (T71.setTop (mkF m 37 #[.val (.ref o0), .val (.ref o1), .val (.int (1 : Int32)), .val (.int (3 : Int32))] [(.int (3 : Int32))])) t
              refine XS.aloadN X71.here hx rfl (hb hby d5_37) rfl rfl ?_
              show Steps p.tables e below (T71.setTop (mkF m 38 #[.val (.ref o0), .val (.ref o1), .val (.int (1 : Int32)), .val (.int (3 : Int32))] [(.ref o0), (.int (3 : Int32))])) t
              refine st74 _ ?_
              show Steps p.tables e below (T74.setTop (mkF m 41 #[.val (.ref o0), .val (.ref o1), .val (.int (1 : Int32)), .val (.int (3 : Int32))] [(.ref r), (.int (3 : Int32))])) t
              refine Own.lenJ X74 hx hZ e74 A_r (g := (mkF m 41 #[.val (.ref o0), .val (.ref o1), .val (.int (1 : Int32)), .val (.int (3 : Int32))] [(.ref r), (.int (3 : Int32))])) rfl rfl (hb hby d5_41) _ ?_
              show Steps p.tables e below (T74.setTop (mkF m 42 #[.val (.ref o0), .val (.ref o1), .val (.int (1 : Int32)), .val (.int (3 : Int32))] [(.int (Int32.ofNat 3)), (.int (3 : Int32))])) t
              refine Own.nmI (by decide : (3 : Int32) = (Int32.ofNat 3)) ?_
              show Steps p.tables e below (T74.setTop (mkF m 42 #[.val (.ref o0), .val (.ref o1), .val (.int (1 : Int32)), .val (.int (3 : Int32))] [(.int (3 : Int32)), (.int (3 : Int32))])) t
              refine XS.icmpYes X74.here hx rfl (pc0 := 42) (pc' := 80) rfl (hb hby d5_42) rfl (by decide) (by decide) (by decide) ?_
              show Steps p.tables e below (T74.setTop (mkF m 80 #[.val (.ref o0), .val (.ref o1), .val (.int (1 : Int32)), .val (.int (3 : Int32))] [])) t
              refine XS.iloadN X74.here hx rfl (hb hby d5_80) rfl ?_
              show Steps p.tables e below (T74.setTop (mkF m 81 #[.val (.ref o0), .val (.ref o1), .val (.int (1 : Int32)), .val (.int (3 : Int32))] [(.int (1 : Int32))])) t
              exact k
            exact Own.retN hR X74 hx (t := .boolean) hret (by simp) (hb hby d5_81) (by decide) (by decide) (by decide) ⟨by simp [own_sub, Own.b2i, hc48, hc57, hc65, hc73], N0, e74⟩
          · refine hD _ (T71.setTop (mkF m 81 #[.val (.ref o0), .val (.ref o1), .val (.int (0 : Int32)), .val (.int (3 : Int32))] [(.int (0 : Int32))])) (fun t k => ?_) ?_
            · show Steps p.tables e below (T71.setTop (mkF m 65 #[.val (.ref o0), .val (.ref o1), .val (.int (1 : Int32)), .val (.int (2 : Int32))] [(.int (lcmpW (((fun k => w (k + 1)) 2) &&& ((fun k => w' (k + 1)) 2)) ((fun k => w' (k + 1)) 2)))])) t
              refine XS.ifYes X71.here hx rfl (pc0 := 65) (pc' := 72) rfl (hb hby d5_65) rfl ((if0 _ _).trans (feq (fun q => hc73 ((lw_eq (((fun k => w (k + 1)) 2) &&& ((fun k => w' (k + 1)) 2)) ((fun k => w' (k + 1)) 2)).mp q))).2) (by decide) (by decide) ?_
              show Steps p.tables e below (T71.setTop (mkF m 72 #[.val (.ref o0), .val (.ref o1), .val (.int (1 : Int32)), .val (.int (2 : Int32))] [])) t
              refine XS.iconst X71.here hx rfl (hb hby d5_72) ?_
              show Steps p.tables e below (T71.setTop (mkF m 73 #[.val (.ref o0), .val (.ref o1), .val (.int (1 : Int32)), .val (.int (2 : Int32))] [(.int (0 : Int32))])) t
              refine XS.istoreN X71.here hx rfl (hb hby d5_73) rfl (l' := #[.val (.ref o0), .val (.ref o1), .val (.int (0 : Int32)), .val (.int (2 : Int32))]) rfl ?_
              show Steps p.tables e below (T71.setTop (mkF m 74 #[.val (.ref o0), .val (.ref o1), .val (.int (0 : Int32)), .val (.int (2 : Int32))] [])) t
              refine XS.iinc X71.here hx rfl (hb hby d5_74) rfl (l' := #[.val (.ref o0), .val (.ref o1), .val (.int (0 : Int32)), .val (.int ((2 : Int32) + (1 : Int32)))]) rfl ?_
              show Steps p.tables e below (T71.setTop (mkF m 77 #[.val (.ref o0), .val (.ref o1), .val (.int (0 : Int32)), .val (.int ((2 : Int32) + (1 : Int32)))] [])) t
              rw [show ((2 : Int32) + (1 : Int32)) = (3 : Int32) from by decide]
              show Steps p.tables e below (T71.setTop (mkF m 77 #[.val (.ref o0), .val (.ref o1), .val (.int (0 : Int32)), .val (.int (3 : Int32))] [])) t
              refine XS.goto X71.here hx rfl (pc0 := 77) (pc' := 32) rfl (hb hby d5_77) (by decide) (by decide) ?_
              show Steps p.tables e below (T71.setTop (mkF m 32 #[.val (.ref o0), .val (.ref o1), .val (.int (0 : Int32)), .val (.int (3 : Int32))] [])) t
              refine XS.iloadN X71.here hx rfl (hb hby d5_32) rfl ?_
              show Steps p.tables e below (T71.setTop (mkF m 33 #[.val (.ref o0), .val (.ref o1), .val (.int (0 : Int32)), .val (.int (3 : Int32))] [(.int (0 : Int32))])) t
              refine XS.ifYes X71.here hx rfl (pc0 := 33) (pc' := 80) rfl (hb hby d5_33) rfl (by decide) (by decide) (by decide) ?_
              show Steps p.tables e below (T71.setTop (mkF m 80 #[.val (.ref o0), .val (.ref o1), .val (.int (0 : Int32)), .val (.int (3 : Int32))] [])) t
              refine XS.iloadN X71.here hx rfl (hb hby d5_80) rfl ?_
              show Steps p.tables e below (T71.setTop (mkF m 81 #[.val (.ref o0), .val (.ref o1), .val (.int (0 : Int32)), .val (.int (3 : Int32))] [(.int (0 : Int32))])) t
              exact k
            exact Own.retN hR X71 hx (t := .boolean) hret (by simp) (hb hby d5_81) (by decide) (by decide) (by decide) ⟨by simp [own_sub, Own.b2i, hc48, hc57, hc65, hc73], N0, e71⟩
        · refine hD _ (T63.setTop (mkF m 81 #[.val (.ref o0), .val (.ref o1), .val (.int (0 : Int32)), .val (.int (2 : Int32))] [(.int (0 : Int32))])) (fun t k => ?_) ?_
          · show Steps p.tables e below (T63.setTop (mkF m 65 #[.val (.ref o0), .val (.ref o1), .val (.int (1 : Int32)), .val (.int (1 : Int32))] [(.int (lcmpW (((fun k => w (k + 1)) 1) &&& ((fun k => w' (k + 1)) 1)) ((fun k => w' (k + 1)) 1)))])) t
            refine XS.ifYes X63.here hx rfl (pc0 := 65) (pc' := 72) rfl (hb hby d5_65) rfl ((if0 _ _).trans (feq (fun q => hc65 ((lw_eq (((fun k => w (k + 1)) 1) &&& ((fun k => w' (k + 1)) 1)) ((fun k => w' (k + 1)) 1)).mp q))).2) (by decide) (by decide) ?_
            show Steps p.tables e below (T63.setTop (mkF m 72 #[.val (.ref o0), .val (.ref o1), .val (.int (1 : Int32)), .val (.int (1 : Int32))] [])) t
            refine XS.iconst X63.here hx rfl (hb hby d5_72) ?_
            show Steps p.tables e below (T63.setTop (mkF m 73 #[.val (.ref o0), .val (.ref o1), .val (.int (1 : Int32)), .val (.int (1 : Int32))] [(.int (0 : Int32))])) t
            refine XS.istoreN X63.here hx rfl (hb hby d5_73) rfl (l' := #[.val (.ref o0), .val (.ref o1), .val (.int (0 : Int32)), .val (.int (1 : Int32))]) rfl ?_
            show Steps p.tables e below (T63.setTop (mkF m 74 #[.val (.ref o0), .val (.ref o1), .val (.int (0 : Int32)), .val (.int (1 : Int32))] [])) t
            refine XS.iinc X63.here hx rfl (hb hby d5_74) rfl (l' := #[.val (.ref o0), .val (.ref o1), .val (.int (0 : Int32)), .val (.int ((1 : Int32) + (1 : Int32)))]) rfl ?_
            show Steps p.tables e below (T63.setTop (mkF m 77 #[.val (.ref o0), .val (.ref o1), .val (.int (0 : Int32)), .val (.int ((1 : Int32) + (1 : Int32)))] [])) t
            rw [show ((1 : Int32) + (1 : Int32)) = (2 : Int32) from by decide]
            show Steps p.tables e below (T63.setTop (mkF m 77 #[.val (.ref o0), .val (.ref o1), .val (.int (0 : Int32)), .val (.int (2 : Int32))] [])) t
            refine XS.goto X63.here hx rfl (pc0 := 77) (pc' := 32) rfl (hb hby d5_77) (by decide) (by decide) ?_
            show Steps p.tables e below (T63.setTop (mkF m 32 #[.val (.ref o0), .val (.ref o1), .val (.int (0 : Int32)), .val (.int (2 : Int32))] [])) t
            refine XS.iloadN X63.here hx rfl (hb hby d5_32) rfl ?_
            show Steps p.tables e below (T63.setTop (mkF m 33 #[.val (.ref o0), .val (.ref o1), .val (.int (0 : Int32)), .val (.int (2 : Int32))] [(.int (0 : Int32))])) t
            refine XS.ifYes X63.here hx rfl (pc0 := 33) (pc' := 80) rfl (hb hby d5_33) rfl (by decide) (by decide) (by decide) ?_
            show Steps p.tables e below (T63.setTop (mkF m 80 #[.val (.ref o0), .val (.ref o1), .val (.int (0 : Int32)), .val (.int (2 : Int32))] [])) t
            refine XS.iloadN X63.here hx rfl (hb hby d5_80) rfl ?_
            show Steps p.tables e below (T63.setTop (mkF m 81 #[.val (.ref o0), .val (.ref o1), .val (.int (0 : Int32)), .val (.int (2 : Int32))] [(.int (0 : Int32))])) t
            exact k
          exact Own.retN hR X63 hx (t := .boolean) hret (by simp) (hb hby d5_81) (by decide) (by decide) (by decide) ⟨by simp [own_sub, Own.b2i, hc48, hc57, hc65], N0, e63⟩
      · refine hD _ (T55.setTop (mkF m 81 #[.val (.ref o0), .val (.ref o1), .val (.int (0 : Int32)), .val (.int (1 : Int32))] [(.int (0 : Int32))])) (fun t k => ?_) ?_
        · show Steps p.tables e below (T55.setTop (mkF m 65 #[.val (.ref o0), .val (.ref o1), .val (.int (1 : Int32)), .val (.int (0 : Int32))] [(.int (lcmpW (((fun k => w (k + 1)) 0) &&& ((fun k => w' (k + 1)) 0)) ((fun k => w' (k + 1)) 0)))])) t
          refine XS.ifYes X55.here hx rfl (pc0 := 65) (pc' := 72) rfl (hb hby d5_65) rfl ((if0 _ _).trans (feq (fun q => hc57 ((lw_eq (((fun k => w (k + 1)) 0) &&& ((fun k => w' (k + 1)) 0)) ((fun k => w' (k + 1)) 0)).mp q))).2) (by decide) (by decide) ?_
          show Steps p.tables e below (T55.setTop (mkF m 72 #[.val (.ref o0), .val (.ref o1), .val (.int (1 : Int32)), .val (.int (0 : Int32))] [])) t
          refine XS.iconst X55.here hx rfl (hb hby d5_72) ?_
          show Steps p.tables e below (T55.setTop (mkF m 73 #[.val (.ref o0), .val (.ref o1), .val (.int (1 : Int32)), .val (.int (0 : Int32))] [(.int (0 : Int32))])) t
          refine XS.istoreN X55.here hx rfl (hb hby d5_73) rfl (l' := #[.val (.ref o0), .val (.ref o1), .val (.int (0 : Int32)), .val (.int (0 : Int32))]) rfl ?_
          show Steps p.tables e below (T55.setTop (mkF m 74 #[.val (.ref o0), .val (.ref o1), .val (.int (0 : Int32)), .val (.int (0 : Int32))] [])) t
          refine XS.iinc X55.here hx rfl (hb hby d5_74) rfl (l' := #[.val (.ref o0), .val (.ref o1), .val (.int (0 : Int32)), .val (.int ((0 : Int32) + (1 : Int32)))]) rfl ?_
          show Steps p.tables e below (T55.setTop (mkF m 77 #[.val (.ref o0), .val (.ref o1), .val (.int (0 : Int32)), .val (.int ((0 : Int32) + (1 : Int32)))] [])) t
          rw [show ((0 : Int32) + (1 : Int32)) = (1 : Int32) from by decide]
          show Steps p.tables e below (T55.setTop (mkF m 77 #[.val (.ref o0), .val (.ref o1), .val (.int (0 : Int32)), .val (.int (1 : Int32))] [])) t
          refine XS.goto X55.here hx rfl (pc0 := 77) (pc' := 32) rfl (hb hby d5_77) (by decide) (by decide) ?_
          show Steps p.tables e below (T55.setTop (mkF m 32 #[.val (.ref o0), .val (.ref o1), .val (.int (0 : Int32)), .val (.int (1 : Int32))] [])) t
          refine XS.iloadN X55.here hx rfl (hb hby d5_32) rfl ?_
          show Steps p.tables e below (T55.setTop (mkF m 33 #[.val (.ref o0), .val (.ref o1), .val (.int (0 : Int32)), .val (.int (1 : Int32))] [(.int (0 : Int32))])) t
          refine XS.ifYes X55.here hx rfl (pc0 := 33) (pc' := 80) rfl (hb hby d5_33) rfl (by decide) (by decide) (by decide) ?_
          show Steps p.tables e below (T55.setTop (mkF m 80 #[.val (.ref o0), .val (.ref o1), .val (.int (0 : Int32)), .val (.int (1 : Int32))] [])) t
          refine XS.iloadN X55.here hx rfl (hb hby d5_80) rfl ?_
          show Steps p.tables e below (T55.setTop (mkF m 81 #[.val (.ref o0), .val (.ref o1), .val (.int (0 : Int32)), .val (.int (1 : Int32))] [(.int (0 : Int32))])) t
          exact k
        exact Own.retN hR X55 hx (t := .boolean) hret (by simp) (hb hby d5_81) (by decide) (by decide) (by decide) ⟨by simp [own_sub, Own.b2i, hc48, hc57], N0, e55⟩
    · obtain ⟨T75, X75, e75, st75⟩ := getF X47 hx hZ hown (host := "") (Or.inl (hw _ (List.mem_of_getElem? (i := 14) rfl))) Via.refl e47 F_rest (g := (mkF m 24 #[.val (.ref o0), .val (.ref o1), .val (.int (0 : Int32)), .unset] [(.ref o0)])) rfl rfl (hb hby d5_24)
      refine hD _ (T75.setTop (mkF m 81 #[.val (.ref o0), .val (.ref o1), .val (.int (0 : Int32)), .val (.int (0 : Int32))] [(.int (0 : Int32))])) (fun t k => ?_) ?_
      · show Steps p.tables e below (T47.setTop (mkF m 14 #[.val (.ref o0), .val (.ref o1), .unset, .unset] [(.int (lcmpW ((w 0) &&& (w' 0)) (w' 0)))])) t
        refine XS.ifYes X47.here hx rfl (pc0 := 14) (pc' := 21) rfl (hb hby d5_14) rfl ((if0 _ _).trans (feq (fun q => hc48 ((lw_eq ((w 0) &&& (w' 0)) (w' 0)).mp q))).2) (by decide) (by decide) ?_
        show Steps p.tables e below (T47.setTop (mkF m 21 #[.val (.ref o0), .val (.ref o1), .unset, .unset] [])) t
        refine XS.iconst X47.here hx rfl (hb hby d5_21) ?_
        show Steps p.tables e below (T47.setTop (mkF m 22 #[.val (.ref o0), .val (.ref o1), .unset, .unset] [(.int (0 : Int32))])) t
        refine XS.istoreN X47.here hx rfl (hb hby d5_22) rfl (l' := #[.val (.ref o0), .val (.ref o1), .val (.int (0 : Int32)), .unset]) rfl ?_
        show Steps p.tables e below (T47.setTop (mkF m 23 #[.val (.ref o0), .val (.ref o1), .val (.int (0 : Int32)), .unset] [])) t
        refine XS.aloadN X47.here hx rfl (hb hby d5_23) rfl rfl ?_
        show Steps p.tables e below (T47.setTop (mkF m 24 #[.val (.ref o0), .val (.ref o1), .val (.int (0 : Int32)), .unset] [(.ref o0)])) t
        refine st75 _ ?_
        show Steps p.tables e below (T75.setTop (mkF m 27 #[.val (.ref o0), .val (.ref o1), .val (.int (0 : Int32)), .unset] [(.ref r)])) t
        refine XS.ifnullNo X75.here hx rfl (hb hby d5_27) rfl ?_
        show Steps p.tables e below (T75.setTop (mkF m 30 #[.val (.ref o0), .val (.ref o1), .val (.int (0 : Int32)), .unset] [])) t
        refine XS.iconst X75.here hx rfl (hb hby d5_30) ?_
        show Steps p.tables e below (T75.setTop (mkF m 31 #[.val (.ref o0), .val (.ref o1), .val (.int (0 : Int32)), .unset] [(.int (0 : Int32))])) t
        refine XS.istoreN X75.here hx rfl (hb hby d5_31) rfl (l' := #[.val (.ref o0), .val (.ref o1), .val (.int (0 : Int32)), .val (.int (0 : Int32))]) rfl ?_
        show Steps p.tables e below (T75.setTop (mkF m 32 #[.val (.ref o0), .val (.ref o1), .val (.int (0 : Int32)), .val (.int (0 : Int32))] [])) t
        refine XS.iloadN X75.here hx rfl (hb hby d5_32) rfl ?_
        show Steps p.tables e below (T75.setTop (mkF m 33 #[.val (.ref o0), .val (.ref o1), .val (.int (0 : Int32)), .val (.int (0 : Int32))] [(.int (0 : Int32))])) t
        refine XS.ifYes X75.here hx rfl (pc0 := 33) (pc' := 80) rfl (hb hby d5_33) rfl (by decide) (by decide) (by decide) ?_
        show Steps p.tables e below (T75.setTop (mkF m 80 #[.val (.ref o0), .val (.ref o1), .val (.int (0 : Int32)), .val (.int (0 : Int32))] [])) t
        refine XS.iloadN X75.here hx rfl (hb hby d5_80) rfl ?_
        show Steps p.tables e below (T75.setTop (mkF m 81 #[.val (.ref o0), .val (.ref o1), .val (.int (0 : Int32)), .val (.int (0 : Int32))] [(.int (0 : Int32))])) t
        exact k
      exact Own.retN hR X75 hx (t := .boolean) hret (by simp) (hb hby d5_81) (by decide) (by decide) (by decide) ⟨by simp [own_sub, Own.b2i, hc48], N0, e75⟩
theorem pd_0 : parseMethodDescriptor "(IIII)I" = some ⟨[.int, .int, .int, .int], some .int⟩ := by decide +kernel
theorem pd_1 : parseMethodDescriptor "(I)V" = some ⟨[.int], none⟩ := by decide +kernel
theorem pd_2 : parseMethodDescriptor "(Lcom/example/sluice/sluice/FieldSet;)Z" = some ⟨[(.object "com/example/sluice/sluice/FieldSet")], some .boolean⟩ := by decide +kernel
theorem ef_0 (m : MethodId) (p0 : Int32) (p1 : Int32) (p2 : Int32) (p3 : Int32) (p4 : Int32) : entryFrame m #[(.int p0), (.int p1), (.int p2), (.int p3), (.int p4)] maxLocals = mkF m 0 #[.val (.int p0), .val (.int p1), .val (.int p2), .val (.int p3), .val (.int p4), .unset, .unset, .unset, .unset, .unset, .unset, .unset, .unset, .unset, .unset, .unset] [] := by first | (simp [entryFrame, mkF, argsToLocals, Value.category, maxLocals]; done) | rfl
def Q0 (Z : State) (p0 : Int32) (p1 : Int32) (p2 : Int32) (p3 : Int32) (p4 : Int32) (h0 : Heap) (n0 : Nat) (v : Option Value) (h : Heap) (L : List Loc) : Prop := v = some (.int 1) ∧ Fr n0 L
set_option maxRecDepth 65536 in
set_option maxHeartbeats 40000000 in
theorem rm0 (l : Launch) (Z : State) (a0 : Array Value) (hw : ∀ d ∈ tables_1, d.before a0 Z = true) (ws : List Jvm.Cond) (p0 : Int32) (p1 : Int32) (p2 : Int32) (p3 : Int32) (p4 : Int32) (h0 : Heap) (n0 : Nat) (Z0 : n0 ≤ h0.size) :
    MetFree l x (head1 (Jvm.Cond.code x code maxLocals ret :: ws) room_1) (fun a U => a = #[(.int p0), (.int p1), (.int p2), (.int p3), (.int p4)] ∧ Z.Warmed39 U.vm ∧ U.heap = h0) (fun _ _ _ _ _ => True) (fun _ U o U' => ∃ v L, o = .returned v ∧ Q0 Z p0 p1 p2 p3 p4 h0 n0 v U'.heap L ∧ FrameEnd U o U' L room_1.cells room_1.slots) := by
  refine Own.enter (Q := Q0 Z p0 p1 p2 p3 p4 h0 n0) (plainFor_of_name pn_1) ?_
  intro p e s m below meth c s₁ D hx hby hml hown hnm hret hZ X0 e0 hD hR
  have N0 := Fr.nil n0
  rw [show entryFrame m #[(.int p0), (.int p1), (.int p2), (.int p3), (.int p4)] maxLocals = mkF m 0 #[.val (.int p0), .val (.int p1), .val (.int p2), .val (.int p3), .val (.int p4), .unset, .unset, .unset, .unset, .unset, .unset, .unset, .unset, .unset, .unset, .unset] [] from ef_0 m p0 p1 p2 p3 p4]
  have hnz1 : (192 : Int32) ≠ 0 := by decide
  obtain ⟨v2, hv2⟩ : ∃ z : Int32, z = ((1 : Int32) + ((p0 &&& (2147483647 : Int32)) % (192 : Int32))) := ⟨_, rfl⟩
  have hnz0 := own_nz (own_size hv2).1
  have hnz3 : v2 ≠ 0 := by assumption
  obtain ⟨v4, hv4⟩ : ∃ z : Int32, z = ((p1 &&& (2147483647 : Int32)) % v2) := ⟨_, rfl⟩
  have hnz5 : v2 ≠ 0 := by assumption
  obtain ⟨v6, hv6⟩ : ∃ z : Int32, z = ((p2 &&& (2147483647 : Int32)) % v2) := ⟨_, rfl⟩
  obtain ⟨T7, _, L7, X7, ⟨⟨r_7, rfl, hr_7⟩, Nq7, e7⟩, st7⟩ := Own.callS (y := (⟨"com/example/sluice/sluice/FieldSetContainsAllPinLaw", "pick", "(IIII)I"⟩ : MethodName)) (W := 0) (argsL := [(.int p3), (.int v4), (.int v6), (.int v2)]) (rest := []) X0 hx hZ hown (hw _ (List.mem_of_getElem? (i := 1) rfl)) (hw _ (List.mem_of_getElem? (i := 2) rfl)) (hw _ (List.mem_of_getElem? (i := 3) rfl)) (hw _ (List.mem_of_getElem? (i := 4) rfl)) (by decide) e0 (rm4 l Z a0 hw [] p3 v4 v6 v2  h0 n0 (own_size hv2).1 (own_rem (own_size hv2).1 hv4) (own_rem (own_size hv2).1 hv6)) (by decide) (by decide) (by decide) (by decide) (g := (mkF m 37 #[.val (.int p0), .val (.int p1), .val (.int p2), .val (.int p3), .val (.int p4), .val (.int v2), .val (.int v4), .val (.int v6), .unset, .unset, .unset, .unset, .unset, .unset, .unset, .unset] [(.int v2), (.int v6), (.int v4), (.int p3)])) rfl (by rw [hml]; rfl) (lenOf pd_0 rfl) rfl (by show 2 * 0 + _ ≤ _; exact Nat.le_of_eq rfl) (hb hby at_37)
  have N7 := Fr.app N0 Nq7
  obtain ⟨T8, _, L8, X8, ⟨⟨r_8, rfl, hr_8⟩, Nq8, e8⟩, st8⟩ := Own.callS (y := (⟨"com/example/sluice/sluice/FieldSetContainsAllPinLaw", "pick", "(IIII)I"⟩ : MethodName)) (W := 0) (argsL := [(.int p4), (.int v4), (.int v6), (.int v2)]) (rest := []) X7 hx hZ hown (hw _ (List.mem_of_getElem? (i := 1) rfl)) (hw _ (List.mem_of_getElem? (i := 2) rfl)) (hw _ (List.mem_of_getElem? (i := 3) rfl)) (hw _ (List.mem_of_getElem? (i := 4) rfl)) (by decide) e7 (rm4 l Z a0 hw [] p4 v4 v6 v2  h0 n0 (own_size hv2).1 (own_rem (own_size hv2).1 hv4) (own_rem (own_size hv2).1 hv6)) (by decide) (by decide) (by decide) (by decide) (g := (mkF m 50 #[.val (.int p0), .val (.int p1), .val (.int p2), .val (.int p3), .val (.int p4), .val (.int v2), .val (.int v4), .val (.int v6), .val (.int r_7), .unset, .unset, .unset, .unset, .unset, .unset, .unset] [(.int v2), (.int v6), (.int v4), (.int p4)])) rfl (by rw [hml]; rfl) (lenOf pd_0 rfl) rfl (by show 2 * 0 + _ ≤ _; exact Nat.le_of_eq rfl) (hb hby at_50)
  have N8 := Fr.app N7 Nq8
  obtain ⟨T9, h9, X9, e9, E9, A9, D9, -, st9⟩ := newO X8 hx hZ hown (hw _ (List.mem_of_getElem? (i := 5) rfl)) (hw _ (List.mem_of_getElem? (i := 6) rfl)) (hw _ (List.mem_of_getElem? (i := 7) rfl)) e8 (g := (mkF m 55 #[.val (.int p0), .val (.int p1), .val (.int p2), .val (.int p3), .val (.int p4), .val (.int v2), .val (.int v4), .val (.int v6), .val (.int r_7), .val (.int r_8), .unset, .unset, .unset, .unset, .unset, .unset] [])) rfl (hb hby at_55) (by decide) (by decide)
  obtain ⟨b9, g_b9⟩ : ∃ z : Nat, z = h0.size := ⟨_, rfl⟩
  rw [← g_b9] at A9 D9 st9
  have g0_b9 : n0 ≤ b9 := by rw [g_b9]; exact Z0
  have f10 : Fld Z h9 b9 "com/example/sluice/sluice/FieldSet" "rest" "[J" .null := D9 (Or.inr (hw _ (List.mem_of_getElem? (i := 15) rfl))) (ty := (.array .long)) (by decide)
  have f11 : Fld Z h9 b9 "com/example/sluice/sluice/FieldSet" "first" "J" (.long (0 : Int64)) := D9 (Or.inl (hw _ (List.mem_of_getElem? (i := 22) rfl))) (ty := .long) (by decide)
  have Z9 : n0 ≤ h9.size := Nat.le_trans Z0 E9.1
  obtain ⟨T12, _, L12, X12, ⟨rfl, Nq12, Kq12, r12, n12, FS12, hn12, hr12⟩, st12⟩ := Own.callI (y := (⟨"com/example/sluice/sluice/FieldSet", "<init>", "(I)V"⟩ : MethodName)) (W := 1) (argsL := [(.int v2)]) (rest := [(.ref b9)]) (a := b9) X9 hx hZ hown rfl (hw _ (List.mem_of_getElem? (i := 8) rfl)) (hw _ (List.mem_of_getElem? (i := 9) rfl)) (hw _ (List.mem_of_getElem? (i := 7) rfl)) (hw _ (List.mem_of_getElem? (i := 10) rfl)) (by decide) e9 (rm1 l Z a0 hw [] b9 v2  h9 n0 Z9 g0_b9 (own_size hv2) A9 f11 f10) (by decide) (by decide) (by decide) (by decide) (g := (mkF m 61 #[.val (.int p0), .val (.int p1), .val (.int p2), .val (.int p3), .val (.int p4), .val (.int v2), .val (.int v4), .val (.int v6), .val (.int r_7), .val (.int r_8), .unset, .unset, .unset, .unset, .unset, .unset] [(.int v2), (.ref b9), (.ref b9)])) rfl (by rw [hml]; rfl) (lenOf pd_1 rfl) rfl (by show 2 * 0 + _ ≤ _; exact Nat.le_of_eq rfl) (hb hby at_61)
  have N12 := Fr.app N8 Nq12
  have Z12 : n0 ≤ T12.heap.size := Nat.le_trans Z9 Kq12.1
  have g0_r12 : n0 ≤ r12 := by
    rcases hr12 with q | q
    · rw [q]; exact g0_b9
    · exact Nat.le_trans Z9 q
  obtain ⟨T13, h13, X13, e13, E13, A13, D13, -, st13⟩ := newO X12 hx hZ hown (hw _ (List.mem_of_getElem? (i := 5) rfl)) (hw _ (List.mem_of_getElem? (i := 6) rfl)) (hw _ (List.mem_of_getElem? (i := 7) rfl)) rfl (g := (mkF m 66 #[.val (.int p0), .val (.int p1), .val (.int p2), .val (.int p3), .val (.int p4), .val (.int v2), .val (.int v4), .val (.int v6), .val (.int r_7), .val (.int r_8), .val (.ref b9), .unset, .unset, .unset, .unset, .unset] [])) rfl (hb hby at_66) (by decide) (by decide)
  obtain ⟨b13, g_b13⟩ : ∃ z : Nat, z = T12.heap.size := ⟨_, rfl⟩
  rw [← g_b13] at A13 D13 st13
  have lt_b9_b13 : (b9 : Nat) < b13 := by rw [g_b13]; exact FS12.1.lt
  have lt_r12_b13 : (r12 : Nat) < b13 := by rw [g_b13]; exact FS12.lt1
  have g0_b13 : n0 ≤ b13 := by rw [g_b13]; exact Z12
  have f14 : own_FS Z h13 b9 r12 n12 (fun _ => 0) := FS12.ext E13
  have f15 : Exa Z h13 b9 "com/example/sluice/sluice/FieldSet" := (FS12.1.ext E13)
  have f16 : Fld Z h13 b13 "com/example/sluice/sluice/FieldSet" "rest" "[J" .null := D13 (Or.inr (hw _ (List.mem_of_getElem? (i := 15) rfl))) (ty := (.array .long)) (by decide)
  have f17 : Fld Z h13 b13 "com/example/sluice/sluice/FieldSet" "first" "J" (.long (0 : Int64)) := D13 (Or.inl (hw _ (List.mem_of_getElem? (i := 22) rfl))) (ty := .long) (by decide)
  have Z13 : n0 ≤ h13.size := Nat.le_trans Z12 E13.1
  obtain ⟨T18, _, L18, X18, ⟨rfl, Nq18, Kq18, r18, n18, FS18, hn18, hr18⟩, st18⟩ := Own.callI (y := (⟨"com/example/sluice/sluice/FieldSet", "<init>", "(I)V"⟩ : MethodName)) (W := 1) (argsL := [(.int v2)]) (rest := [(.ref b13)]) (a := b13) X13 hx hZ hown rfl (hw _ (List.mem_of_getElem? (i := 8) rfl)) (hw _ (List.mem_of_getElem? (i := 9) rfl)) (hw _ (List.mem_of_getElem? (i := 7) rfl)) (hw _ (List.mem_of_getElem? (i := 10) rfl)) (by decide) e13 (rm1 l Z a0 hw [] b13 v2  h13 n0 Z13 g0_b13 (own_size hv2) A13 f17 f16) (by decide) (by decide) (by decide) (by decide) (g := (mkF m 72 #[.val (.int p0), .val (.int p1), .val (.int p2), .val (.int p3), .val (.int p4), .val (.int v2), .val (.int v4), .val (.int v6), .val (.int r_7), .val (.int r_8), .val (.ref b9), .unset, .unset, .unset, .unset, .unset] [(.int v2), (.ref b13), (.ref b13)])) rfl (by rw [hml]; rfl) (lenOf pd_1 rfl) rfl (by show 2 * 0 + _ ≤ _; exact Nat.le_of_eq rfl) (hb hby at_72)
  have N18 := Fr.app N12 Nq18
  have Z18 : n0 ≤ T18.heap.size := Nat.le_trans Z13 Kq18.1
  have lt_b9_r18 : (b9 : Nat) < r18 := by
    have q1 := f14.lt0
    rcases hr18 with q | q <;> omega
  have lt_r12_r18 : (r12 : Nat) < r18 := by
    have q1 := f14.lt1
    rcases hr18 with q | q <;> omega
  have f19 : own_FS Z T18.heap b9 r12 n12 (fun _ => 0) := f14.keep Kq18 (ninS (Own.ne_of (by omega)) nin0) (ninS (Own.ne_of (by omega)) nin0)
  have f20 : Exa Z T18.heap b9 "com/example/sluice/sluice/FieldSet" := f15.keep Kq18
  have g0_r18 : n0 ≤ r18 := by
    rcases hr18 with q | q
    · rw [q]; exact g0_b13
    · exact Nat.le_trans Z13 q
  obtain ⟨T21, _, L21, X21, ⟨rfl, Nq21, Kq21, FS21⟩, st21⟩ := Own.callV (y := (⟨"com/example/sluice/sluice/FieldSet", "add", "(I)V"⟩ : MethodName)) (W := 0) (argsL := [(.int v4)]) (rest := []) (a := b9) X18 hx hZ hown (hw _ (List.mem_of_getElem? (i := 16) rfl)) (hw _ (List.mem_of_getElem? (i := 17) rfl)) (hw _ (List.mem_of_getElem? (i := 19) rfl)) (hw _ (List.mem_of_getElem? (i := 18) rfl)) (hw _ (List.mem_of_getElem? (i := 7) rfl)) (hw _ (List.mem_of_getElem? (i := 20) rfl)) (by decide) rfl f20 (rm2 l Z a0 hw [] b9 v4 r12 n12 (fun _ => 0) T18.heap n0 Z18 g0_b9 g0_r12 (own_in (own_rem (own_size hv2).1 hv4) hn12) f19) (by decide) (by decide) (by decide) (by decide) (g := (mkF m 81 #[.val (.int p0), .val (.int p1), .val (.int p2), .val (.int p3), .val (.int p4), .val (.int v2), .val (.int v4), .val (.int v6), .val (.int r_7), .val (.int r_8), .val (.ref b9), .val (.ref b13), .unset, .unset, .unset, .unset] [(.int v4), (.ref b9)])) rfl (by rw [hml]; rfl) (lenOf pd_1 rfl) rfl (by show 2 * 0 + _ ≤ _; exact Nat.le_of_eq rfl) (hb hby at_81)
  have N21 := Fr.app N18 Nq21
  have Z21 : n0 ≤ T21.heap.size := Nat.le_trans Z18 Kq21.1
  have f22 : own_FS Z T21.heap b13 r18 n18 (fun _ => 0) := FS18.keep Kq21 (ninS (Own.ne_of (by omega)) (ninS (Own.ne_of (by omega)) nin0)) (ninS (Own.ne_of (by omega)) (ninS (Own.ne_of (by omega)) nin0))
  have f23 : Exa Z T21.heap b13 "com/example/sluice/sluice/FieldSet" := FS18.1.keep Kq21
  obtain ⟨T24, _, L24, X24, ⟨rfl, Nq24, Kq24, FS24⟩, st24⟩ := Own.callV (y := (⟨"com/example/sluice/sluice/FieldSet", "add", "(I)V"⟩ : MethodName)) (W := 0) (argsL := [(.int v6)]) (rest := []) (a := b9) X21 hx hZ hown (hw _ (List.mem_of_getElem? (i := 16) rfl)) (hw _ (List.mem_of_getElem? (i := 17) rfl)) (hw _ (List.mem_of_getElem? (i := 19) rfl)) (hw _ (List.mem_of_getElem? (i := 18) rfl)) (hw _ (List.mem_of_getElem? (i := 7) rfl)) (hw _ (List.mem_of_getElem? (i := 20) rfl)) (by decide) rfl FS21.1 (rm2 l Z a0 hw [] b9 v6 r12 n12 (own_add (fun _ => 0) v4) T21.heap n0 Z21 g0_b9 g0_r12 (own_in (own_rem (own_size hv2).1 hv6) hn12) FS21) (by decide) (by decide) (by decide) (by decide) (g := (mkF m 88 #[.val (.int p0), .val (.int p1), .val (.int p2), .val (.int p3), .val (.int p4), .val (.int v2), .val (.int v4), .val (.int v6), .val (.int r_7), .val (.int r_8), .val (.ref b9), .val (.ref b13), .unset, .unset, .unset, .unset] [(.int v6), (.ref b9)])) rfl (by rw [hml]; rfl) (lenOf pd_1 rfl) rfl (by show 2 * 0 + _ ≤ _; exact Nat.le_of_eq rfl) (hb hby at_88)
  have N24 := Fr.app N21 Nq24
  have Z24 : n0 ≤ T24.heap.size := Nat.le_trans Z21 Kq24.1
  have f25 : own_FS Z T24.heap b13 r18 n18 (fun _ => 0) := f22.keep Kq24 (ninS (Own.ne_of (by omega)) (ninS (Own.ne_of (by omega)) nin0)) (ninS (Own.ne_of (by omega)) (ninS (Own.ne_of (by omega)) nin0))
  have f26 : Exa Z T24.heap b13 "com/example/sluice/sluice/FieldSet" := f23.keep Kq24
  obtain ⟨T27, _, L27, X27, ⟨rfl, Nq27, Kq27, FS27⟩, st27⟩ := Own.callV (y := (⟨"com/example/sluice/sluice/FieldSet", "add", "(I)V"⟩ : MethodName)) (W := 0) (argsL := [(.int r_7)]) (rest := []) (a := b13) X24 hx hZ hown (hw _ (List.mem_of_getElem? (i := 16) rfl)) (hw _ (List.mem_of_getElem? (i := 17) rfl)) (hw _ (List.mem_of_getElem? (i := 19) rfl)) (hw _ (List.mem_of_getElem? (i := 18) rfl)) (hw _ (List.mem_of_getElem? (i := 7) rfl)) (hw _ (List.mem_of_getElem? (i := 20) rfl)) (by decide) rfl f26 (rm2 l Z a0 hw [] b13 r_7 r18 n18 (fun _ => 0) T24.heap n0 Z24 g0_b13 g0_r18 (own_in hr_7 hn18) f25) (by decide) (by decide) (by decide) (by decide) (g := (mkF m 95 #[.val (.int p0), .val (.int p1), .val (.int p2), .val (.int p3), .val (.int p4), .val (.int v2), .val (.int v4), .val (.int v6), .val (.int r_7), .val (.int r_8), .val (.ref b9), .val (.ref b13), .unset, .unset, .unset, .unset] [(.int r_7), (.ref b13)])) rfl (by rw [hml]; rfl) (lenOf pd_1 rfl) rfl (by show 2 * 0 + _ ≤ _; exact Nat.le_of_eq rfl) (hb hby at_95)
  have N27 := Fr.app N24 Nq27
  have Z27 : n0 ≤ T27.heap.size := Nat.le_trans Z24 Kq27.1
  have f28 : own_FS Z T27.heap b9 r12 n12 (own_add (own_add (fun _ => 0) v4) v6) := FS24.keep Kq27 (ninS (Own.ne_of (by omega)) (ninS (Own.ne_of (by omega)) nin0)) (ninS (Own.ne_of (by omega)) (ninS (Own.ne_of (by omega)) nin0))
  have f29 : Exa Z T27.heap b9 "com/example/sluice/sluice/FieldSet" := FS24.1.keep Kq27
  obtain ⟨T30, _, L30, X30, ⟨rfl, Nq30, Kq30, FS30⟩, st30⟩ := Own.callV (y := (⟨"com/example/sluice/sluice/FieldSet", "add", "(I)V"⟩ : MethodName)) (W := 0) (argsL := [(.int r_8)]) (rest := []) (a := b13) X27 hx hZ hown (hw _ (List.mem_of_getElem? (i := 16) rfl)) (hw _ (List.mem_of_getElem? (i := 17) rfl)) (hw _ (List.mem_of_getElem? (i := 19) rfl)) (hw _ (List.mem_of_getElem? (i := 18) rfl)) (hw _ (List.mem_of_getElem? (i := 7) rfl)) (hw _ (List.mem_of_getElem? (i := 20) rfl)) (by decide) rfl FS27.1 (rm2 l Z a0 hw [] b13 r_8 r18 n18 (own_add (fun _ => 0) r_7) T27.heap n0 Z27 g0_b13 g0_r18 (own_in hr_8 hn18) FS27) (by decide) (by decide) (by decide) (by decide) (g := (mkF m 102 #[.val (.int p0), .val (.int p1), .val (.int p2), .val (.int p3), .val (.int p4), .val (.int v2), .val (.int v4), .val (.int v6), .val (.int r_7), .val (.int r_8), .val (.ref b9), .val (.ref b13), .unset, .unset, .unset, .unset] [(.int r_8), (.ref b13)])) rfl (by rw [hml]; rfl) (lenOf pd_1 rfl) rfl (by show 2 * 0 + _ ≤ _; exact Nat.le_of_eq rfl) (hb hby at_102)
  have N30 := Fr.app N27 Nq30
  have Z30 : n0 ≤ T30.heap.size := Nat.le_trans Z27 Kq30.1
  have f31 : own_FS Z T30.heap b9 r12 n12 (own_add (own_add (fun _ => 0) v4) v6) := f28.keep Kq30 (ninS (Own.ne_of (by omega)) (ninS (Own.ne_of (by omega)) nin0)) (ninS (Own.ne_of (by omega)) (ninS (Own.ne_of (by omega)) nin0))
  have f32 : Exa Z T30.heap b9 "com/example/sluice/sluice/FieldSet" := f29.keep Kq30
  obtain ⟨T33, _, L33, X33, ⟨rfl, Nq33, e33⟩, st33⟩ := Own.callV (y := (⟨"com/example/sluice/sluice/FieldSet", "containsAll", "(Lcom/example/sluice/sluice/FieldSet;)Z"⟩ : MethodName)) (W := 0) (argsL := [(.ref b13)]) (rest := []) (a := b9) X30 hx hZ hown (hw _ (List.mem_of_getElem? (i := 23) rfl)) (hw _ (List.mem_of_getElem? (i := 24) rfl)) (hw _ (List.mem_of_getElem? (i := 26) rfl)) (hw _ (List.mem_of_getElem? (i := 25) rfl)) (hw _ (List.mem_of_getElem? (i := 7) rfl)) (hw _ (List.mem_of_getElem? (i := 27) rfl)) (by decide) rfl f32 (rm5 l Z a0 hw [] b9 b13 n12 r12 (own_add (own_add (fun _ => 0) v4) v6) r18 (own_add (own_add (fun _ => 0) r_7) r_8) T30.heap n0 f31 (by rw [show n12 = n18 by omega]; exact FS30)) (by decide) (by decide) (by decide) (by decide) (g := (mkF m 109 #[.val (.int p0), .val (.int p1), .val (.int p2), .val (.int p3), .val (.int p4), .val (.int v2), .val (.int v4), .val (.int v6), .val (.int r_7), .val (.int r_8), .val (.ref b9), .val (.ref b13), .unset, .unset, .unset, .unset] [(.ref b13), (.ref b9)])) rfl (by rw [hml]; rfl) (lenOf pd_2 rfl) rfl (by show 2 * 0 + _ ≤ _; exact Nat.le_of_eq rfl) (hb hby at_109)
  have N33 := Fr.app N30 Nq33
  obtain ⟨T34, _, L34, X34, ⟨rfl, Nq34, e34⟩, st34⟩ := Own.callV (y := (⟨"com/example/sluice/sluice/FieldSet", "containsAll", "(Lcom/example/sluice/sluice/FieldSet;)Z"⟩ : MethodName)) (W := 0) (argsL := [(.ref b9)]) (rest := []) (a := b13) X33 hx hZ hown (hw _ (List.mem_of_getElem? (i := 23) rfl)) (hw _ (List.mem_of_getElem? (i := 24) rfl)) (hw _ (List.mem_of_getElem? (i := 26) rfl)) (hw _ (List.mem_of_getElem? (i := 25) rfl)) (hw _ (List.mem_of_getElem? (i := 7) rfl)) (hw _ (List.mem_of_getElem? (i := 27) rfl)) (by decide) e33 FS30.1 (rm5 l Z a0 hw [] b13 b9 n18 r18 (own_add (own_add (fun _ => 0) r_7) r_8) r12 (own_add (own_add (fun _ => 0) v4) v6) T30.heap n0 FS30 (by rw [show n18 = n12 by omega]; exact f31)) (by decide) (by decide) (by decide) (by decide) (g := (mkF m 118 #[.val (.int p0), .val (.int p1), .val (.int p2), .val (.int p3), .val (.int p4), .val (.int v2), .val (.int v4), .val (.int v6), .val (.int r_7), .val (.int r_8), .val (.ref b9), .val (.ref b13), .val (.int (Own.b2i (own_sub n12 (own_add (own_add (fun _ => 0) v4) v6) (own_add (own_add (fun _ => 0) r_7) r_8)))), .unset, .unset, .unset] [(.ref b9), (.ref b13)])) rfl (by rw [hml]; rfl) (lenOf pd_2 rfl) rfl (by show 2 * 0 + _ ≤ _; exact Nat.le_of_eq rfl) (hb hby at_118)
  have N34 := Fr.app N33 Nq34
  refine hD _ (T34.setTop (mkF m 123 #[.val (.int p0), .val (.int p1), .val (.int p2), .val (.int p3), .val (.int p4), .val (.int v2), .val (.int v4), .val (.int v6), .val (.int r_7), .val (.int r_8), .val (.ref b9), .val (.ref b13), .val (.int (Own.b2i (own_sub n12 (own_add (own_add (fun _ => 0) v4) v6) (own_add (own_add (fun _ => 0) r_7) r_8)))), .val (.int (Own.b2i (own_sub n18 (own_add (own_add (fun _ => 0) r_7) r_8) (own_add (own_add (fun _ => 0) v4) v6)))), .unset, .unset] [])) (fun t k => ?_) ?_
  · show Steps p.tables e below (s₁.setTop (mkF m 0 #[.val (.int p0), .val (.int p1), .val (.int p2), .val (.int p3), .val (.int p4), .unset, .unset, .unset, .unset, .unset, .unset, .unset, .unset, .unset, .unset, .unset] [])) t
    refine XS.iconst X0.here hx rfl (hb hby at_0) ?_
    show Steps p.tables e below (s₁.setTop (mkF m 1 #[.val (.int p0), .val (.int p1), .val (.int p2), .val (.int p3), .val (.int p4), .unset, .unset, .unset, .unset, .unset, .unset, .unset, .unset, .unset, .unset, .unset] [(.int (1 : Int32))])) t
    refine XS.iloadN X0.here hx rfl (hb hby at_1) rfl ?_
    show Steps p.tables e below (s₁.setTop (mkF m 2 #[.val (.int p0), .val (.int p1), .val (.int p2), .val (.int p3), .val (.int p4), .unset, .unset, .unset, .unset, .unset, .unset, .unset, .unset, .unset, .unset, .unset] [(.int p0), (.int (1 : Int32))])) t
    refine X0.ldcInt hx hown (mvT hZ (hw _ (List.mem_of_getElem? (i := 0) rfl))) (g := (mkF m 2 #[.val (.int p0), .val (.int p1), .val (.int p2), .val (.int p3), .val (.int p4), .unset, .unset, .unset, .unset, .unset, .unset, .unset, .unset, .unset, .unset, .unset] [(.int p0), (.int (1 : Int32))])) rfl (hb hby at_2) _ ?_
    show Steps p.tables e below (s₁.setTop (mkF m 4 #[.val (.int p0), .val (.int p1), .val (.int p2), .val (.int p3), .val (.int p4), .unset, .unset, .unset, .unset, .unset, .unset, .unset, .unset, .unset, .unset, .unset] [(.int (2147483647 : Int32)), (.int p0), (.int (1 : Int32))])) t
    refine XS.iand X0.here hx rfl (hb hby at_4) rfl ?_
    show Steps p.tables e below (s₁.setTop (mkF m 5 #[.val (.int p0), .val (.int p1), .val (.int p2), .val (.int p3), .val (.int p4), .unset, .unset, .unset, .unset, .unset, .unset, .unset, .unset, .unset, .unset, .unset] [(.int (p0 &&& (2147483647 : Int32))), (.int (1 : Int32))])) t
    refine XS.sipush X0.here hx rfl (hb hby at_5) ?_
    show Steps p.tables e below (s₁.setTop (mkF m 8 #[.val (.int p0), .val (.int p1), .val (.int p2), .val (.int p3), .val (.int p4), .unset, .unset, .unset, .unset, .unset, .unset, .unset, .unset, .unset, .unset, .unset] [(.int (192 : Int32)), (.int (p0 &&& (2147483647 : Int32))), (.int (1 : Int32))])) t
    refine Jvm.RoadKit.iremM (g := (mkF m 8 #[.val (.int p0), .val (.int p1), .val (.int p2), .val (.int p3), .val (.int p4), .unset, .unset, .unset, .unset, .unset, .unset, .unset, .unset, .unset, .unset, .unset] [(.int (192 : Int32)), (.int (p0 &&& (2147483647 : Int32))), (.int (1 : Int32))])) X0 hx rfl (hb hby at_8) rfl hnz1 ?_
    show Steps p.tables e below (s₁.setTop (mkF m 9 #[.val (.int p0), .val (.int p1), .val (.int p2), .val (.int p3), .val (.int p4), .unset, .unset, .unset, .unset, .unset, .unset, .unset, .unset, .unset, .unset, .unset] [(.int ((p0 &&& (2147483647 : Int32)) % (192 : Int32))), (.int (1 : Int32))])) t
    refine XS.iadd X0.here hx rfl (hb hby at_9) rfl ?_
    show Steps p.tables e below (s₁.setTop (mkF m 10 #[.val (.int p0), .val (.int p1), .val (.int p2), .val (.int p3), .val (.int p4), .unset, .unset, .unset, .unset, .unset, .unset, .unset, .unset, .unset, .unset, .unset] [(.int ((1 : Int32) + ((p0 &&& (2147483647 : Int32)) % (192 : Int32))))])) t
    refine Own.nmI hv2 ?_
    show Steps p.tables e below (s₁.setTop (mkF m 10 #[.val (.int p0), .val (.int p1), .val (.int p2), .val (.int p3), .val (.int p4), .unset, .unset, .unset, .unset, .unset, .unset, .unset, .unset, .unset, .unset, .unset] [(.int v2)])) t
    refine XS.istore X0.here hx rfl (hb hby at_10) rfl (l' := #[.val (.int p0), .val (.int p1), .val (.int p2), .val (.int p3), .val (.int p4), .val (.int v2), .unset, .unset, .unset, .unset, .unset, .unset, .unset, .unset, .unset, .unset]) rfl ?_
    show Steps p.tables e below (s₁.setTop (mkF m 12 #[.val (.int p0), .val (.int p1), .val (.int p2), .val (.int p3), .val (.int p4), .val (.int v2), .unset, .unset, .unset, .unset, .unset, .unset, .unset, .unset, .unset, .unset] [])) t
    refine XS.iloadN X0.here hx rfl (hb hby at_12) rfl ?_
    show Steps p.tables e below (s₁.setTop (mkF m 13 #[.val (.int p0), .val (.int p1), .val (.int p2), .val (.int p3), .val (.int p4), .val (.int v2), .unset, .unset, .unset, .unset, .unset, .unset, .unset, .unset, .unset, .unset] [(.int p1)])) t
    refine X0.ldcInt hx hown (mvT hZ (hw _ (List.mem_of_getElem? (i := 0) rfl))) (g := (mkF m 13 #[.val (.int p0), .val (.int p1), .val (.int p2), .val (.int p3), .val (.int p4), .val (.int v2), .unset, .unset, .unset, .unset, .unset, .unset, .unset, .unset, .unset, .unset] [(.int p1)])) rfl (hb hby at_13) _ ?_
    show Steps p.tables e below (s₁.setTop (mkF m 15 #[.val (.int p0), .val (.int p1), .val (.int p2), .val (.int p3), .val (.int p4), .val (.int v2), .unset, .unset, .unset, .unset, .unset, .unset, .unset, .unset, .unset, .unset] [(.int (2147483647 : Int32)), (.int p1)])) t
    refine XS.iand X0.here hx rfl (hb hby at_15) rfl ?_
    show Steps p.tables e below (s₁.setTop (mkF m 16 #[.val (.int p0), .val (.int p1), .val (.int p2), .val (.int p3), .val (.int p4), .val (.int v2), .unset, .unset, .unset, .unset, .unset, .unset, .unset, .unset, .unset, .unset] [(.int (p1 &&& (2147483647 : Int32)))])) t
    refine XS.iload X0.here hx rfl (hb hby at_16) rfl ?_
    show Steps p.tables e below (s₁.setTop (mkF m 18 #[.val (.int p0), .val (.int p1), .val (.int p2), .val (.int p3), .val (.int p4), .val (.int v2), .unset, .unset, .unset, .unset, .unset, .unset, .unset, .unset, .unset, .unset] [(.int v2), (.int (p1 &&& (2147483647 : Int32)))])) t
    refine Jvm.RoadKit.iremM (g := (mkF m 18 #[.val (.int p0), .val (.int p1), .val (.int p2), .val (.int p3), .val (.int p4), .val (.int v2), .unset, .unset, .unset, .unset, .unset, .unset, .unset, .unset, .unset, .unset] [(.int v2), (.int (p1 &&& (2147483647 : Int32)))])) X0 hx rfl (hb hby at_18) rfl hnz3 ?_
    show Steps p.tables e below (s₁.setTop (mkF m 19 #[.val (.int p0), .val (.int p1), .val (.int p2), .val (.int p3), .val (.int p4), .val (.int v2), .unset, .unset, .unset, .unset, .unset, .unset, .unset, .unset, .unset, .unset] [(.int ((p1 &&& (2147483647 : Int32)) % v2))])) t
    refine Own.nmI hv4 ?_
    show Steps p.tables e below (s₁.setTop (mkF m 19 #[.val (.int p0), .val (.int p1), .val (.int p2), .val (.int p3), .val (.int p4), .val (.int v2), .unset, .unset, .unset, .unset, .unset, .unset, .unset, .unset, .unset, .unset] [(.int v4)])) t
    refine XS.istore X0.here hx rfl (hb hby at_19) rfl (l' := #[.val (.int p0), .val (.int p1), .val (.int p2), .val (.int p3), .val (.int p4), .val (.int v2), .val (.int v4), .unset, .unset, .unset, .unset, .unset, .unset, .unset, .unset, .unset]) rfl ?_
    show Steps p.tables e below (s₁.setTop (mkF m 21 #[.val (.int p0), .val (.int p1), .val (.int p2), .val (.int p3), .val (.int p4), .val (.int v2), .val (.int v4), .unset, .unset, .unset, .unset, .unset, .unset, .unset, .unset, .unset] [])) t
    refine XS.iloadN X0.here hx rfl (hb hby at_21) rfl ?_
    show Steps p.tables e below (s₁.setTop (mkF m 22 #[.val (.int p0), .val (.int p1), .val (.int p2), .val (.int p3), .val (.int p4), .val (.int v2), .val (.int v4), .unset, .unset, .unset, .unset, .unset, .unset, .unset, .unset, .unset] [(.int p2)])) t
    refine X0.ldcInt hx hown (mvT hZ (hw _ (List.mem_of_getElem? (i := 0) rfl))) (g := (mkF m 22 #[.val (.int p0), .val (.int p1), .val (.int p2), .val (.int p3), .val (.int p4), .val (.int v2), .val (.int v4), .unset, .unset, .unset, .unset, .unset, .unset, .unset, .unset, .unset] [(.int p2)])) rfl (hb hby at_22) _ ?_
    show Steps p.tables e below (s₁.setTop (mkF m 24 #[.val (.int p0), .val (.int p1), .val (.int p2), .val (.int p3), .val (.int p4), .val (.int v2), .val (.int v4), .unset, .unset, .unset, .unset, .unset, .unset, .unset, .unset, .unset] [(.int (2147483647 : Int32)), (.int p2)])) t
    refine XS.iand X0.here hx rfl (hb hby at_24) rfl ?_
    show Steps p.tables e below (s₁.setTop (mkF m 25 #[.val (.int p0), .val (.int p1), .val (.int p2), .val (.int p3), .val (.int p4), .val (.int v2), .val (.int v4), .unset, .unset, .unset, .unset, .unset, .unset, .unset, .unset, .unset] [(.int (p2 &&& (2147483647 : Int32)))])) t
    refine XS.iload X0.here hx rfl (hb hby at_25) rfl ?_
    show Steps p.tables e below (s₁.setTop (mkF m 27 #[.val (.int p0), .val (.int p1), .val (.int p2), .val (.int p3), .val (.int p4), .val (.int v2), .val (.int v4), .unset, .unset, .unset, .unset, .unset, .unset, .unset, .unset, .unset] [(.int v2), (.int (p2 &&& (2147483647 : Int32)))])) t
    refine Jvm.RoadKit.iremM (g := (mkF m 27 #[.val (.int p0), .val (.int p1), .val (.int p2), .val (.int p3), .val (.int p4), .val (.int v2), .val (.int v4), .unset, .unset, .unset, .unset, .unset, .unset, .unset, .unset, .unset] [(.int v2), (.int (p2 &&& (2147483647 : Int32)))])) X0 hx rfl (hb hby at_27) rfl hnz5 ?_
    show Steps p.tables e below (s₁.setTop (mkF m 28 #[.val (.int p0), .val (.int p1), .val (.int p2), .val (.int p3), .val (.int p4), .val (.int v2), .val (.int v4), .unset, .unset, .unset, .unset, .unset, .unset, .unset, .unset, .unset] [(.int ((p2 &&& (2147483647 : Int32)) % v2))])) t
    refine Own.nmI hv6 ?_
    show Steps p.tables e below (s₁.setTop (mkF m 28 #[.val (.int p0), .val (.int p1), .val (.int p2), .val (.int p3), .val (.int p4), .val (.int v2), .val (.int v4), .unset, .unset, .unset, .unset, .unset, .unset, .unset, .unset, .unset] [(.int v6)])) t
    refine XS.istore X0.here hx rfl (hb hby at_28) rfl (l' := #[.val (.int p0), .val (.int p1), .val (.int p2), .val (.int p3), .val (.int p4), .val (.int v2), .val (.int v4), .val (.int v6), .unset, .unset, .unset, .unset, .unset, .unset, .unset, .unset]) rfl ?_
    show Steps p.tables e below (s₁.setTop (mkF m 30 #[.val (.int p0), .val (.int p1), .val (.int p2), .val (.int p3), .val (.int p4), .val (.int v2), .val (.int v4), .val (.int v6), .unset, .unset, .unset, .unset, .unset, .unset, .unset, .unset] [])) t
    refine XS.iloadN X0.here hx rfl (hb hby at_30) rfl ?_
    show Steps p.tables e below (s₁.setTop (mkF m 31 #[.val (.int p0), .val (.int p1), .val (.int p2), .val (.int p3), .val (.int p4), .val (.int v2), .val (.int v4), .val (.int v6), .unset, .unset, .unset, .unset, .unset, .unset, .unset, .unset] [(.int p3)])) t
    refine XS.iload X0.here hx rfl (hb hby at_31) rfl ?_
    show Steps p.tables e below (s₁.setTop (mkF m 33 #[.val (.int p0), .val (.int p1), .val (.int p2), .val (.int p3), .val (.int p4), .val (.int v2), .val (.int v4), .val (.int v6), .unset, .unset, .unset, .unset, .unset, .unset, .unset, .unset] [(.int v4), (.int p3)])) t
    refine XS.iload X0.here hx rfl (hb hby at_33) rfl ?_
    show Steps p.tables e below (s₁.setTop (mkF m 35 #[.val (.int p0), .val (.int p1), .val (.int p2), .val (.int p3), .val (.int p4), .val (.int v2), .val (.int v4), .val (.int v6), .unset, .unset, .unset, .unset, .unset, .unset, .unset, .unset] [(.int v6), (.int v4), (.int p3)])) t
    refine XS.iload X0.here hx rfl (hb hby at_35) rfl ?_
    show Steps p.tables e below (s₁.setTop (mkF m 37 #[.val (.int p0), .val (.int p1), .val (.int p2), .val (.int p3), .val (.int p4), .val (.int v2), .val (.int v4), .val (.int v6), .unset, .unset, .unset, .unset, .unset, .unset, .unset, .unset] [(.int v2), (.int v6), (.int v4), (.int p3)])) t
    refine st7 _ ?_
    show Steps p.tables e below (T7.setTop (mkF m 40 #[.val (.int p0), .val (.int p1), .val (.int p2), .val (.int p3), .val (.int p4), .val (.int v2), .val (.int v4), .val (.int v6), .unset, .unset, .unset, .unset, .unset, .unset, .unset, .unset] [(.int r_7)])) t
    refine XS.istore X7.here hx rfl (hb hby at_40) rfl (l' := #[.val (.int p0), .val (.int p1), .val (.int p2), .val (.int p3), .val (.int p4), .val (.int v2), .val (.int v4), .val (.int v6), .val (.int r_7), .unset, .unset, .unset, .unset, .unset, .unset, .unset]) rfl ?_
    show Steps p.tables e below (T7.setTop (mkF m 42 #[.val (.int p0), .val (.int p1), .val (.int p2), .val (.int p3), .val (.int p4), .val (.int v2), .val (.int v4), .val (.int v6), .val (.int r_7), .unset, .unset, .unset, .unset, .unset, .unset, .unset] [])) t
    refine XS.iload X7.here hx rfl (hb hby at_42) rfl ?_
    show Steps p.tables e below (T7.setTop (mkF m 44 #[.val (.int p0), .val (.int p1), .val (.int p2), .val (.int p3), .val (.int p4), .val (.int v2), .val (.int v4), .val (.int v6), .val (.int r_7), .unset, .unset, .unset, .unset, .unset, .unset, .unset] [(.int p4)])) t
    refine XS.iload X7.here hx rfl (hb hby at_44) rfl ?_
    show Steps p.tables e below (T7.setTop (mkF m 46 #[.val (.int p0), .val (.int p1), .val (.int p2), .val (.int p3), .val (.int p4), .val (.int v2), .val (.int v4), .val (.int v6), .val (.int r_7), .unset, .unset, .unset, .unset, .unset, .unset, .unset] [(.int v4), (.int p4)])) t
    refine XS.iload X7.here hx rfl (hb hby at_46) rfl ?_
    show Steps p.tables e below (T7.setTop (mkF m 48 #[.val (.int p0), .val (.int p1), .val (.int p2), .val (.int p3), .val (.int p4), .val (.int v2), .val (.int v4), .val (.int v6), .val (.int r_7), .unset, .unset, .unset, .unset, .unset, .unset, .unset] [(.int v6), (.int v4), (.int p4)])) t
    refine XS.iload X7.here hx rfl (hb hby at_48) rfl ?_
    show Steps p.tables e below (T7.setTop (mkF m 50 #[.val (.int p0), .val (.int p1), .val (.int p2), .val (.int p3), .val (.int p4), .val (.int v2), .val (.int v4), .val (.int v6), .val (.int r_7), .unset, .unset, .unset, .unset, .unset, .unset, .unset] [(.int v2), (.int v6), (.int v4), (.int p4)])) t
    refine st8 _ ?_
    show Steps p.tables e below (T8.setTop (mkF m 53 #[.val (.int p0), .val (.int p1), .val (.int p2), .val (.int p3), .val (.int p4), .val (.int v2), .val (.int v4), .val (.int v6), .val (.int r_7), .unset, .unset, .unset, .unset, .unset, .unset, .unset] [(.int r_8)])) t
    refine XS.istore X8.here hx rfl (hb hby at_53) rfl (l' := #[.val (.int p0), .val (.int p1), .val (.int p2), .val (.int p3), .val (.int p4), .val (.int v2), .val (.int v4), .val (.int v6), .val (.int r_7), .val (.int r_8), .unset, .unset, .unset, .unset, .unset, .unset]) rfl ?_
    show Steps p.tables e below (T8.setTop (mkF m 55 #[.val (.int p0), .val (.int p1), .val (.int p2), .val (.int p3), .val (.int p4), .val (.int v2), .val (.int v4), .val (.int v6), .val (.int r_7), .val (.int r_8), .unset, .unset, .unset, .unset, .unset, .unset] [])) t
    refine st9 _ ?_
    show Steps p.tables e below (T9.setTop (mkF m 58 #[.val (.int p0), .val (.int p1), .val (.int p2), .val (.int p3), .val (.int p4), .val (.int v2), .val (.int v4), .val (.int v6), .val (.int r_7), .val (.int r_8), .unset, .unset, .unset, .unset, .unset, .unset] [(.ref b9)])) t
    refine XS.dup X9.here hx rfl (hb hby at_58) rfl rfl ?_
    show Steps p.tables e below (T9.setTop (mkF m 59 #[.val (.int p0), .val (.int p1), .val (.int p2), .val (.int p3), .val (.int p4), .val (.int v2), .val (.int v4), .val (.int v6), .val (.int r_7), .val (.int r_8), .unset, .unset, .unset, .unset, .unset, .unset] [(.ref b9), (.ref b9)])) t
    refine XS.iload X9.here hx rfl (hb hby at_59) rfl ?_
    show Steps p.tables e below (T9.setTop (mkF m 61 #[.val (.int p0), .val (.int p1), .val (.int p2), .val (.int p3), .val (.int p4), .val (.int v2), .val (.int v4), .val (.int v6), .val (.int r_7), .val (.int r_8), .unset, .unset, .unset, .unset, .unset, .unset] [(.int v2), (.ref b9), (.ref b9)])) t
    refine st12 _ ?_
    show Steps p.tables e below (T12.setTop (mkF m 64 #[.val (.int p0), .val (.int p1), .val (.int p2), .val (.int p3), .val (.int p4), .val (.int v2), .val (.int v4), .val (.int v6), .val (.int r_7), .val (.int r_8), .unset, .unset, .unset, .unset, .unset, .unset] [(.ref b9)])) t
    refine XS.astore X12.here hx rfl (hb hby at_64) rfl rfl (l' := #[.val (.int p0), .val (.int p1), .val (.int p2), .val (.int p3), .val (.int p4), .val (.int v2), .val (.int v4), .val (.int v6), .val (.int r_7), .val (.int r_8), .val (.ref b9), .unset, .unset, .unset, .unset, .unset]) rfl ?_
    show Steps p.tables e below (T12.setTop (mkF m 66 #[.val (.int p0), .val (.int p1), .val (.int p2), .val (.int p3), .val (.int p4), .val (.int v2), .val (.int v4), .val (.int v6), .val (.int r_7), .val (.int r_8), .val (.ref b9), .unset, .unset, .unset, .unset, .unset] [])) t
    refine st13 _ ?_
    show Steps p.tables e below (T13.setTop (mkF m 69 #[.val (.int p0), .val (.int p1), .val (.int p2), .val (.int p3), .val (.int p4), .val (.int v2), .val (.int v4), .val (.int v6), .val (.int r_7), .val (.int r_8), .val (.ref b9), .unset, .unset, .unset, .unset, .unset] [(.ref b13)])) t
    refine XS.dup X13.here hx rfl (hb hby at_69) rfl rfl ?_
    show Steps p.tables e below (T13.setTop (mkF m 70 #[.val (.int p0), .val (.int p1), .val (.int p2), .val (.int p3), .val (.int p4), .val (.int v2), .val (.int v4), .val (.int v6), .val (.int r_7), .val (.int r_8), .val (.ref b9), .unset, .unset, .unset, .unset, .unset] [(.ref b13), (.ref b13)])) t
    refine XS.iload X13.here hx rfl (hb hby at_70) rfl ?_
    show Steps p.tables e below (T13.setTop (mkF m 72 #[.val (.int p0), .val (.int p1), .val (.int p2), .val (.int p3), .val (.int p4), .val (.int v2), .val (.int v4), .val (.int v6), .val (.int r_7), .val (.int r_8), .val (.ref b9), .unset, .unset, .unset, .unset, .unset] [(.int v2), (.ref b13), (.ref b13)])) t
    refine st18 _ ?_
    show Steps p.tables e below (T18.setTop (mkF m 75 #[.val (.int p0), .val (.int p1), .val (.int p2), .val (.int p3), .val (.int p4), .val (.int v2), .val (.int v4), .val (.int v6), .val (.int r_7), .val (.int r_8), .val (.ref b9), .unset, .unset, .unset, .unset, .unset] [(.ref b13)])) t
    refine XS.astore X18.here hx rfl (hb hby at_75) rfl rfl (l' := #[.val (.int p0), .val (.int p1), .val (.int p2), .val (.int p3), .val (.int p4), .val (.int v2), .val (.int v4), .val (.int v6), .val (.int r_7), .val (.int r_8), .val (.ref b9), .val (.ref b13), .unset, .unset, .unset, .unset]) rfl ?_
    show Steps p.tables e below (T18.setTop (mkF m 77 #[.val (.int p0), .val (.int p1), .val (.int p2), .val (.int p3), .val (.int p4), .val (.int v2), .val (.int v4), .val (.int v6), .val (.int r_7), .val (.int r_8), .val (.ref b9), .val (.ref b13), .unset, .unset, .unset, .unset] [])) t
    refine XS.aload X18.here hx rfl (hb hby at_77) rfl rfl ?_
    show Steps p.tables e below (T18.setTop (mkF m 79 #[.val (.int p0), .val (.int p1), .val (.int p2), .val (.int p3), .val (.int p4), .val (.int v2), .val (.int v4), .val (.int v6), .val (.int r_7), .val (.int r_8), .val (.ref b9), .val (.ref b13), .unset, .unset, .unset, .unset] [(.ref b9)])) t
    refine XS.iload X18.here hx rfl (hb hby at_79) rfl ?_
    show Steps p.tables e below (T18.setTop (mkF m 81 #[.val (.int p0), .val (.int p1), .val (.int p2), .val (.int p3), .val (.int p4), .val (.int v2), .val (.int v4), .val (.int v6), .val (.int r_7), .val (.int r_8), .val (.ref b9), .val (.ref b13), .unset, .unset, .unset, .unset] [(.int v4), (.ref b9)])) t
    refine st21 _ ?_
    show Steps p.tables e below (T21.setTop (mkF m 84 #[.val (.int p0), .val (.int p1), .val (.int p2), .val (.int p3), .val (.int p4), .val (.int v2), .val (.int v4), .val (.int v6), .val (.int r_7), .val (.int r_8), .val (.ref b9), .val (.ref b13), .unset, .unset, .unset, .unset] [])) t
    refine XS.aload X21.here hx rfl (hb hby at_84) rfl rfl ?_
    show Steps p.tables e below (T21.setTop (mkF m 86 #[.val (.int p0), .val (.int p1), .val (.int p2), .val (.int p3), .val (.int p4), .val (.int v2), .val (.int v4), .val (.int v6), .val (.int r_7), .val (.int r_8), .val (.ref b9), .val (.ref b13), .unset, .unset, .unset, .unset] [(.ref b9)])) t
    refine XS.iload X21.here hx rfl (hb hby at_86) rfl ?_
    show Steps p.tables e below (T21.setTop (mkF m 88 #[.val (.int p0), .val (.int p1), .val (.int p2), .val (.int p3), .val (.int p4), .val (.int v2), .val (.int v4), .val (.int v6), .val (.int r_7), .val (.int r_8), .val (.ref b9), .val (.ref b13), .unset, .unset, .unset, .unset] [(.int v6), (.ref b9)])) t
    refine st24 _ ?_
    show Steps p.tables e below (T24.setTop (mkF m 91 #[.val (.int p0), .val (.int p1), .val (.int p2), .val (.int p3), .val (.int p4), .val (.int v2), .val (.int v4), .val (.int v6), .val (.int r_7), .val (.int r_8), .val (.ref b9), .val (.ref b13), .unset, .unset, .unset, .unset] [])) t
    refine XS.aload X24.here hx rfl (hb hby at_91) rfl rfl ?_
    show Steps p.tables e below (T24.setTop (mkF m 93 #[.val (.int p0), .val (.int p1), .val (.int p2), .val (.int p3), .val (.int p4), .val (.int v2), .val (.int v4), .val (.int v6), .val (.int r_7), .val (.int r_8), .val (.ref b9), .val (.ref b13), .unset, .unset, .unset, .unset] [(.ref b13)])) t
    refine XS.iload X24.here hx rfl (hb hby at_93) rfl ?_
    show Steps p.tables e below (T24.setTop (mkF m 95 #[.val (.int p0), .val (.int p1), .val (.int p2), .val (.int p3), .val (.int p4), .val (.int v2), .val (.int v4), .val (.int v6), .val (.int r_7), .val (.int r_8), .val (.ref b9), .val (.ref b13), .unset, .unset, .unset, .unset] [(.int r_7), (.ref b13)])) t
    refine st27 _ ?_
    show Steps p.tables e below (T27.setTop (mkF m 98 #[.val (.int p0), .val (.int p1), .val (.int p2), .val (.int p3), .val (.int p4), .val (.int v2), .val (.int v4), .val (.int v6), .val (.int r_7), .val (.int r_8), .val (.ref b9), .val (.ref b13), .unset, .unset, .unset, .unset] [])) t
    refine XS.aload X27.here hx rfl (hb hby at_98) rfl rfl ?_
    show Steps p.tables e below (T27.setTop (mkF m 100 #[.val (.int p0), .val (.int p1), .val (.int p2), .val (.int p3), .val (.int p4), .val (.int v2), .val (.int v4), .val (.int v6), .val (.int r_7), .val (.int r_8), .val (.ref b9), .val (.ref b13), .unset, .unset, .unset, .unset] [(.ref b13)])) t
    refine XS.iload X27.here hx rfl (hb hby at_100) rfl ?_
    show Steps p.tables e below (T27.setTop (mkF m 102 #[.val (.int p0), .val (.int p1), .val (.int p2), .val (.int p3), .val (.int p4), .val (.int v2), .val (.int v4), .val (.int v6), .val (.int r_7), .val (.int r_8), .val (.ref b9), .val (.ref b13), .unset, .unset, .unset, .unset] [(.int r_8), (.ref b13)])) t
    refine st30 _ ?_
    show Steps p.tables e below (T30.setTop (mkF m 105 #[.val (.int p0), .val (.int p1), .val (.int p2), .val (.int p3), .val (.int p4), .val (.int v2), .val (.int v4), .val (.int v6), .val (.int r_7), .val (.int r_8), .val (.ref b9), .val (.ref b13), .unset, .unset, .unset, .unset] [])) t
    refine XS.aload X30.here hx rfl (hb hby at_105) rfl rfl ?_
    show Steps p.tables e below (T30.setTop (mkF m 107 #[.val (.int p0), .val (.int p1), .val (.int p2), .val (.int p3), .val (.int p4), .val (.int v2), .val (.int v4), .val (.int v6), .val (.int r_7), .val (.int r_8), .val (.ref b9), .val (.ref b13), .unset, .unset, .unset, .unset] [(.ref b9)])) t
    refine XS.aload X30.here hx rfl (hb hby at_107) rfl rfl ?_
    show Steps p.tables e below (T30.setTop (mkF m 109 #[.val (.int p0), .val (.int p1), .val (.int p2), .val (.int p3), .val (.int p4), .val (.int v2), .val (.int v4), .val (.int v6), .val (.int r_7), .val (.int r_8), .val (.ref b9), .val (.ref b13), .unset, .unset, .unset, .unset] [(.ref b13), (.ref b9)])) t
    refine st33 _ ?_
    show Steps p.tables e below (T33.setTop (mkF m 112 #[.val (.int p0), .val (.int p1), .val (.int p2), .val (.int p3), .val (.int p4), .val (.int v2), .val (.int v4), .val (.int v6), .val (.int r_7), .val (.int r_8), .val (.ref b9), .val (.ref b13), .unset, .unset, .unset, .unset] [(.int (Own.b2i (own_sub n12 (own_add (own_add (fun _ => 0) v4) v6) (own_add (own_add (fun _ => 0) r_7) r_8))))])) t
    refine XS.istore X33.here hx rfl (hb hby at_112) rfl (l' := #[.val (.int p0), .val (.int p1), .val (.int p2), .val (.int p3), .val (.int p4), .val (.int v2), .val (.int v4), .val (.int v6), .val (.int r_7), .val (.int r_8), .val (.ref b9), .val (.ref b13), .val (.int (Own.b2i (own_sub n12 (own_add (own_add (fun _ => 0) v4) v6) (own_add (own_add (fun _ => 0) r_7) r_8)))), .unset, .unset, .unset]) rfl ?_
    show Steps p.tables e below (T33.setTop (mkF m 114 #[.val (.int p0), .val (.int p1), .val (.int p2), .val (.int p3), .val (.int p4), .val (.int v2), .val (.int v4), .val (.int v6), .val (.int r_7), .val (.int r_8), .val (.ref b9), .val (.ref b13), .val (.int (Own.b2i (own_sub n12 (own_add (own_add (fun _ => 0) v4) v6) (own_add (own_add (fun _ => 0) r_7) r_8)))), .unset, .unset, .unset] [])) t
    refine XS.aload X33.here hx rfl (hb hby at_114) rfl rfl ?_
    show Steps p.tables e below (T33.setTop (mkF m 116 #[.val (.int p0), .val (.int p1), .val (.int p2), .val (.int p3), .val (.int p4), .val (.int v2), .val (.int v4), .val (.int v6), .val (.int r_7), .val (.int r_8), .val (.ref b9), .val (.ref b13), .val (.int (Own.b2i (own_sub n12 (own_add (own_add (fun _ => 0) v4) v6) (own_add (own_add (fun _ => 0) r_7) r_8)))), .unset, .unset, .unset] [(.ref b13)])) t
    refine XS.aload X33.here hx rfl (hb hby at_116) rfl rfl ?_
    show Steps p.tables e below (T33.setTop (mkF m 118 #[.val (.int p0), .val (.int p1), .val (.int p2), .val (.int p3), .val (.int p4), .val (.int v2), .val (.int v4), .val (.int v6), .val (.int r_7), .val (.int r_8), .val (.ref b9), .val (.ref b13), .val (.int (Own.b2i (own_sub n12 (own_add (own_add (fun _ => 0) v4) v6) (own_add (own_add (fun _ => 0) r_7) r_8)))), .unset, .unset, .unset] [(.ref b9), (.ref b13)])) t
    refine st34 _ ?_
    show Steps p.tables e below (T34.setTop (mkF m 121 #[.val (.int p0), .val (.int p1), .val (.int p2), .val (.int p3), .val (.int p4), .val (.int v2), .val (.int v4), .val (.int v6), .val (.int r_7), .val (.int r_8), .val (.ref b9), .val (.ref b13), .val (.int (Own.b2i (own_sub n12 (own_add (own_add (fun _ => 0) v4) v6) (own_add (own_add (fun _ => 0) r_7) r_8)))), .unset, .unset, .unset] [(.int (Own.b2i (own_sub n18 (own_add (own_add (fun _ => 0) r_7) r_8) (own_add (own_add (fun _ => 0) v4) v6))))])) t
    refine XS.istore X34.here hx rfl (hb hby at_121) rfl (l' := #[.val (.int p0), .val (.int p1), .val (.int p2), .val (.int p3), .val (.int p4), .val (.int v2), .val (.int v4), .val (.int v6), .val (.int r_7), .val (.int r_8), .val (.ref b9), .val (.ref b13), .val (.int (Own.b2i (own_sub n12 (own_add (own_add (fun _ => 0) v4) v6) (own_add (own_add (fun _ => 0) r_7) r_8)))), .val (.int (Own.b2i (own_sub n18 (own_add (own_add (fun _ => 0) r_7) r_8) (own_add (own_add (fun _ => 0) v4) v6)))), .unset, .unset]) rfl ?_
    show Steps p.tables e below (T34.setTop (mkF m 123 #[.val (.int p0), .val (.int p1), .val (.int p2), .val (.int p3), .val (.int p4), .val (.int v2), .val (.int v4), .val (.int v6), .val (.int r_7), .val (.int r_8), .val (.ref b9), .val (.ref b13), .val (.int (Own.b2i (own_sub n12 (own_add (own_add (fun _ => 0) v4) v6) (own_add (own_add (fun _ => 0) r_7) r_8)))), .val (.int (Own.b2i (own_sub n18 (own_add (own_add (fun _ => 0) r_7) r_8) (own_add (own_add (fun _ => 0) v4) v6)))), .unset, .unset] [])) t
    exact k
  have J156 : ∀ (T35 : State) (locs35 : List Loc) (x1 : Int32), Stand p l e room_1 s m #[(.int p0), (.int p1), (.int p2), (.int p3), (.int p4)] below meth c T35 locs35 4 10 → T35.heap = T30.heap → Fr n0 locs35 → (Own.b2i (own_sub n12 (own_add (own_add (fun _ => 0) v4) v6) (own_add (own_add (fun _ => 0) r_7) r_8))) = x1 → D (T35.setTop (mkF m 156 #[.val (.int p0), .val (.int p1), .val (.int p2), .val (.int p3), .val (.int p4), .val (.int v2), .val (.int v4), .val (.int v6), .val (.int r_7), .val (.int r_8), .val (.ref b9), .val (.ref b13), .val (.int (Own.b2i (own_sub n12 (own_add (own_add (fun _ => 0) v4) v6) (own_add (own_add (fun _ => 0) r_7) r_8)))), .val (.int (Own.b2i (own_sub n18 (own_add (own_add (fun _ => 0) r_7) r_8) (own_add (own_add (fun _ => 0) v4) v6)))), .unset, .unset] [(.int x1)])) := by
    intro T35 locs35 x1 X35 e35 N35 hx1
    refine hD _ (T35.setTop (mkF m 162 #[.val (.int p0), .val (.int p1), .val (.int p2), .val (.int p3), .val (.int p4), .val (.int v2), .val (.int v4), .val (.int v6), .val (.int r_7), .val (.int r_8), .val (.ref b9), .val (.ref b13), .val (.int (Own.b2i (own_sub n12 (own_add (own_add (fun _ => 0) v4) v6) (own_add (own_add (fun _ => 0) r_7) r_8)))), .val (.int (Own.b2i (own_sub n18 (own_add (own_add (fun _ => 0) r_7) r_8) (own_add (own_add (fun _ => 0) v4) v6)))), .val (.int x1), .unset] [(.int r_7), (.int v4)])) (fun t k => ?_) ?_
    · show Steps p.tables e below (T35.setTop (mkF m 156 #[.val (.int p0), .val (.int p1), .val (.int p2), .val (.int p3), .val (.int p4), .val (.int v2), .val (.int v4), .val (.int v6), .val (.int r_7), .val (.int r_8), .val (.ref b9), .val (.ref b13), .val (.int (Own.b2i (own_sub n12 (own_add (own_add (fun _ => 0) v4) v6) (own_add (own_add (fun _ => 0) r_7) r_8)))), .val (.int (Own.b2i (own_sub n18 (own_add (own_add (fun _ => 0) r_7) r_8) (own_add (own_add (fun _ => 0) v4) v6)))), .unset, .unset] [(.int x1)])) t
      refine XS.istore X35.here hx rfl (hb hby at_156) rfl (l' := #[.val (.int p0), .val (.int p1), .val (.int p2), .val (.int p3), .val (.int p4), .val (.int v2), .val (.int v4), .val (.int v6), .val (.int r_7), .val (.int r_8), .val (.ref b9), .val (.ref b13), .val (.int (Own.b2i (own_sub n12 (own_add (own_add (fun _ => 0) v4) v6) (own_add (own_add (fun _ => 0) r_7) r_8)))), .val (.int (Own.b2i (own_sub n18 (own_add (own_add (fun _ => 0) r_7) r_8) (own_add (own_add (fun _ => 0) v4) v6)))), .val (.int x1), .unset]) rfl ?_
      show Steps p.tables e below (T35.setTop (mkF m 158 #[.val (.int p0), .val (.int p1), .val (.int p2), .val (.int p3), .val (.int p4), .val (.int v2), .val (.int v4), .val (.int v6), .val (.int r_7), .val (.int r_8), .val (.ref b9), .val (.ref b13), .val (.int (Own.b2i (own_sub n12 (own_add (own_add (fun _ => 0) v4) v6) (own_add (own_add (fun _ => 0) r_7) r_8)))), .val (.int (Own.b2i (own_sub n18 (own_add (own_add (fun _ => 0) r_7) r_8) (own_add (own_add (fun _ => 0) v4) v6)))), .val (.int x1), .unset] [])) t
      refine XS.iload X35.here hx rfl (hb hby at_158) rfl ?_
      show Steps p.tables e below (T35.setTop (mkF m 160 #[.val (.int p0), .val (.int p1), .val (.int p2), .val (.int p3), .val (.int p4), .val (.int v2), .val (.int v4), .val (.int v6), .val (.int r_7), .val (.int r_8), .val (.ref b9), .val (.ref b13), .val (.int (Own.b2i (own_sub n12 (own_add (own_add (fun _ => 0) v4) v6) (own_add (own_add (fun _ => 0) r_7) r_8)))), .val (.int (Own.b2i (own_sub n18 (own_add (own_add (fun _ => 0) r_7) r_8) (own_add (own_add (fun _ => 0) v4) v6)))), .val (.int x1), .unset] [(.int v4)])) t
      refine XS.iload X35.here hx rfl (hb hby at_160) rfl ?_
      show Steps p.tables e below (T35.setTop (mkF m 162 #[.val (.int p0), .val (.int p1), .val (.int p2), .val (.int p3), .val (.int p4), .val (.int v2), .val (.int v4), .val (.int v6), .val (.int r_7), .val (.int r_8), .val (.ref b9), .val (.ref b13), .val (.int (Own.b2i (own_sub n12 (own_add (own_add (fun _ => 0) v4) v6) (own_add (own_add (fun _ => 0) r_7) r_8)))), .val (.int (Own.b2i (own_sub n18 (own_add (own_add (fun _ => 0) r_7) r_8) (own_add (own_add (fun _ => 0) v4) v6)))), .val (.int x1), .unset] [(.int r_7), (.int v4)])) t
      exact k
    by_cases hc36 : v4 = r_7
    · refine hD _ (T35.setTop (mkF m 176 #[.val (.int p0), .val (.int p1), .val (.int p2), .val (.int p3), .val (.int p4), .val (.int v2), .val (.int v4), .val (.int v6), .val (.int r_7), .val (.int r_8), .val (.ref b9), .val (.ref b13), .val (.int (Own.b2i (own_sub n12 (own_add (own_add (fun _ => 0) v4) v6) (own_add (own_add (fun _ => 0) r_7) r_8)))), .val (.int (Own.b2i (own_sub n18 (own_add (own_add (fun _ => 0) r_7) r_8) (own_add (own_add (fun _ => 0) v4) v6)))), .val (.int x1), .unset] [(.int r_7), (.int v6)])) (fun t k => ?_) ?_
      · show Steps p.tables e below (T35.setTop (mkF m 162 #[.val (.int p0), .val (.int p1), .val (.int p2), .val (.int p3), .val (.int p4), .val (.int v2), .val (.int v4), .val (.int v6), .val (.int r_7), .val (.int r_8), .val (.ref b9), .val (.ref b13), .val (.int (Own.b2i (own_sub n12 (own_add (own_add (fun _ => 0) v4) v6) (own_add (own_add (fun _ => 0) r_7) r_8)))), .val (.int (Own.b2i (own_sub n18 (own_add (own_add (fun _ => 0) r_7) r_8) (own_add (own_add (fun _ => 0) v4) v6)))), .val (.int x1), .unset] [(.int r_7), (.int v4)])) t
        refine XS.icmpYes X35.here hx rfl (pc0 := 162) (pc' := 172) rfl (hb hby at_162) rfl (teq hc36).1 (by decide) (by decide) ?_
        show Steps p.tables e below (T35.setTop (mkF m 172 #[.val (.int p0), .val (.int p1), .val (.int p2), .val (.int p3), .val (.int p4), .val (.int v2), .val (.int v4), .val (.int v6), .val (.int r_7), .val (.int r_8), .val (.ref b9), .val (.ref b13), .val (.int (Own.b2i (own_sub n12 (own_add (own_add (fun _ => 0) v4) v6) (own_add (own_add (fun _ => 0) r_7) r_8)))), .val (.int (Own.b2i (own_sub n18 (own_add (own_add (fun _ => 0) r_7) r_8) (own_add (own_add (fun _ => 0) v4) v6)))), .val (.int x1), .unset] [])) t
        refine XS.iload X35.here hx rfl (hb hby at_172) rfl ?_
        show Steps p.tables e below (T35.setTop (mkF m 174 #[.val (.int p0), .val (.int p1), .val (.int p2), .val (.int p3), .val (.int p4), .val (.int v2), .val (.int v4), .val (.int v6), .val (.int r_7), .val (.int r_8), .val (.ref b9), .val (.ref b13), .val (.int (Own.b2i (own_sub n12 (own_add (own_add (fun _ => 0) v4) v6) (own_add (own_add (fun _ => 0) r_7) r_8)))), .val (.int (Own.b2i (own_sub n18 (own_add (own_add (fun _ => 0) r_7) r_8) (own_add (own_add (fun _ => 0) v4) v6)))), .val (.int x1), .unset] [(.int v6)])) t
        refine XS.iload X35.here hx rfl (hb hby at_174) rfl ?_
        show Steps p.tables e below (T35.setTop (mkF m 176 #[.val (.int p0), .val (.int p1), .val (.int p2), .val (.int p3), .val (.int p4), .val (.int v2), .val (.int v4), .val (.int v6), .val (.int r_7), .val (.int r_8), .val (.ref b9), .val (.ref b13), .val (.int (Own.b2i (own_sub n12 (own_add (own_add (fun _ => 0) v4) v6) (own_add (own_add (fun _ => 0) r_7) r_8)))), .val (.int (Own.b2i (own_sub n18 (own_add (own_add (fun _ => 0) r_7) r_8) (own_add (own_add (fun _ => 0) v4) v6)))), .val (.int x1), .unset] [(.int r_7), (.int v6)])) t
        exact k
      by_cases hc37 : v6 = r_7
      · refine hD _ (T35.setTop (mkF m 197 #[.val (.int p0), .val (.int p1), .val (.int p2), .val (.int p3), .val (.int p4), .val (.int v2), .val (.int v4), .val (.int v6), .val (.int r_7), .val (.int r_8), .val (.ref b9), .val (.ref b13), .val (.int (Own.b2i (own_sub n12 (own_add (own_add (fun _ => 0) v4) v6) (own_add (own_add (fun _ => 0) r_7) r_8)))), .val (.int (Own.b2i (own_sub n18 (own_add (own_add (fun _ => 0) r_7) r_8) (own_add (own_add (fun _ => 0) v4) v6)))), .val (.int x1), .val (.int (1 : Int32))] [(.int x1), (.int (Own.b2i (own_sub n12 (own_add (own_add (fun _ => 0) v4) v6) (own_add (own_add (fun _ => 0) r_7) r_8))))])) (fun t k => ?_) ?_
        · show Steps p.tables e below (T35.setTop (mkF m 176 #[.val (.int p0), .val (.int p1), .val (.int p2), .val (.int p3), .val (.int p4), .val (.int v2), .val (.int v4), .val (.int v6), .val (.int r_7), .val (.int r_8), .val (.ref b9), .val (.ref b13), .val (.int (Own.b2i (own_sub n12 (own_add (own_add (fun _ => 0) v4) v6) (own_add (own_add (fun _ => 0) r_7) r_8)))), .val (.int (Own.b2i (own_sub n18 (own_add (own_add (fun _ => 0) r_7) r_8) (own_add (own_add (fun _ => 0) v4) v6)))), .val (.int x1), .unset] [(.int r_7), (.int v6)])) t
          refine XS.icmpYes X35.here hx rfl (pc0 := 176) (pc' := 186) rfl (hb hby at_176) rfl (teq hc37).1 (by decide) (by decide) ?_
          show Steps p.tables e below (T35.setTop (mkF m 186 #[.val (.int p0), .val (.int p1), .val (.int p2), .val (.int p3), .val (.int p4), .val (.int v2), .val (.int v4), .val (.int v6), .val (.int r_7), .val (.int r_8), .val (.ref b9), .val (.ref b13), .val (.int (Own.b2i (own_sub n12 (own_add (own_add (fun _ => 0) v4) v6) (own_add (own_add (fun _ => 0) r_7) r_8)))), .val (.int (Own.b2i (own_sub n18 (own_add (own_add (fun _ => 0) r_7) r_8) (own_add (own_add (fun _ => 0) v4) v6)))), .val (.int x1), .unset] [])) t
          refine XS.iconst X35.here hx rfl (hb hby at_186) ?_
          show Steps p.tables e below (T35.setTop (mkF m 187 #[.val (.int p0), .val (.int p1), .val (.int p2), .val (.int p3), .val (.int p4), .val (.int v2), .val (.int v4), .val (.int v6), .val (.int r_7), .val (.int r_8), .val (.ref b9), .val (.ref b13), .val (.int (Own.b2i (own_sub n12 (own_add (own_add (fun _ => 0) v4) v6) (own_add (own_add (fun _ => 0) r_7) r_8)))), .val (.int (Own.b2i (own_sub n18 (own_add (own_add (fun _ => 0) r_7) r_8) (own_add (own_add (fun _ => 0) v4) v6)))), .val (.int x1), .unset] [(.int (1 : Int32))])) t
          refine XS.goto X35.here hx rfl (pc0 := 187) (pc' := 191) rfl (hb hby at_187) (by decide) (by decide) ?_
          show Steps p.tables e below (T35.setTop (mkF m 191 #[.val (.int p0), .val (.int p1), .val (.int p2), .val (.int p3), .val (.int p4), .val (.int v2), .val (.int v4), .val (.int v6), .val (.int r_7), .val (.int r_8), .val (.ref b9), .val (.ref b13), .val (.int (Own.b2i (own_sub n12 (own_add (own_add (fun _ => 0) v4) v6) (own_add (own_add (fun _ => 0) r_7) r_8)))), .val (.int (Own.b2i (own_sub n18 (own_add (own_add (fun _ => 0) r_7) r_8) (own_add (own_add (fun _ => 0) v4) v6)))), .val (.int x1), .unset] [(.int (1 : Int32))])) t
          refine XS.istore X35.here hx rfl (hb hby at_191) rfl (l' := #[.val (.int p0), .val (.int p1), .val (.int p2), .val (.int p3), .val (.int p4), .val (.int v2), .val (.int v4), .val (.int v6), .val (.int r_7), .val (.int r_8), .val (.ref b9), .val (.ref b13), .val (.int (Own.b2i (own_sub n12 (own_add (own_add (fun _ => 0) v4) v6) (own_add (own_add (fun _ => 0) r_7) r_8)))), .val (.int (Own.b2i (own_sub n18 (own_add (own_add (fun _ => 0) r_7) r_8) (own_add (own_add (fun _ => 0) v4) v6)))), .val (.int x1), .val (.int (1 : Int32))]) rfl ?_
          show Steps p.tables e below (T35.setTop (mkF m 193 #[.val (.int p0), .val (.int p1), .val (.int p2), .val (.int p3), .val (.int p4), .val (.int v2), .val (.int v4), .val (.int v6), .val (.int r_7), .val (.int r_8), .val (.ref b9), .val (.ref b13), .val (.int (Own.b2i (own_sub n12 (own_add (own_add (fun _ => 0) v4) v6) (own_add (own_add (fun _ => 0) r_7) r_8)))), .val (.int (Own.b2i (own_sub n18 (own_add (own_add (fun _ => 0) r_7) r_8) (own_add (own_add (fun _ => 0) v4) v6)))), .val (.int x1), .val (.int (1 : Int32))] [])) t
          refine XS.iload X35.here hx rfl (hb hby at_193) rfl ?_
          show Steps p.tables e below (T35.setTop (mkF m 195 #[.val (.int p0), .val (.int p1), .val (.int p2), .val (.int p3), .val (.int p4), .val (.int v2), .val (.int v4), .val (.int v6), .val (.int r_7), .val (.int r_8), .val (.ref b9), .val (.ref b13), .val (.int (Own.b2i (own_sub n12 (own_add (own_add (fun _ => 0) v4) v6) (own_add (own_add (fun _ => 0) r_7) r_8)))), .val (.int (Own.b2i (own_sub n18 (own_add (own_add (fun _ => 0) r_7) r_8) (own_add (own_add (fun _ => 0) v4) v6)))), .val (.int x1), .val (.int (1 : Int32))] [(.int (Own.b2i (own_sub n12 (own_add (own_add (fun _ => 0) v4) v6) (own_add (own_add (fun _ => 0) r_7) r_8))))])) t
          refine XS.iload X35.here hx rfl (hb hby at_195) rfl ?_
          show Steps p.tables e below (T35.setTop (mkF m 197 #[.val (.int p0), .val (.int p1), .val (.int p2), .val (.int p3), .val (.int p4), .val (.int v2), .val (.int v4), .val (.int v6), .val (.int r_7), .val (.int r_8), .val (.ref b9), .val (.ref b13), .val (.int (Own.b2i (own_sub n12 (own_add (own_add (fun _ => 0) v4) v6) (own_add (own_add (fun _ => 0) r_7) r_8)))), .val (.int (Own.b2i (own_sub n18 (own_add (own_add (fun _ => 0) r_7) r_8) (own_add (own_add (fun _ => 0) v4) v6)))), .val (.int x1), .val (.int (1 : Int32))] [(.int x1), (.int (Own.b2i (own_sub n12 (own_add (own_add (fun _ => 0) v4) v6) (own_add (own_add (fun _ => 0) r_7) r_8))))])) t
          exact k
        have hc38 : (Own.b2i (own_sub n12 (own_add (own_add (fun _ => 0) v4) v6) (own_add (own_add (fun _ => 0) r_7) r_8))) = x1 := hx1
        refine hD _ (T35.setTop (mkF m 204 #[.val (.int p0), .val (.int p1), .val (.int p2), .val (.int p3), .val (.int p4), .val (.int v2), .val (.int v4), .val (.int v6), .val (.int r_7), .val (.int r_8), .val (.ref b9), .val (.ref b13), .val (.int (Own.b2i (own_sub n12 (own_add (own_add (fun _ => 0) v4) v6) (own_add (own_add (fun _ => 0) r_7) r_8)))), .val (.int (Own.b2i (own_sub n18 (own_add (own_add (fun _ => 0) r_7) r_8) (own_add (own_add (fun _ => 0) v4) v6)))), .val (.int x1), .val (.int (1 : Int32))] [(.int (1 : Int32)), (.int (Own.b2i (own_sub n18 (own_add (own_add (fun _ => 0) r_7) r_8) (own_add (own_add (fun _ => 0) v4) v6))))])) (fun t k => ?_) ?_
        · show Steps p.tables e below (T35.setTop (mkF m 197 #[.val (.int p0), .val (.int p1), .val (.int p2), .val (.int p3), .val (.int p4), .val (.int v2), .val (.int v4), .val (.int v6), .val (.int r_7), .val (.int r_8), .val (.ref b9), .val (.ref b13), .val (.int (Own.b2i (own_sub n12 (own_add (own_add (fun _ => 0) v4) v6) (own_add (own_add (fun _ => 0) r_7) r_8)))), .val (.int (Own.b2i (own_sub n18 (own_add (own_add (fun _ => 0) r_7) r_8) (own_add (own_add (fun _ => 0) v4) v6)))), .val (.int x1), .val (.int (1 : Int32))] [(.int x1), (.int (Own.b2i (own_sub n12 (own_add (own_add (fun _ => 0) v4) v6) (own_add (own_add (fun _ => 0) r_7) r_8))))])) t
          refine XS.icmpNo X35.here hx rfl (hb hby at_197) rfl (teq hc38).2 ?_
          show Steps p.tables e below (T35.setTop (mkF m 200 #[.val (.int p0), .val (.int p1), .val (.int p2), .val (.int p3), .val (.int p4), .val (.int v2), .val (.int v4), .val (.int v6), .val (.int r_7), .val (.int r_8), .val (.ref b9), .val (.ref b13), .val (.int (Own.b2i (own_sub n12 (own_add (own_add (fun _ => 0) v4) v6) (own_add (own_add (fun _ => 0) r_7) r_8)))), .val (.int (Own.b2i (own_sub n18 (own_add (own_add (fun _ => 0) r_7) r_8) (own_add (own_add (fun _ => 0) v4) v6)))), .val (.int x1), .val (.int (1 : Int32))] [])) t
          refine XS.iload X35.here hx rfl (hb hby at_200) rfl ?_
          show Steps p.tables e below (T35.setTop (mkF m 202 #[.val (.int p0), .val (.int p1), .val (.int p2), .val (.int p3), .val (.int p4), .val (.int v2), .val (.int v4), .val (.int v6), .val (.int r_7), .val (.int r_8), .val (.ref b9), .val (.ref b13), .val (.int (Own.b2i (own_sub n12 (own_add (own_add (fun _ => 0) v4) v6) (own_add (own_add (fun _ => 0) r_7) r_8)))), .val (.int (Own.b2i (own_sub n18 (own_add (own_add (fun _ => 0) r_7) r_8) (own_add (own_add (fun _ => 0) v4) v6)))), .val (.int x1), .val (.int (1 : Int32))] [(.int (Own.b2i (own_sub n18 (own_add (own_add (fun _ => 0) r_7) r_8) (own_add (own_add (fun _ => 0) v4) v6))))])) t
          refine XS.iload X35.here hx rfl (hb hby at_202) rfl ?_
          show Steps p.tables e below (T35.setTop (mkF m 204 #[.val (.int p0), .val (.int p1), .val (.int p2), .val (.int p3), .val (.int p4), .val (.int v2), .val (.int v4), .val (.int v6), .val (.int r_7), .val (.int r_8), .val (.ref b9), .val (.ref b13), .val (.int (Own.b2i (own_sub n12 (own_add (own_add (fun _ => 0) v4) v6) (own_add (own_add (fun _ => 0) r_7) r_8)))), .val (.int (Own.b2i (own_sub n18 (own_add (own_add (fun _ => 0) r_7) r_8) (own_add (own_add (fun _ => 0) v4) v6)))), .val (.int x1), .val (.int (1 : Int32))] [(.int (1 : Int32)), (.int (Own.b2i (own_sub n18 (own_add (own_add (fun _ => 0) r_7) r_8) (own_add (own_add (fun _ => 0) v4) v6))))])) t
          exact k
        have hc39 : (Own.b2i (own_sub n18 (own_add (own_add (fun _ => 0) r_7) r_8) (own_add (own_add (fun _ => 0) v4) v6))) = (1 : Int32) := by rw [own_exp hr_7.1 hr_8.1 (own_in (own_rem (own_size hv2).1 hv4) hn18) (own_in (own_rem (own_size hv2).1 hv6) hn18)]; simp [Own.b2i, hc36, hc37, hc38]
        refine hD _ (T35.setTop (mkF m 212 #[.val (.int p0), .val (.int p1), .val (.int p2), .val (.int p3), .val (.int p4), .val (.int v2), .val (.int v4), .val (.int v6), .val (.int r_7), .val (.int r_8), .val (.ref b9), .val (.ref b13), .val (.int (Own.b2i (own_sub n12 (own_add (own_add (fun _ => 0) v4) v6) (own_add (own_add (fun _ => 0) r_7) r_8)))), .val (.int (Own.b2i (own_sub n18 (own_add (own_add (fun _ => 0) r_7) r_8) (own_add (own_add (fun _ => 0) v4) v6)))), .val (.int x1), .val (.int (1 : Int32))] [(.int (1 : Int32))])) (fun t k => ?_) ?_
        · show Steps p.tables e below (T35.setTop (mkF m 204 #[.val (.int p0), .val (.int p1), .val (.int p2), .val (.int p3), .val (.int p4), .val (.int v2), .val (.int v4), .val (.int v6), .val (.int r_7), .val (.int r_8), .val (.ref b9), .val (.ref b13), .val (.int (Own.b2i (own_sub n12 (own_add (own_add (fun _ => 0) v4) v6) (own_add (own_add (fun _ => 0) r_7) r_8)))), .val (.int (Own.b2i (own_sub n18 (own_add (own_add (fun _ => 0) r_7) r_8) (own_add (own_add (fun _ => 0) v4) v6)))), .val (.int x1), .val (.int (1 : Int32))] [(.int (1 : Int32)), (.int (Own.b2i (own_sub n18 (own_add (own_add (fun _ => 0) r_7) r_8) (own_add (own_add (fun _ => 0) v4) v6))))])) t
          refine XS.icmpNo X35.here hx rfl (hb hby at_204) rfl (teq hc39).2 ?_
          show Steps p.tables e below (T35.setTop (mkF m 207 #[.val (.int p0), .val (.int p1), .val (.int p2), .val (.int p3), .val (.int p4), .val (.int v2), .val (.int v4), .val (.int v6), .val (.int r_7), .val (.int r_8), .val (.ref b9), .val (.ref b13), .val (.int (Own.b2i (own_sub n12 (own_add (own_add (fun _ => 0) v4) v6) (own_add (own_add (fun _ => 0) r_7) r_8)))), .val (.int (Own.b2i (own_sub n18 (own_add (own_add (fun _ => 0) r_7) r_8) (own_add (own_add (fun _ => 0) v4) v6)))), .val (.int x1), .val (.int (1 : Int32))] [])) t
          refine XS.iconst X35.here hx rfl (hb hby at_207) ?_
          show Steps p.tables e below (T35.setTop (mkF m 208 #[.val (.int p0), .val (.int p1), .val (.int p2), .val (.int p3), .val (.int p4), .val (.int v2), .val (.int v4), .val (.int v6), .val (.int r_7), .val (.int r_8), .val (.ref b9), .val (.ref b13), .val (.int (Own.b2i (own_sub n12 (own_add (own_add (fun _ => 0) v4) v6) (own_add (own_add (fun _ => 0) r_7) r_8)))), .val (.int (Own.b2i (own_sub n18 (own_add (own_add (fun _ => 0) r_7) r_8) (own_add (own_add (fun _ => 0) v4) v6)))), .val (.int x1), .val (.int (1 : Int32))] [(.int (1 : Int32))])) t
          refine XS.goto X35.here hx rfl (pc0 := 208) (pc' := 212) rfl (hb hby at_208) (by decide) (by decide) ?_
          show Steps p.tables e below (T35.setTop (mkF m 212 #[.val (.int p0), .val (.int p1), .val (.int p2), .val (.int p3), .val (.int p4), .val (.int v2), .val (.int v4), .val (.int v6), .val (.int r_7), .val (.int r_8), .val (.ref b9), .val (.ref b13), .val (.int (Own.b2i (own_sub n12 (own_add (own_add (fun _ => 0) v4) v6) (own_add (own_add (fun _ => 0) r_7) r_8)))), .val (.int (Own.b2i (own_sub n18 (own_add (own_add (fun _ => 0) r_7) r_8) (own_add (own_add (fun _ => 0) v4) v6)))), .val (.int x1), .val (.int (1 : Int32))] [(.int (1 : Int32))])) t
          exact k
        exact Own.retN hR X35 hx (t := .boolean) hret (by simp) (hb hby at_212) (by decide) (by decide) (by decide) ⟨rfl, N35⟩
      · refine hD _ (T35.setTop (mkF m 183 #[.val (.int p0), .val (.int p1), .val (.int p2), .val (.int p3), .val (.int p4), .val (.int v2), .val (.int v4), .val (.int v6), .val (.int r_7), .val (.int r_8), .val (.ref b9), .val (.ref b13), .val (.int (Own.b2i (own_sub n12 (own_add (own_add (fun _ => 0) v4) v6) (own_add (own_add (fun _ => 0) r_7) r_8)))), .val (.int (Own.b2i (own_sub n18 (own_add (own_add (fun _ => 0) r_7) r_8) (own_add (own_add (fun _ => 0) v4) v6)))), .val (.int x1), .unset] [(.int r_8), (.int v6)])) (fun t k => ?_) ?_
        · show Steps p.tables e below (T35.setTop (mkF m 176 #[.val (.int p0), .val (.int p1), .val (.int p2), .val (.int p3), .val (.int p4), .val (.int v2), .val (.int v4), .val (.int v6), .val (.int r_7), .val (.int r_8), .val (.ref b9), .val (.ref b13), .val (.int (Own.b2i (own_sub n12 (own_add (own_add (fun _ => 0) v4) v6) (own_add (own_add (fun _ => 0) r_7) r_8)))), .val (.int (Own.b2i (own_sub n18 (own_add (own_add (fun _ => 0) r_7) r_8) (own_add (own_add (fun _ => 0) v4) v6)))), .val (.int x1), .unset] [(.int r_7), (.int v6)])) t
          refine XS.icmpNo X35.here hx rfl (hb hby at_176) rfl (feq hc37).1 ?_
          show Steps p.tables e below (T35.setTop (mkF m 179 #[.val (.int p0), .val (.int p1), .val (.int p2), .val (.int p3), .val (.int p4), .val (.int v2), .val (.int v4), .val (.int v6), .val (.int r_7), .val (.int r_8), .val (.ref b9), .val (.ref b13), .val (.int (Own.b2i (own_sub n12 (own_add (own_add (fun _ => 0) v4) v6) (own_add (own_add (fun _ => 0) r_7) r_8)))), .val (.int (Own.b2i (own_sub n18 (own_add (own_add (fun _ => 0) r_7) r_8) (own_add (own_add (fun _ => 0) v4) v6)))), .val (.int x1), .unset] [])) t
          refine XS.iload X35.here hx rfl (hb hby at_179) rfl ?_
          show Steps p.tables e below (T35.setTop (mkF m 181 #[.val (.int p0), .val (.int p1), .val (.int p2), .val (.int p3), .val (.int p4), .val (.int v2), .val (.int v4), .val (.int v6), .val (.int r_7), .val (.int r_8), .val (.ref b9), .val (.ref b13), .val (.int (Own.b2i (own_sub n12 (own_add (own_add (fun _ => 0) v4) v6) (own_add (own_add (fun _ => 0) r_7) r_8)))), .val (.int (Own.b2i (own_sub n18 (own_add (own_add (fun _ => 0) r_7) r_8) (own_add (own_add (fun _ => 0) v4) v6)))), .val (.int x1), .unset] [(.int v6)])) t
          refine XS.iload X35.here hx rfl (hb hby at_181) rfl ?_
          show Steps p.tables e below (T35.setTop (mkF m 183 #[.val (.int p0), .val (.int p1), .val (.int p2), .val (.int p3), .val (.int p4), .val (.int v2), .val (.int v4), .val (.int v6), .val (.int r_7), .val (.int r_8), .val (.ref b9), .val (.ref b13), .val (.int (Own.b2i (own_sub n12 (own_add (own_add (fun _ => 0) v4) v6) (own_add (own_add (fun _ => 0) r_7) r_8)))), .val (.int (Own.b2i (own_sub n18 (own_add (own_add (fun _ => 0) r_7) r_8) (own_add (own_add (fun _ => 0) v4) v6)))), .val (.int x1), .unset] [(.int r_8), (.int v6)])) t
          exact k
        by_cases hc40 : v6 = r_8
        · refine hD _ (T35.setTop (mkF m 197 #[.val (.int p0), .val (.int p1), .val (.int p2), .val (.int p3), .val (.int p4), .val (.int v2), .val (.int v4), .val (.int v6), .val (.int r_7), .val (.int r_8), .val (.ref b9), .val (.ref b13), .val (.int (Own.b2i (own_sub n12 (own_add (own_add (fun _ => 0) v4) v6) (own_add (own_add (fun _ => 0) r_7) r_8)))), .val (.int (Own.b2i (own_sub n18 (own_add (own_add (fun _ => 0) r_7) r_8) (own_add (own_add (fun _ => 0) v4) v6)))), .val (.int x1), .val (.int (1 : Int32))] [(.int x1), (.int (Own.b2i (own_sub n12 (own_add (own_add (fun _ => 0) v4) v6) (own_add (own_add (fun _ => 0) r_7) r_8))))])) (fun t k => ?_) ?_
          · show Steps p.tables e below (T35.setTop (mkF m 183 #[.val (.int p0), .val (.int p1), .val (.int p2), .val (.int p3), .val (.int p4), .val (.int v2), .val (.int v4), .val (.int v6), .val (.int r_7), .val (.int r_8), .val (.ref b9), .val (.ref b13), .val (.int (Own.b2i (own_sub n12 (own_add (own_add (fun _ => 0) v4) v6) (own_add (own_add (fun _ => 0) r_7) r_8)))), .val (.int (Own.b2i (own_sub n18 (own_add (own_add (fun _ => 0) r_7) r_8) (own_add (own_add (fun _ => 0) v4) v6)))), .val (.int x1), .unset] [(.int r_8), (.int v6)])) t
            refine XS.icmpNo X35.here hx rfl (hb hby at_183) rfl (teq hc40).2 ?_
            show Steps p.tables e below (T35.setTop (mkF m 186 #[.val (.int p0), .val (.int p1), .val (.int p2), .val (.int p3), .val (.int p4), .val (.int v2), .val (.int v4), .val (.int v6), .val (.int r_7), .val (.int r_8), .val (.ref b9), .val (.ref b13), .val (.int (Own.b2i (own_sub n12 (own_add (own_add (fun _ => 0) v4) v6) (own_add (own_add (fun _ => 0) r_7) r_8)))), .val (.int (Own.b2i (own_sub n18 (own_add (own_add (fun _ => 0) r_7) r_8) (own_add (own_add (fun _ => 0) v4) v6)))), .val (.int x1), .unset] [])) t
            refine XS.iconst X35.here hx rfl (hb hby at_186) ?_
            show Steps p.tables e below (T35.setTop (mkF m 187 #[.val (.int p0), .val (.int p1), .val (.int p2), .val (.int p3), .val (.int p4), .val (.int v2), .val (.int v4), .val (.int v6), .val (.int r_7), .val (.int r_8), .val (.ref b9), .val (.ref b13), .val (.int (Own.b2i (own_sub n12 (own_add (own_add (fun _ => 0) v4) v6) (own_add (own_add (fun _ => 0) r_7) r_8)))), .val (.int (Own.b2i (own_sub n18 (own_add (own_add (fun _ => 0) r_7) r_8) (own_add (own_add (fun _ => 0) v4) v6)))), .val (.int x1), .unset] [(.int (1 : Int32))])) t
            refine XS.goto X35.here hx rfl (pc0 := 187) (pc' := 191) rfl (hb hby at_187) (by decide) (by decide) ?_
            show Steps p.tables e below (T35.setTop (mkF m 191 #[.val (.int p0), .val (.int p1), .val (.int p2), .val (.int p3), .val (.int p4), .val (.int v2), .val (.int v4), .val (.int v6), .val (.int r_7), .val (.int r_8), .val (.ref b9), .val (.ref b13), .val (.int (Own.b2i (own_sub n12 (own_add (own_add (fun _ => 0) v4) v6) (own_add (own_add (fun _ => 0) r_7) r_8)))), .val (.int (Own.b2i (own_sub n18 (own_add (own_add (fun _ => 0) r_7) r_8) (own_add (own_add (fun _ => 0) v4) v6)))), .val (.int x1), .unset] [(.int (1 : Int32))])) t
            refine XS.istore X35.here hx rfl (hb hby at_191) rfl (l' := #[.val (.int p0), .val (.int p1), .val (.int p2), .val (.int p3), .val (.int p4), .val (.int v2), .val (.int v4), .val (.int v6), .val (.int r_7), .val (.int r_8), .val (.ref b9), .val (.ref b13), .val (.int (Own.b2i (own_sub n12 (own_add (own_add (fun _ => 0) v4) v6) (own_add (own_add (fun _ => 0) r_7) r_8)))), .val (.int (Own.b2i (own_sub n18 (own_add (own_add (fun _ => 0) r_7) r_8) (own_add (own_add (fun _ => 0) v4) v6)))), .val (.int x1), .val (.int (1 : Int32))]) rfl ?_
            show Steps p.tables e below (T35.setTop (mkF m 193 #[.val (.int p0), .val (.int p1), .val (.int p2), .val (.int p3), .val (.int p4), .val (.int v2), .val (.int v4), .val (.int v6), .val (.int r_7), .val (.int r_8), .val (.ref b9), .val (.ref b13), .val (.int (Own.b2i (own_sub n12 (own_add (own_add (fun _ => 0) v4) v6) (own_add (own_add (fun _ => 0) r_7) r_8)))), .val (.int (Own.b2i (own_sub n18 (own_add (own_add (fun _ => 0) r_7) r_8) (own_add (own_add (fun _ => 0) v4) v6)))), .val (.int x1), .val (.int (1 : Int32))] [])) t
            refine XS.iload X35.here hx rfl (hb hby at_193) rfl ?_
            show Steps p.tables e below (T35.setTop (mkF m 195 #[.val (.int p0), .val (.int p1), .val (.int p2), .val (.int p3), .val (.int p4), .val (.int v2), .val (.int v4), .val (.int v6), .val (.int r_7), .val (.int r_8), .val (.ref b9), .val (.ref b13), .val (.int (Own.b2i (own_sub n12 (own_add (own_add (fun _ => 0) v4) v6) (own_add (own_add (fun _ => 0) r_7) r_8)))), .val (.int (Own.b2i (own_sub n18 (own_add (own_add (fun _ => 0) r_7) r_8) (own_add (own_add (fun _ => 0) v4) v6)))), .val (.int x1), .val (.int (1 : Int32))] [(.int (Own.b2i (own_sub n12 (own_add (own_add (fun _ => 0) v4) v6) (own_add (own_add (fun _ => 0) r_7) r_8))))])) t
            refine XS.iload X35.here hx rfl (hb hby at_195) rfl ?_
            show Steps p.tables e below (T35.setTop (mkF m 197 #[.val (.int p0), .val (.int p1), .val (.int p2), .val (.int p3), .val (.int p4), .val (.int v2), .val (.int v4), .val (.int v6), .val (.int r_7), .val (.int r_8), .val (.ref b9), .val (.ref b13), .val (.int (Own.b2i (own_sub n12 (own_add (own_add (fun _ => 0) v4) v6) (own_add (own_add (fun _ => 0) r_7) r_8)))), .val (.int (Own.b2i (own_sub n18 (own_add (own_add (fun _ => 0) r_7) r_8) (own_add (own_add (fun _ => 0) v4) v6)))), .val (.int x1), .val (.int (1 : Int32))] [(.int x1), (.int (Own.b2i (own_sub n12 (own_add (own_add (fun _ => 0) v4) v6) (own_add (own_add (fun _ => 0) r_7) r_8))))])) t
            exact k
          have hc41 : (Own.b2i (own_sub n12 (own_add (own_add (fun _ => 0) v4) v6) (own_add (own_add (fun _ => 0) r_7) r_8))) = x1 := hx1
          refine hD _ (T35.setTop (mkF m 204 #[.val (.int p0), .val (.int p1), .val (.int p2), .val (.int p3), .val (.int p4), .val (.int v2), .val (.int v4), .val (.int v6), .val (.int r_7), .val (.int r_8), .val (.ref b9), .val (.ref b13), .val (.int (Own.b2i (own_sub n12 (own_add (own_add (fun _ => 0) v4) v6) (own_add (own_add (fun _ => 0) r_7) r_8)))), .val (.int (Own.b2i (own_sub n18 (own_add (own_add (fun _ => 0) r_7) r_8) (own_add (own_add (fun _ => 0) v4) v6)))), .val (.int x1), .val (.int (1 : Int32))] [(.int (1 : Int32)), (.int (Own.b2i (own_sub n18 (own_add (own_add (fun _ => 0) r_7) r_8) (own_add (own_add (fun _ => 0) v4) v6))))])) (fun t k => ?_) ?_
          · show Steps p.tables e below (T35.setTop (mkF m 197 #[.val (.int p0), .val (.int p1), .val (.int p2), .val (.int p3), .val (.int p4), .val (.int v2), .val (.int v4), .val (.int v6), .val (.int r_7), .val (.int r_8), .val (.ref b9), .val (.ref b13), .val (.int (Own.b2i (own_sub n12 (own_add (own_add (fun _ => 0) v4) v6) (own_add (own_add (fun _ => 0) r_7) r_8)))), .val (.int (Own.b2i (own_sub n18 (own_add (own_add (fun _ => 0) r_7) r_8) (own_add (own_add (fun _ => 0) v4) v6)))), .val (.int x1), .val (.int (1 : Int32))] [(.int x1), (.int (Own.b2i (own_sub n12 (own_add (own_add (fun _ => 0) v4) v6) (own_add (own_add (fun _ => 0) r_7) r_8))))])) t
            refine XS.icmpNo X35.here hx rfl (hb hby at_197) rfl (teq hc41).2 ?_
            show Steps p.tables e below (T35.setTop (mkF m 200 #[.val (.int p0), .val (.int p1), .val (.int p2), .val (.int p3), .val (.int p4), .val (.int v2), .val (.int v4), .val (.int v6), .val (.int r_7), .val (.int r_8), .val (.ref b9), .val (.ref b13), .val (.int (Own.b2i (own_sub n12 (own_add (own_add (fun _ => 0) v4) v6) (own_add (own_add (fun _ => 0) r_7) r_8)))), .val (.int (Own.b2i (own_sub n18 (own_add (own_add (fun _ => 0) r_7) r_8) (own_add (own_add (fun _ => 0) v4) v6)))), .val (.int x1), .val (.int (1 : Int32))] [])) t
            refine XS.iload X35.here hx rfl (hb hby at_200) rfl ?_
            show Steps p.tables e below (T35.setTop (mkF m 202 #[.val (.int p0), .val (.int p1), .val (.int p2), .val (.int p3), .val (.int p4), .val (.int v2), .val (.int v4), .val (.int v6), .val (.int r_7), .val (.int r_8), .val (.ref b9), .val (.ref b13), .val (.int (Own.b2i (own_sub n12 (own_add (own_add (fun _ => 0) v4) v6) (own_add (own_add (fun _ => 0) r_7) r_8)))), .val (.int (Own.b2i (own_sub n18 (own_add (own_add (fun _ => 0) r_7) r_8) (own_add (own_add (fun _ => 0) v4) v6)))), .val (.int x1), .val (.int (1 : Int32))] [(.int (Own.b2i (own_sub n18 (own_add (own_add (fun _ => 0) r_7) r_8) (own_add (own_add (fun _ => 0) v4) v6))))])) t
            refine XS.iload X35.here hx rfl (hb hby at_202) rfl ?_
            show Steps p.tables e below (T35.setTop (mkF m 204 #[.val (.int p0), .val (.int p1), .val (.int p2), .val (.int p3), .val (.int p4), .val (.int v2), .val (.int v4), .val (.int v6), .val (.int r_7), .val (.int r_8), .val (.ref b9), .val (.ref b13), .val (.int (Own.b2i (own_sub n12 (own_add (own_add (fun _ => 0) v4) v6) (own_add (own_add (fun _ => 0) r_7) r_8)))), .val (.int (Own.b2i (own_sub n18 (own_add (own_add (fun _ => 0) r_7) r_8) (own_add (own_add (fun _ => 0) v4) v6)))), .val (.int x1), .val (.int (1 : Int32))] [(.int (1 : Int32)), (.int (Own.b2i (own_sub n18 (own_add (own_add (fun _ => 0) r_7) r_8) (own_add (own_add (fun _ => 0) v4) v6))))])) t
            exact k
          have hc42 : (Own.b2i (own_sub n18 (own_add (own_add (fun _ => 0) r_7) r_8) (own_add (own_add (fun _ => 0) v4) v6))) = (1 : Int32) := by rw [own_exp hr_7.1 hr_8.1 (own_in (own_rem (own_size hv2).1 hv4) hn18) (own_in (own_rem (own_size hv2).1 hv6) hn18)]; simp [Own.b2i, hc36, hc37, hc40, hc41]
          refine hD _ (T35.setTop (mkF m 212 #[.val (.int p0), .val (.int p1), .val (.int p2), .val (.int p3), .val (.int p4), .val (.int v2), .val (.int v4), .val (.int v6), .val (.int r_7), .val (.int r_8), .val (.ref b9), .val (.ref b13), .val (.int (Own.b2i (own_sub n12 (own_add (own_add (fun _ => 0) v4) v6) (own_add (own_add (fun _ => 0) r_7) r_8)))), .val (.int (Own.b2i (own_sub n18 (own_add (own_add (fun _ => 0) r_7) r_8) (own_add (own_add (fun _ => 0) v4) v6)))), .val (.int x1), .val (.int (1 : Int32))] [(.int (1 : Int32))])) (fun t k => ?_) ?_
          · show Steps p.tables e below (T35.setTop (mkF m 204 #[.val (.int p0), .val (.int p1), .val (.int p2), .val (.int p3), .val (.int p4), .val (.int v2), .val (.int v4), .val (.int v6), .val (.int r_7), .val (.int r_8), .val (.ref b9), .val (.ref b13), .val (.int (Own.b2i (own_sub n12 (own_add (own_add (fun _ => 0) v4) v6) (own_add (own_add (fun _ => 0) r_7) r_8)))), .val (.int (Own.b2i (own_sub n18 (own_add (own_add (fun _ => 0) r_7) r_8) (own_add (own_add (fun _ => 0) v4) v6)))), .val (.int x1), .val (.int (1 : Int32))] [(.int (1 : Int32)), (.int (Own.b2i (own_sub n18 (own_add (own_add (fun _ => 0) r_7) r_8) (own_add (own_add (fun _ => 0) v4) v6))))])) t
            refine XS.icmpNo X35.here hx rfl (hb hby at_204) rfl (teq hc42).2 ?_
            show Steps p.tables e below (T35.setTop (mkF m 207 #[.val (.int p0), .val (.int p1), .val (.int p2), .val (.int p3), .val (.int p4), .val (.int v2), .val (.int v4), .val (.int v6), .val (.int r_7), .val (.int r_8), .val (.ref b9), .val (.ref b13), .val (.int (Own.b2i (own_sub n12 (own_add (own_add (fun _ => 0) v4) v6) (own_add (own_add (fun _ => 0) r_7) r_8)))), .val (.int (Own.b2i (own_sub n18 (own_add (own_add (fun _ => 0) r_7) r_8) (own_add (own_add (fun _ => 0) v4) v6)))), .val (.int x1), .val (.int (1 : Int32))] [])) t
            refine XS.iconst X35.here hx rfl (hb hby at_207) ?_
            show Steps p.tables e below (T35.setTop (mkF m 208 #[.val (.int p0), .val (.int p1), .val (.int p2), .val (.int p3), .val (.int p4), .val (.int v2), .val (.int v4), .val (.int v6), .val (.int r_7), .val (.int r_8), .val (.ref b9), .val (.ref b13), .val (.int (Own.b2i (own_sub n12 (own_add (own_add (fun _ => 0) v4) v6) (own_add (own_add (fun _ => 0) r_7) r_8)))), .val (.int (Own.b2i (own_sub n18 (own_add (own_add (fun _ => 0) r_7) r_8) (own_add (own_add (fun _ => 0) v4) v6)))), .val (.int x1), .val (.int (1 : Int32))] [(.int (1 : Int32))])) t
            refine XS.goto X35.here hx rfl (pc0 := 208) (pc' := 212) rfl (hb hby at_208) (by decide) (by decide) ?_
            show Steps p.tables e below (T35.setTop (mkF m 212 #[.val (.int p0), .val (.int p1), .val (.int p2), .val (.int p3), .val (.int p4), .val (.int v2), .val (.int v4), .val (.int v6), .val (.int r_7), .val (.int r_8), .val (.ref b9), .val (.ref b13), .val (.int (Own.b2i (own_sub n12 (own_add (own_add (fun _ => 0) v4) v6) (own_add (own_add (fun _ => 0) r_7) r_8)))), .val (.int (Own.b2i (own_sub n18 (own_add (own_add (fun _ => 0) r_7) r_8) (own_add (own_add (fun _ => 0) v4) v6)))), .val (.int x1), .val (.int (1 : Int32))] [(.int (1 : Int32))])) t
            exact k
          exact Own.retN hR X35 hx (t := .boolean) hret (by simp) (hb hby at_212) (by decide) (by decide) (by decide) ⟨rfl, N35⟩
        · refine hD _ (T35.setTop (mkF m 197 #[.val (.int p0), .val (.int p1), .val (.int p2), .val (.int p3), .val (.int p4), .val (.int v2), .val (.int v4), .val (.int v6), .val (.int r_7), .val (.int r_8), .val (.ref b9), .val (.ref b13), .val (.int (Own.b2i (own_sub n12 (own_add (own_add (fun _ => 0) v4) v6) (own_add (own_add (fun _ => 0) r_7) r_8)))), .val (.int (Own.b2i (own_sub n18 (own_add (own_add (fun _ => 0) r_7) r_8) (own_add (own_add (fun _ => 0) v4) v6)))), .val (.int x1), .val (.int (0 : Int32))] [(.int x1), (.int (Own.b2i (own_sub n12 (own_add (own_add (fun _ => 0) v4) v6) (own_add (own_add (fun _ => 0) r_7) r_8))))])) (fun t k => ?_) ?_
          · show Steps p.tables e below (T35.setTop (mkF m 183 #[.val (.int p0), .val (.int p1), .val (.int p2), .val (.int p3), .val (.int p4), .val (.int v2), .val (.int v4), .val (.int v6), .val (.int r_7), .val (.int r_8), .val (.ref b9), .val (.ref b13), .val (.int (Own.b2i (own_sub n12 (own_add (own_add (fun _ => 0) v4) v6) (own_add (own_add (fun _ => 0) r_7) r_8)))), .val (.int (Own.b2i (own_sub n18 (own_add (own_add (fun _ => 0) r_7) r_8) (own_add (own_add (fun _ => 0) v4) v6)))), .val (.int x1), .unset] [(.int r_8), (.int v6)])) t
            refine XS.icmpYes X35.here hx rfl (pc0 := 183) (pc' := 190) rfl (hb hby at_183) rfl (feq hc40).2 (by decide) (by decide) ?_
            show Steps p.tables e below (T35.setTop (mkF m 190 #[.val (.int p0), .val (.int p1), .val (.int p2), .val (.int p3), .val (.int p4), .val (.int v2), .val (.int v4), .val (.int v6), .val (.int r_7), .val (.int r_8), .val (.ref b9), .val (.ref b13), .val (.int (Own.b2i (own_sub n12 (own_add (own_add (fun _ => 0) v4) v6) (own_add (own_add (fun _ => 0) r_7) r_8)))), .val (.int (Own.b2i (own_sub n18 (own_add (own_add (fun _ => 0) r_7) r_8) (own_add (own_add (fun _ => 0) v4) v6)))), .val (.int x1), .unset] [])) t
            refine XS.iconst X35.here hx rfl (hb hby at_190) ?_
            show Steps p.tables e below (T35.setTop (mkF m 191 #[.val (.int p0), .val (.int p1), .val (.int p2), .val (.int p3), .val (.int p4), .val (.int v2), .val (.int v4), .val (.int v6), .val (.int r_7), .val (.int r_8), .val (.ref b9), .val (.ref b13), .val (.int (Own.b2i (own_sub n12 (own_add (own_add (fun _ => 0) v4) v6) (own_add (own_add (fun _ => 0) r_7) r_8)))), .val (.int (Own.b2i (own_sub n18 (own_add (own_add (fun _ => 0) r_7) r_8) (own_add (own_add (fun _ => 0) v4) v6)))), .val (.int x1), .unset] [(.int (0 : Int32))])) t
            refine XS.istore X35.here hx rfl (hb hby at_191) rfl (l' := #[.val (.int p0), .val (.int p1), .val (.int p2), .val (.int p3), .val (.int p4), .val (.int v2), .val (.int v4), .val (.int v6), .val (.int r_7), .val (.int r_8), .val (.ref b9), .val (.ref b13), .val (.int (Own.b2i (own_sub n12 (own_add (own_add (fun _ => 0) v4) v6) (own_add (own_add (fun _ => 0) r_7) r_8)))), .val (.int (Own.b2i (own_sub n18 (own_add (own_add (fun _ => 0) r_7) r_8) (own_add (own_add (fun _ => 0) v4) v6)))), .val (.int x1), .val (.int (0 : Int32))]) rfl ?_
            show Steps p.tables e below (T35.setTop (mkF m 193 #[.val (.int p0), .val (.int p1), .val (.int p2), .val (.int p3), .val (.int p4), .val (.int v2), .val (.int v4), .val (.int v6), .val (.int r_7), .val (.int r_8), .val (.ref b9), .val (.ref b13), .val (.int (Own.b2i (own_sub n12 (own_add (own_add (fun _ => 0) v4) v6) (own_add (own_add (fun _ => 0) r_7) r_8)))), .val (.int (Own.b2i (own_sub n18 (own_add (own_add (fun _ => 0) r_7) r_8) (own_add (own_add (fun _ => 0) v4) v6)))), .val (.int x1), .val (.int (0 : Int32))] [])) t
            refine XS.iload X35.here hx rfl (hb hby at_193) rfl ?_
            show Steps p.tables e below (T35.setTop (mkF m 195 #[.val (.int p0), .val (.int p1), .val (.int p2), .val (.int p3), .val (.int p4), .val (.int v2), .val (.int v4), .val (.int v6), .val (.int r_7), .val (.int r_8), .val (.ref b9), .val (.ref b13), .val (.int (Own.b2i (own_sub n12 (own_add (own_add (fun _ => 0) v4) v6) (own_add (own_add (fun _ => 0) r_7) r_8)))), .val (.int (Own.b2i (own_sub n18 (own_add (own_add (fun _ => 0) r_7) r_8) (own_add (own_add (fun _ => 0) v4) v6)))), .val (.int x1), .val (.int (0 : Int32))] [(.int (Own.b2i (own_sub n12 (own_add (own_add (fun _ => 0) v4) v6) (own_add (own_add (fun _ => 0) r_7) r_8))))])) t
            refine XS.iload X35.here hx rfl (hb hby at_195) rfl ?_
            show Steps p.tables e below (T35.setTop (mkF m 197 #[.val (.int p0), .val (.int p1), .val (.int p2), .val (.int p3), .val (.int p4), .val (.int v2), .val (.int v4), .val (.int v6), .val (.int r_7), .val (.int r_8), .val (.ref b9), .val (.ref b13), .val (.int (Own.b2i (own_sub n12 (own_add (own_add (fun _ => 0) v4) v6) (own_add (own_add (fun _ => 0) r_7) r_8)))), .val (.int (Own.b2i (own_sub n18 (own_add (own_add (fun _ => 0) r_7) r_8) (own_add (own_add (fun _ => 0) v4) v6)))), .val (.int x1), .val (.int (0 : Int32))] [(.int x1), (.int (Own.b2i (own_sub n12 (own_add (own_add (fun _ => 0) v4) v6) (own_add (own_add (fun _ => 0) r_7) r_8))))])) t
            exact k
          have hc43 : (Own.b2i (own_sub n12 (own_add (own_add (fun _ => 0) v4) v6) (own_add (own_add (fun _ => 0) r_7) r_8))) = x1 := hx1
          refine hD _ (T35.setTop (mkF m 204 #[.val (.int p0), .val (.int p1), .val (.int p2), .val (.int p3), .val (.int p4), .val (.int v2), .val (.int v4), .val (.int v6), .val (.int r_7), .val (.int r_8), .val (.ref b9), .val (.ref b13), .val (.int (Own.b2i (own_sub n12 (own_add (own_add (fun _ => 0) v4) v6) (own_add (own_add (fun _ => 0) r_7) r_8)))), .val (.int (Own.b2i (own_sub n18 (own_add (own_add (fun _ => 0) r_7) r_8) (own_add (own_add (fun _ => 0) v4) v6)))), .val (.int x1), .val (.int (0 : Int32))] [(.int (0 : Int32)), (.int (Own.b2i (own_sub n18 (own_add (own_add (fun _ => 0) r_7) r_8) (own_add (own_add (fun _ => 0) v4) v6))))])) (fun t k => ?_) ?_
          · show Steps p.tables e below (T35.setTop (mkF m 197 #[.val (.int p0), .val (.int p1), .val (.int p2), .val (.int p3), .val (.int p4), .val (.int v2), .val (.int v4), .val (.int v6), .val (.int r_7), .val (.int r_8), .val (.ref b9), .val (.ref b13), .val (.int (Own.b2i (own_sub n12 (own_add (own_add (fun _ => 0) v4) v6) (own_add (own_add (fun _ => 0) r_7) r_8)))), .val (.int (Own.b2i (own_sub n18 (own_add (own_add (fun _ => 0) r_7) r_8) (own_add (own_add (fun _ => 0) v4) v6)))), .val (.int x1), .val (.int (0 : Int32))] [(.int x1), (.int (Own.b2i (own_sub n12 (own_add (own_add (fun _ => 0) v4) v6) (own_add (own_add (fun _ => 0) r_7) r_8))))])) t
            refine XS.icmpNo X35.here hx rfl (hb hby at_197) rfl (teq hc43).2 ?_
            show Steps p.tables e below (T35.setTop (mkF m 200 #[.val (.int p0), .val (.int p1), .val (.int p2), .val (.int p3), .val (.int p4), .val (.int v2), .val (.int v4), .val (.int v6), .val (.int r_7), .val (.int r_8), .val (.ref b9), .val (.ref b13), .val (.int (Own.b2i (own_sub n12 (own_add (own_add (fun _ => 0) v4) v6) (own_add (own_add (fun _ => 0) r_7) r_8)))), .val (.int (Own.b2i (own_sub n18 (own_add (own_add (fun _ => 0) r_7) r_8) (own_add (own_add (fun _ => 0) v4) v6)))), .val (.int x1), .val (.int (0 : Int32))] [])) t
            refine XS.iload X35.here hx rfl (hb hby at_200) rfl ?_
            show Steps p.tables e below (T35.setTop (mkF m 202 #[.val (.int p0), .val (.int p1), .val (.int p2), .val (.int p3), .val (.int p4), .val (.int v2), .val (.int v4), .val (.int v6), .val (.int r_7), .val (.int r_8), .val (.ref b9), .val (.ref b13), .val (.int (Own.b2i (own_sub n12 (own_add (own_add (fun _ => 0) v4) v6) (own_add (own_add (fun _ => 0) r_7) r_8)))), .val (.int (Own.b2i (own_sub n18 (own_add (own_add (fun _ => 0) r_7) r_8) (own_add (own_add (fun _ => 0) v4) v6)))), .val (.int x1), .val (.int (0 : Int32))] [(.int (Own.b2i (own_sub n18 (own_add (own_add (fun _ => 0) r_7) r_8) (own_add (own_add (fun _ => 0) v4) v6))))])) t
            refine XS.iload X35.here hx rfl (hb hby at_202) rfl ?_
            show Steps p.tables e below (T35.setTop (mkF m 204 #[.val (.int p0), .val (.int p1), .val (.int p2), .val (.int p3), .val (.int p4), .val (.int v2), .val (.int v4), .val (.int v6), .val (.int r_7), .val (.int r_8), .val (.ref b9), .val (.ref b13), .val (.int (Own.b2i (own_sub n12 (own_add (own_add (fun _ => 0) v4) v6) (own_add (own_add (fun _ => 0) r_7) r_8)))), .val (.int (Own.b2i (own_sub n18 (own_add (own_add (fun _ => 0) r_7) r_8) (own_add (own_add (fun _ => 0) v4) v6)))), .val (.int x1), .val (.int (0 : Int32))] [(.int (0 : Int32)), (.int (Own.b2i (own_sub n18 (own_add (own_add (fun _ => 0) r_7) r_8) (own_add (own_add (fun _ => 0) v4) v6))))])) t
            exact k
          have hc44 : (Own.b2i (own_sub n18 (own_add (own_add (fun _ => 0) r_7) r_8) (own_add (own_add (fun _ => 0) v4) v6))) = (0 : Int32) := by rw [own_exp hr_7.1 hr_8.1 (own_in (own_rem (own_size hv2).1 hv4) hn18) (own_in (own_rem (own_size hv2).1 hv6) hn18)]; simp [Own.b2i, hc36, hc37, hc40, hc43]
          refine hD _ (T35.setTop (mkF m 212 #[.val (.int p0), .val (.int p1), .val (.int p2), .val (.int p3), .val (.int p4), .val (.int v2), .val (.int v4), .val (.int v6), .val (.int r_7), .val (.int r_8), .val (.ref b9), .val (.ref b13), .val (.int (Own.b2i (own_sub n12 (own_add (own_add (fun _ => 0) v4) v6) (own_add (own_add (fun _ => 0) r_7) r_8)))), .val (.int (Own.b2i (own_sub n18 (own_add (own_add (fun _ => 0) r_7) r_8) (own_add (own_add (fun _ => 0) v4) v6)))), .val (.int x1), .val (.int (0 : Int32))] [(.int (1 : Int32))])) (fun t k => ?_) ?_
          · show Steps p.tables e below (T35.setTop (mkF m 204 #[.val (.int p0), .val (.int p1), .val (.int p2), .val (.int p3), .val (.int p4), .val (.int v2), .val (.int v4), .val (.int v6), .val (.int r_7), .val (.int r_8), .val (.ref b9), .val (.ref b13), .val (.int (Own.b2i (own_sub n12 (own_add (own_add (fun _ => 0) v4) v6) (own_add (own_add (fun _ => 0) r_7) r_8)))), .val (.int (Own.b2i (own_sub n18 (own_add (own_add (fun _ => 0) r_7) r_8) (own_add (own_add (fun _ => 0) v4) v6)))), .val (.int x1), .val (.int (0 : Int32))] [(.int (0 : Int32)), (.int (Own.b2i (own_sub n18 (own_add (own_add (fun _ => 0) r_7) r_8) (own_add (own_add (fun _ => 0) v4) v6))))])) t
            refine XS.icmpNo X35.here hx rfl (hb hby at_204) rfl (teq hc44).2 ?_
            show Steps p.tables e below (T35.setTop (mkF m 207 #[.val (.int p0), .val (.int p1), .val (.int p2), .val (.int p3), .val (.int p4), .val (.int v2), .val (.int v4), .val (.int v6), .val (.int r_7), .val (.int r_8), .val (.ref b9), .val (.ref b13), .val (.int (Own.b2i (own_sub n12 (own_add (own_add (fun _ => 0) v4) v6) (own_add (own_add (fun _ => 0) r_7) r_8)))), .val (.int (Own.b2i (own_sub n18 (own_add (own_add (fun _ => 0) r_7) r_8) (own_add (own_add (fun _ => 0) v4) v6)))), .val (.int x1), .val (.int (0 : Int32))] [])) t
            refine XS.iconst X35.here hx rfl (hb hby at_207) ?_
            show Steps p.tables e below (T35.setTop (mkF m 208 #[.val (.int p0), .val (.int p1), .val (.int p2), .val (.int p3), .val (.int p4), .val (.int v2), .val (.int v4), .val (.int v6), .val (.int r_7), .val (.int r_8), .val (.ref b9), .val (.ref b13), .val (.int (Own.b2i (own_sub n12 (own_add (own_add (fun _ => 0) v4) v6) (own_add (own_add (fun _ => 0) r_7) r_8)))), .val (.int (Own.b2i (own_sub n18 (own_add (own_add (fun _ => 0) r_7) r_8) (own_add (own_add (fun _ => 0) v4) v6)))), .val (.int x1), .val (.int (0 : Int32))] [(.int (1 : Int32))])) t
            refine XS.goto X35.here hx rfl (pc0 := 208) (pc' := 212) rfl (hb hby at_208) (by decide) (by decide) ?_
            show Steps p.tables e below (T35.setTop (mkF m 212 #[.val (.int p0), .val (.int p1), .val (.int p2), .val (.int p3), .val (.int p4), .val (.int v2), .val (.int v4), .val (.int v6), .val (.int r_7), .val (.int r_8), .val (.ref b9), .val (.ref b13), .val (.int (Own.b2i (own_sub n12 (own_add (own_add (fun _ => 0) v4) v6) (own_add (own_add (fun _ => 0) r_7) r_8)))), .val (.int (Own.b2i (own_sub n18 (own_add (own_add (fun _ => 0) r_7) r_8) (own_add (own_add (fun _ => 0) v4) v6)))), .val (.int x1), .val (.int (0 : Int32))] [(.int (1 : Int32))])) t
            exact k
          exact Own.retN hR X35 hx (t := .boolean) hret (by simp) (hb hby at_212) (by decide) (by decide) (by decide) ⟨rfl, N35⟩
    · refine hD _ (T35.setTop (mkF m 169 #[.val (.int p0), .val (.int p1), .val (.int p2), .val (.int p3), .val (.int p4), .val (.int v2), .val (.int v4), .val (.int v6), .val (.int r_7), .val (.int r_8), .val (.ref b9), .val (.ref b13), .val (.int (Own.b2i (own_sub n12 (own_add (own_add (fun _ => 0) v4) v6) (own_add (own_add (fun _ => 0) r_7) r_8)))), .val (.int (Own.b2i (own_sub n18 (own_add (own_add (fun _ => 0) r_7) r_8) (own_add (own_add (fun _ => 0) v4) v6)))), .val (.int x1), .unset] [(.int r_8), (.int v4)])) (fun t k => ?_) ?_
      · show Steps p.tables e below (T35.setTop (mkF m 162 #[.val (.int p0), .val (.int p1), .val (.int p2), .val (.int p3), .val (.int p4), .val (.int v2), .val (.int v4), .val (.int v6), .val (.int r_7), .val (.int r_8), .val (.ref b9), .val (.ref b13), .val (.int (Own.b2i (own_sub n12 (own_add (own_add (fun _ => 0) v4) v6) (own_add (own_add (fun _ => 0) r_7) r_8)))), .val (.int (Own.b2i (own_sub n18 (own_add (own_add (fun _ => 0) r_7) r_8) (own_add (own_add (fun _ => 0) v4) v6)))), .val (.int x1), .unset] [(.int r_7), (.int v4)])) t
        refine XS.icmpNo X35.here hx rfl (hb hby at_162) rfl (feq hc36).1 ?_
        show Steps p.tables e below (T35.setTop (mkF m 165 #[.val (.int p0), .val (.int p1), .val (.int p2), .val (.int p3), .val (.int p4), .val (.int v2), .val (.int v4), .val (.int v6), .val (.int r_7), .val (.int r_8), .val (.ref b9), .val (.ref b13), .val (.int (Own.b2i (own_sub n12 (own_add (own_add (fun _ => 0) v4) v6) (own_add (own_add (fun _ => 0) r_7) r_8)))), .val (.int (Own.b2i (own_sub n18 (own_add (own_add (fun _ => 0) r_7) r_8) (own_add (own_add (fun _ => 0) v4) v6)))), .val (.int x1), .unset] [])) t
        refine XS.iload X35.here hx rfl (hb hby at_165) rfl ?_
        show Steps p.tables e below (T35.setTop (mkF m 167 #[.val (.int p0), .val (.int p1), .val (.int p2), .val (.int p3), .val (.int p4), .val (.int v2), .val (.int v4), .val (.int v6), .val (.int r_7), .val (.int r_8), .val (.ref b9), .val (.ref b13), .val (.int (Own.b2i (own_sub n12 (own_add (own_add (fun _ => 0) v4) v6) (own_add (own_add (fun _ => 0) r_7) r_8)))), .val (.int (Own.b2i (own_sub n18 (own_add (own_add (fun _ => 0) r_7) r_8) (own_add (own_add (fun _ => 0) v4) v6)))), .val (.int x1), .unset] [(.int v4)])) t
        refine XS.iload X35.here hx rfl (hb hby at_167) rfl ?_
        show Steps p.tables e below (T35.setTop (mkF m 169 #[.val (.int p0), .val (.int p1), .val (.int p2), .val (.int p3), .val (.int p4), .val (.int v2), .val (.int v4), .val (.int v6), .val (.int r_7), .val (.int r_8), .val (.ref b9), .val (.ref b13), .val (.int (Own.b2i (own_sub n12 (own_add (own_add (fun _ => 0) v4) v6) (own_add (own_add (fun _ => 0) r_7) r_8)))), .val (.int (Own.b2i (own_sub n18 (own_add (own_add (fun _ => 0) r_7) r_8) (own_add (own_add (fun _ => 0) v4) v6)))), .val (.int x1), .unset] [(.int r_8), (.int v4)])) t
        exact k
      by_cases hc45 : v4 = r_8
      · refine hD _ (T35.setTop (mkF m 176 #[.val (.int p0), .val (.int p1), .val (.int p2), .val (.int p3), .val (.int p4), .val (.int v2), .val (.int v4), .val (.int v6), .val (.int r_7), .val (.int r_8), .val (.ref b9), .val (.ref b13), .val (.int (Own.b2i (own_sub n12 (own_add (own_add (fun _ => 0) v4) v6) (own_add (own_add (fun _ => 0) r_7) r_8)))), .val (.int (Own.b2i (own_sub n18 (own_add (own_add (fun _ => 0) r_7) r_8) (own_add (own_add (fun _ => 0) v4) v6)))), .val (.int x1), .unset] [(.int r_7), (.int v6)])) (fun t k => ?_) ?_
        · show Steps p.tables e below (T35.setTop (mkF m 169 #[.val (.int p0), .val (.int p1), .val (.int p2), .val (.int p3), .val (.int p4), .val (.int v2), .val (.int v4), .val (.int v6), .val (.int r_7), .val (.int r_8), .val (.ref b9), .val (.ref b13), .val (.int (Own.b2i (own_sub n12 (own_add (own_add (fun _ => 0) v4) v6) (own_add (own_add (fun _ => 0) r_7) r_8)))), .val (.int (Own.b2i (own_sub n18 (own_add (own_add (fun _ => 0) r_7) r_8) (own_add (own_add (fun _ => 0) v4) v6)))), .val (.int x1), .unset] [(.int r_8), (.int v4)])) t
          refine XS.icmpNo X35.here hx rfl (hb hby at_169) rfl (teq hc45).2 ?_
          show Steps p.tables e below (T35.setTop (mkF m 172 #[.val (.int p0), .val (.int p1), .val (.int p2), .val (.int p3), .val (.int p4), .val (.int v2), .val (.int v4), .val (.int v6), .val (.int r_7), .val (.int r_8), .val (.ref b9), .val (.ref b13), .val (.int (Own.b2i (own_sub n12 (own_add (own_add (fun _ => 0) v4) v6) (own_add (own_add (fun _ => 0) r_7) r_8)))), .val (.int (Own.b2i (own_sub n18 (own_add (own_add (fun _ => 0) r_7) r_8) (own_add (own_add (fun _ => 0) v4) v6)))), .val (.int x1), .unset] [])) t
          refine XS.iload X35.here hx rfl (hb hby at_172) rfl ?_
          show Steps p.tables e below (T35.setTop (mkF m 174 #[.val (.int p0), .val (.int p1), .val (.int p2), .val (.int p3), .val (.int p4), .val (.int v2), .val (.int v4), .val (.int v6), .val (.int r_7), .val (.int r_8), .val (.ref b9), .val (.ref b13), .val (.int (Own.b2i (own_sub n12 (own_add (own_add (fun _ => 0) v4) v6) (own_add (own_add (fun _ => 0) r_7) r_8)))), .val (.int (Own.b2i (own_sub n18 (own_add (own_add (fun _ => 0) r_7) r_8) (own_add (own_add (fun _ => 0) v4) v6)))), .val (.int x1), .unset] [(.int v6)])) t
          refine XS.iload X35.here hx rfl (hb hby at_174) rfl ?_
          show Steps p.tables e below (T35.setTop (mkF m 176 #[.val (.int p0), .val (.int p1), .val (.int p2), .val (.int p3), .val (.int p4), .val (.int v2), .val (.int v4), .val (.int v6), .val (.int r_7), .val (.int r_8), .val (.ref b9), .val (.ref b13), .val (.int (Own.b2i (own_sub n12 (own_add (own_add (fun _ => 0) v4) v6) (own_add (own_add (fun _ => 0) r_7) r_8)))), .val (.int (Own.b2i (own_sub n18 (own_add (own_add (fun _ => 0) r_7) r_8) (own_add (own_add (fun _ => 0) v4) v6)))), .val (.int x1), .unset] [(.int r_7), (.int v6)])) t
          exact k
        by_cases hc46 : v6 = r_7
        · refine hD _ (T35.setTop (mkF m 197 #[.val (.int p0), .val (.int p1), .val (.int p2), .val (.int p3), .val (.int p4), .val (.int v2), .val (.int v4), .val (.int v6), .val (.int r_7), .val (.int r_8), .val (.ref b9), .val (.ref b13), .val (.int (Own.b2i (own_sub n12 (own_add (own_add (fun _ => 0) v4) v6) (own_add (own_add (fun _ => 0) r_7) r_8)))), .val (.int (Own.b2i (own_sub n18 (own_add (own_add (fun _ => 0) r_7) r_8) (own_add (own_add (fun _ => 0) v4) v6)))), .val (.int x1), .val (.int (1 : Int32))] [(.int x1), (.int (Own.b2i (own_sub n12 (own_add (own_add (fun _ => 0) v4) v6) (own_add (own_add (fun _ => 0) r_7) r_8))))])) (fun t k => ?_) ?_
          · show Steps p.tables e below (T35.setTop (mkF m 176 #[.val (.int p0), .val (.int p1), .val (.int p2), .val (.int p3), .val (.int p4), .val (.int v2), .val (.int v4), .val (.int v6), .val (.int r_7), .val (.int r_8), .val (.ref b9), .val (.ref b13), .val (.int (Own.b2i (own_sub n12 (own_add (own_add (fun _ => 0) v4) v6) (own_add (own_add (fun _ => 0) r_7) r_8)))), .val (.int (Own.b2i (own_sub n18 (own_add (own_add (fun _ => 0) r_7) r_8) (own_add (own_add (fun _ => 0) v4) v6)))), .val (.int x1), .unset] [(.int r_7), (.int v6)])) t
            refine XS.icmpYes X35.here hx rfl (pc0 := 176) (pc' := 186) rfl (hb hby at_176) rfl (teq hc46).1 (by decide) (by decide) ?_
            show Steps p.tables e below (T35.setTop (mkF m 186 #[.val (.int p0), .val (.int p1), .val (.int p2), .val (.int p3), .val (.int p4), .val (.int v2), .val (.int v4), .val (.int v6), .val (.int r_7), .val (.int r_8), .val (.ref b9), .val (.ref b13), .val (.int (Own.b2i (own_sub n12 (own_add (own_add (fun _ => 0) v4) v6) (own_add (own_add (fun _ => 0) r_7) r_8)))), .val (.int (Own.b2i (own_sub n18 (own_add (own_add (fun _ => 0) r_7) r_8) (own_add (own_add (fun _ => 0) v4) v6)))), .val (.int x1), .unset] [])) t
            refine XS.iconst X35.here hx rfl (hb hby at_186) ?_
            show Steps p.tables e below (T35.setTop (mkF m 187 #[.val (.int p0), .val (.int p1), .val (.int p2), .val (.int p3), .val (.int p4), .val (.int v2), .val (.int v4), .val (.int v6), .val (.int r_7), .val (.int r_8), .val (.ref b9), .val (.ref b13), .val (.int (Own.b2i (own_sub n12 (own_add (own_add (fun _ => 0) v4) v6) (own_add (own_add (fun _ => 0) r_7) r_8)))), .val (.int (Own.b2i (own_sub n18 (own_add (own_add (fun _ => 0) r_7) r_8) (own_add (own_add (fun _ => 0) v4) v6)))), .val (.int x1), .unset] [(.int (1 : Int32))])) t
            refine XS.goto X35.here hx rfl (pc0 := 187) (pc' := 191) rfl (hb hby at_187) (by decide) (by decide) ?_
            show Steps p.tables e below (T35.setTop (mkF m 191 #[.val (.int p0), .val (.int p1), .val (.int p2), .val (.int p3), .val (.int p4), .val (.int v2), .val (.int v4), .val (.int v6), .val (.int r_7), .val (.int r_8), .val (.ref b9), .val (.ref b13), .val (.int (Own.b2i (own_sub n12 (own_add (own_add (fun _ => 0) v4) v6) (own_add (own_add (fun _ => 0) r_7) r_8)))), .val (.int (Own.b2i (own_sub n18 (own_add (own_add (fun _ => 0) r_7) r_8) (own_add (own_add (fun _ => 0) v4) v6)))), .val (.int x1), .unset] [(.int (1 : Int32))])) t
            refine XS.istore X35.here hx rfl (hb hby at_191) rfl (l' := #[.val (.int p0), .val (.int p1), .val (.int p2), .val (.int p3), .val (.int p4), .val (.int v2), .val (.int v4), .val (.int v6), .val (.int r_7), .val (.int r_8), .val (.ref b9), .val (.ref b13), .val (.int (Own.b2i (own_sub n12 (own_add (own_add (fun _ => 0) v4) v6) (own_add (own_add (fun _ => 0) r_7) r_8)))), .val (.int (Own.b2i (own_sub n18 (own_add (own_add (fun _ => 0) r_7) r_8) (own_add (own_add (fun _ => 0) v4) v6)))), .val (.int x1), .val (.int (1 : Int32))]) rfl ?_
            show Steps p.tables e below (T35.setTop (mkF m 193 #[.val (.int p0), .val (.int p1), .val (.int p2), .val (.int p3), .val (.int p4), .val (.int v2), .val (.int v4), .val (.int v6), .val (.int r_7), .val (.int r_8), .val (.ref b9), .val (.ref b13), .val (.int (Own.b2i (own_sub n12 (own_add (own_add (fun _ => 0) v4) v6) (own_add (own_add (fun _ => 0) r_7) r_8)))), .val (.int (Own.b2i (own_sub n18 (own_add (own_add (fun _ => 0) r_7) r_8) (own_add (own_add (fun _ => 0) v4) v6)))), .val (.int x1), .val (.int (1 : Int32))] [])) t
            refine XS.iload X35.here hx rfl (hb hby at_193) rfl ?_
            show Steps p.tables e below (T35.setTop (mkF m 195 #[.val (.int p0), .val (.int p1), .val (.int p2), .val (.int p3), .val (.int p4), .val (.int v2), .val (.int v4), .val (.int v6), .val (.int r_7), .val (.int r_8), .val (.ref b9), .val (.ref b13), .val (.int (Own.b2i (own_sub n12 (own_add (own_add (fun _ => 0) v4) v6) (own_add (own_add (fun _ => 0) r_7) r_8)))), .val (.int (Own.b2i (own_sub n18 (own_add (own_add (fun _ => 0) r_7) r_8) (own_add (own_add (fun _ => 0) v4) v6)))), .val (.int x1), .val (.int (1 : Int32))] [(.int (Own.b2i (own_sub n12 (own_add (own_add (fun _ => 0) v4) v6) (own_add (own_add (fun _ => 0) r_7) r_8))))])) t
            refine XS.iload X35.here hx rfl (hb hby at_195) rfl ?_
            show Steps p.tables e below (T35.setTop (mkF m 197 #[.val (.int p0), .val (.int p1), .val (.int p2), .val (.int p3), .val (.int p4), .val (.int v2), .val (.int v4), .val (.int v6), .val (.int r_7), .val (.int r_8), .val (.ref b9), .val (.ref b13), .val (.int (Own.b2i (own_sub n12 (own_add (own_add (fun _ => 0) v4) v6) (own_add (own_add (fun _ => 0) r_7) r_8)))), .val (.int (Own.b2i (own_sub n18 (own_add (own_add (fun _ => 0) r_7) r_8) (own_add (own_add (fun _ => 0) v4) v6)))), .val (.int x1), .val (.int (1 : Int32))] [(.int x1), (.int (Own.b2i (own_sub n12 (own_add (own_add (fun _ => 0) v4) v6) (own_add (own_add (fun _ => 0) r_7) r_8))))])) t
            exact k
          have hc47 : (Own.b2i (own_sub n12 (own_add (own_add (fun _ => 0) v4) v6) (own_add (own_add (fun _ => 0) r_7) r_8))) = x1 := hx1
          refine hD _ (T35.setTop (mkF m 204 #[.val (.int p0), .val (.int p1), .val (.int p2), .val (.int p3), .val (.int p4), .val (.int v2), .val (.int v4), .val (.int v6), .val (.int r_7), .val (.int r_8), .val (.ref b9), .val (.ref b13), .val (.int (Own.b2i (own_sub n12 (own_add (own_add (fun _ => 0) v4) v6) (own_add (own_add (fun _ => 0) r_7) r_8)))), .val (.int (Own.b2i (own_sub n18 (own_add (own_add (fun _ => 0) r_7) r_8) (own_add (own_add (fun _ => 0) v4) v6)))), .val (.int x1), .val (.int (1 : Int32))] [(.int (1 : Int32)), (.int (Own.b2i (own_sub n18 (own_add (own_add (fun _ => 0) r_7) r_8) (own_add (own_add (fun _ => 0) v4) v6))))])) (fun t k => ?_) ?_
          · show Steps p.tables e below (T35.setTop (mkF m 197 #[.val (.int p0), .val (.int p1), .val (.int p2), .val (.int p3), .val (.int p4), .val (.int v2), .val (.int v4), .val (.int v6), .val (.int r_7), .val (.int r_8), .val (.ref b9), .val (.ref b13), .val (.int (Own.b2i (own_sub n12 (own_add (own_add (fun _ => 0) v4) v6) (own_add (own_add (fun _ => 0) r_7) r_8)))), .val (.int (Own.b2i (own_sub n18 (own_add (own_add (fun _ => 0) r_7) r_8) (own_add (own_add (fun _ => 0) v4) v6)))), .val (.int x1), .val (.int (1 : Int32))] [(.int x1), (.int (Own.b2i (own_sub n12 (own_add (own_add (fun _ => 0) v4) v6) (own_add (own_add (fun _ => 0) r_7) r_8))))])) t
            refine XS.icmpNo X35.here hx rfl (hb hby at_197) rfl (teq hc47).2 ?_
            show Steps p.tables e below (T35.setTop (mkF m 200 #[.val (.int p0), .val (.int p1), .val (.int p2), .val (.int p3), .val (.int p4), .val (.int v2), .val (.int v4), .val (.int v6), .val (.int r_7), .val (.int r_8), .val (.ref b9), .val (.ref b13), .val (.int (Own.b2i (own_sub n12 (own_add (own_add (fun _ => 0) v4) v6) (own_add (own_add (fun _ => 0) r_7) r_8)))), .val (.int (Own.b2i (own_sub n18 (own_add (own_add (fun _ => 0) r_7) r_8) (own_add (own_add (fun _ => 0) v4) v6)))), .val (.int x1), .val (.int (1 : Int32))] [])) t
            refine XS.iload X35.here hx rfl (hb hby at_200) rfl ?_
            show Steps p.tables e below (T35.setTop (mkF m 202 #[.val (.int p0), .val (.int p1), .val (.int p2), .val (.int p3), .val (.int p4), .val (.int v2), .val (.int v4), .val (.int v6), .val (.int r_7), .val (.int r_8), .val (.ref b9), .val (.ref b13), .val (.int (Own.b2i (own_sub n12 (own_add (own_add (fun _ => 0) v4) v6) (own_add (own_add (fun _ => 0) r_7) r_8)))), .val (.int (Own.b2i (own_sub n18 (own_add (own_add (fun _ => 0) r_7) r_8) (own_add (own_add (fun _ => 0) v4) v6)))), .val (.int x1), .val (.int (1 : Int32))] [(.int (Own.b2i (own_sub n18 (own_add (own_add (fun _ => 0) r_7) r_8) (own_add (own_add (fun _ => 0) v4) v6))))])) t
            refine XS.iload X35.here hx rfl (hb hby at_202) rfl ?_
            show Steps p.tables e below (T35.setTop (mkF m 204 #[.val (.int p0), .val (.int p1), .val (.int p2), .val (.int p3), .val (.int p4), .val (.int v2), .val (.int v4), .val (.int v6), .val (.int r_7), .val (.int r_8), .val (.ref b9), .val (.ref b13), .val (.int (Own.b2i (own_sub n12 (own_add (own_add (fun _ => 0) v4) v6) (own_add (own_add (fun _ => 0) r_7) r_8)))), .val (.int (Own.b2i (own_sub n18 (own_add (own_add (fun _ => 0) r_7) r_8) (own_add (own_add (fun _ => 0) v4) v6)))), .val (.int x1), .val (.int (1 : Int32))] [(.int (1 : Int32)), (.int (Own.b2i (own_sub n18 (own_add (own_add (fun _ => 0) r_7) r_8) (own_add (own_add (fun _ => 0) v4) v6))))])) t
            exact k
          have hc48 : (Own.b2i (own_sub n18 (own_add (own_add (fun _ => 0) r_7) r_8) (own_add (own_add (fun _ => 0) v4) v6))) = (1 : Int32) := by rw [own_exp hr_7.1 hr_8.1 (own_in (own_rem (own_size hv2).1 hv4) hn18) (own_in (own_rem (own_size hv2).1 hv6) hn18)]; simp [Own.b2i, hc36, hc45, hc46, hc47]
          refine hD _ (T35.setTop (mkF m 212 #[.val (.int p0), .val (.int p1), .val (.int p2), .val (.int p3), .val (.int p4), .val (.int v2), .val (.int v4), .val (.int v6), .val (.int r_7), .val (.int r_8), .val (.ref b9), .val (.ref b13), .val (.int (Own.b2i (own_sub n12 (own_add (own_add (fun _ => 0) v4) v6) (own_add (own_add (fun _ => 0) r_7) r_8)))), .val (.int (Own.b2i (own_sub n18 (own_add (own_add (fun _ => 0) r_7) r_8) (own_add (own_add (fun _ => 0) v4) v6)))), .val (.int x1), .val (.int (1 : Int32))] [(.int (1 : Int32))])) (fun t k => ?_) ?_
          · show Steps p.tables e below (T35.setTop (mkF m 204 #[.val (.int p0), .val (.int p1), .val (.int p2), .val (.int p3), .val (.int p4), .val (.int v2), .val (.int v4), .val (.int v6), .val (.int r_7), .val (.int r_8), .val (.ref b9), .val (.ref b13), .val (.int (Own.b2i (own_sub n12 (own_add (own_add (fun _ => 0) v4) v6) (own_add (own_add (fun _ => 0) r_7) r_8)))), .val (.int (Own.b2i (own_sub n18 (own_add (own_add (fun _ => 0) r_7) r_8) (own_add (own_add (fun _ => 0) v4) v6)))), .val (.int x1), .val (.int (1 : Int32))] [(.int (1 : Int32)), (.int (Own.b2i (own_sub n18 (own_add (own_add (fun _ => 0) r_7) r_8) (own_add (own_add (fun _ => 0) v4) v6))))])) t
            refine XS.icmpNo X35.here hx rfl (hb hby at_204) rfl (teq hc48).2 ?_
            show Steps p.tables e below (T35.setTop (mkF m 207 #[.val (.int p0), .val (.int p1), .val (.int p2), .val (.int p3), .val (.int p4), .val (.int v2), .val (.int v4), .val (.int v6), .val (.int r_7), .val (.int r_8), .val (.ref b9), .val (.ref b13), .val (.int (Own.b2i (own_sub n12 (own_add (own_add (fun _ => 0) v4) v6) (own_add (own_add (fun _ => 0) r_7) r_8)))), .val (.int (Own.b2i (own_sub n18 (own_add (own_add (fun _ => 0) r_7) r_8) (own_add (own_add (fun _ => 0) v4) v6)))), .val (.int x1), .val (.int (1 : Int32))] [])) t
            refine XS.iconst X35.here hx rfl (hb hby at_207) ?_
            show Steps p.tables e below (T35.setTop (mkF m 208 #[.val (.int p0), .val (.int p1), .val (.int p2), .val (.int p3), .val (.int p4), .val (.int v2), .val (.int v4), .val (.int v6), .val (.int r_7), .val (.int r_8), .val (.ref b9), .val (.ref b13), .val (.int (Own.b2i (own_sub n12 (own_add (own_add (fun _ => 0) v4) v6) (own_add (own_add (fun _ => 0) r_7) r_8)))), .val (.int (Own.b2i (own_sub n18 (own_add (own_add (fun _ => 0) r_7) r_8) (own_add (own_add (fun _ => 0) v4) v6)))), .val (.int x1), .val (.int (1 : Int32))] [(.int (1 : Int32))])) t
            refine XS.goto X35.here hx rfl (pc0 := 208) (pc' := 212) rfl (hb hby at_208) (by decide) (by decide) ?_
            show Steps p.tables e below (T35.setTop (mkF m 212 #[.val (.int p0), .val (.int p1), .val (.int p2), .val (.int p3), .val (.int p4), .val (.int v2), .val (.int v4), .val (.int v6), .val (.int r_7), .val (.int r_8), .val (.ref b9), .val (.ref b13), .val (.int (Own.b2i (own_sub n12 (own_add (own_add (fun _ => 0) v4) v6) (own_add (own_add (fun _ => 0) r_7) r_8)))), .val (.int (Own.b2i (own_sub n18 (own_add (own_add (fun _ => 0) r_7) r_8) (own_add (own_add (fun _ => 0) v4) v6)))), .val (.int x1), .val (.int (1 : Int32))] [(.int (1 : Int32))])) t
            exact k
          exact Own.retN hR X35 hx (t := .boolean) hret (by simp) (hb hby at_212) (by decide) (by decide) (by decide) ⟨rfl, N35⟩
        · refine hD _ (T35.setTop (mkF m 183 #[.val (.int p0), .val (.int p1), .val (.int p2), .val (.int p3), .val (.int p4), .val (.int v2), .val (.int v4), .val (.int v6), .val (.int r_7), .val (.int r_8), .val (.ref b9), .val (.ref b13), .val (.int (Own.b2i (own_sub n12 (own_add (own_add (fun _ => 0) v4) v6) (own_add (own_add (fun _ => 0) r_7) r_8)))), .val (.int (Own.b2i (own_sub n18 (own_add (own_add (fun _ => 0) r_7) r_8) (own_add (own_add (fun _ => 0) v4) v6)))), .val (.int x1), .unset] [(.int r_8), (.int v6)])) (fun t k => ?_) ?_
          · show Steps p.tables e below (T35.setTop (mkF m 176 #[.val (.int p0), .val (.int p1), .val (.int p2), .val (.int p3), .val (.int p4), .val (.int v2), .val (.int v4), .val (.int v6), .val (.int r_7), .val (.int r_8), .val (.ref b9), .val (.ref b13), .val (.int (Own.b2i (own_sub n12 (own_add (own_add (fun _ => 0) v4) v6) (own_add (own_add (fun _ => 0) r_7) r_8)))), .val (.int (Own.b2i (own_sub n18 (own_add (own_add (fun _ => 0) r_7) r_8) (own_add (own_add (fun _ => 0) v4) v6)))), .val (.int x1), .unset] [(.int r_7), (.int v6)])) t
            refine XS.icmpNo X35.here hx rfl (hb hby at_176) rfl (feq hc46).1 ?_
            show Steps p.tables e below (T35.setTop (mkF m 179 #[.val (.int p0), .val (.int p1), .val (.int p2), .val (.int p3), .val (.int p4), .val (.int v2), .val (.int v4), .val (.int v6), .val (.int r_7), .val (.int r_8), .val (.ref b9), .val (.ref b13), .val (.int (Own.b2i (own_sub n12 (own_add (own_add (fun _ => 0) v4) v6) (own_add (own_add (fun _ => 0) r_7) r_8)))), .val (.int (Own.b2i (own_sub n18 (own_add (own_add (fun _ => 0) r_7) r_8) (own_add (own_add (fun _ => 0) v4) v6)))), .val (.int x1), .unset] [])) t
            refine XS.iload X35.here hx rfl (hb hby at_179) rfl ?_
            show Steps p.tables e below (T35.setTop (mkF m 181 #[.val (.int p0), .val (.int p1), .val (.int p2), .val (.int p3), .val (.int p4), .val (.int v2), .val (.int v4), .val (.int v6), .val (.int r_7), .val (.int r_8), .val (.ref b9), .val (.ref b13), .val (.int (Own.b2i (own_sub n12 (own_add (own_add (fun _ => 0) v4) v6) (own_add (own_add (fun _ => 0) r_7) r_8)))), .val (.int (Own.b2i (own_sub n18 (own_add (own_add (fun _ => 0) r_7) r_8) (own_add (own_add (fun _ => 0) v4) v6)))), .val (.int x1), .unset] [(.int v6)])) t
            refine XS.iload X35.here hx rfl (hb hby at_181) rfl ?_
            show Steps p.tables e below (T35.setTop (mkF m 183 #[.val (.int p0), .val (.int p1), .val (.int p2), .val (.int p3), .val (.int p4), .val (.int v2), .val (.int v4), .val (.int v6), .val (.int r_7), .val (.int r_8), .val (.ref b9), .val (.ref b13), .val (.int (Own.b2i (own_sub n12 (own_add (own_add (fun _ => 0) v4) v6) (own_add (own_add (fun _ => 0) r_7) r_8)))), .val (.int (Own.b2i (own_sub n18 (own_add (own_add (fun _ => 0) r_7) r_8) (own_add (own_add (fun _ => 0) v4) v6)))), .val (.int x1), .unset] [(.int r_8), (.int v6)])) t
            exact k
          by_cases hc49 : v6 = r_8
          · refine hD _ (T35.setTop (mkF m 197 #[.val (.int p0), .val (.int p1), .val (.int p2), .val (.int p3), .val (.int p4), .val (.int v2), .val (.int v4), .val (.int v6), .val (.int r_7), .val (.int r_8), .val (.ref b9), .val (.ref b13), .val (.int (Own.b2i (own_sub n12 (own_add (own_add (fun _ => 0) v4) v6) (own_add (own_add (fun _ => 0) r_7) r_8)))), .val (.int (Own.b2i (own_sub n18 (own_add (own_add (fun _ => 0) r_7) r_8) (own_add (own_add (fun _ => 0) v4) v6)))), .val (.int x1), .val (.int (1 : Int32))] [(.int x1), (.int (Own.b2i (own_sub n12 (own_add (own_add (fun _ => 0) v4) v6) (own_add (own_add (fun _ => 0) r_7) r_8))))])) (fun t k => ?_) ?_
            · show Steps p.tables e below (T35.setTop (mkF m 183 #[.val (.int p0), .val (.int p1), .val (.int p2), .val (.int p3), .val (.int p4), .val (.int v2), .val (.int v4), .val (.int v6), .val (.int r_7), .val (.int r_8), .val (.ref b9), .val (.ref b13), .val (.int (Own.b2i (own_sub n12 (own_add (own_add (fun _ => 0) v4) v6) (own_add (own_add (fun _ => 0) r_7) r_8)))), .val (.int (Own.b2i (own_sub n18 (own_add (own_add (fun _ => 0) r_7) r_8) (own_add (own_add (fun _ => 0) v4) v6)))), .val (.int x1), .unset] [(.int r_8), (.int v6)])) t
              refine XS.icmpNo X35.here hx rfl (hb hby at_183) rfl (teq hc49).2 ?_
              show Steps p.tables e below (T35.setTop (mkF m 186 #[.val (.int p0), .val (.int p1), .val (.int p2), .val (.int p3), .val (.int p4), .val (.int v2), .val (.int v4), .val (.int v6), .val (.int r_7), .val (.int r_8), .val (.ref b9), .val (.ref b13), .val (.int (Own.b2i (own_sub n12 (own_add (own_add (fun _ => 0) v4) v6) (own_add (own_add (fun _ => 0) r_7) r_8)))), .val (.int (Own.b2i (own_sub n18 (own_add (own_add (fun _ => 0) r_7) r_8) (own_add (own_add (fun _ => 0) v4) v6)))), .val (.int x1), .unset] [])) t
              refine XS.iconst X35.here hx rfl (hb hby at_186) ?_
              show Steps p.tables e below (T35.setTop (mkF m 187 #[.val (.int p0), .val (.int p1), .val (.int p2), .val (.int p3), .val (.int p4), .val (.int v2), .val (.int v4), .val (.int v6), .val (.int r_7), .val (.int r_8), .val (.ref b9), .val (.ref b13), .val (.int (Own.b2i (own_sub n12 (own_add (own_add (fun _ => 0) v4) v6) (own_add (own_add (fun _ => 0) r_7) r_8)))), .val (.int (Own.b2i (own_sub n18 (own_add (own_add (fun _ => 0) r_7) r_8) (own_add (own_add (fun _ => 0) v4) v6)))), .val (.int x1), .unset] [(.int (1 : Int32))])) t
              refine XS.goto X35.here hx rfl (pc0 := 187) (pc' := 191) rfl (hb hby at_187) (by decide) (by decide) ?_
              show Steps p.tables e below (T35.setTop (mkF m 191 #[.val (.int p0), .val (.int p1), .val (.int p2), .val (.int p3), .val (.int p4), .val (.int v2), .val (.int v4), .val (.int v6), .val (.int r_7), .val (.int r_8), .val (.ref b9), .val (.ref b13), .val (.int (Own.b2i (own_sub n12 (own_add (own_add (fun _ => 0) v4) v6) (own_add (own_add (fun _ => 0) r_7) r_8)))), .val (.int (Own.b2i (own_sub n18 (own_add (own_add (fun _ => 0) r_7) r_8) (own_add (own_add (fun _ => 0) v4) v6)))), .val (.int x1), .unset] [(.int (1 : Int32))])) t
              refine XS.istore X35.here hx rfl (hb hby at_191) rfl (l' := #[.val (.int p0), .val (.int p1), .val (.int p2), .val (.int p3), .val (.int p4), .val (.int v2), .val (.int v4), .val (.int v6), .val (.int r_7), .val (.int r_8), .val (.ref b9), .val (.ref b13), .val (.int (Own.b2i (own_sub n12 (own_add (own_add (fun _ => 0) v4) v6) (own_add (own_add (fun _ => 0) r_7) r_8)))), .val (.int (Own.b2i (own_sub n18 (own_add (own_add (fun _ => 0) r_7) r_8) (own_add (own_add (fun _ => 0) v4) v6)))), .val (.int x1), .val (.int (1 : Int32))]) rfl ?_
              show Steps p.tables e below (T35.setTop (mkF m 193 #[.val (.int p0), .val (.int p1), .val (.int p2), .val (.int p3), .val (.int p4), .val (.int v2), .val (.int v4), .val (.int v6), .val (.int r_7), .val (.int r_8), .val (.ref b9), .val (.ref b13), .val (.int (Own.b2i (own_sub n12 (own_add (own_add (fun _ => 0) v4) v6) (own_add (own_add (fun _ => 0) r_7) r_8)))), .val (.int (Own.b2i (own_sub n18 (own_add (own_add (fun _ => 0) r_7) r_8) (own_add (own_add (fun _ => 0) v4) v6)))), .val (.int x1), .val (.int (1 : Int32))] [])) t
              refine XS.iload X35.here hx rfl (hb hby at_193) rfl ?_
              show Steps p.tables e below (T35.setTop (mkF m 195 #[.val (.int p0), .val (.int p1), .val (.int p2), .val (.int p3), .val (.int p4), .val (.int v2), .val (.int v4), .val (.int v6), .val (.int r_7), .val (.int r_8), .val (.ref b9), .val (.ref b13), .val (.int (Own.b2i (own_sub n12 (own_add (own_add (fun _ => 0) v4) v6) (own_add (own_add (fun _ => 0) r_7) r_8)))), .val (.int (Own.b2i (own_sub n18 (own_add (own_add (fun _ => 0) r_7) r_8) (own_add (own_add (fun _ => 0) v4) v6)))), .val (.int x1), .val (.int (1 : Int32))] [(.int (Own.b2i (own_sub n12 (own_add (own_add (fun _ => 0) v4) v6) (own_add (own_add (fun _ => 0) r_7) r_8))))])) t
              refine XS.iload X35.here hx rfl (hb hby at_195) rfl ?_
              show Steps p.tables e below (T35.setTop (mkF m 197 #[.val (.int p0), .val (.int p1), .val (.int p2), .val (.int p3), .val (.int p4), .val (.int v2), .val (.int v4), .val (.int v6), .val (.int r_7), .val (.int r_8), .val (.ref b9), .val (.ref b13), .val (.int (Own.b2i (own_sub n12 (own_add (own_add (fun _ => 0) v4) v6) (own_add (own_add (fun _ => 0) r_7) r_8)))), .val (.int (Own.b2i (own_sub n18 (own_add (own_add (fun _ => 0) r_7) r_8) (own_add (own_add (fun _ => 0) v4) v6)))), .val (.int x1), .val (.int (1 : Int32))] [(.int x1), (.int (Own.b2i (own_sub n12 (own_add (own_add (fun _ => 0) v4) v6) (own_add (own_add (fun _ => 0) r_7) r_8))))])) t
              exact k
            have hc50 : (Own.b2i (own_sub n12 (own_add (own_add (fun _ => 0) v4) v6) (own_add (own_add (fun _ => 0) r_7) r_8))) = x1 := hx1
            refine hD _ (T35.setTop (mkF m 204 #[.val (.int p0), .val (.int p1), .val (.int p2), .val (.int p3), .val (.int p4), .val (.int v2), .val (.int v4), .val (.int v6), .val (.int r_7), .val (.int r_8), .val (.ref b9), .val (.ref b13), .val (.int (Own.b2i (own_sub n12 (own_add (own_add (fun _ => 0) v4) v6) (own_add (own_add (fun _ => 0) r_7) r_8)))), .val (.int (Own.b2i (own_sub n18 (own_add (own_add (fun _ => 0) r_7) r_8) (own_add (own_add (fun _ => 0) v4) v6)))), .val (.int x1), .val (.int (1 : Int32))] [(.int (1 : Int32)), (.int (Own.b2i (own_sub n18 (own_add (own_add (fun _ => 0) r_7) r_8) (own_add (own_add (fun _ => 0) v4) v6))))])) (fun t k => ?_) ?_
            · show Steps p.tables e below (T35.setTop (mkF m 197 #[.val (.int p0), .val (.int p1), .val (.int p2), .val (.int p3), .val (.int p4), .val (.int v2), .val (.int v4), .val (.int v6), .val (.int r_7), .val (.int r_8), .val (.ref b9), .val (.ref b13), .val (.int (Own.b2i (own_sub n12 (own_add (own_add (fun _ => 0) v4) v6) (own_add (own_add (fun _ => 0) r_7) r_8)))), .val (.int (Own.b2i (own_sub n18 (own_add (own_add (fun _ => 0) r_7) r_8) (own_add (own_add (fun _ => 0) v4) v6)))), .val (.int x1), .val (.int (1 : Int32))] [(.int x1), (.int (Own.b2i (own_sub n12 (own_add (own_add (fun _ => 0) v4) v6) (own_add (own_add (fun _ => 0) r_7) r_8))))])) t
              refine XS.icmpNo X35.here hx rfl (hb hby at_197) rfl (teq hc50).2 ?_
              show Steps p.tables e below (T35.setTop (mkF m 200 #[.val (.int p0), .val (.int p1), .val (.int p2), .val (.int p3), .val (.int p4), .val (.int v2), .val (.int v4), .val (.int v6), .val (.int r_7), .val (.int r_8), .val (.ref b9), .val (.ref b13), .val (.int (Own.b2i (own_sub n12 (own_add (own_add (fun _ => 0) v4) v6) (own_add (own_add (fun _ => 0) r_7) r_8)))), .val (.int (Own.b2i (own_sub n18 (own_add (own_add (fun _ => 0) r_7) r_8) (own_add (own_add (fun _ => 0) v4) v6)))), .val (.int x1), .val (.int (1 : Int32))] [])) t
              refine XS.iload X35.here hx rfl (hb hby at_200) rfl ?_
              show Steps p.tables e below (T35.setTop (mkF m 202 #[.val (.int p0), .val (.int p1), .val (.int p2), .val (.int p3), .val (.int p4), .val (.int v2), .val (.int v4), .val (.int v6), .val (.int r_7), .val (.int r_8), .val (.ref b9), .val (.ref b13), .val (.int (Own.b2i (own_sub n12 (own_add (own_add (fun _ => 0) v4) v6) (own_add (own_add (fun _ => 0) r_7) r_8)))), .val (.int (Own.b2i (own_sub n18 (own_add (own_add (fun _ => 0) r_7) r_8) (own_add (own_add (fun _ => 0) v4) v6)))), .val (.int x1), .val (.int (1 : Int32))] [(.int (Own.b2i (own_sub n18 (own_add (own_add (fun _ => 0) r_7) r_8) (own_add (own_add (fun _ => 0) v4) v6))))])) t
              refine XS.iload X35.here hx rfl (hb hby at_202) rfl ?_
              show Steps p.tables e below (T35.setTop (mkF m 204 #[.val (.int p0), .val (.int p1), .val (.int p2), .val (.int p3), .val (.int p4), .val (.int v2), .val (.int v4), .val (.int v6), .val (.int r_7), .val (.int r_8), .val (.ref b9), .val (.ref b13), .val (.int (Own.b2i (own_sub n12 (own_add (own_add (fun _ => 0) v4) v6) (own_add (own_add (fun _ => 0) r_7) r_8)))), .val (.int (Own.b2i (own_sub n18 (own_add (own_add (fun _ => 0) r_7) r_8) (own_add (own_add (fun _ => 0) v4) v6)))), .val (.int x1), .val (.int (1 : Int32))] [(.int (1 : Int32)), (.int (Own.b2i (own_sub n18 (own_add (own_add (fun _ => 0) r_7) r_8) (own_add (own_add (fun _ => 0) v4) v6))))])) t
              exact k
            have hc51 : (Own.b2i (own_sub n18 (own_add (own_add (fun _ => 0) r_7) r_8) (own_add (own_add (fun _ => 0) v4) v6))) = (1 : Int32) := by rw [own_exp hr_7.1 hr_8.1 (own_in (own_rem (own_size hv2).1 hv4) hn18) (own_in (own_rem (own_size hv2).1 hv6) hn18)]; simp [Own.b2i, hc36, hc45, hc46, hc49, hc50]
            refine hD _ (T35.setTop (mkF m 212 #[.val (.int p0), .val (.int p1), .val (.int p2), .val (.int p3), .val (.int p4), .val (.int v2), .val (.int v4), .val (.int v6), .val (.int r_7), .val (.int r_8), .val (.ref b9), .val (.ref b13), .val (.int (Own.b2i (own_sub n12 (own_add (own_add (fun _ => 0) v4) v6) (own_add (own_add (fun _ => 0) r_7) r_8)))), .val (.int (Own.b2i (own_sub n18 (own_add (own_add (fun _ => 0) r_7) r_8) (own_add (own_add (fun _ => 0) v4) v6)))), .val (.int x1), .val (.int (1 : Int32))] [(.int (1 : Int32))])) (fun t k => ?_) ?_
            · show Steps p.tables e below (T35.setTop (mkF m 204 #[.val (.int p0), .val (.int p1), .val (.int p2), .val (.int p3), .val (.int p4), .val (.int v2), .val (.int v4), .val (.int v6), .val (.int r_7), .val (.int r_8), .val (.ref b9), .val (.ref b13), .val (.int (Own.b2i (own_sub n12 (own_add (own_add (fun _ => 0) v4) v6) (own_add (own_add (fun _ => 0) r_7) r_8)))), .val (.int (Own.b2i (own_sub n18 (own_add (own_add (fun _ => 0) r_7) r_8) (own_add (own_add (fun _ => 0) v4) v6)))), .val (.int x1), .val (.int (1 : Int32))] [(.int (1 : Int32)), (.int (Own.b2i (own_sub n18 (own_add (own_add (fun _ => 0) r_7) r_8) (own_add (own_add (fun _ => 0) v4) v6))))])) t
              refine XS.icmpNo X35.here hx rfl (hb hby at_204) rfl (teq hc51).2 ?_
              show Steps p.tables e below (T35.setTop (mkF m 207 #[.val (.int p0), .val (.int p1), .val (.int p2), .val (.int p3), .val (.int p4), .val (.int v2), .val (.int v4), .val (.int v6), .val (.int r_7), .val (.int r_8), .val (.ref b9), .val (.ref b13), .val (.int (Own.b2i (own_sub n12 (own_add (own_add (fun _ => 0) v4) v6) (own_add (own_add (fun _ => 0) r_7) r_8)))), .val (.int (Own.b2i (own_sub n18 (own_add (own_add (fun _ => 0) r_7) r_8) (own_add (own_add (fun _ => 0) v4) v6)))), .val (.int x1), .val (.int (1 : Int32))] [])) t
              refine XS.iconst X35.here hx rfl (hb hby at_207) ?_
              show Steps p.tables e below (T35.setTop (mkF m 208 #[.val (.int p0), .val (.int p1), .val (.int p2), .val (.int p3), .val (.int p4), .val (.int v2), .val (.int v4), .val (.int v6), .val (.int r_7), .val (.int r_8), .val (.ref b9), .val (.ref b13), .val (.int (Own.b2i (own_sub n12 (own_add (own_add (fun _ => 0) v4) v6) (own_add (own_add (fun _ => 0) r_7) r_8)))), .val (.int (Own.b2i (own_sub n18 (own_add (own_add (fun _ => 0) r_7) r_8) (own_add (own_add (fun _ => 0) v4) v6)))), .val (.int x1), .val (.int (1 : Int32))] [(.int (1 : Int32))])) t
              refine XS.goto X35.here hx rfl (pc0 := 208) (pc' := 212) rfl (hb hby at_208) (by decide) (by decide) ?_
              show Steps p.tables e below (T35.setTop (mkF m 212 #[.val (.int p0), .val (.int p1), .val (.int p2), .val (.int p3), .val (.int p4), .val (.int v2), .val (.int v4), .val (.int v6), .val (.int r_7), .val (.int r_8), .val (.ref b9), .val (.ref b13), .val (.int (Own.b2i (own_sub n12 (own_add (own_add (fun _ => 0) v4) v6) (own_add (own_add (fun _ => 0) r_7) r_8)))), .val (.int (Own.b2i (own_sub n18 (own_add (own_add (fun _ => 0) r_7) r_8) (own_add (own_add (fun _ => 0) v4) v6)))), .val (.int x1), .val (.int (1 : Int32))] [(.int (1 : Int32))])) t
              exact k
            exact Own.retN hR X35 hx (t := .boolean) hret (by simp) (hb hby at_212) (by decide) (by decide) (by decide) ⟨rfl, N35⟩
          · refine hD _ (T35.setTop (mkF m 197 #[.val (.int p0), .val (.int p1), .val (.int p2), .val (.int p3), .val (.int p4), .val (.int v2), .val (.int v4), .val (.int v6), .val (.int r_7), .val (.int r_8), .val (.ref b9), .val (.ref b13), .val (.int (Own.b2i (own_sub n12 (own_add (own_add (fun _ => 0) v4) v6) (own_add (own_add (fun _ => 0) r_7) r_8)))), .val (.int (Own.b2i (own_sub n18 (own_add (own_add (fun _ => 0) r_7) r_8) (own_add (own_add (fun _ => 0) v4) v6)))), .val (.int x1), .val (.int (0 : Int32))] [(.int x1), (.int (Own.b2i (own_sub n12 (own_add (own_add (fun _ => 0) v4) v6) (own_add (own_add (fun _ => 0) r_7) r_8))))])) (fun t k => ?_) ?_
            · show Steps p.tables e below (T35.setTop (mkF m 183 #[.val (.int p0), .val (.int p1), .val (.int p2), .val (.int p3), .val (.int p4), .val (.int v2), .val (.int v4), .val (.int v6), .val (.int r_7), .val (.int r_8), .val (.ref b9), .val (.ref b13), .val (.int (Own.b2i (own_sub n12 (own_add (own_add (fun _ => 0) v4) v6) (own_add (own_add (fun _ => 0) r_7) r_8)))), .val (.int (Own.b2i (own_sub n18 (own_add (own_add (fun _ => 0) r_7) r_8) (own_add (own_add (fun _ => 0) v4) v6)))), .val (.int x1), .unset] [(.int r_8), (.int v6)])) t
              refine XS.icmpYes X35.here hx rfl (pc0 := 183) (pc' := 190) rfl (hb hby at_183) rfl (feq hc49).2 (by decide) (by decide) ?_
              show Steps p.tables e below (T35.setTop (mkF m 190 #[.val (.int p0), .val (.int p1), .val (.int p2), .val (.int p3), .val (.int p4), .val (.int v2), .val (.int v4), .val (.int v6), .val (.int r_7), .val (.int r_8), .val (.ref b9), .val (.ref b13), .val (.int (Own.b2i (own_sub n12 (own_add (own_add (fun _ => 0) v4) v6) (own_add (own_add (fun _ => 0) r_7) r_8)))), .val (.int (Own.b2i (own_sub n18 (own_add (own_add (fun _ => 0) r_7) r_8) (own_add (own_add (fun _ => 0) v4) v6)))), .val (.int x1), .unset] [])) t
              refine XS.iconst X35.here hx rfl (hb hby at_190) ?_
              show Steps p.tables e below (T35.setTop (mkF m 191 #[.val (.int p0), .val (.int p1), .val (.int p2), .val (.int p3), .val (.int p4), .val (.int v2), .val (.int v4), .val (.int v6), .val (.int r_7), .val (.int r_8), .val (.ref b9), .val (.ref b13), .val (.int (Own.b2i (own_sub n12 (own_add (own_add (fun _ => 0) v4) v6) (own_add (own_add (fun _ => 0) r_7) r_8)))), .val (.int (Own.b2i (own_sub n18 (own_add (own_add (fun _ => 0) r_7) r_8) (own_add (own_add (fun _ => 0) v4) v6)))), .val (.int x1), .unset] [(.int (0 : Int32))])) t
              refine XS.istore X35.here hx rfl (hb hby at_191) rfl (l' := #[.val (.int p0), .val (.int p1), .val (.int p2), .val (.int p3), .val (.int p4), .val (.int v2), .val (.int v4), .val (.int v6), .val (.int r_7), .val (.int r_8), .val (.ref b9), .val (.ref b13), .val (.int (Own.b2i (own_sub n12 (own_add (own_add (fun _ => 0) v4) v6) (own_add (own_add (fun _ => 0) r_7) r_8)))), .val (.int (Own.b2i (own_sub n18 (own_add (own_add (fun _ => 0) r_7) r_8) (own_add (own_add (fun _ => 0) v4) v6)))), .val (.int x1), .val (.int (0 : Int32))]) rfl ?_
              show Steps p.tables e below (T35.setTop (mkF m 193 #[.val (.int p0), .val (.int p1), .val (.int p2), .val (.int p3), .val (.int p4), .val (.int v2), .val (.int v4), .val (.int v6), .val (.int r_7), .val (.int r_8), .val (.ref b9), .val (.ref b13), .val (.int (Own.b2i (own_sub n12 (own_add (own_add (fun _ => 0) v4) v6) (own_add (own_add (fun _ => 0) r_7) r_8)))), .val (.int (Own.b2i (own_sub n18 (own_add (own_add (fun _ => 0) r_7) r_8) (own_add (own_add (fun _ => 0) v4) v6)))), .val (.int x1), .val (.int (0 : Int32))] [])) t
              refine XS.iload X35.here hx rfl (hb hby at_193) rfl ?_
              show Steps p.tables e below (T35.setTop (mkF m 195 #[.val (.int p0), .val (.int p1), .val (.int p2), .val (.int p3), .val (.int p4), .val (.int v2), .val (.int v4), .val (.int v6), .val (.int r_7), .val (.int r_8), .val (.ref b9), .val (.ref b13), .val (.int (Own.b2i (own_sub n12 (own_add (own_add (fun _ => 0) v4) v6) (own_add (own_add (fun _ => 0) r_7) r_8)))), .val (.int (Own.b2i (own_sub n18 (own_add (own_add (fun _ => 0) r_7) r_8) (own_add (own_add (fun _ => 0) v4) v6)))), .val (.int x1), .val (.int (0 : Int32))] [(.int (Own.b2i (own_sub n12 (own_add (own_add (fun _ => 0) v4) v6) (own_add (own_add (fun _ => 0) r_7) r_8))))])) t
              refine XS.iload X35.here hx rfl (hb hby at_195) rfl ?_
              show Steps p.tables e below (T35.setTop (mkF m 197 #[.val (.int p0), .val (.int p1), .val (.int p2), .val (.int p3), .val (.int p4), .val (.int v2), .val (.int v4), .val (.int v6), .val (.int r_7), .val (.int r_8), .val (.ref b9), .val (.ref b13), .val (.int (Own.b2i (own_sub n12 (own_add (own_add (fun _ => 0) v4) v6) (own_add (own_add (fun _ => 0) r_7) r_8)))), .val (.int (Own.b2i (own_sub n18 (own_add (own_add (fun _ => 0) r_7) r_8) (own_add (own_add (fun _ => 0) v4) v6)))), .val (.int x1), .val (.int (0 : Int32))] [(.int x1), (.int (Own.b2i (own_sub n12 (own_add (own_add (fun _ => 0) v4) v6) (own_add (own_add (fun _ => 0) r_7) r_8))))])) t
              exact k
            have hc52 : (Own.b2i (own_sub n12 (own_add (own_add (fun _ => 0) v4) v6) (own_add (own_add (fun _ => 0) r_7) r_8))) = x1 := hx1
            refine hD _ (T35.setTop (mkF m 204 #[.val (.int p0), .val (.int p1), .val (.int p2), .val (.int p3), .val (.int p4), .val (.int v2), .val (.int v4), .val (.int v6), .val (.int r_7), .val (.int r_8), .val (.ref b9), .val (.ref b13), .val (.int (Own.b2i (own_sub n12 (own_add (own_add (fun _ => 0) v4) v6) (own_add (own_add (fun _ => 0) r_7) r_8)))), .val (.int (Own.b2i (own_sub n18 (own_add (own_add (fun _ => 0) r_7) r_8) (own_add (own_add (fun _ => 0) v4) v6)))), .val (.int x1), .val (.int (0 : Int32))] [(.int (0 : Int32)), (.int (Own.b2i (own_sub n18 (own_add (own_add (fun _ => 0) r_7) r_8) (own_add (own_add (fun _ => 0) v4) v6))))])) (fun t k => ?_) ?_
            · show Steps p.tables e below (T35.setTop (mkF m 197 #[.val (.int p0), .val (.int p1), .val (.int p2), .val (.int p3), .val (.int p4), .val (.int v2), .val (.int v4), .val (.int v6), .val (.int r_7), .val (.int r_8), .val (.ref b9), .val (.ref b13), .val (.int (Own.b2i (own_sub n12 (own_add (own_add (fun _ => 0) v4) v6) (own_add (own_add (fun _ => 0) r_7) r_8)))), .val (.int (Own.b2i (own_sub n18 (own_add (own_add (fun _ => 0) r_7) r_8) (own_add (own_add (fun _ => 0) v4) v6)))), .val (.int x1), .val (.int (0 : Int32))] [(.int x1), (.int (Own.b2i (own_sub n12 (own_add (own_add (fun _ => 0) v4) v6) (own_add (own_add (fun _ => 0) r_7) r_8))))])) t
              refine XS.icmpNo X35.here hx rfl (hb hby at_197) rfl (teq hc52).2 ?_
              show Steps p.tables e below (T35.setTop (mkF m 200 #[.val (.int p0), .val (.int p1), .val (.int p2), .val (.int p3), .val (.int p4), .val (.int v2), .val (.int v4), .val (.int v6), .val (.int r_7), .val (.int r_8), .val (.ref b9), .val (.ref b13), .val (.int (Own.b2i (own_sub n12 (own_add (own_add (fun _ => 0) v4) v6) (own_add (own_add (fun _ => 0) r_7) r_8)))), .val (.int (Own.b2i (own_sub n18 (own_add (own_add (fun _ => 0) r_7) r_8) (own_add (own_add (fun _ => 0) v4) v6)))), .val (.int x1), .val (.int (0 : Int32))] [])) t
              refine XS.iload X35.here hx rfl (hb hby at_200) rfl ?_
              show Steps p.tables e below (T35.setTop (mkF m 202 #[.val (.int p0), .val (.int p1), .val (.int p2), .val (.int p3), .val (.int p4), .val (.int v2), .val (.int v4), .val (.int v6), .val (.int r_7), .val (.int r_8), .val (.ref b9), .val (.ref b13), .val (.int (Own.b2i (own_sub n12 (own_add (own_add (fun _ => 0) v4) v6) (own_add (own_add (fun _ => 0) r_7) r_8)))), .val (.int (Own.b2i (own_sub n18 (own_add (own_add (fun _ => 0) r_7) r_8) (own_add (own_add (fun _ => 0) v4) v6)))), .val (.int x1), .val (.int (0 : Int32))] [(.int (Own.b2i (own_sub n18 (own_add (own_add (fun _ => 0) r_7) r_8) (own_add (own_add (fun _ => 0) v4) v6))))])) t
              refine XS.iload X35.here hx rfl (hb hby at_202) rfl ?_
              show Steps p.tables e below (T35.setTop (mkF m 204 #[.val (.int p0), .val (.int p1), .val (.int p2), .val (.int p3), .val (.int p4), .val (.int v2), .val (.int v4), .val (.int v6), .val (.int r_7), .val (.int r_8), .val (.ref b9), .val (.ref b13), .val (.int (Own.b2i (own_sub n12 (own_add (own_add (fun _ => 0) v4) v6) (own_add (own_add (fun _ => 0) r_7) r_8)))), .val (.int (Own.b2i (own_sub n18 (own_add (own_add (fun _ => 0) r_7) r_8) (own_add (own_add (fun _ => 0) v4) v6)))), .val (.int x1), .val (.int (0 : Int32))] [(.int (0 : Int32)), (.int (Own.b2i (own_sub n18 (own_add (own_add (fun _ => 0) r_7) r_8) (own_add (own_add (fun _ => 0) v4) v6))))])) t
              exact k
            have hc53 : (Own.b2i (own_sub n18 (own_add (own_add (fun _ => 0) r_7) r_8) (own_add (own_add (fun _ => 0) v4) v6))) = (0 : Int32) := by rw [own_exp hr_7.1 hr_8.1 (own_in (own_rem (own_size hv2).1 hv4) hn18) (own_in (own_rem (own_size hv2).1 hv6) hn18)]; simp [Own.b2i, hc36, hc45, hc46, hc49, hc52]
            refine hD _ (T35.setTop (mkF m 212 #[.val (.int p0), .val (.int p1), .val (.int p2), .val (.int p3), .val (.int p4), .val (.int v2), .val (.int v4), .val (.int v6), .val (.int r_7), .val (.int r_8), .val (.ref b9), .val (.ref b13), .val (.int (Own.b2i (own_sub n12 (own_add (own_add (fun _ => 0) v4) v6) (own_add (own_add (fun _ => 0) r_7) r_8)))), .val (.int (Own.b2i (own_sub n18 (own_add (own_add (fun _ => 0) r_7) r_8) (own_add (own_add (fun _ => 0) v4) v6)))), .val (.int x1), .val (.int (0 : Int32))] [(.int (1 : Int32))])) (fun t k => ?_) ?_
            · show Steps p.tables e below (T35.setTop (mkF m 204 #[.val (.int p0), .val (.int p1), .val (.int p2), .val (.int p3), .val (.int p4), .val (.int v2), .val (.int v4), .val (.int v6), .val (.int r_7), .val (.int r_8), .val (.ref b9), .val (.ref b13), .val (.int (Own.b2i (own_sub n12 (own_add (own_add (fun _ => 0) v4) v6) (own_add (own_add (fun _ => 0) r_7) r_8)))), .val (.int (Own.b2i (own_sub n18 (own_add (own_add (fun _ => 0) r_7) r_8) (own_add (own_add (fun _ => 0) v4) v6)))), .val (.int x1), .val (.int (0 : Int32))] [(.int (0 : Int32)), (.int (Own.b2i (own_sub n18 (own_add (own_add (fun _ => 0) r_7) r_8) (own_add (own_add (fun _ => 0) v4) v6))))])) t
              refine XS.icmpNo X35.here hx rfl (hb hby at_204) rfl (teq hc53).2 ?_
              show Steps p.tables e below (T35.setTop (mkF m 207 #[.val (.int p0), .val (.int p1), .val (.int p2), .val (.int p3), .val (.int p4), .val (.int v2), .val (.int v4), .val (.int v6), .val (.int r_7), .val (.int r_8), .val (.ref b9), .val (.ref b13), .val (.int (Own.b2i (own_sub n12 (own_add (own_add (fun _ => 0) v4) v6) (own_add (own_add (fun _ => 0) r_7) r_8)))), .val (.int (Own.b2i (own_sub n18 (own_add (own_add (fun _ => 0) r_7) r_8) (own_add (own_add (fun _ => 0) v4) v6)))), .val (.int x1), .val (.int (0 : Int32))] [])) t
              refine XS.iconst X35.here hx rfl (hb hby at_207) ?_
              show Steps p.tables e below (T35.setTop (mkF m 208 #[.val (.int p0), .val (.int p1), .val (.int p2), .val (.int p3), .val (.int p4), .val (.int v2), .val (.int v4), .val (.int v6), .val (.int r_7), .val (.int r_8), .val (.ref b9), .val (.ref b13), .val (.int (Own.b2i (own_sub n12 (own_add (own_add (fun _ => 0) v4) v6) (own_add (own_add (fun _ => 0) r_7) r_8)))), .val (.int (Own.b2i (own_sub n18 (own_add (own_add (fun _ => 0) r_7) r_8) (own_add (own_add (fun _ => 0) v4) v6)))), .val (.int x1), .val (.int (0 : Int32))] [(.int (1 : Int32))])) t
              refine XS.goto X35.here hx rfl (pc0 := 208) (pc' := 212) rfl (hb hby at_208) (by decide) (by decide) ?_
              show Steps p.tables e below (T35.setTop (mkF m 212 #[.val (.int p0), .val (.int p1), .val (.int p2), .val (.int p3), .val (.int p4), .val (.int v2), .val (.int v4), .val (.int v6), .val (.int r_7), .val (.int r_8), .val (.ref b9), .val (.ref b13), .val (.int (Own.b2i (own_sub n12 (own_add (own_add (fun _ => 0) v4) v6) (own_add (own_add (fun _ => 0) r_7) r_8)))), .val (.int (Own.b2i (own_sub n18 (own_add (own_add (fun _ => 0) r_7) r_8) (own_add (own_add (fun _ => 0) v4) v6)))), .val (.int x1), .val (.int (0 : Int32))] [(.int (1 : Int32))])) t
              exact k
            exact Own.retN hR X35 hx (t := .boolean) hret (by simp) (hb hby at_212) (by decide) (by decide) (by decide) ⟨rfl, N35⟩
      · refine hD _ (T35.setTop (mkF m 197 #[.val (.int p0), .val (.int p1), .val (.int p2), .val (.int p3), .val (.int p4), .val (.int v2), .val (.int v4), .val (.int v6), .val (.int r_7), .val (.int r_8), .val (.ref b9), .val (.ref b13), .val (.int (Own.b2i (own_sub n12 (own_add (own_add (fun _ => 0) v4) v6) (own_add (own_add (fun _ => 0) r_7) r_8)))), .val (.int (Own.b2i (own_sub n18 (own_add (own_add (fun _ => 0) r_7) r_8) (own_add (own_add (fun _ => 0) v4) v6)))), .val (.int x1), .val (.int (0 : Int32))] [(.int x1), (.int (Own.b2i (own_sub n12 (own_add (own_add (fun _ => 0) v4) v6) (own_add (own_add (fun _ => 0) r_7) r_8))))])) (fun t k => ?_) ?_
        · show Steps p.tables e below (T35.setTop (mkF m 169 #[.val (.int p0), .val (.int p1), .val (.int p2), .val (.int p3), .val (.int p4), .val (.int v2), .val (.int v4), .val (.int v6), .val (.int r_7), .val (.int r_8), .val (.ref b9), .val (.ref b13), .val (.int (Own.b2i (own_sub n12 (own_add (own_add (fun _ => 0) v4) v6) (own_add (own_add (fun _ => 0) r_7) r_8)))), .val (.int (Own.b2i (own_sub n18 (own_add (own_add (fun _ => 0) r_7) r_8) (own_add (own_add (fun _ => 0) v4) v6)))), .val (.int x1), .unset] [(.int r_8), (.int v4)])) t
          refine XS.icmpYes X35.here hx rfl (pc0 := 169) (pc' := 190) rfl (hb hby at_169) rfl (feq hc45).2 (by decide) (by decide) ?_
          show Steps p.tables e below (T35.setTop (mkF m 190 #[.val (.int p0), .val (.int p1), .val (.int p2), .val (.int p3), .val (.int p4), .val (.int v2), .val (.int v4), .val (.int v6), .val (.int r_7), .val (.int r_8), .val (.ref b9), .val (.ref b13), .val (.int (Own.b2i (own_sub n12 (own_add (own_add (fun _ => 0) v4) v6) (own_add (own_add (fun _ => 0) r_7) r_8)))), .val (.int (Own.b2i (own_sub n18 (own_add (own_add (fun _ => 0) r_7) r_8) (own_add (own_add (fun _ => 0) v4) v6)))), .val (.int x1), .unset] [])) t
          refine XS.iconst X35.here hx rfl (hb hby at_190) ?_
          show Steps p.tables e below (T35.setTop (mkF m 191 #[.val (.int p0), .val (.int p1), .val (.int p2), .val (.int p3), .val (.int p4), .val (.int v2), .val (.int v4), .val (.int v6), .val (.int r_7), .val (.int r_8), .val (.ref b9), .val (.ref b13), .val (.int (Own.b2i (own_sub n12 (own_add (own_add (fun _ => 0) v4) v6) (own_add (own_add (fun _ => 0) r_7) r_8)))), .val (.int (Own.b2i (own_sub n18 (own_add (own_add (fun _ => 0) r_7) r_8) (own_add (own_add (fun _ => 0) v4) v6)))), .val (.int x1), .unset] [(.int (0 : Int32))])) t
          refine XS.istore X35.here hx rfl (hb hby at_191) rfl (l' := #[.val (.int p0), .val (.int p1), .val (.int p2), .val (.int p3), .val (.int p4), .val (.int v2), .val (.int v4), .val (.int v6), .val (.int r_7), .val (.int r_8), .val (.ref b9), .val (.ref b13), .val (.int (Own.b2i (own_sub n12 (own_add (own_add (fun _ => 0) v4) v6) (own_add (own_add (fun _ => 0) r_7) r_8)))), .val (.int (Own.b2i (own_sub n18 (own_add (own_add (fun _ => 0) r_7) r_8) (own_add (own_add (fun _ => 0) v4) v6)))), .val (.int x1), .val (.int (0 : Int32))]) rfl ?_
          show Steps p.tables e below (T35.setTop (mkF m 193 #[.val (.int p0), .val (.int p1), .val (.int p2), .val (.int p3), .val (.int p4), .val (.int v2), .val (.int v4), .val (.int v6), .val (.int r_7), .val (.int r_8), .val (.ref b9), .val (.ref b13), .val (.int (Own.b2i (own_sub n12 (own_add (own_add (fun _ => 0) v4) v6) (own_add (own_add (fun _ => 0) r_7) r_8)))), .val (.int (Own.b2i (own_sub n18 (own_add (own_add (fun _ => 0) r_7) r_8) (own_add (own_add (fun _ => 0) v4) v6)))), .val (.int x1), .val (.int (0 : Int32))] [])) t
          refine XS.iload X35.here hx rfl (hb hby at_193) rfl ?_
          show Steps p.tables e below (T35.setTop (mkF m 195 #[.val (.int p0), .val (.int p1), .val (.int p2), .val (.int p3), .val (.int p4), .val (.int v2), .val (.int v4), .val (.int v6), .val (.int r_7), .val (.int r_8), .val (.ref b9), .val (.ref b13), .val (.int (Own.b2i (own_sub n12 (own_add (own_add (fun _ => 0) v4) v6) (own_add (own_add (fun _ => 0) r_7) r_8)))), .val (.int (Own.b2i (own_sub n18 (own_add (own_add (fun _ => 0) r_7) r_8) (own_add (own_add (fun _ => 0) v4) v6)))), .val (.int x1), .val (.int (0 : Int32))] [(.int (Own.b2i (own_sub n12 (own_add (own_add (fun _ => 0) v4) v6) (own_add (own_add (fun _ => 0) r_7) r_8))))])) t
          refine XS.iload X35.here hx rfl (hb hby at_195) rfl ?_
          show Steps p.tables e below (T35.setTop (mkF m 197 #[.val (.int p0), .val (.int p1), .val (.int p2), .val (.int p3), .val (.int p4), .val (.int v2), .val (.int v4), .val (.int v6), .val (.int r_7), .val (.int r_8), .val (.ref b9), .val (.ref b13), .val (.int (Own.b2i (own_sub n12 (own_add (own_add (fun _ => 0) v4) v6) (own_add (own_add (fun _ => 0) r_7) r_8)))), .val (.int (Own.b2i (own_sub n18 (own_add (own_add (fun _ => 0) r_7) r_8) (own_add (own_add (fun _ => 0) v4) v6)))), .val (.int x1), .val (.int (0 : Int32))] [(.int x1), (.int (Own.b2i (own_sub n12 (own_add (own_add (fun _ => 0) v4) v6) (own_add (own_add (fun _ => 0) r_7) r_8))))])) t
          exact k
        have hc54 : (Own.b2i (own_sub n12 (own_add (own_add (fun _ => 0) v4) v6) (own_add (own_add (fun _ => 0) r_7) r_8))) = x1 := hx1
        refine hD _ (T35.setTop (mkF m 204 #[.val (.int p0), .val (.int p1), .val (.int p2), .val (.int p3), .val (.int p4), .val (.int v2), .val (.int v4), .val (.int v6), .val (.int r_7), .val (.int r_8), .val (.ref b9), .val (.ref b13), .val (.int (Own.b2i (own_sub n12 (own_add (own_add (fun _ => 0) v4) v6) (own_add (own_add (fun _ => 0) r_7) r_8)))), .val (.int (Own.b2i (own_sub n18 (own_add (own_add (fun _ => 0) r_7) r_8) (own_add (own_add (fun _ => 0) v4) v6)))), .val (.int x1), .val (.int (0 : Int32))] [(.int (0 : Int32)), (.int (Own.b2i (own_sub n18 (own_add (own_add (fun _ => 0) r_7) r_8) (own_add (own_add (fun _ => 0) v4) v6))))])) (fun t k => ?_) ?_
        · show Steps p.tables e below (T35.setTop (mkF m 197 #[.val (.int p0), .val (.int p1), .val (.int p2), .val (.int p3), .val (.int p4), .val (.int v2), .val (.int v4), .val (.int v6), .val (.int r_7), .val (.int r_8), .val (.ref b9), .val (.ref b13), .val (.int (Own.b2i (own_sub n12 (own_add (own_add (fun _ => 0) v4) v6) (own_add (own_add (fun _ => 0) r_7) r_8)))), .val (.int (Own.b2i (own_sub n18 (own_add (own_add (fun _ => 0) r_7) r_8) (own_add (own_add (fun _ => 0) v4) v6)))), .val (.int x1), .val (.int (0 : Int32))] [(.int x1), (.int (Own.b2i (own_sub n12 (own_add (own_add (fun _ => 0) v4) v6) (own_add (own_add (fun _ => 0) r_7) r_8))))])) t
          refine XS.icmpNo X35.here hx rfl (hb hby at_197) rfl (teq hc54).2 ?_
          show Steps p.tables e below (T35.setTop (mkF m 200 #[.val (.int p0), .val (.int p1), .val (.int p2), .val (.int p3), .val (.int p4), .val (.int v2), .val (.int v4), .val (.int v6), .val (.int r_7), .val (.int r_8), .val (.ref b9), .val (.ref b13), .val (.int (Own.b2i (own_sub n12 (own_add (own_add (fun _ => 0) v4) v6) (own_add (own_add (fun _ => 0) r_7) r_8)))), .val (.int (Own.b2i (own_sub n18 (own_add (own_add (fun _ => 0) r_7) r_8) (own_add (own_add (fun _ => 0) v4) v6)))), .val (.int x1), .val (.int (0 : Int32))] [])) t
          refine XS.iload X35.here hx rfl (hb hby at_200) rfl ?_
          show Steps p.tables e below (T35.setTop (mkF m 202 #[.val (.int p0), .val (.int p1), .val (.int p2), .val (.int p3), .val (.int p4), .val (.int v2), .val (.int v4), .val (.int v6), .val (.int r_7), .val (.int r_8), .val (.ref b9), .val (.ref b13), .val (.int (Own.b2i (own_sub n12 (own_add (own_add (fun _ => 0) v4) v6) (own_add (own_add (fun _ => 0) r_7) r_8)))), .val (.int (Own.b2i (own_sub n18 (own_add (own_add (fun _ => 0) r_7) r_8) (own_add (own_add (fun _ => 0) v4) v6)))), .val (.int x1), .val (.int (0 : Int32))] [(.int (Own.b2i (own_sub n18 (own_add (own_add (fun _ => 0) r_7) r_8) (own_add (own_add (fun _ => 0) v4) v6))))])) t
          refine XS.iload X35.here hx rfl (hb hby at_202) rfl ?_
          show Steps p.tables e below (T35.setTop (mkF m 204 #[.val (.int p0), .val (.int p1), .val (.int p2), .val (.int p3), .val (.int p4), .val (.int v2), .val (.int v4), .val (.int v6), .val (.int r_7), .val (.int r_8), .val (.ref b9), .val (.ref b13), .val (.int (Own.b2i (own_sub n12 (own_add (own_add (fun _ => 0) v4) v6) (own_add (own_add (fun _ => 0) r_7) r_8)))), .val (.int (Own.b2i (own_sub n18 (own_add (own_add (fun _ => 0) r_7) r_8) (own_add (own_add (fun _ => 0) v4) v6)))), .val (.int x1), .val (.int (0 : Int32))] [(.int (0 : Int32)), (.int (Own.b2i (own_sub n18 (own_add (own_add (fun _ => 0) r_7) r_8) (own_add (own_add (fun _ => 0) v4) v6))))])) t
          exact k
        have hc55 : (Own.b2i (own_sub n18 (own_add (own_add (fun _ => 0) r_7) r_8) (own_add (own_add (fun _ => 0) v4) v6))) = (0 : Int32) := by rw [own_exp hr_7.1 hr_8.1 (own_in (own_rem (own_size hv2).1 hv4) hn18) (own_in (own_rem (own_size hv2).1 hv6) hn18)]; simp [Own.b2i, hc36, hc45, hc54]
        refine hD _ (T35.setTop (mkF m 212 #[.val (.int p0), .val (.int p1), .val (.int p2), .val (.int p3), .val (.int p4), .val (.int v2), .val (.int v4), .val (.int v6), .val (.int r_7), .val (.int r_8), .val (.ref b9), .val (.ref b13), .val (.int (Own.b2i (own_sub n12 (own_add (own_add (fun _ => 0) v4) v6) (own_add (own_add (fun _ => 0) r_7) r_8)))), .val (.int (Own.b2i (own_sub n18 (own_add (own_add (fun _ => 0) r_7) r_8) (own_add (own_add (fun _ => 0) v4) v6)))), .val (.int x1), .val (.int (0 : Int32))] [(.int (1 : Int32))])) (fun t k => ?_) ?_
        · show Steps p.tables e below (T35.setTop (mkF m 204 #[.val (.int p0), .val (.int p1), .val (.int p2), .val (.int p3), .val (.int p4), .val (.int v2), .val (.int v4), .val (.int v6), .val (.int r_7), .val (.int r_8), .val (.ref b9), .val (.ref b13), .val (.int (Own.b2i (own_sub n12 (own_add (own_add (fun _ => 0) v4) v6) (own_add (own_add (fun _ => 0) r_7) r_8)))), .val (.int (Own.b2i (own_sub n18 (own_add (own_add (fun _ => 0) r_7) r_8) (own_add (own_add (fun _ => 0) v4) v6)))), .val (.int x1), .val (.int (0 : Int32))] [(.int (0 : Int32)), (.int (Own.b2i (own_sub n18 (own_add (own_add (fun _ => 0) r_7) r_8) (own_add (own_add (fun _ => 0) v4) v6))))])) t
          refine XS.icmpNo X35.here hx rfl (hb hby at_204) rfl (teq hc55).2 ?_
          show Steps p.tables e below (T35.setTop (mkF m 207 #[.val (.int p0), .val (.int p1), .val (.int p2), .val (.int p3), .val (.int p4), .val (.int v2), .val (.int v4), .val (.int v6), .val (.int r_7), .val (.int r_8), .val (.ref b9), .val (.ref b13), .val (.int (Own.b2i (own_sub n12 (own_add (own_add (fun _ => 0) v4) v6) (own_add (own_add (fun _ => 0) r_7) r_8)))), .val (.int (Own.b2i (own_sub n18 (own_add (own_add (fun _ => 0) r_7) r_8) (own_add (own_add (fun _ => 0) v4) v6)))), .val (.int x1), .val (.int (0 : Int32))] [])) t
          refine XS.iconst X35.here hx rfl (hb hby at_207) ?_
          show Steps p.tables e below (T35.setTop (mkF m 208 #[.val (.int p0), .val (.int p1), .val (.int p2), .val (.int p3), .val (.int p4), .val (.int v2), .val (.int v4), .val (.int v6), .val (.int r_7), .val (.int r_8), .val (.ref b9), .val (.ref b13), .val (.int (Own.b2i (own_sub n12 (own_add (own_add (fun _ => 0) v4) v6) (own_add (own_add (fun _ => 0) r_7) r_8)))), .val (.int (Own.b2i (own_sub n18 (own_add (own_add (fun _ => 0) r_7) r_8) (own_add (own_add (fun _ => 0) v4) v6)))), .val (.int x1), .val (.int (0 : Int32))] [(.int (1 : Int32))])) t
          refine XS.goto X35.here hx rfl (pc0 := 208) (pc' := 212) rfl (hb hby at_208) (by decide) (by decide) ?_
          show Steps p.tables e below (T35.setTop (mkF m 212 #[.val (.int p0), .val (.int p1), .val (.int p2), .val (.int p3), .val (.int p4), .val (.int v2), .val (.int v4), .val (.int v6), .val (.int r_7), .val (.int r_8), .val (.ref b9), .val (.ref b13), .val (.int (Own.b2i (own_sub n12 (own_add (own_add (fun _ => 0) v4) v6) (own_add (own_add (fun _ => 0) r_7) r_8)))), .val (.int (Own.b2i (own_sub n18 (own_add (own_add (fun _ => 0) r_7) r_8) (own_add (own_add (fun _ => 0) v4) v6)))), .val (.int x1), .val (.int (0 : Int32))] [(.int (1 : Int32))])) t
          exact k
        exact Own.retN hR X35 hx (t := .boolean) hret (by simp) (hb hby at_212) (by decide) (by decide) (by decide) ⟨rfl, N35⟩
  refine hD _ (T34.setTop (mkF m 127 #[.val (.int p0), .val (.int p1), .val (.int p2), .val (.int p3), .val (.int p4), .val (.int v2), .val (.int v4), .val (.int v6), .val (.int r_7), .val (.int r_8), .val (.ref b9), .val (.ref b13), .val (.int (Own.b2i (own_sub n12 (own_add (own_add (fun _ => 0) v4) v6) (own_add (own_add (fun _ => 0) r_7) r_8)))), .val (.int (Own.b2i (own_sub n18 (own_add (own_add (fun _ => 0) r_7) r_8) (own_add (own_add (fun _ => 0) v4) v6)))), .unset, .unset] [(.int v4), (.int r_7)])) (fun t k => ?_) ?_
  · show Steps p.tables e below (T34.setTop (mkF m 123 #[.val (.int p0), .val (.int p1), .val (.int p2), .val (.int p3), .val (.int p4), .val (.int v2), .val (.int v4), .val (.int v6), .val (.int r_7), .val (.int r_8), .val (.ref b9), .val (.ref b13), .val (.int (Own.b2i (own_sub n12 (own_add (own_add (fun _ => 0) v4) v6) (own_add (own_add (fun _ => 0) r_7) r_8)))), .val (.int (Own.b2i (own_sub n18 (own_add (own_add (fun _ => 0) r_7) r_8) (own_add (own_add (fun _ => 0) v4) v6)))), .unset, .unset] [])) t
    refine XS.iload X34.here hx rfl (hb hby at_123) rfl ?_
    show Steps p.tables e below (T34.setTop (mkF m 125 #[.val (.int p0), .val (.int p1), .val (.int p2), .val (.int p3), .val (.int p4), .val (.int v2), .val (.int v4), .val (.int v6), .val (.int r_7), .val (.int r_8), .val (.ref b9), .val (.ref b13), .val (.int (Own.b2i (own_sub n12 (own_add (own_add (fun _ => 0) v4) v6) (own_add (own_add (fun _ => 0) r_7) r_8)))), .val (.int (Own.b2i (own_sub n18 (own_add (own_add (fun _ => 0) r_7) r_8) (own_add (own_add (fun _ => 0) v4) v6)))), .unset, .unset] [(.int r_7)])) t
    refine XS.iload X34.here hx rfl (hb hby at_125) rfl ?_
    show Steps p.tables e below (T34.setTop (mkF m 127 #[.val (.int p0), .val (.int p1), .val (.int p2), .val (.int p3), .val (.int p4), .val (.int v2), .val (.int v4), .val (.int v6), .val (.int r_7), .val (.int r_8), .val (.ref b9), .val (.ref b13), .val (.int (Own.b2i (own_sub n12 (own_add (own_add (fun _ => 0) v4) v6) (own_add (own_add (fun _ => 0) r_7) r_8)))), .val (.int (Own.b2i (own_sub n18 (own_add (own_add (fun _ => 0) r_7) r_8) (own_add (own_add (fun _ => 0) v4) v6)))), .unset, .unset] [(.int v4), (.int r_7)])) t
    exact k
  by_cases hc56 : r_7 = v4
  · refine hD _ (T34.setTop (mkF m 141 #[.val (.int p0), .val (.int p1), .val (.int p2), .val (.int p3), .val (.int p4), .val (.int v2), .val (.int v4), .val (.int v6), .val (.int r_7), .val (.int r_8), .val (.ref b9), .val (.ref b13), .val (.int (Own.b2i (own_sub n12 (own_add (own_add (fun _ => 0) v4) v6) (own_add (own_add (fun _ => 0) r_7) r_8)))), .val (.int (Own.b2i (own_sub n18 (own_add (own_add (fun _ => 0) r_7) r_8) (own_add (own_add (fun _ => 0) v4) v6)))), .unset, .unset] [(.int v4), (.int r_8)])) (fun t k => ?_) ?_
    · show Steps p.tables e below (T34.setTop (mkF m 127 #[.val (.int p0), .val (.int p1), .val (.int p2), .val (.int p3), .val (.int p4), .val (.int v2), .val (.int v4), .val (.int v6), .val (.int r_7), .val (.int r_8), .val (.ref b9), .val (.ref b13), .val (.int (Own.b2i (own_sub n12 (own_add (own_add (fun _ => 0) v4) v6) (own_add (own_add (fun _ => 0) r_7) r_8)))), .val (.int (Own.b2i (own_sub n18 (own_add (own_add (fun _ => 0) r_7) r_8) (own_add (own_add (fun _ => 0) v4) v6)))), .unset, .unset] [(.int v4), (.int r_7)])) t
      refine XS.icmpYes X34.here hx rfl (pc0 := 127) (pc' := 137) rfl (hb hby at_127) rfl (teq hc56).1 (by decide) (by decide) ?_
      show Steps p.tables e below (T34.setTop (mkF m 137 #[.val (.int p0), .val (.int p1), .val (.int p2), .val (.int p3), .val (.int p4), .val (.int v2), .val (.int v4), .val (.int v6), .val (.int r_7), .val (.int r_8), .val (.ref b9), .val (.ref b13), .val (.int (Own.b2i (own_sub n12 (own_add (own_add (fun _ => 0) v4) v6) (own_add (own_add (fun _ => 0) r_7) r_8)))), .val (.int (Own.b2i (own_sub n18 (own_add (own_add (fun _ => 0) r_7) r_8) (own_add (own_add (fun _ => 0) v4) v6)))), .unset, .unset] [])) t
      refine XS.iload X34.here hx rfl (hb hby at_137) rfl ?_
      show Steps p.tables e below (T34.setTop (mkF m 139 #[.val (.int p0), .val (.int p1), .val (.int p2), .val (.int p3), .val (.int p4), .val (.int v2), .val (.int v4), .val (.int v6), .val (.int r_7), .val (.int r_8), .val (.ref b9), .val (.ref b13), .val (.int (Own.b2i (own_sub n12 (own_add (own_add (fun _ => 0) v4) v6) (own_add (own_add (fun _ => 0) r_7) r_8)))), .val (.int (Own.b2i (own_sub n18 (own_add (own_add (fun _ => 0) r_7) r_8) (own_add (own_add (fun _ => 0) v4) v6)))), .unset, .unset] [(.int r_8)])) t
      refine XS.iload X34.here hx rfl (hb hby at_139) rfl ?_
      show Steps p.tables e below (T34.setTop (mkF m 141 #[.val (.int p0), .val (.int p1), .val (.int p2), .val (.int p3), .val (.int p4), .val (.int v2), .val (.int v4), .val (.int v6), .val (.int r_7), .val (.int r_8), .val (.ref b9), .val (.ref b13), .val (.int (Own.b2i (own_sub n12 (own_add (own_add (fun _ => 0) v4) v6) (own_add (own_add (fun _ => 0) r_7) r_8)))), .val (.int (Own.b2i (own_sub n18 (own_add (own_add (fun _ => 0) r_7) r_8) (own_add (own_add (fun _ => 0) v4) v6)))), .unset, .unset] [(.int v4), (.int r_8)])) t
      exact k
    by_cases hc57 : r_8 = v4
    · refine hD _ (T34.setTop (mkF m 156 #[.val (.int p0), .val (.int p1), .val (.int p2), .val (.int p3), .val (.int p4), .val (.int v2), .val (.int v4), .val (.int v6), .val (.int r_7), .val (.int r_8), .val (.ref b9), .val (.ref b13), .val (.int (Own.b2i (own_sub n12 (own_add (own_add (fun _ => 0) v4) v6) (own_add (own_add (fun _ => 0) r_7) r_8)))), .val (.int (Own.b2i (own_sub n18 (own_add (own_add (fun _ => 0) r_7) r_8) (own_add (own_add (fun _ => 0) v4) v6)))), .unset, .unset] [(.int (1 : Int32))])) (fun t k => ?_) ?_
      · show Steps p.tables e below (T34.setTop (mkF m 141 #[.val (.int p0), .val (.int p1), .val (.int p2), .val (.int p3), .val (.int p4), .val (.int v2), .val (.int v4), .val (.int v6), .val (.int r_7), .val (.int r_8), .val (.ref b9), .val (.ref b13), .val (.int (Own.b2i (own_sub n12 (own_add (own_add (fun _ => 0) v4) v6) (own_add (own_add (fun _ => 0) r_7) r_8)))), .val (.int (Own.b2i (own_sub n18 (own_add (own_add (fun _ => 0) r_7) r_8) (own_add (own_add (fun _ => 0) v4) v6)))), .unset, .unset] [(.int v4), (.int r_8)])) t
        refine XS.icmpYes X34.here hx rfl (pc0 := 141) (pc' := 151) rfl (hb hby at_141) rfl (teq hc57).1 (by decide) (by decide) ?_
        show Steps p.tables e below (T34.setTop (mkF m 151 #[.val (.int p0), .val (.int p1), .val (.int p2), .val (.int p3), .val (.int p4), .val (.int v2), .val (.int v4), .val (.int v6), .val (.int r_7), .val (.int r_8), .val (.ref b9), .val (.ref b13), .val (.int (Own.b2i (own_sub n12 (own_add (own_add (fun _ => 0) v4) v6) (own_add (own_add (fun _ => 0) r_7) r_8)))), .val (.int (Own.b2i (own_sub n18 (own_add (own_add (fun _ => 0) r_7) r_8) (own_add (own_add (fun _ => 0) v4) v6)))), .unset, .unset] [])) t
        refine XS.iconst X34.here hx rfl (hb hby at_151) ?_
        show Steps p.tables e below (T34.setTop (mkF m 152 #[.val (.int p0), .val (.int p1), .val (.int p2), .val (.int p3), .val (.int p4), .val (.int v2), .val (.int v4), .val (.int v6), .val (.int r_7), .val (.int r_8), .val (.ref b9), .val (.ref b13), .val (.int (Own.b2i (own_sub n12 (own_add (own_add (fun _ => 0) v4) v6) (own_add (own_add (fun _ => 0) r_7) r_8)))), .val (.int (Own.b2i (own_sub n18 (own_add (own_add (fun _ => 0) r_7) r_8) (own_add (own_add (fun _ => 0) v4) v6)))), .unset, .unset] [(.int (1 : Int32))])) t
        refine XS.goto X34.here hx rfl (pc0 := 152) (pc' := 156) rfl (hb hby at_152) (by decide) (by decide) ?_
        show Steps p.tables e below (T34.setTop (mkF m 156 #[.val (.int p0), .val (.int p1), .val (.int p2), .val (.int p3), .val (.int p4), .val (.int v2), .val (.int v4), .val (.int v6), .val (.int r_7), .val (.int r_8), .val (.ref b9), .val (.ref b13), .val (.int (Own.b2i (own_sub n12 (own_add (own_add (fun _ => 0) v4) v6) (own_add (own_add (fun _ => 0) r_7) r_8)))), .val (.int (Own.b2i (own_sub n18 (own_add (own_add (fun _ => 0) r_7) r_8) (own_add (own_add (fun _ => 0) v4) v6)))), .unset, .unset] [(.int (1 : Int32))])) t
        exact k
      exact J156 T34 _ (1 : Int32) X34 e34 N34 (by rw [own_exp (own_rem (own_size hv2).1 hv4).1 (own_rem (own_size hv2).1 hv6).1 (own_in hr_7 hn12) (own_in hr_8 hn12)]; simp [Own.b2i, hc56, hc57])
    · refine hD _ (T34.setTop (mkF m 148 #[.val (.int p0), .val (.int p1), .val (.int p2), .val (.int p3), .val (.int p4), .val (.int v2), .val (.int v4), .val (.int v6), .val (.int r_7), .val (.int r_8), .val (.ref b9), .val (.ref b13), .val (.int (Own.b2i (own_sub n12 (own_add (own_add (fun _ => 0) v4) v6) (own_add (own_add (fun _ => 0) r_7) r_8)))), .val (.int (Own.b2i (own_sub n18 (own_add (own_add (fun _ => 0) r_7) r_8) (own_add (own_add (fun _ => 0) v4) v6)))), .unset, .unset] [(.int v6), (.int r_8)])) (fun t k => ?_) ?_
      · show Steps p.tables e below (T34.setTop (mkF m 141 #[.val (.int p0), .val (.int p1), .val (.int p2), .val (.int p3), .val (.int p4), .val (.int v2), .val (.int v4), .val (.int v6), .val (.int r_7), .val (.int r_8), .val (.ref b9), .val (.ref b13), .val (.int (Own.b2i (own_sub n12 (own_add (own_add (fun _ => 0) v4) v6) (own_add (own_add (fun _ => 0) r_7) r_8)))), .val (.int (Own.b2i (own_sub n18 (own_add (own_add (fun _ => 0) r_7) r_8) (own_add (own_add (fun _ => 0) v4) v6)))), .unset, .unset] [(.int v4), (.int r_8)])) t
        refine XS.icmpNo X34.here hx rfl (hb hby at_141) rfl (feq hc57).1 ?_
        show Steps p.tables e below (T34.setTop (mkF m 144 #[.val (.int p0), .val (.int p1), .val (.int p2), .val (.int p3), .val (.int p4), .val (.int v2), .val (.int v4), .val (.int v6), .val (.int r_7), .val (.int r_8), .val (.ref b9), .val (.ref b13), .val (.int (Own.b2i (own_sub n12 (own_add (own_add (fun _ => 0) v4) v6) (own_add (own_add (fun _ => 0) r_7) r_8)))), .val (.int (Own.b2i (own_sub n18 (own_add (own_add (fun _ => 0) r_7) r_8) (own_add (own_add (fun _ => 0) v4) v6)))), .unset, .unset] [])) t
        refine XS.iload X34.here hx rfl (hb hby at_144) rfl ?_
        show Steps p.tables e below (T34.setTop (mkF m 146 #[.val (.int p0), .val (.int p1), .val (.int p2), .val (.int p3), .val (.int p4), .val (.int v2), .val (.int v4), .val (.int v6), .val (.int r_7), .val (.int r_8), .val (.ref b9), .val (.ref b13), .val (.int (Own.b2i (own_sub n12 (own_add (own_add (fun _ => 0) v4) v6) (own_add (own_add (fun _ => 0) r_7) r_8)))), .val (.int (Own.b2i (own_sub n18 (own_add (own_add (fun _ => 0) r_7) r_8) (own_add (own_add (fun _ => 0) v4) v6)))), .unset, .unset] [(.int r_8)])) t
        refine XS.iload X34.here hx rfl (hb hby at_146) rfl ?_
        show Steps p.tables e below (T34.setTop (mkF m 148 #[.val (.int p0), .val (.int p1), .val (.int p2), .val (.int p3), .val (.int p4), .val (.int v2), .val (.int v4), .val (.int v6), .val (.int r_7), .val (.int r_8), .val (.ref b9), .val (.ref b13), .val (.int (Own.b2i (own_sub n12 (own_add (own_add (fun _ => 0) v4) v6) (own_add (own_add (fun _ => 0) r_7) r_8)))), .val (.int (Own.b2i (own_sub n18 (own_add (own_add (fun _ => 0) r_7) r_8) (own_add (own_add (fun _ => 0) v4) v6)))), .unset, .unset] [(.int v6), (.int r_8)])) t
        exact k
      by_cases hc58 : r_8 = v6
      · refine hD _ (T34.setTop (mkF m 156 #[.val (.int p0), .val (.int p1), .val (.int p2), .val (.int p3), .val (.int p4), .val (.int v2), .val (.int v4), .val (.int v6), .val (.int r_7), .val (.int r_8), .val (.ref b9), .val (.ref b13), .val (.int (Own.b2i (own_sub n12 (own_add (own_add (fun _ => 0) v4) v6) (own_add (own_add (fun _ => 0) r_7) r_8)))), .val (.int (Own.b2i (own_sub n18 (own_add (own_add (fun _ => 0) r_7) r_8) (own_add (own_add (fun _ => 0) v4) v6)))), .unset, .unset] [(.int (1 : Int32))])) (fun t k => ?_) ?_
        · show Steps p.tables e below (T34.setTop (mkF m 148 #[.val (.int p0), .val (.int p1), .val (.int p2), .val (.int p3), .val (.int p4), .val (.int v2), .val (.int v4), .val (.int v6), .val (.int r_7), .val (.int r_8), .val (.ref b9), .val (.ref b13), .val (.int (Own.b2i (own_sub n12 (own_add (own_add (fun _ => 0) v4) v6) (own_add (own_add (fun _ => 0) r_7) r_8)))), .val (.int (Own.b2i (own_sub n18 (own_add (own_add (fun _ => 0) r_7) r_8) (own_add (own_add (fun _ => 0) v4) v6)))), .unset, .unset] [(.int v6), (.int r_8)])) t
          refine XS.icmpNo X34.here hx rfl (hb hby at_148) rfl (teq hc58).2 ?_
          show Steps p.tables e below (T34.setTop (mkF m 151 #[.val (.int p0), .val (.int p1), .val (.int p2), .val (.int p3), .val (.int p4), .val (.int v2), .val (.int v4), .val (.int v6), .val (.int r_7), .val (.int r_8), .val (.ref b9), .val (.ref b13), .val (.int (Own.b2i (own_sub n12 (own_add (own_add (fun _ => 0) v4) v6) (own_add (own_add (fun _ => 0) r_7) r_8)))), .val (.int (Own.b2i (own_sub n18 (own_add (own_add (fun _ => 0) r_7) r_8) (own_add (own_add (fun _ => 0) v4) v6)))), .unset, .unset] [])) t
          refine XS.iconst X34.here hx rfl (hb hby at_151) ?_
          show Steps p.tables e below (T34.setTop (mkF m 152 #[.val (.int p0), .val (.int p1), .val (.int p2), .val (.int p3), .val (.int p4), .val (.int v2), .val (.int v4), .val (.int v6), .val (.int r_7), .val (.int r_8), .val (.ref b9), .val (.ref b13), .val (.int (Own.b2i (own_sub n12 (own_add (own_add (fun _ => 0) v4) v6) (own_add (own_add (fun _ => 0) r_7) r_8)))), .val (.int (Own.b2i (own_sub n18 (own_add (own_add (fun _ => 0) r_7) r_8) (own_add (own_add (fun _ => 0) v4) v6)))), .unset, .unset] [(.int (1 : Int32))])) t
          refine XS.goto X34.here hx rfl (pc0 := 152) (pc' := 156) rfl (hb hby at_152) (by decide) (by decide) ?_
          show Steps p.tables e below (T34.setTop (mkF m 156 #[.val (.int p0), .val (.int p1), .val (.int p2), .val (.int p3), .val (.int p4), .val (.int v2), .val (.int v4), .val (.int v6), .val (.int r_7), .val (.int r_8), .val (.ref b9), .val (.ref b13), .val (.int (Own.b2i (own_sub n12 (own_add (own_add (fun _ => 0) v4) v6) (own_add (own_add (fun _ => 0) r_7) r_8)))), .val (.int (Own.b2i (own_sub n18 (own_add (own_add (fun _ => 0) r_7) r_8) (own_add (own_add (fun _ => 0) v4) v6)))), .unset, .unset] [(.int (1 : Int32))])) t
          exact k
        exact J156 T34 _ (1 : Int32) X34 e34 N34 (by rw [own_exp (own_rem (own_size hv2).1 hv4).1 (own_rem (own_size hv2).1 hv6).1 (own_in hr_7 hn12) (own_in hr_8 hn12)]; simp [Own.b2i, hc56, hc57, hc58])
      · refine hD _ (T34.setTop (mkF m 156 #[.val (.int p0), .val (.int p1), .val (.int p2), .val (.int p3), .val (.int p4), .val (.int v2), .val (.int v4), .val (.int v6), .val (.int r_7), .val (.int r_8), .val (.ref b9), .val (.ref b13), .val (.int (Own.b2i (own_sub n12 (own_add (own_add (fun _ => 0) v4) v6) (own_add (own_add (fun _ => 0) r_7) r_8)))), .val (.int (Own.b2i (own_sub n18 (own_add (own_add (fun _ => 0) r_7) r_8) (own_add (own_add (fun _ => 0) v4) v6)))), .unset, .unset] [(.int (0 : Int32))])) (fun t k => ?_) ?_
        · show Steps p.tables e below (T34.setTop (mkF m 148 #[.val (.int p0), .val (.int p1), .val (.int p2), .val (.int p3), .val (.int p4), .val (.int v2), .val (.int v4), .val (.int v6), .val (.int r_7), .val (.int r_8), .val (.ref b9), .val (.ref b13), .val (.int (Own.b2i (own_sub n12 (own_add (own_add (fun _ => 0) v4) v6) (own_add (own_add (fun _ => 0) r_7) r_8)))), .val (.int (Own.b2i (own_sub n18 (own_add (own_add (fun _ => 0) r_7) r_8) (own_add (own_add (fun _ => 0) v4) v6)))), .unset, .unset] [(.int v6), (.int r_8)])) t
          refine XS.icmpYes X34.here hx rfl (pc0 := 148) (pc' := 155) rfl (hb hby at_148) rfl (feq hc58).2 (by decide) (by decide) ?_
          show Steps p.tables e below (T34.setTop (mkF m 155 #[.val (.int p0), .val (.int p1), .val (.int p2), .val (.int p3), .val (.int p4), .val (.int v2), .val (.int v4), .val (.int v6), .val (.int r_7), .val (.int r_8), .val (.ref b9), .val (.ref b13), .val (.int (Own.b2i (own_sub n12 (own_add (own_add (fun _ => 0) v4) v6) (own_add (own_add (fun _ => 0) r_7) r_8)))), .val (.int (Own.b2i (own_sub n18 (own_add (own_add (fun _ => 0) r_7) r_8) (own_add (own_add (fun _ => 0) v4) v6)))), .unset, .unset] [])) t
          refine XS.iconst X34.here hx rfl (hb hby at_155) ?_
          show Steps p.tables e below (T34.setTop (mkF m 156 #[.val (.int p0), .val (.int p1), .val (.int p2), .val (.int p3), .val (.int p4), .val (.int v2), .val (.int v4), .val (.int v6), .val (.int r_7), .val (.int r_8), .val (.ref b9), .val (.ref b13), .val (.int (Own.b2i (own_sub n12 (own_add (own_add (fun _ => 0) v4) v6) (own_add (own_add (fun _ => 0) r_7) r_8)))), .val (.int (Own.b2i (own_sub n18 (own_add (own_add (fun _ => 0) r_7) r_8) (own_add (own_add (fun _ => 0) v4) v6)))), .unset, .unset] [(.int (0 : Int32))])) t
          exact k
        exact J156 T34 _ (0 : Int32) X34 e34 N34 (by rw [own_exp (own_rem (own_size hv2).1 hv4).1 (own_rem (own_size hv2).1 hv6).1 (own_in hr_7 hn12) (own_in hr_8 hn12)]; simp [Own.b2i, hc56, hc57, hc58])
  · refine hD _ (T34.setTop (mkF m 134 #[.val (.int p0), .val (.int p1), .val (.int p2), .val (.int p3), .val (.int p4), .val (.int v2), .val (.int v4), .val (.int v6), .val (.int r_7), .val (.int r_8), .val (.ref b9), .val (.ref b13), .val (.int (Own.b2i (own_sub n12 (own_add (own_add (fun _ => 0) v4) v6) (own_add (own_add (fun _ => 0) r_7) r_8)))), .val (.int (Own.b2i (own_sub n18 (own_add (own_add (fun _ => 0) r_7) r_8) (own_add (own_add (fun _ => 0) v4) v6)))), .unset, .unset] [(.int v6), (.int r_7)])) (fun t k => ?_) ?_
    · show Steps p.tables e below (T34.setTop (mkF m 127 #[.val (.int p0), .val (.int p1), .val (.int p2), .val (.int p3), .val (.int p4), .val (.int v2), .val (.int v4), .val (.int v6), .val (.int r_7), .val (.int r_8), .val (.ref b9), .val (.ref b13), .val (.int (Own.b2i (own_sub n12 (own_add (own_add (fun _ => 0) v4) v6) (own_add (own_add (fun _ => 0) r_7) r_8)))), .val (.int (Own.b2i (own_sub n18 (own_add (own_add (fun _ => 0) r_7) r_8) (own_add (own_add (fun _ => 0) v4) v6)))), .unset, .unset] [(.int v4), (.int r_7)])) t
      refine XS.icmpNo X34.here hx rfl (hb hby at_127) rfl (feq hc56).1 ?_
      show Steps p.tables e below (T34.setTop (mkF m 130 #[.val (.int p0), .val (.int p1), .val (.int p2), .val (.int p3), .val (.int p4), .val (.int v2), .val (.int v4), .val (.int v6), .val (.int r_7), .val (.int r_8), .val (.ref b9), .val (.ref b13), .val (.int (Own.b2i (own_sub n12 (own_add (own_add (fun _ => 0) v4) v6) (own_add (own_add (fun _ => 0) r_7) r_8)))), .val (.int (Own.b2i (own_sub n18 (own_add (own_add (fun _ => 0) r_7) r_8) (own_add (own_add (fun _ => 0) v4) v6)))), .unset, .unset] [])) t
      refine XS.iload X34.here hx rfl (hb hby at_130) rfl ?_
      show Steps p.tables e below (T34.setTop (mkF m 132 #[.val (.int p0), .val (.int p1), .val (.int p2), .val (.int p3), .val (.int p4), .val (.int v2), .val (.int v4), .val (.int v6), .val (.int r_7), .val (.int r_8), .val (.ref b9), .val (.ref b13), .val (.int (Own.b2i (own_sub n12 (own_add (own_add (fun _ => 0) v4) v6) (own_add (own_add (fun _ => 0) r_7) r_8)))), .val (.int (Own.b2i (own_sub n18 (own_add (own_add (fun _ => 0) r_7) r_8) (own_add (own_add (fun _ => 0) v4) v6)))), .unset, .unset] [(.int r_7)])) t
      refine XS.iload X34.here hx rfl (hb hby at_132) rfl ?_
      show Steps p.tables e below (T34.setTop (mkF m 134 #[.val (.int p0), .val (.int p1), .val (.int p2), .val (.int p3), .val (.int p4), .val (.int v2), .val (.int v4), .val (.int v6), .val (.int r_7), .val (.int r_8), .val (.ref b9), .val (.ref b13), .val (.int (Own.b2i (own_sub n12 (own_add (own_add (fun _ => 0) v4) v6) (own_add (own_add (fun _ => 0) r_7) r_8)))), .val (.int (Own.b2i (own_sub n18 (own_add (own_add (fun _ => 0) r_7) r_8) (own_add (own_add (fun _ => 0) v4) v6)))), .unset, .unset] [(.int v6), (.int r_7)])) t
      exact k
    by_cases hc59 : r_7 = v6
    · refine hD _ (T34.setTop (mkF m 141 #[.val (.int p0), .val (.int p1), .val (.int p2), .val (.int p3), .val (.int p4), .val (.int v2), .val (.int v4), .val (.int v6), .val (.int r_7), .val (.int r_8), .val (.ref b9), .val (.ref b13), .val (.int (Own.b2i (own_sub n12 (own_add (own_add (fun _ => 0) v4) v6) (own_add (own_add (fun _ => 0) r_7) r_8)))), .val (.int (Own.b2i (own_sub n18 (own_add (own_add (fun _ => 0) r_7) r_8) (own_add (own_add (fun _ => 0) v4) v6)))), .unset, .unset] [(.int v4), (.int r_8)])) (fun t k => ?_) ?_
      · show Steps p.tables e below (T34.setTop (mkF m 134 #[.val (.int p0), .val (.int p1), .val (.int p2), .val (.int p3), .val (.int p4), .val (.int v2), .val (.int v4), .val (.int v6), .val (.int r_7), .val (.int r_8), .val (.ref b9), .val (.ref b13), .val (.int (Own.b2i (own_sub n12 (own_add (own_add (fun _ => 0) v4) v6) (own_add (own_add (fun _ => 0) r_7) r_8)))), .val (.int (Own.b2i (own_sub n18 (own_add (own_add (fun _ => 0) r_7) r_8) (own_add (own_add (fun _ => 0) v4) v6)))), .unset, .unset] [(.int v6), (.int r_7)])) t
        refine XS.icmpNo X34.here hx rfl (hb hby at_134) rfl (teq hc59).2 ?_
        show Steps p.tables e below (T34.setTop (mkF m 137 #[.val (.int p0), .val (.int p1), .val (.int p2), .val (.int p3), .val (.int p4), .val (.int v2), .val (.int v4), .val (.int v6), .val (.int r_7), .val (.int r_8), .val (.ref b9), .val (.ref b13), .val (.int (Own.b2i (own_sub n12 (own_add (own_add (fun _ => 0) v4) v6) (own_add (own_add (fun _ => 0) r_7) r_8)))), .val (.int (Own.b2i (own_sub n18 (own_add (own_add (fun _ => 0) r_7) r_8) (own_add (own_add (fun _ => 0) v4) v6)))), .unset, .unset] [])) t
        refine XS.iload X34.here hx rfl (hb hby at_137) rfl ?_
        show Steps p.tables e below (T34.setTop (mkF m 139 #[.val (.int p0), .val (.int p1), .val (.int p2), .val (.int p3), .val (.int p4), .val (.int v2), .val (.int v4), .val (.int v6), .val (.int r_7), .val (.int r_8), .val (.ref b9), .val (.ref b13), .val (.int (Own.b2i (own_sub n12 (own_add (own_add (fun _ => 0) v4) v6) (own_add (own_add (fun _ => 0) r_7) r_8)))), .val (.int (Own.b2i (own_sub n18 (own_add (own_add (fun _ => 0) r_7) r_8) (own_add (own_add (fun _ => 0) v4) v6)))), .unset, .unset] [(.int r_8)])) t
        refine XS.iload X34.here hx rfl (hb hby at_139) rfl ?_
        show Steps p.tables e below (T34.setTop (mkF m 141 #[.val (.int p0), .val (.int p1), .val (.int p2), .val (.int p3), .val (.int p4), .val (.int v2), .val (.int v4), .val (.int v6), .val (.int r_7), .val (.int r_8), .val (.ref b9), .val (.ref b13), .val (.int (Own.b2i (own_sub n12 (own_add (own_add (fun _ => 0) v4) v6) (own_add (own_add (fun _ => 0) r_7) r_8)))), .val (.int (Own.b2i (own_sub n18 (own_add (own_add (fun _ => 0) r_7) r_8) (own_add (own_add (fun _ => 0) v4) v6)))), .unset, .unset] [(.int v4), (.int r_8)])) t
        exact k
      by_cases hc60 : r_8 = v4
      · refine hD _ (T34.setTop (mkF m 156 #[.val (.int p0), .val (.int p1), .val (.int p2), .val (.int p3), .val (.int p4), .val (.int v2), .val (.int v4), .val (.int v6), .val (.int r_7), .val (.int r_8), .val (.ref b9), .val (.ref b13), .val (.int (Own.b2i (own_sub n12 (own_add (own_add (fun _ => 0) v4) v6) (own_add (own_add (fun _ => 0) r_7) r_8)))), .val (.int (Own.b2i (own_sub n18 (own_add (own_add (fun _ => 0) r_7) r_8) (own_add (own_add (fun _ => 0) v4) v6)))), .unset, .unset] [(.int (1 : Int32))])) (fun t k => ?_) ?_
        · show Steps p.tables e below (T34.setTop (mkF m 141 #[.val (.int p0), .val (.int p1), .val (.int p2), .val (.int p3), .val (.int p4), .val (.int v2), .val (.int v4), .val (.int v6), .val (.int r_7), .val (.int r_8), .val (.ref b9), .val (.ref b13), .val (.int (Own.b2i (own_sub n12 (own_add (own_add (fun _ => 0) v4) v6) (own_add (own_add (fun _ => 0) r_7) r_8)))), .val (.int (Own.b2i (own_sub n18 (own_add (own_add (fun _ => 0) r_7) r_8) (own_add (own_add (fun _ => 0) v4) v6)))), .unset, .unset] [(.int v4), (.int r_8)])) t
          refine XS.icmpYes X34.here hx rfl (pc0 := 141) (pc' := 151) rfl (hb hby at_141) rfl (teq hc60).1 (by decide) (by decide) ?_
          show Steps p.tables e below (T34.setTop (mkF m 151 #[.val (.int p0), .val (.int p1), .val (.int p2), .val (.int p3), .val (.int p4), .val (.int v2), .val (.int v4), .val (.int v6), .val (.int r_7), .val (.int r_8), .val (.ref b9), .val (.ref b13), .val (.int (Own.b2i (own_sub n12 (own_add (own_add (fun _ => 0) v4) v6) (own_add (own_add (fun _ => 0) r_7) r_8)))), .val (.int (Own.b2i (own_sub n18 (own_add (own_add (fun _ => 0) r_7) r_8) (own_add (own_add (fun _ => 0) v4) v6)))), .unset, .unset] [])) t
          refine XS.iconst X34.here hx rfl (hb hby at_151) ?_
          show Steps p.tables e below (T34.setTop (mkF m 152 #[.val (.int p0), .val (.int p1), .val (.int p2), .val (.int p3), .val (.int p4), .val (.int v2), .val (.int v4), .val (.int v6), .val (.int r_7), .val (.int r_8), .val (.ref b9), .val (.ref b13), .val (.int (Own.b2i (own_sub n12 (own_add (own_add (fun _ => 0) v4) v6) (own_add (own_add (fun _ => 0) r_7) r_8)))), .val (.int (Own.b2i (own_sub n18 (own_add (own_add (fun _ => 0) r_7) r_8) (own_add (own_add (fun _ => 0) v4) v6)))), .unset, .unset] [(.int (1 : Int32))])) t
          refine XS.goto X34.here hx rfl (pc0 := 152) (pc' := 156) rfl (hb hby at_152) (by decide) (by decide) ?_
          show Steps p.tables e below (T34.setTop (mkF m 156 #[.val (.int p0), .val (.int p1), .val (.int p2), .val (.int p3), .val (.int p4), .val (.int v2), .val (.int v4), .val (.int v6), .val (.int r_7), .val (.int r_8), .val (.ref b9), .val (.ref b13), .val (.int (Own.b2i (own_sub n12 (own_add (own_add (fun _ => 0) v4) v6) (own_add (own_add (fun _ => 0) r_7) r_8)))), .val (.int (Own.b2i (own_sub n18 (own_add (own_add (fun _ => 0) r_7) r_8) (own_add (own_add (fun _ => 0) v4) v6)))), .unset, .unset] [(.int (1 : Int32))])) t
          exact k
        exact J156 T34 _ (1 : Int32) X34 e34 N34 (by rw [own_exp (own_rem (own_size hv2).1 hv4).1 (own_rem (own_size hv2).1 hv6).1 (own_in hr_7 hn12) (own_in hr_8 hn12)]; simp [Own.b2i, hc56, hc59, hc60])
      · refine hD _ (T34.setTop (mkF m 148 #[.val (.int p0), .val (.int p1), .val (.int p2), .val (.int p3), .val (.int p4), .val (.int v2), .val (.int v4), .val (.int v6), .val (.int r_7), .val (.int r_8), .val (.ref b9), .val (.ref b13), .val (.int (Own.b2i (own_sub n12 (own_add (own_add (fun _ => 0) v4) v6) (own_add (own_add (fun _ => 0) r_7) r_8)))), .val (.int (Own.b2i (own_sub n18 (own_add (own_add (fun _ => 0) r_7) r_8) (own_add (own_add (fun _ => 0) v4) v6)))), .unset, .unset] [(.int v6), (.int r_8)])) (fun t k => ?_) ?_
        · show Steps p.tables e below (T34.setTop (mkF m 141 #[.val (.int p0), .val (.int p1), .val (.int p2), .val (.int p3), .val (.int p4), .val (.int v2), .val (.int v4), .val (.int v6), .val (.int r_7), .val (.int r_8), .val (.ref b9), .val (.ref b13), .val (.int (Own.b2i (own_sub n12 (own_add (own_add (fun _ => 0) v4) v6) (own_add (own_add (fun _ => 0) r_7) r_8)))), .val (.int (Own.b2i (own_sub n18 (own_add (own_add (fun _ => 0) r_7) r_8) (own_add (own_add (fun _ => 0) v4) v6)))), .unset, .unset] [(.int v4), (.int r_8)])) t
          refine XS.icmpNo X34.here hx rfl (hb hby at_141) rfl (feq hc60).1 ?_
          show Steps p.tables e below (T34.setTop (mkF m 144 #[.val (.int p0), .val (.int p1), .val (.int p2), .val (.int p3), .val (.int p4), .val (.int v2), .val (.int v4), .val (.int v6), .val (.int r_7), .val (.int r_8), .val (.ref b9), .val (.ref b13), .val (.int (Own.b2i (own_sub n12 (own_add (own_add (fun _ => 0) v4) v6) (own_add (own_add (fun _ => 0) r_7) r_8)))), .val (.int (Own.b2i (own_sub n18 (own_add (own_add (fun _ => 0) r_7) r_8) (own_add (own_add (fun _ => 0) v4) v6)))), .unset, .unset] [])) t
          refine XS.iload X34.here hx rfl (hb hby at_144) rfl ?_
          show Steps p.tables e below (T34.setTop (mkF m 146 #[.val (.int p0), .val (.int p1), .val (.int p2), .val (.int p3), .val (.int p4), .val (.int v2), .val (.int v4), .val (.int v6), .val (.int r_7), .val (.int r_8), .val (.ref b9), .val (.ref b13), .val (.int (Own.b2i (own_sub n12 (own_add (own_add (fun _ => 0) v4) v6) (own_add (own_add (fun _ => 0) r_7) r_8)))), .val (.int (Own.b2i (own_sub n18 (own_add (own_add (fun _ => 0) r_7) r_8) (own_add (own_add (fun _ => 0) v4) v6)))), .unset, .unset] [(.int r_8)])) t
          refine XS.iload X34.here hx rfl (hb hby at_146) rfl ?_
          show Steps p.tables e below (T34.setTop (mkF m 148 #[.val (.int p0), .val (.int p1), .val (.int p2), .val (.int p3), .val (.int p4), .val (.int v2), .val (.int v4), .val (.int v6), .val (.int r_7), .val (.int r_8), .val (.ref b9), .val (.ref b13), .val (.int (Own.b2i (own_sub n12 (own_add (own_add (fun _ => 0) v4) v6) (own_add (own_add (fun _ => 0) r_7) r_8)))), .val (.int (Own.b2i (own_sub n18 (own_add (own_add (fun _ => 0) r_7) r_8) (own_add (own_add (fun _ => 0) v4) v6)))), .unset, .unset] [(.int v6), (.int r_8)])) t
          exact k
        by_cases hc61 : r_8 = v6
        · refine hD _ (T34.setTop (mkF m 156 #[.val (.int p0), .val (.int p1), .val (.int p2), .val (.int p3), .val (.int p4), .val (.int v2), .val (.int v4), .val (.int v6), .val (.int r_7), .val (.int r_8), .val (.ref b9), .val (.ref b13), .val (.int (Own.b2i (own_sub n12 (own_add (own_add (fun _ => 0) v4) v6) (own_add (own_add (fun _ => 0) r_7) r_8)))), .val (.int (Own.b2i (own_sub n18 (own_add (own_add (fun _ => 0) r_7) r_8) (own_add (own_add (fun _ => 0) v4) v6)))), .unset, .unset] [(.int (1 : Int32))])) (fun t k => ?_) ?_
          · show Steps p.tables e below (T34.setTop (mkF m 148 #[.val (.int p0), .val (.int p1), .val (.int p2), .val (.int p3), .val (.int p4), .val (.int v2), .val (.int v4), .val (.int v6), .val (.int r_7), .val (.int r_8), .val (.ref b9), .val (.ref b13), .val (.int (Own.b2i (own_sub n12 (own_add (own_add (fun _ => 0) v4) v6) (own_add (own_add (fun _ => 0) r_7) r_8)))), .val (.int (Own.b2i (own_sub n18 (own_add (own_add (fun _ => 0) r_7) r_8) (own_add (own_add (fun _ => 0) v4) v6)))), .unset, .unset] [(.int v6), (.int r_8)])) t
            refine XS.icmpNo X34.here hx rfl (hb hby at_148) rfl (teq hc61).2 ?_
            show Steps p.tables e below (T34.setTop (mkF m 151 #[.val (.int p0), .val (.int p1), .val (.int p2), .val (.int p3), .val (.int p4), .val (.int v2), .val (.int v4), .val (.int v6), .val (.int r_7), .val (.int r_8), .val (.ref b9), .val (.ref b13), .val (.int (Own.b2i (own_sub n12 (own_add (own_add (fun _ => 0) v4) v6) (own_add (own_add (fun _ => 0) r_7) r_8)))), .val (.int (Own.b2i (own_sub n18 (own_add (own_add (fun _ => 0) r_7) r_8) (own_add (own_add (fun _ => 0) v4) v6)))), .unset, .unset] [])) t
            refine XS.iconst X34.here hx rfl (hb hby at_151) ?_
            show Steps p.tables e below (T34.setTop (mkF m 152 #[.val (.int p0), .val (.int p1), .val (.int p2), .val (.int p3), .val (.int p4), .val (.int v2), .val (.int v4), .val (.int v6), .val (.int r_7), .val (.int r_8), .val (.ref b9), .val (.ref b13), .val (.int (Own.b2i (own_sub n12 (own_add (own_add (fun _ => 0) v4) v6) (own_add (own_add (fun _ => 0) r_7) r_8)))), .val (.int (Own.b2i (own_sub n18 (own_add (own_add (fun _ => 0) r_7) r_8) (own_add (own_add (fun _ => 0) v4) v6)))), .unset, .unset] [(.int (1 : Int32))])) t
            refine XS.goto X34.here hx rfl (pc0 := 152) (pc' := 156) rfl (hb hby at_152) (by decide) (by decide) ?_
            show Steps p.tables e below (T34.setTop (mkF m 156 #[.val (.int p0), .val (.int p1), .val (.int p2), .val (.int p3), .val (.int p4), .val (.int v2), .val (.int v4), .val (.int v6), .val (.int r_7), .val (.int r_8), .val (.ref b9), .val (.ref b13), .val (.int (Own.b2i (own_sub n12 (own_add (own_add (fun _ => 0) v4) v6) (own_add (own_add (fun _ => 0) r_7) r_8)))), .val (.int (Own.b2i (own_sub n18 (own_add (own_add (fun _ => 0) r_7) r_8) (own_add (own_add (fun _ => 0) v4) v6)))), .unset, .unset] [(.int (1 : Int32))])) t
            exact k
          exact J156 T34 _ (1 : Int32) X34 e34 N34 (by rw [own_exp (own_rem (own_size hv2).1 hv4).1 (own_rem (own_size hv2).1 hv6).1 (own_in hr_7 hn12) (own_in hr_8 hn12)]; simp [Own.b2i, hc56, hc59, hc60, hc61])
        · refine hD _ (T34.setTop (mkF m 156 #[.val (.int p0), .val (.int p1), .val (.int p2), .val (.int p3), .val (.int p4), .val (.int v2), .val (.int v4), .val (.int v6), .val (.int r_7), .val (.int r_8), .val (.ref b9), .val (.ref b13), .val (.int (Own.b2i (own_sub n12 (own_add (own_add (fun _ => 0) v4) v6) (own_add (own_add (fun _ => 0) r_7) r_8)))), .val (.int (Own.b2i (own_sub n18 (own_add (own_add (fun _ => 0) r_7) r_8) (own_add (own_add (fun _ => 0) v4) v6)))), .unset, .unset] [(.int (0 : Int32))])) (fun t k => ?_) ?_
          · show Steps p.tables e below (T34.setTop (mkF m 148 #[.val (.int p0), .val (.int p1), .val (.int p2), .val (.int p3), .val (.int p4), .val (.int v2), .val (.int v4), .val (.int v6), .val (.int r_7), .val (.int r_8), .val (.ref b9), .val (.ref b13), .val (.int (Own.b2i (own_sub n12 (own_add (own_add (fun _ => 0) v4) v6) (own_add (own_add (fun _ => 0) r_7) r_8)))), .val (.int (Own.b2i (own_sub n18 (own_add (own_add (fun _ => 0) r_7) r_8) (own_add (own_add (fun _ => 0) v4) v6)))), .unset, .unset] [(.int v6), (.int r_8)])) t
            refine XS.icmpYes X34.here hx rfl (pc0 := 148) (pc' := 155) rfl (hb hby at_148) rfl (feq hc61).2 (by decide) (by decide) ?_
            show Steps p.tables e below (T34.setTop (mkF m 155 #[.val (.int p0), .val (.int p1), .val (.int p2), .val (.int p3), .val (.int p4), .val (.int v2), .val (.int v4), .val (.int v6), .val (.int r_7), .val (.int r_8), .val (.ref b9), .val (.ref b13), .val (.int (Own.b2i (own_sub n12 (own_add (own_add (fun _ => 0) v4) v6) (own_add (own_add (fun _ => 0) r_7) r_8)))), .val (.int (Own.b2i (own_sub n18 (own_add (own_add (fun _ => 0) r_7) r_8) (own_add (own_add (fun _ => 0) v4) v6)))), .unset, .unset] [])) t
            refine XS.iconst X34.here hx rfl (hb hby at_155) ?_
            show Steps p.tables e below (T34.setTop (mkF m 156 #[.val (.int p0), .val (.int p1), .val (.int p2), .val (.int p3), .val (.int p4), .val (.int v2), .val (.int v4), .val (.int v6), .val (.int r_7), .val (.int r_8), .val (.ref b9), .val (.ref b13), .val (.int (Own.b2i (own_sub n12 (own_add (own_add (fun _ => 0) v4) v6) (own_add (own_add (fun _ => 0) r_7) r_8)))), .val (.int (Own.b2i (own_sub n18 (own_add (own_add (fun _ => 0) r_7) r_8) (own_add (own_add (fun _ => 0) v4) v6)))), .unset, .unset] [(.int (0 : Int32))])) t
            exact k
          exact J156 T34 _ (0 : Int32) X34 e34 N34 (by rw [own_exp (own_rem (own_size hv2).1 hv4).1 (own_rem (own_size hv2).1 hv6).1 (own_in hr_7 hn12) (own_in hr_8 hn12)]; simp [Own.b2i, hc56, hc59, hc60, hc61])
    · refine hD _ (T34.setTop (mkF m 156 #[.val (.int p0), .val (.int p1), .val (.int p2), .val (.int p3), .val (.int p4), .val (.int v2), .val (.int v4), .val (.int v6), .val (.int r_7), .val (.int r_8), .val (.ref b9), .val (.ref b13), .val (.int (Own.b2i (own_sub n12 (own_add (own_add (fun _ => 0) v4) v6) (own_add (own_add (fun _ => 0) r_7) r_8)))), .val (.int (Own.b2i (own_sub n18 (own_add (own_add (fun _ => 0) r_7) r_8) (own_add (own_add (fun _ => 0) v4) v6)))), .unset, .unset] [(.int (0 : Int32))])) (fun t k => ?_) ?_
      · show Steps p.tables e below (T34.setTop (mkF m 134 #[.val (.int p0), .val (.int p1), .val (.int p2), .val (.int p3), .val (.int p4), .val (.int v2), .val (.int v4), .val (.int v6), .val (.int r_7), .val (.int r_8), .val (.ref b9), .val (.ref b13), .val (.int (Own.b2i (own_sub n12 (own_add (own_add (fun _ => 0) v4) v6) (own_add (own_add (fun _ => 0) r_7) r_8)))), .val (.int (Own.b2i (own_sub n18 (own_add (own_add (fun _ => 0) r_7) r_8) (own_add (own_add (fun _ => 0) v4) v6)))), .unset, .unset] [(.int v6), (.int r_7)])) t
        refine XS.icmpYes X34.here hx rfl (pc0 := 134) (pc' := 155) rfl (hb hby at_134) rfl (feq hc59).2 (by decide) (by decide) ?_
        show Steps p.tables e below (T34.setTop (mkF m 155 #[.val (.int p0), .val (.int p1), .val (.int p2), .val (.int p3), .val (.int p4), .val (.int v2), .val (.int v4), .val (.int v6), .val (.int r_7), .val (.int r_8), .val (.ref b9), .val (.ref b13), .val (.int (Own.b2i (own_sub n12 (own_add (own_add (fun _ => 0) v4) v6) (own_add (own_add (fun _ => 0) r_7) r_8)))), .val (.int (Own.b2i (own_sub n18 (own_add (own_add (fun _ => 0) r_7) r_8) (own_add (own_add (fun _ => 0) v4) v6)))), .unset, .unset] [])) t
        refine XS.iconst X34.here hx rfl (hb hby at_155) ?_
        show Steps p.tables e below (T34.setTop (mkF m 156 #[.val (.int p0), .val (.int p1), .val (.int p2), .val (.int p3), .val (.int p4), .val (.int v2), .val (.int v4), .val (.int v6), .val (.int r_7), .val (.int r_8), .val (.ref b9), .val (.ref b13), .val (.int (Own.b2i (own_sub n12 (own_add (own_add (fun _ => 0) v4) v6) (own_add (own_add (fun _ => 0) r_7) r_8)))), .val (.int (Own.b2i (own_sub n18 (own_add (own_add (fun _ => 0) r_7) r_8) (own_add (own_add (fun _ => 0) v4) v6)))), .unset, .unset] [(.int (0 : Int32))])) t
        exact k
      exact J156 T34 _ (0 : Int32) X34 e34 N34 (by rw [own_exp (own_rem (own_size hv2).1 hv4).1 (own_rem (own_size hv2).1 hv6).1 (own_in hr_7 hn12) (own_in hr_8 hn12)]; simp [Own.b2i, hc56, hc59])
set_option maxRecDepth 65536 in
set_option maxHeartbeats 40000000 in
theorem comes_1 {Post : Tables → Env → Array Value → State → Outcome → State → Prop} (hpost : ∀ tb e args s v u, (limb_1_1.after args s (.returned v) u = true ∧ limb_1_2.after args s (.returned v) u = true ∧ True) → FrameEnd s (.returned v) u (Jvm.fieldLocs frame_1_writes args s ++ Jvm.arrayLocs frame_1_arrays args s ++ Jvm.staticLocs frame_1_statics s) 16 128 → Post tb e args s (.returned v) u) :
    ArmFor flags0 classFile x code maxLocals ret World_1 tables_1 room_1 Calls_1 rest_1 Pre_1 Post := by
  intro l hfl _ _ p e ha hc hk s m args below hf hA hF happ hP
  obtain ⟨hcalls, hrest, hpre⟩ := hP
  obtain ⟨-, -, -, hnamed, -, -, -, hat⟩ := (Spec.applies_iff hf).mp happ
  obtain ⟨hg, hn⟩ := and_e (Cond.before_iff.mp (show (Jvm.Cond.and given_1 narrow_1).before args s = true from hpre))
  obtain ⟨hcnt, hg0⟩ := and_e hg
  obtain ⟨ga0, hg1⟩ := and_e hg0
  obtain ⟨ga1, hg2⟩ := and_e hg1
  obtain ⟨ga2, hg3⟩ := and_e hg2
  obtain ⟨ga3, hg4⟩ := and_e hg3
  obtain ⟨w0, w1, w2, w3, w4, rfl⟩ : ∃ w0 w1 w2 w3 w4 : Value, args = #[w0, w1, w2, w3, w4] := by
    have hs : args.size = 5 := by simpa [Cond.value, given_1] using hcnt
    obtain ⟨L⟩ := args
    match L, hs with
    | [w0, w1, w2, w3, w4], _ => exact ⟨w0, w1, w2, w3, w4, rfl⟩
  have hw := fun d (hd : d ∈ tables_1) => atoms_spec (ws := Jvm.Cond.code x code maxLocals ret :: tables_1) hat d (List.mem_cons_of_mem _ hd)
  obtain ⟨i0, ei0⟩ := is_v ga0
  obtain rfl : w0 = (.int i0) := Option.some.inj ei0
  obtain ⟨i1, ei1⟩ := is_v ga1
  obtain rfl : w1 = (.int i1) := Option.some.inj ei1
  obtain ⟨i2, ei2⟩ := is_v ga2
  obtain rfl : w2 = (.int i2) := Option.some.inj ei2
  obtain ⟨i3, ei3⟩ := is_v ga3
  obtain rfl : w3 = (.int i3) := Option.some.inj ei3
  obtain ⟨i4, ei4⟩ := is_v hg4
  obtain rfl : w4 = (.int i4) := Option.some.inj ei4
  obtain ⟨n, o, h1, h2, h3, _, L, rfl, ⟨rfl, N⟩, hq⟩ := rm0 l s _ hw tables_1 i0 i1 i2 i3 i4 s.heap s.heap.size (Nat.le_refl _) p e ha hc hk s m _ below hf ((Spec.applies_iff_loose hf).mp happ).1 ⟨rfl, State.Warmed39.refl s, rfl⟩ trivial
  refine ⟨n, _, h1, h2, h3, hpost _ _ _ _ _ _ ⟨Cond.after_iff.mpr rfl, Cond.after_iff.mpr (eq_i res_at (Term.int_eval (1)) rfl), trivial⟩ ⟨hq.1, hq.2.1, (hq.2.2.sift fun y hy => Or.inr (N y hy)).mono (by decide) (by decide)⟩⟩
theorem main_1_1 : Claimed_1_1 := comes_1 fun _ _ _ _ _ _ h hF => ⟨h.1, hF⟩
theorem main_1_2 : Claimed_1_2 := comes_1 fun _ _ _ _ _ _ h hF => ⟨h.2.1, hF⟩
end Jvm.Pilot.@@N@@
namespace Jvm.Pilot.@@N@@
open Jvm Jvm.ClassFile Sem Op Lib Jvm.Free Jvm.Stand Jvm.Pilot.@@N@@.Jvm.D
/-! MADE BY PROGRAM (witnessworld.py) out of the Statement's table words and the real class files: 11 classes; the members and pool entries that the words name. The judged class is class 1, her method 1. -/
namespace start1
open Jvm.ClassFile
def u (s : String) : CpInfo := .utf8 (stringToUtf16 s)
/-- a pool by its gaps: so many unusable entries, then the entry; so many at the end -/
def gap : Nat → List CpInfo → List CpInfo
  | 0, r => r
  | n + 1, r => .unusable :: gap n r
def poolList (es : List (Nat × CpInfo)) (last : Nat) : List CpInfo := es.foldr (fun e r => gap e.1 (e.2 :: r)) (gap last [])
def pool (es : List (Nat × CpInfo)) (last : Nat) : Array CpInfo := ⟨poolList es last⟩
def fileOf (pool : Array CpInfo) (this : Nat) (attrs : Array Attribute := #[]) (ms : Array MethodInfo := #[]) (fl : Nat := 33) (sup : Nat := 0) (ifs : Array Nat := #[]) (fds : Array FieldInfo := #[]) : ClassFile where
  minorVersion := 0
  majorVersion := 65
  constantPool := pool
  accessFlags := fl
  thisClass := this
  superClass := sup
  interfaces := ifs
  fields := fds
  methods := ms
  attributes := attrs
def plain (name : String) (sup : Option ClassId) : Class where
  name := name
  kind := .ordinary
  loader := none
  accessFlags := 33
  super := sup
  interfaces := #[]
  cf := none
  fields := #[]
  methods := #[]
  instanceTypes := #[]
  staticTypes := #[]
  resolved := #[]
  callSites := []
  init := .initialized
  statics := none
  mirror := none

def pool0 : Array CpInfo := pool [(5, u "<init>"), (0, u "()V"), (1, .class_ 10), (1, u "java/lang/Object")] 113

def k0c0 : Code := { maxStack := 0, maxLocals := 1, code := object_method_1_code, exceptionTable := #[], attributes := #[] }
def k0m0 : Method := { name := "<init>", desc := "()V", sig := { parameters := [], returnType := none }, accessFlags := 1, code := some k0c0 }
/-- java/lang/Object -/
def k0 : Class := { plain "java/lang/Object" none with
  accessFlags := 33
  interfaces := #[]
  cf := some (fileOf pool0 8 #[] #[{ accessFlags := 1, nameIndex := 5, descriptorIndex := 6, attributes := #[] }] 33 0 #[] #[])
  fields := #[]
  methods := #[k0m0]
  instanceTypes := #[]
  staticTypes := #[]
  resolved := Array.replicate 124 none
  statics := none }

def pool1 : Array CpInfo := pool [(2, .class_ 4), (1, u "java/lang/Object"), (0, u "<init>"), (0, u "()V"), (0, .integer 2147483647), (0, .methodref 9 10), (0, .class_ 11), (0, .nameAndType 12 13), (0, u "com/example/sluice/sluice/FieldSetContainsAllPinLaw"), (0, u "pick"), (0, u "(IIII)I"), (0, .class_ 15), (0, u "com/example/sluice/sluice/FieldSet"), (0, .methodref 14 17), (0, .nameAndType 5 18), (0, u "(I)V"), (0, .methodref 14 20), (0, .nameAndType 21 18), (0, u "add"), (0, .methodref 14 23), (0, .nameAndType 24 25), (0, u "containsAll"), (0, u "(Lcom/example/sluice/sluice/FieldSet;)Z"), (2, u "law"), (0, u "(IIIII)Z")] 3

def k1m0 : Method := { name := "<init>", desc := "()V", sig := { parameters := [], returnType := none }, accessFlags := 1, code := none }
def k1c1 : Code := { maxStack := 4, maxLocals := 16, code := code, exceptionTable := #[], attributes := #[] }
def k1m1 : Method := { name := "law", desc := "(IIIII)Z", sig := { parameters := [.int, .int, .int, .int, .int], returnType := some .boolean }, accessFlags := 9, code := some k1c1 }
def k1c2 : Code := { maxStack := 2, maxLocals := 5, code := method_3_code, exceptionTable := #[], attributes := #[] }
def k1m2 : Method := { name := "pick", desc := "(IIII)I", sig := { parameters := [.int, .int, .int, .int], returnType := some .int }, accessFlags := 10, code := some k1c2 }
/-- com/example/sluice/sluice/FieldSetContainsAllPinLaw -/
def k1 : Class := { plain "com/example/sluice/sluice/FieldSetContainsAllPinLaw" (some 0) with
  accessFlags := 49
  interfaces := #[]
  cf := some (fileOf pool1 9 #[] #[{ accessFlags := 1, nameIndex := 5, descriptorIndex := 6, attributes := #[] }, { accessFlags := 9, nameIndex := 28, descriptorIndex := 29, attributes := #[] }, { accessFlags := 10, nameIndex := 12, descriptorIndex := 13, attributes := #[] }] 49 2 #[] #[])
  fields := #[]
  methods := #[k1m0, k1m1, k1m2]
  instanceTypes := #[]
  staticTypes := #[]
  resolved := Array.replicate 33 none
  statics := none }

def pool2 : Array CpInfo := pool [(1, .methodref 2 3), (0, .class_ 4), (0, .nameAndType 5 6), (0, u "java/lang/Object"), (0, u "<init>"), (0, u "()V"), (2, .fieldref 10 11), (0, .class_ 12), (0, .nameAndType 13 14), (0, u "com/example/sluice/sluice/FieldSet"), (0, u "rest"), (0, u "[J"), (0, .fieldref 10 16), (0, .nameAndType 17 18), (0, u "first"), (0, u "J"), (4, u "(I)V"), (6, u "add"), (2, u "containsAll"), (0, u "(Lcom/example/sluice/sluice/FieldSet;)Z")] 2

def k2c0 : Code := { maxStack := 3, maxLocals := 2, code := prog_7_method_1_code, exceptionTable := #[], attributes := #[] }
def k2m0 : Method := { name := "<init>", desc := "(I)V", sig := { parameters := [.int], returnType := none }, accessFlags := 0, code := some k2c0 }
def k2c1 : Code := { maxStack := 7, maxLocals := 2, code := prog_7_method_3_code, exceptionTable := #[], attributes := #[] }
def k2m1 : Method := { name := "add", desc := "(I)V", sig := { parameters := [.int], returnType := none }, accessFlags := 0, code := some k2c1 }
def k2c2 : Code := { maxStack := 4, maxLocals := 4, code := prog_7_method_5_code, exceptionTable := #[], attributes := #[] }
def k2m2 : Method := { name := "containsAll", desc := "(Lcom/example/sluice/sluice/FieldSet;)Z", sig := { parameters := [(.object "com/example/sluice/sluice/FieldSet")], returnType := some .boolean }, accessFlags := 0, code := some k2c2 }
/-- com/example/sluice/sluice/FieldSet -/
def k2 : Class := { plain "com/example/sluice/sluice/FieldSet" (some 0) with
  accessFlags := 48
  interfaces := #[]
  cf := some (fileOf pool2 10 #[] #[{ accessFlags := 0, nameIndex := 5, descriptorIndex := 23, attributes := #[] }, { accessFlags := 0, nameIndex := 30, descriptorIndex := 23, attributes := #[] }, { accessFlags := 0, nameIndex := 33, descriptorIndex := 34, attributes := #[] }] 48 2 #[] #[{ accessFlags := 2, nameIndex := 17, descriptorIndex := 18, attributes := #[] }, { accessFlags := 18, nameIndex := 13, descriptorIndex := 14, attributes := #[] }])
  fields := #[{ name := "first", type := .long, accessFlags := 2, slot := 0, constantValue := 0 }, { name := "rest", type := (.array .long), accessFlags := 18, slot := 1, constantValue := 0 }]
  methods := #[k2m0, k2m1, k2m2]
  instanceTypes := #[.long, (.array .long)]
  staticTypes := #[]
  resolved := Array.replicate 37 none
  statics := none }

def pool3 : Array CpInfo := pool [(1, u "java/lang/Cloneable"), (0, .class_ 1), (0, u "java/lang/Object"), (0, .class_ 3)] 3

/-- java/lang/Cloneable -/
def k3 : Class := { plain "java/lang/Cloneable" (some 0) with
  accessFlags := 1537
  interfaces := #[]
  cf := some (fileOf pool3 2 #[] #[] 1537 4 #[] #[])
  fields := #[]
  methods := #[]
  instanceTypes := #[]
  staticTypes := #[]
  resolved := Array.replicate 8 none
  statics := none }

def pool4 : Array CpInfo := pool [(1, u "java/io/Serializable"), (0, .class_ 1), (0, u "java/lang/Object"), (0, .class_ 3)] 3

/-- java/io/Serializable -/
def k4 : Class := { plain "java/io/Serializable" (some 0) with
  accessFlags := 1537
  interfaces := #[]
  cf := some (fileOf pool4 2 #[] #[] 1537 4 #[] #[])
  fields := #[]
  methods := #[]
  instanceTypes := #[]
  staticTypes := #[]
  resolved := Array.replicate 8 none
  statics := none }

/-- the primitive byte -/
def k5 : Class := { plain "byte" none with kind := .primitive 'B', accessFlags := 0x411 }
/-- [B -/
def k6 : Class := { plain "[B" (some 0) with kind := .array 5 .byte, interfaces := #[3, 4], accessFlags := 1041 }

/-- the primitive int -/
def k7 : Class := { plain "int" none with kind := .primitive 'I', accessFlags := 0x411 }
/-- [I -/
def k8 : Class := { plain "[I" (some 0) with kind := .array 7 .int, interfaces := #[3, 4], accessFlags := 1041 }

/-- the primitive long -/
def k9 : Class := { plain "long" none with kind := .primitive 'J', accessFlags := 0x411 }
/-- [J -/
def k10 : Class := { plain "[J" (some 0) with kind := .array 9 .long, interfaces := #[3, 4], accessFlags := 1041 }

def heap : Heap := #[]
def classes : Array Class := #[k0, k1, k2, k3, k4, k5, k6, k7, k8, k9, k10]
def interned : List (Array UInt16 × Addr) := []
def slotsUsed : Nat := 0
def theMethod : MethodId := ⟨1, 1⟩
def args0 : Array Value := #[.int 7, .int 7, .int 7, .int 7, .int 7]
def aboutOver (below : List Frame) : State where
  vm := { classes := classes, interned := interned.toArray }
  heap := heap
  slotsUsed := slotsUsed
  threads := #[{ frames := .invoking theMethod args0 :: below }]
def below0 : List Frame := [.native { method := ⟨0, 0⟩, args := #[] }]
def about1 : State := aboutOver below0
def p0 : Program := .bare "" "" ""
def e0 : Env := launch0.env 0 0 0
theorem w_frames : about1.frames = Frame.invoking theMethod args0 :: below0 := rfl
set_option maxRecDepth 65536 in
theorem w_args : argsFit about1.vm theMethod args0 = true := by decide +kernel
set_option maxRecDepth 65536 in
theorem w_heap : heapFits about1 = true := by decide +kernel
set_option maxRecDepth 65536 in
theorem w_runnable : about1.curStatus? = some .runnable := by decide +kernel
set_option maxRecDepth 65536 in
theorem w_alone : about1.alone = true := by decide +kernel
set_option maxRecDepth 65536 in
theorem w_named : about1.methodNamed? x = some theMethod := by decide +kernel
set_option maxRecDepth 65536 in
theorem w_hears : about1.hears theMethod below0 = true := by decide +kernel
set_option maxRecDepth 65536 in
theorem w_ripe : about1.ripe theMethod args0 below0 = true := by decide +kernel
theorem w_running : about1.status = .running := rfl
set_option maxRecDepth 65536 in
theorem w_room : about1.hasRoom e0.platform room_1 = true :=
  launch0.hasRoom_least _ room_1 (by decide +kernel) (by decide +kernel) (by decide +kernel) (by decide +kernel) (by decide +kernel) (by decide +kernel)
theorem allAtoms_all (ts : List Jvm.Cond) (a : Array Jvm.Value) (st : Jvm.State) : (allAtoms ts).before a st = ts.all (fun c => c.before a st) := by
  induction ts with
  | nil => rfl
  | cons c t ih =>
    show (Jvm.Cond.and c (allAtoms t)).before a st = _
    rw [Jvm.Cond.before_and, ih, List.all_cons]
def words1 : List Jvm.Cond := Jvm.Cond.code x code maxLocals ret :: tables_1
/-- a 'code' word, met by the world's own term for the bytes: nothing is compared byte by byte -/
theorem code_word {y : MethodName} {bytes : ByteArray} {mx : Nat} {rt : Option FieldType} {a : Array Value} {s : State} {m : MethodId} {meth : Method} {c : Code} (h1 : s.methodNamed? y = some m) (h2 : s.vm.method? m = some meth) (h3 : meth.code = some c) (h4 : c.code = bytes)
    (h5 : (c.maxLocals == mx && c.exceptionTable.isEmpty && decide (c.maxStack ≤ mostOperands) && decide (meth.sig.returnType = rt) && !meth.locks && decide (parseMethodDescriptor y.desc = some meth.sig)) = true) : (Jvm.Cond.code y bytes mx rt).before a s = true := by
  simp only [Bool.and_eq_true, beq_iff_eq, Bool.not_eq_true', decide_eq_true_eq] at h5
  obtain ⟨⟨⟨⟨⟨g1, g2⟩, g3⟩, g4⟩, g5⟩, g6⟩ := h5
  simp [Cond.before, Cond.holds, Cond.value, h1, h2, h3, h4, g1, g2, g3, g4, g5, g6]
def isCode : Jvm.Cond → Bool
  | .code _ _ _ _ => true
  | _ => false
theorem all_split {L : List Jvm.Cond} {P : Jvm.Cond → Bool} (h1 : L.all (fun c => isCode c || P c) = true) (h2 : ∀ c ∈ L.filter isCode, P c = true) : L.all P = true := by
  refine List.all_eq_true.mpr fun c hc => ?_
  have h := List.all_eq_true.mp h1 c hc
  rcases Bool.eq_false_or_eq_true (isCode c) with hi | hi
  · exact h2 c (List.mem_filter.mpr ⟨hc, hi⟩)
  · simpa [hi] using h
set_option maxRecDepth 65536 in
theorem w_c0 : (Jvm.Cond.code x code maxLocals ret).before args0 about1 = true := code_word (m := ⟨1, 1⟩) (meth := k1m1) (c := k1c1) (by decide +kernel) rfl rfl rfl (by decide +kernel)
set_option maxRecDepth 65536 in
theorem w_c1 : (Jvm.Cond.code ({ cls := "com/example/sluice/sluice/FieldSetContainsAllPinLaw", name := "pick", desc := "(IIII)I" } : Jvm.MethodName) method_3_code (5 : Nat) (Option.some Jvm.ClassFile.FieldType.int)).before args0 about1 = true := code_word (m := ⟨1, 2⟩) (meth := k1m2) (c := k1c2) (by decide +kernel) rfl rfl rfl (by decide +kernel)
set_option maxRecDepth 65536 in
theorem w_c2 : (Jvm.Cond.code ({ cls := "com/example/sluice/sluice/FieldSet", name := "<init>", desc := "(I)V" } : Jvm.MethodName) prog_7_method_1_code (2 : Nat) (Option.none : Option Jvm.ClassFile.FieldType)).before args0 about1 = true := code_word (m := ⟨2, 0⟩) (meth := k2m0) (c := k2c0) (by decide +kernel) rfl rfl rfl (by decide +kernel)
set_option maxRecDepth 65536 in
theorem w_c3 : (Jvm.Cond.code ({ cls := "java/lang/Object", name := "<init>", desc := "()V" } : Jvm.MethodName) object_method_1_code (1 : Nat) (Option.none : Option Jvm.ClassFile.FieldType)).before args0 about1 = true := code_word (m := ⟨0, 0⟩) (meth := k0m0) (c := k0c0) (by decide +kernel) rfl rfl rfl (by decide +kernel)
set_option maxRecDepth 65536 in
theorem w_c4 : (Jvm.Cond.code ({ cls := "com/example/sluice/sluice/FieldSet", name := "add", desc := "(I)V" } : Jvm.MethodName) prog_7_method_3_code (2 : Nat) (Option.none : Option Jvm.ClassFile.FieldType)).before args0 about1 = true := code_word (m := ⟨2, 1⟩) (meth := k2m1) (c := k2c1) (by decide +kernel) rfl rfl rfl (by decide +kernel)
set_option maxRecDepth 65536 in
theorem w_c5 : (Jvm.Cond.code ({ cls := "com/example/sluice/sluice/FieldSet", name := "containsAll", desc := "(Lcom/example/sluice/sluice/FieldSet;)Z" } : Jvm.MethodName) prog_7_method_5_code (4 : Nat) (Option.some Jvm.ClassFile.FieldType.boolean)).before args0 about1 = true := code_word (m := ⟨2, 2⟩) (meth := k2m2) (c := k2c2) (by decide +kernel) rfl rfl rfl (by decide +kernel)
def codes1 : List Jvm.Cond := [Jvm.Cond.code x code maxLocals ret, Jvm.Cond.code ({ cls := "com/example/sluice/sluice/FieldSetContainsAllPinLaw", name := "pick", desc := "(IIII)I" } : Jvm.MethodName) method_3_code (5 : Nat) (Option.some Jvm.ClassFile.FieldType.int), Jvm.Cond.code ({ cls := "com/example/sluice/sluice/FieldSet", name := "<init>", desc := "(I)V" } : Jvm.MethodName) prog_7_method_1_code (2 : Nat) (Option.none : Option Jvm.ClassFile.FieldType), Jvm.Cond.code ({ cls := "java/lang/Object", name := "<init>", desc := "()V" } : Jvm.MethodName) object_method_1_code (1 : Nat) (Option.none : Option Jvm.ClassFile.FieldType), Jvm.Cond.code ({ cls := "com/example/sluice/sluice/FieldSet", name := "add", desc := "(I)V" } : Jvm.MethodName) prog_7_method_3_code (2 : Nat) (Option.none : Option Jvm.ClassFile.FieldType), Jvm.Cond.code ({ cls := "com/example/sluice/sluice/FieldSet", name := "containsAll", desc := "(Lcom/example/sluice/sluice/FieldSet;)Z" } : Jvm.MethodName) prog_7_method_5_code (4 : Nat) (Option.some Jvm.ClassFile.FieldType.boolean)]
set_option maxRecDepth 65536 in
theorem codes_eq : words1.filter isCode = codes1 := rfl
theorem w_codes : ∀ c ∈ words1.filter isCode, c.before args0 about1 = true := by
  rw [codes_eq]
  intro c hc
  simp only [codes1, List.mem_cons, List.not_mem_nil, or_false] at hc
  rcases hc with rfl | rfl | rfl | rfl | rfl | rfl
  · exact w_c0
  · exact w_c1
  · exact w_c2
  · exact w_c3
  · exact w_c4
  · exact w_c5
set_option maxRecDepth 65536 in
theorem w_t1 : (words1.take 24).all (fun c => isCode c || c.before args0 about1) = true := by decide +kernel
set_option maxRecDepth 65536 in
theorem w_t2 : (words1.drop 24).all (fun c => isCode c || c.before args0 about1) = true := by decide +kernel
theorem w_tables : (allAtoms (Jvm.Cond.code x code maxLocals ret :: tables_1)).before args0 about1 = true := by
  rw [allAtoms_all]
  show words1.all (fun c => c.before args0 about1) = true
  refine all_split ?_ w_codes
  rw [← List.take_append_drop 24 words1, List.all_append, w_t1, w_t2]
  rfl
set_option maxRecDepth 65536 in
theorem w_case : (Jvm.Cond.and given_1 narrow_1).before args0 about1 = true := by decide +kernel
theorem w_applies : (headSpec (Jvm.Cond.code x code maxLocals ret :: tables_1) room_1).applies x e0.platform about1 = true :=
  (Spec.applies_iff w_frames).mpr ⟨w_running, w_runnable, w_alone, w_named, w_hears, w_ripe, w_room, w_tables⟩
theorem atStart : AtStart classFile x code maxLocals ret World_1 tables_1 room_1 Calls_1 rest_1 Pre_1 launch0 p0 e0 about1 theMethod args0 below0 :=
  ⟨lists_1, trivial, launch0.admits_env _ _ _, launch0.least_env, fairChoices_fair.cas, fairChoices_fair.clock, w_frames, w_args, w_heap, w_applies, trivial, trivial, w_case⟩
end start1
theorem witness_1 : WitnessClaimed_1 := ⟨start1.p0, start1.e0, start1.about1, start1.theMethod, start1.args0, start1.below0, start1.atStart⟩
end Jvm.Pilot.@@N@@
