import JvmDerived
import JvmDerived.Pilot.@@N@@Statement
import JvmDerived.Pilot.@@N@@Code
set_option linter.unusedVariables false
set_option linter.unusedSimpArgs false
namespace Jvm.Pilot.@@N@@
open Jvm Jvm.ClassFile Sem Op Lib Jvm.Free Jvm.Stand Jvm.LawKit Jvm.RoadKit Bundle Jvm.Pilot.@@N@@.Jvm.D
section OwnKit
variable {p : Program} {l : Launch} {e : Env} {R : Room} {s : State} {m : MethodId} {args : Array Value} {below : List Frame} {meth : Method} {c : Code} {T : State} {locs : List Loc} {cells slots : Nat} {Z : State} {a0 : Array Value} {h : Heap}
/-- from the state U on the run comes to an end of which Q holds -/
def own_Go (p : Program) (e : Env) (below : List Frame) (Q : Outcome → State → Prop) (U : State) : Prop :=
  ∃ u o, Steps p.tables e below U u ∧ u.status = .running ∧ Ended u below o ∧ Q o u
theorem own_st {Q : Outcome → State → Prop} {U V : State} (k : ∀ t, Steps p.tables e below V t → Steps p.tables e below U t) (q : own_Go p e below Q V) : own_Go p e below Q U := by
  obtain ⟨u, o, h1, h2⟩ := q
  exact ⟨u, o, k _ h1, h2⟩
theorem own_tr {Q : Outcome → State → Prop} {U V : State} (k : Steps p.tables e below U V) (q : own_Go p e below Q V) : own_Go p e below Q U := by
  obtain ⟨u, o, h1, h2⟩ := q
  exact ⟨u, o, k.trans h1, h2⟩
/-- what a body leaves, said of its end -/
abbrev own_Post (s : State) (Qc : Option Value → Heap → List Loc → Prop) (k n : Nat) : Outcome → State → Prop := fun o u => ∃ v L, o = .returned v ∧ Qc v u.heap L ∧ FrameEnd s o u L k n
theorem own_body {y : MethodName} {bytes : ByteArray} {maxL : Nat} {ret : Option FieldType} {ws : List Jvm.Cond} {rm : Room} {as' : Array Value} {h0 : Heap} {Qc : Option Value → Heap → List Loc → Prop} {k n : Nat} (hpl : plainFor y = true)
    (body : ∀ (p : Program) (e : Env) (s : State) (m : MethodId) (below : List Frame) (meth : Method) (c : Code) (s₁ : State), Stand p l e rm s m as' below meth c s₁ [] 0 0 → p.tables.exec = Jvm.exec → Z.Warmed39 s.vm → c.code = bytes → c.maxLocals = maxL → s.vm.findClass y.cls = some m.cls →
      meth.sig.returnType = ret → meth.locks = false → meth.name = y.name → s₁.heap = h0 → own_Go p e below (own_Post s Qc k n) (s₁.setTop (entryFrame m as' maxL))) :
    MetFree l y (head1 (Jvm.Cond.code y bytes maxL ret :: ws) rm) (fun a U => a = as' ∧ Z.Warmed39 U.vm ∧ U.heap = h0) (fun _ _ _ _ _ => True) (fun _ U o U' => own_Post U Qc k n o U') := by
  refine MetFree.of_bodySF hpl hisR ?_
  intro p e s m args below meth c s₁ Bd hml0 hP hK
  obtain ⟨rfl, hZ, hh⟩ := hP
  exact body p e s m below meth c s₁ (Stand.of_body Bd) Bd.exec hZ Bd.bytes hml0 (findClass_of_methodNamed Bd.named) Bd.returns Bd.notSynchronized (name_of_methodNamed Bd.named Bd.method).1 (by rw [← hh, Bd.state]; rfl)
theorem own_end {Qc : Option Value → Heap → List Loc → Prop} {k n : Nat} {v : Option Value} (X : Stand p l e R s m args below meth c T locs cells slots) (hlk : meth.locks = false) (hv : meth.sig.returnType = none → v = none) {g : JFrame}
    (hst : ∀ fs, (∀ (f : JFrame) (acts : List Action), f.method = m → f.locked = none → f.entered = [] → (doReturn e (T.setTop f) acts v).1 = T.setFrames fs) → Steps p.tables e below (T.setTop g) (T.setFrames fs))
    (hQ : Qc v T.heap locs) (hk : cells ≤ k) (hn : slots ≤ n) : own_Go p e below (own_Post s Qc k n) (T.setTop g) := by
  obtain ⟨fs, hr, hrun, hended, hW, hsame⟩ := X.leave (v := v) hv hlk
  exact ⟨_, _, hst fs hr, hrun, hended, _, _, rfl, hQ, ⟨_, rfl⟩, hW, hsame.mono hk hn⟩
theorem own_retI {Qc : Option Value → Heap → List Loc → Prop} {k n : Nat} (X : Stand p l e R s m args below meth c T locs cells slots) (hx : p.tables.exec = Jvm.exec) (hlk : meth.locks = false) (hret : meth.sig.returnType = some .int) {pc : Nat} {Ls : Array Slot} {z : Int32} {rest : List Value}
    (hd : decode c.code pc = .ok (.ireturn, 1)) (hQ : Qc (some (.int z)) T.heap locs) (hk : cells ≤ k) (hn : slots ≤ n) : own_Go p e below (own_Post s Qc k n) (T.setTop (mkF m pc Ls (.int z :: rest))) :=
  own_end X hlk (fun q => by rw [hret] at q; cases q) (fun fs hr => retOut X hx hret (w := .int z) (t := .int) rfl (Or.inl ⟨rfl, Or.inl rfl, z, rfl⟩) hd hr) hQ hk hn
theorem own_retZ {Qc : Option Value → Heap → List Loc → Prop} {k n : Nat} (X : Stand p l e R s m args below meth c T locs cells slots) (hx : p.tables.exec = Jvm.exec) (hlk : meth.locks = false) (hret : meth.sig.returnType = some .boolean) {pc : Nat} {Ls : Array Slot} {z : Int32} {rest : List Value}
    (hz : narrow .boolean (.int z) = .int z) (hd : decode c.code pc = .ok (.ireturn, 1)) (hQ : Qc (some (.int z)) T.heap locs) (hk : cells ≤ k) (hn : slots ≤ n) : own_Go p e below (own_Post s Qc k n) (T.setTop (mkF m pc Ls (.int z :: rest))) :=
  own_end X hlk (fun q => by rw [hret] at q; cases q) (fun fs hr => retOut X hx hret (w := .int z) (t := .boolean) hz (Or.inl ⟨rfl, Or.inr (Or.inl rfl), z, rfl⟩) hd hr) hQ hk hn
theorem own_retJ {Qc : Option Value → Heap → List Loc → Prop} {k n : Nat} (X : Stand p l e R s m args below meth c T locs cells slots) (hx : p.tables.exec = Jvm.exec) (hlk : meth.locks = false) (hret : meth.sig.returnType = some .long) {pc : Nat} {Ls : Array Slot} {z : Int64} {rest : List Value}
    (hd : decode c.code pc = .ok (.lreturn, 1)) (hQ : Qc (some (.long z)) T.heap locs) (hk : cells ≤ k) (hn : slots ≤ n) : own_Go p e below (own_Post s Qc k n) (T.setTop (mkF m pc Ls (.long z :: rest))) :=
  own_end X hlk (fun q => by rw [hret] at q; cases q) (fun fs hr => retOut X hx hret (w := .long z) (t := .long) rfl (Or.inr (Or.inl ⟨rfl, rfl, z, rfl⟩)) hd hr) hQ hk hn
theorem own_retA {Qc : Option Value → Heap → List Loc → Prop} {k n : Nat} (X : Stand p l e R s m args below meth c T locs cells slots) (hx : p.tables.exec = Jvm.exec) (hlk : meth.locks = false) {t : FieldType} (hret : meth.sig.returnType = some t) (ht : t.isReference = true) {pc : Nat} {Ls : Array Slot} {w : Value} (hw : w.isRef = true)
    (hd : decode c.code pc = .ok (.areturn, 1)) (hQ : Qc (some w) T.heap locs) (hk : cells ≤ k) (hn : slots ≤ n) : own_Go p e below (own_Post s Qc k n) (T.setTop (mkF m pc Ls [w])) :=
  own_end X hlk (fun q => by rw [hret] at q; cases q) (fun fs hr => X.areturnOut hx hw hret ht hd hr) hQ hk hn
theorem own_retV {Qc : Option Value → Heap → List Loc → Prop} {k n : Nat} (X : Stand p l e R s m args below meth c T locs cells slots) (hx : p.tables.exec = Jvm.exec) (hlk : meth.locks = false) (hret : meth.sig.returnType = none) {pc : Nat} {Ls : Array Slot}
    (hd : decode c.code pc = .ok (.return_, 1)) (hQ : Qc none T.heap locs) (hk : cells ≤ k) (hn : slots ≤ n) : own_Go p e below (own_Post s Qc k n) (T.setTop (mkF m pc Ls [])) :=
  own_end X hlk (fun _ => rfl) (fun fs hr => X.returnOut hx hret hd hr) hQ hk hn
/-- a callee's contract, as own_body proves it and the three calls below spend it -/
abbrev own_Met (l : Launch) (Z : State) (y : MethodName) (bytes : ByteArray) (maxL : Nat) (ret : Option FieldType) (rm : Room) (as' : Array Value) (h0 : Heap) (Qc : Option Value → Heap → List Loc → Prop) : Prop :=
  MetFree l y (head1 [Jvm.Cond.code y bytes maxL ret] rm) (fun a U => a = as' ∧ Z.Warmed39 U.vm ∧ U.heap = h0) (fun _ _ _ _ _ => True) (fun _ U o U' => own_Post U Qc rm.cells rm.slots o U')
theorem own_callS (X : Stand p l e R s m args below meth c T locs cells slots) (hx : p.tables.exec = Jvm.exec) (hZ : Z.Warmed39 s.vm) {own : String} {index : Nat} {y : MethodName} {bytes : ByteArray} {maxL : Nat} {ret : Option FieldType} {rm : Room} {Qc : Option Value → Heap → List Loc → Prop} {argsL rest : List Value} {ps : List FieldType} {W : Nat} {g : JFrame}
    (hM : own_Met l Z y bytes maxL ret rm argsL.toArray h Qc) (hown : s.vm.findClass own = some m.cls) (w1 : (Jvm.Cond.methodLink own index y).before a0 Z = true) (w2 : (Jvm.Cond.static y).before a0 Z = true) (w3 : (Jvm.Cond.initialized y.cls).before a0 Z = true) (w4 : (Jvm.Cond.code y bytes maxL ret).before a0 Z = true)
    (hy : y.cls ≠ "java/lang/invoke/MethodHandle" ∧ y.cls ≠ "java/lang/invoke/VarHandle") (eT : T.heap = h) (hg : g.method = m) (hsize : g.locals.size = c.maxLocals) (hdesc : parseMethodDescriptor y.desc = some ⟨ps, ret⟩) (hlen : argsL.length = ps.length) (hstack : g.stack = argsL.reverse ++ rest)
    (hW : 2 * g.monitorRoom + (rest.map fun v => v.category).sum ≤ W) (hdg : decode c.code g.pc = .ok (.invokestatic index, 3)) (hf : rm.frames + 1 ≤ R.frames) (hl : W + (maxL + 11) + rm.locals ≤ R.locals) (hc : cells + rm.cells ≤ R.cells) (hs : slots + rm.slots ≤ R.slots) :
    ∃ v T' L, Stand p l e R s m args below meth c T' (locs ++ L) (cells + rm.cells) (slots + rm.slots) ∧ Qc v T'.heap L ∧ ∀ target, Steps p.tables e below (T'.setTop { g with pc := g.pc + 3, stack := v.toList ++ rest }) target → Steps p.tables e below (T.setTop g) target := by
  obtain ⟨v, _, ⟨T1, L1, k1, n1⟩, -, X1, ⟨L, hQ, q1, q2, q3⟩, st⟩ := Jvm.LawKit.callS X hx (y := y) hown (mvT hZ w1) (mvT hZ w2) (mvT hZ w3) (mvT hZ w4) hy (backOf (W := W) hM hZ w4 w3 hf hl) (g := g) hg hsize (lenOf hdesc hlen) hstack hW hdg (fun _ _ => ⟨rfl, eT, hc, hs⟩)
  dsimp only [Pt.U, Pt.locs, Pt.cells, Pt.slots] at X1 q1 q2 q3 st hQ
  subst q1 q2 q3
  exact ⟨v, T1, L, X1, hQ, st⟩
theorem own_callI (X : Stand p l e R s m args below meth c T locs cells slots) (hx : p.tables.exec = Jvm.exec) (hZ : Z.Warmed39 s.vm) {own : String} {index : Nat} {y : MethodName} {bytes : ByteArray} {maxL : Nat} {rm : Room} {Qc : Option Value → Heap → List Loc → Prop} {a : Addr} {argsL rest : List Value} {ps : List FieldType} {W : Nat} {g : JFrame}
    (hM : own_Met l Z y bytes maxL none rm (.ref a :: argsL).toArray h Qc) (hn : y.name = "<init>") (hown : s.vm.findClass own = some m.cls) (w1 : (Jvm.Cond.methodLink own index y).before a0 Z = true) (w2 : (Jvm.Cond.instanceMethod y).before a0 Z = true) (w3 : (Jvm.Cond.initialized y.cls).before a0 Z = true) (w4 : (Jvm.Cond.code y bytes maxL none).before a0 Z = true)
    (hy : y.cls ≠ "java/lang/invoke/MethodHandle" ∧ y.cls ≠ "java/lang/invoke/VarHandle") (eT : T.heap = h) (hg : g.method = m) (hsize : g.locals.size = c.maxLocals) (hdesc : parseMethodDescriptor y.desc = some ⟨ps, none⟩) (hlen : argsL.length = ps.length) (hstack : g.stack = argsL.reverse ++ .ref a :: rest)
    (hW : 2 * g.monitorRoom + (rest.map fun v => v.category).sum ≤ W) (hdg : decode c.code g.pc = .ok (.invokespecial index, 3)) (hf : rm.frames + 1 ≤ R.frames) (hl : W + (maxL + 11) + rm.locals ≤ R.locals) (hc : cells + rm.cells ≤ R.cells) (hs : slots + rm.slots ≤ R.slots) :
    ∃ v T' L, Stand p l e R s m args below meth c T' (locs ++ L) (cells + rm.cells) (slots + rm.slots) ∧ Qc v T'.heap L ∧ ∀ target, Steps p.tables e below (T'.setTop { g with pc := g.pc + 3, stack := v.toList ++ rest }) target → Steps p.tables e below (T.setTop g) target := by
  obtain ⟨v, _, ⟨T1, L1, k1, n1⟩, -, X1, ⟨L, hQ, q1, q2, q3⟩, st⟩ := X.specialBack hx (y := y) hn hown (mvT hZ w1) (mvT hZ w2) (mvT hZ w4) hy (backOf (W := W) hM hZ w4 w3 hf hl) (g := g) hg hsize (Steps.refl _) (a := a) (lenOf hdesc hlen) hstack hW hdg (fun _ _ => ⟨rfl, eT, hc, hs⟩)
  dsimp only [Pt.U, Pt.locs, Pt.cells, Pt.slots] at X1 q1 q2 q3 st hQ
  subst q1 q2 q3
  exact ⟨v, T1, L, X1, hQ, fun _ q => st.trans q⟩
theorem own_callV (X : Stand p l e R s m args below meth c T locs cells slots) (hx : p.tables.exec = Jvm.exec) (hZ : Z.Warmed39 s.vm) {own : String} {index : Nat} {y : MethodName} {bytes : ByteArray} {maxL : Nat} {ret : Option FieldType} {rm : Room} {Qc : Option Value → Heap → List Loc → Prop} {a : Addr} {argsL rest : List Value} {ps : List FieldType} {W : Nat} {g : JFrame}
    (hM : own_Met l Z y bytes maxL ret rm (.ref a :: argsL).toArray h Qc) (E : Exa Z h a y.cls) (hown : s.vm.findClass own = some m.cls) (w1 : (Jvm.Cond.methodLink own index y).before a0 Z = true) (w2 : (Jvm.Cond.declares y).before a0 Z = true) (w3 : (Jvm.Cond.selects y.cls y y).before a0 Z = true) (w4 : (Jvm.Cond.instanceMethod y).before a0 Z = true) (w5 : (Jvm.Cond.initialized y.cls).before a0 Z = true) (w6 : (Jvm.Cond.code y bytes maxL ret).before a0 Z = true)
    (hy : y.cls ≠ "java/lang/invoke/MethodHandle" ∧ y.cls ≠ "java/lang/invoke/VarHandle") (eT : T.heap = h) (hg : g.method = m) (hsize : g.locals.size = c.maxLocals) (hdesc : parseMethodDescriptor y.desc = some ⟨ps, ret⟩) (hlen : argsL.length = ps.length) (hstack : g.stack = argsL.reverse ++ .ref a :: rest)
    (hW : 2 * g.monitorRoom + (rest.map fun v => v.category).sum ≤ W) (hdg : decode c.code g.pc = .ok (.invokevirtual index, 3)) (hf : rm.frames + 1 ≤ R.frames) (hl : W + (maxL + 11) + rm.locals ≤ R.locals) (hc : cells + rm.cells ≤ R.cells) (hs : slots + rm.slots ≤ R.slots) :
    ∃ v T' L, Stand p l e R s m args below meth c T' (locs ++ L) (cells + rm.cells) (slots + rm.slots) ∧ Qc v T'.heap L ∧ ∀ target, Steps p.tables e below (T'.setTop { g with pc := g.pc + 3, stack := v.toList ++ rest }) target → Steps p.tables e below (T.setTop g) target := by
  obtain ⟨cq, kq, qa, qb, qc⟩ := isOf hZ eT E
  obtain ⟨v, _, ⟨T1, L1, k1, n1⟩, -, X1, ⟨L, hQ, q1, q2, q3⟩, st⟩ := X.virtualBack hx (y := y) (z := y) hown (mvT hZ w1) (mvT hZ w2) (notFace_of_selects (args := #[]) (mvT hZ w3)) (mvT hZ w3) (mvT hZ w4) hy (backOf (W := W) hM hZ w6 w5 hf hl) qa qc (g := g) hg hsize (Steps.refl _) (lenOf hdesc hlen) hstack hW hdg (fun _ _ => ⟨rfl, eT, hc, hs⟩)
  dsimp only [Pt.U, Pt.locs, Pt.cells, Pt.slots] at X1 q1 q2 q3 st hQ
  subst q1 q2 q3
  exact ⟨v, T1, L, X1, hQ, fun _ q => st.trans q⟩
/-- what a body that writes nothing leaves -/
abbrev own_P (v : Option Value) (h : Heap) : Option Value → Heap → List Loc → Prop := fun w h' L => w = v ∧ L = [] ∧ h' = h
theorem own_flat (X : Stand p l e R s m args below meth c T (locs ++ []) (cells + 0) (slots + 0)) : Stand p l e R s m args below meth c T locs cells slots := by
  rw [List.append_nil] at X
  exact X
def own_c32 : ClassFile.Cond → Int32 → Int32 → Bool
  | .lt, x, y => decide (x < y)
  | .ge, x, y => !decide (x < y)
  | .gt, x, y => decide (y < x)
  | .le, x, y => !decide (y < x)
  | .eq, x, y => decide (x = y)
  | .ne, x, y => !decide (x = y)
def own_c64 : ClassFile.Cond → Int64 → Int64 → Bool
  | .lt, x, y => decide (x < y)
  | .ge, x, y => !decide (x < y)
  | .gt, x, y => decide (y < x)
  | .le, x, y => !decide (y < x)
  | .eq, x, y => decide (x = y)
  | .ne, x, y => !decide (x = y)
theorem own_yes {P : Prop} [Decidable P] (q : P) : decide P = true := decide_eq_true q
theorem own_no {P : Prop} [Decidable P] (q : ¬ P) : decide P = false := decide_eq_false q
theorem own_nyes {P : Prop} [Decidable P] (q : P) : (!decide P) = false := by rw [decide_eq_true q]; rfl
theorem own_nno {P : Prop} [Decidable P] (q : ¬ P) : (!decide P) = true := by rw [decide_eq_false q]; rfl
theorem own_i2 (cd : ClassFile.Cond) (x y : Int32) : if_icmp.holds cd x y = own_c32 cd x y := by
  cases cd
  case lt => by_cases q : x < y; · exact (tlt q).1.trans (own_yes q).symm
             · exact (flt q).1.trans (own_no q).symm
  case ge => by_cases q : x < y; · exact (tlt q).2.1.trans (own_nyes q).symm
             · exact (flt q).2.1.trans (own_nno q).symm
  case gt => by_cases q : y < x; · exact (tlt q).2.2.1.trans (own_yes q).symm
             · exact (flt q).2.2.1.trans (own_no q).symm
  case le => by_cases q : y < x; · exact (tlt q).2.2.2.trans (own_nyes q).symm
             · exact (flt q).2.2.2.trans (own_nno q).symm
  case eq => by_cases q : x = y; · exact (teq q).1.trans (own_yes q).symm
             · exact (feq q).1.trans (own_no q).symm
  case ne => by_cases q : x = y; · exact (teq q).2.trans (own_nyes q).symm
             · exact (feq q).2.trans (own_nno q).symm
theorem own_i0 (cd : ClassFile.Cond) (x : Int32) : ifCond.holds cd x = own_c32 cd x 0 := (if0 cd x).trans (own_i2 cd x 0)
theorem own_l0 (cd : ClassFile.Cond) (x y : Int64) : ifCond.holds cd (lcmpW x y) = own_c64 cd x y := by
  rw [own_i0]
  have q1 := lw_lt x y
  have q2 := lw_gt x y
  have q3 := lw_eq x y
  cases cd <;> simp only [own_c32, own_c64, q1, q2, q3]
theorem own_ldI {a : Addr} {k : ClassId} {z j : Int32} {vs : List Value} {dv : Value} (F : Arv Z h a k .int z vs dv) (q : ¬ j < 0 ∧ j < z) : ∃ (cl : Cell) (v : Int32), Arr Z h a cl .int ∧ ¬ (j < 0 ∨ cl.slots.size ≤ j.toNatClampNeg) ∧ cl.slots[j.toNatClampNeg]? = some (.int v) := by
  obtain ⟨cl, A, -, S, M, H, G⟩ := F
  have hin := inb_of S q
  have hlt : j.toNatClampNeg < cl.slots.size := Nat.lt_of_not_le fun y => hin (Or.inr y)
  obtain ⟨v, hv⟩ := fit_I (G _ hlt) (Or.inl rfl)
  exact ⟨cl, v, A, hin, by rw [H _ hlt, hv]⟩
theorem own_len {a : Addr} {k : ClassId} {ty : FieldType} {z : Int32} {vs : List Value} {dv : Value} (F : Arv Z h a k ty z vs dv) : ∃ cl : Cell, Arr Z h a cl ty ∧ cl.slots.size = z.toNatClampNeg ∧ ¬ z < 0 := by
  obtain ⟨cl, A, -, S, M, -, -⟩ := F
  exact ⟨cl, A, S, M⟩
theorem own_at {a : Addr} {k : ClassId} {ty : FieldType} {z j : Int32} {vs : List Value} {dv : Value} (F : Arv Z h a k ty z vs dv) (q : ¬ j < 0 ∧ j < z) {i : Nat} (hj : j.toNatClampNeg = i) {v : Value} (hv : vs.getD i dv = v) : ∃ cl : Cell, Arr Z h a cl ty ∧ ¬ (j < 0 ∨ cl.slots.size ≤ j.toNatClampNeg) ∧ cl.slots[j.toNatClampNeg]? = some v := by
  obtain ⟨cl, A, -, S, M, H, -⟩ := F
  have hin := inb_of S q
  have hlt : j.toNatClampNeg < cl.slots.size := Nat.lt_of_not_le fun y => hin (Or.inr y)
  refine ⟨cl, A, hin, ?_⟩
  rw [H _ hlt, hj, hv]
end OwnKit

theorem pd_0 : parseMethodDescriptor "(I)Z" = some ⟨[.int], some .boolean⟩ := by decide +kernel
def own_a_58 (p0 : Int32) : Int32 := (0 : Int32)
def own_a_54 (p0 : Int32) : Int32 := (1 : Int32)
def own_a_42 (p0 : Int32) : Int32 := (if p0 < (65536 : Int32) then (own_a_58 p0) else (if (1114111 : Int32) < p0 then (own_a_58 p0) else (own_a_54 p0)))
def own_a_30 (p0 : Int32) : Int32 := (if p0 < (57344 : Int32) then (own_a_42 p0) else (if (65533 : Int32) < p0 then (own_a_42 p0) else (own_a_54 p0)))
def own_a_0 (p0 : Int32) : Int32 := (if p0 = (9 : Int32) then (own_a_54 p0) else (if p0 = (10 : Int32) then (own_a_54 p0) else (if p0 = (13 : Int32) then (own_a_54 p0) else (if p0 < (32 : Int32) then (own_a_30 p0) else (if (55295 : Int32) < p0 then (own_a_30 p0) else (own_a_54 p0))))))
theorem d1_0 : decode prog_34_method_2_code 0 = .ok (.iload_n 0, 1) := by decide +kernel
theorem d1_1 : decode prog_34_method_2_code 1 = .ok (.bipush 9, 2) := by decide +kernel
theorem d1_3 : decode prog_34_method_2_code 3 = .ok (.if_icmp .eq 51, 3) := by decide +kernel
theorem d1_6 : decode prog_34_method_2_code 6 = .ok (.iload_n 0, 1) := by decide +kernel
theorem d1_7 : decode prog_34_method_2_code 7 = .ok (.bipush 10, 2) := by decide +kernel
theorem d1_9 : decode prog_34_method_2_code 9 = .ok (.if_icmp .eq 45, 3) := by decide +kernel
theorem d1_12 : decode prog_34_method_2_code 12 = .ok (.iload_n 0, 1) := by decide +kernel
theorem d1_13 : decode prog_34_method_2_code 13 = .ok (.bipush 13, 2) := by decide +kernel
theorem d1_15 : decode prog_34_method_2_code 15 = .ok (.if_icmp .eq 39, 3) := by decide +kernel
theorem d1_18 : decode prog_34_method_2_code 18 = .ok (.iload_n 0, 1) := by decide +kernel
theorem d1_19 : decode prog_34_method_2_code 19 = .ok (.bipush 32, 2) := by decide +kernel
theorem d1_21 : decode prog_34_method_2_code 21 = .ok (.if_icmp .lt 9, 3) := by decide +kernel
theorem d1_24 : decode prog_34_method_2_code 24 = .ok (.iload_n 0, 1) := by decide +kernel
theorem d1_25 : decode prog_34_method_2_code 25 = .ok (.ldc 7, 2) := by decide +kernel
theorem d1_27 : decode prog_34_method_2_code 27 = .ok (.if_icmp .le 27, 3) := by decide +kernel
theorem d1_30 : decode prog_34_method_2_code 30 = .ok (.iload_n 0, 1) := by decide +kernel
theorem d1_31 : decode prog_34_method_2_code 31 = .ok (.ldc 8, 2) := by decide +kernel
theorem d1_33 : decode prog_34_method_2_code 33 = .ok (.if_icmp .lt 9, 3) := by decide +kernel
theorem d1_36 : decode prog_34_method_2_code 36 = .ok (.iload_n 0, 1) := by decide +kernel
theorem d1_37 : decode prog_34_method_2_code 37 = .ok (.ldc 9, 2) := by decide +kernel
theorem d1_39 : decode prog_34_method_2_code 39 = .ok (.if_icmp .le 15, 3) := by decide +kernel
theorem d1_42 : decode prog_34_method_2_code 42 = .ok (.iload_n 0, 1) := by decide +kernel
theorem d1_43 : decode prog_34_method_2_code 43 = .ok (.ldc 10, 2) := by decide +kernel
theorem d1_45 : decode prog_34_method_2_code 45 = .ok (.if_icmp .lt 13, 3) := by decide +kernel
theorem d1_48 : decode prog_34_method_2_code 48 = .ok (.iload_n 0, 1) := by decide +kernel
theorem d1_49 : decode prog_34_method_2_code 49 = .ok (.ldc 11, 2) := by decide +kernel
theorem d1_51 : decode prog_34_method_2_code 51 = .ok (.if_icmp .gt 7, 3) := by decide +kernel
theorem d1_54 : decode prog_34_method_2_code 54 = .ok (.iconst 1, 1) := by decide +kernel
theorem d1_55 : decode prog_34_method_2_code 55 = .ok (.goto 4, 3) := by decide +kernel
theorem d1_58 : decode prog_34_method_2_code 58 = .ok (.iconst 0, 1) := by decide +kernel
theorem d1_59 : decode prog_34_method_2_code 59 = .ok (.ireturn, 1) := by decide +kernel
theorem pn_1 : plainFor (⟨"com/example/early_sieve/earlysieve/io/XmlCharacters", "isCharacter", "(I)Z"⟩ : MethodName) = true := plainFor_of_name (by first | (simp [plainName, overriddenIn]; done) | decide +kernel)
theorem ef_1 (m : MethodId) (x0 : Int32) : entryFrame m #[(.int x0)] 1 = mkF m 0 #[.val (.int x0)] [] := by first | (simp [entryFrame, mkF, argsToLocals, Value.category]; done) | rfl
set_option maxRecDepth 65536 in
set_option maxHeartbeats 40000000 in
theorem rm1 (l : Launch) (Z : State) (tA : Array Value) (hw : ∀ d ∈ tables_1, d.before tA Z = true) (p0 : Int32) (h0 : Heap) :
    own_Met l Z (⟨"com/example/early_sieve/earlysieve/io/XmlCharacters", "isCharacter", "(I)Z"⟩ : MethodName) prog_34_method_2_code 1 (some .boolean) ({ frames := 0, cells := 0, slots := 0, locals := 0 } : Room) #[(.int p0)] h0 (own_P (some (.int (own_a_0 p0))) h0) := by
  refine own_body pn_1 ?_
  intro p e s m below meth c s₁ X0 hx hZ hby hml hown hret hlk hnm e0
  have B58 : ∀ (T0 : State), Stand p l e ({ frames := 0, cells := 0, slots := 0, locals := 0 } : Room) s m #[(.int p0)] below meth c T0 [] 0 0 → T0.heap = h0 → own_a_58 p0 = own_a_0 p0 → own_Go p e below (own_Post s (own_P (some (.int (own_a_0 p0))) h0) ({ frames := 0, cells := 0, slots := 0, locals := 0 } : Room).cells ({ frames := 0, cells := 0, slots := 0, locals := 0 } : Room).slots) (T0.setTop (mkF m 58 #[.val (.int p0)] [])) := by
    intro T0 X0 e0 hbk
    show own_Go p e below _ (T0.setTop (mkF m 58 #[.val (.int p0)] []))
    refine own_st (fun _ k => XS.iconst X0.here hx rfl (hb hby d1_58) k) ?_
    show own_Go p e below _ (T0.setTop (mkF m 59 #[.val (.int p0)] [(.int (0 : Int32))]))
    exact own_retZ X0 hx hlk hret rfl (hb hby d1_59) ⟨congrArg (fun z => some (Value.int z)) ((show own_a_58 p0 = (0 : Int32) from rfl).symm.trans hbk), rfl, e0⟩ (by decide) (by decide)
  have B54 : ∀ (T0 : State), Stand p l e ({ frames := 0, cells := 0, slots := 0, locals := 0 } : Room) s m #[(.int p0)] below meth c T0 [] 0 0 → T0.heap = h0 → own_a_54 p0 = own_a_0 p0 → own_Go p e below (own_Post s (own_P (some (.int (own_a_0 p0))) h0) ({ frames := 0, cells := 0, slots := 0, locals := 0 } : Room).cells ({ frames := 0, cells := 0, slots := 0, locals := 0 } : Room).slots) (T0.setTop (mkF m 54 #[.val (.int p0)] [])) := by
    intro T0 X0 e0 hbk
    show own_Go p e below _ (T0.setTop (mkF m 54 #[.val (.int p0)] []))
    refine own_st (fun _ k => XS.iconst X0.here hx rfl (hb hby d1_54) k) ?_
    show own_Go p e below _ (T0.setTop (mkF m 55 #[.val (.int p0)] [(.int (1 : Int32))]))
    refine own_st (fun _ k => XS.goto X0.here hx rfl (pc0 := 55) (pc' := 59) rfl (hb hby d1_55) (by decide) (by decide) k) ?_
    show own_Go p e below _ (T0.setTop (mkF m 59 #[.val (.int p0)] [(.int (1 : Int32))]))
    exact own_retZ X0 hx hlk hret rfl (hb hby d1_59) ⟨congrArg (fun z => some (Value.int z)) ((show own_a_54 p0 = (1 : Int32) from rfl).symm.trans hbk), rfl, e0⟩ (by decide) (by decide)
  have B42 : ∀ (T0 : State), Stand p l e ({ frames := 0, cells := 0, slots := 0, locals := 0 } : Room) s m #[(.int p0)] below meth c T0 [] 0 0 → T0.heap = h0 → own_a_42 p0 = own_a_0 p0 → own_Go p e below (own_Post s (own_P (some (.int (own_a_0 p0))) h0) ({ frames := 0, cells := 0, slots := 0, locals := 0 } : Room).cells ({ frames := 0, cells := 0, slots := 0, locals := 0 } : Room).slots) (T0.setTop (mkF m 42 #[.val (.int p0)] [])) := by
    intro T0 X0 e0 hbk
    show own_Go p e below _ (T0.setTop (mkF m 42 #[.val (.int p0)] []))
    refine own_st (fun _ k => XS.iloadN X0.here hx rfl (hb hby d1_42) rfl k) ?_
    show own_Go p e below _ (T0.setTop (mkF m 43 #[.val (.int p0)] [(.int p0)]))
    refine own_st (fun _ k => X0.ldcInt hx hown (mvT hZ (hw _ (List.mem_of_getElem? (i := 17) rfl))) (g := (mkF m 43 #[.val (.int p0)] [(.int p0)])) rfl (hb hby d1_43) _ k) ?_
    show own_Go p e below _ (T0.setTop (mkF m 45 #[.val (.int p0)] [(.int (65536 : Int32)), (.int p0)]))
    by_cases hc45 : p0 < (65536 : Int32)
    · refine own_st (fun _ k => XS.icmpYes X0.here hx rfl (pc0 := 45) (pc' := 58) rfl (hb hby d1_45) rfl ((own_i2 _ _ _).trans (own_yes (hc45 : p0 < (65536 : Int32)))) (by decide) (by decide) k) ?_
      show own_Go p e below _ (T0.setTop (mkF m 58 #[.val (.int p0)] []))
      exact B58 T0 X0 e0 ((show own_a_42 p0 = own_a_58 p0 from (if_pos hc45)).symm.trans hbk)
    · refine own_st (fun _ k => XS.icmpNo X0.here hx rfl (hb hby d1_45) rfl ((own_i2 _ _ _).trans (own_no (hc45 : ¬ (p0 < (65536 : Int32))))) k) ?_
      show own_Go p e below _ (T0.setTop (mkF m 48 #[.val (.int p0)] []))
      refine own_st (fun _ k => XS.iloadN X0.here hx rfl (hb hby d1_48) rfl k) ?_
      show own_Go p e below _ (T0.setTop (mkF m 49 #[.val (.int p0)] [(.int p0)]))
      refine own_st (fun _ k => X0.ldcInt hx hown (mvT hZ (hw _ (List.mem_of_getElem? (i := 24) rfl))) (g := (mkF m 49 #[.val (.int p0)] [(.int p0)])) rfl (hb hby d1_49) _ k) ?_
      show own_Go p e below _ (T0.setTop (mkF m 51 #[.val (.int p0)] [(.int (1114111 : Int32)), (.int p0)]))
      by_cases hc51 : (1114111 : Int32) < p0
      · refine own_st (fun _ k => XS.icmpYes X0.here hx rfl (pc0 := 51) (pc' := 58) rfl (hb hby d1_51) rfl ((own_i2 _ _ _).trans (own_yes (hc51 : (1114111 : Int32) < p0))) (by decide) (by decide) k) ?_
        show own_Go p e below _ (T0.setTop (mkF m 58 #[.val (.int p0)] []))
        exact B58 T0 X0 e0 ((show own_a_42 p0 = own_a_58 p0 from ((if_neg hc45)).trans ((if_pos hc51))).symm.trans hbk)
      · refine own_st (fun _ k => XS.icmpNo X0.here hx rfl (hb hby d1_51) rfl ((own_i2 _ _ _).trans (own_no (hc51 : ¬ ((1114111 : Int32) < p0)))) k) ?_
        show own_Go p e below _ (T0.setTop (mkF m 54 #[.val (.int p0)] []))
        exact B54 T0 X0 e0 ((show own_a_42 p0 = own_a_54 p0 from ((if_neg hc45)).trans ((if_neg hc51))).symm.trans hbk)
  have B30 : ∀ (T0 : State), Stand p l e ({ frames := 0, cells := 0, slots := 0, locals := 0 } : Room) s m #[(.int p0)] below meth c T0 [] 0 0 → T0.heap = h0 → own_a_30 p0 = own_a_0 p0 → own_Go p e below (own_Post s (own_P (some (.int (own_a_0 p0))) h0) ({ frames := 0, cells := 0, slots := 0, locals := 0 } : Room).cells ({ frames := 0, cells := 0, slots := 0, locals := 0 } : Room).slots) (T0.setTop (mkF m 30 #[.val (.int p0)] [])) := by
    intro T0 X0 e0 hbk
    show own_Go p e below _ (T0.setTop (mkF m 30 #[.val (.int p0)] []))
    refine own_st (fun _ k => XS.iloadN X0.here hx rfl (hb hby d1_30) rfl k) ?_
    show own_Go p e below _ (T0.setTop (mkF m 31 #[.val (.int p0)] [(.int p0)]))
    refine own_st (fun _ k => X0.ldcInt hx hown (mvT hZ (hw _ (List.mem_of_getElem? (i := 16) rfl))) (g := (mkF m 31 #[.val (.int p0)] [(.int p0)])) rfl (hb hby d1_31) _ k) ?_
    show own_Go p e below _ (T0.setTop (mkF m 33 #[.val (.int p0)] [(.int (57344 : Int32)), (.int p0)]))
    by_cases hc33 : p0 < (57344 : Int32)
    · refine own_st (fun _ k => XS.icmpYes X0.here hx rfl (pc0 := 33) (pc' := 42) rfl (hb hby d1_33) rfl ((own_i2 _ _ _).trans (own_yes (hc33 : p0 < (57344 : Int32)))) (by decide) (by decide) k) ?_
      show own_Go p e below _ (T0.setTop (mkF m 42 #[.val (.int p0)] []))
      exact B42 T0 X0 e0 ((show own_a_30 p0 = own_a_42 p0 from (if_pos hc33)).symm.trans hbk)
    · refine own_st (fun _ k => XS.icmpNo X0.here hx rfl (hb hby d1_33) rfl ((own_i2 _ _ _).trans (own_no (hc33 : ¬ (p0 < (57344 : Int32))))) k) ?_
      show own_Go p e below _ (T0.setTop (mkF m 36 #[.val (.int p0)] []))
      refine own_st (fun _ k => XS.iloadN X0.here hx rfl (hb hby d1_36) rfl k) ?_
      show own_Go p e below _ (T0.setTop (mkF m 37 #[.val (.int p0)] [(.int p0)]))
      refine own_st (fun _ k => X0.ldcInt hx hown (mvT hZ (hw _ (List.mem_of_getElem? (i := 23) rfl))) (g := (mkF m 37 #[.val (.int p0)] [(.int p0)])) rfl (hb hby d1_37) _ k) ?_
      show own_Go p e below _ (T0.setTop (mkF m 39 #[.val (.int p0)] [(.int (65533 : Int32)), (.int p0)]))
      by_cases hc39 : (65533 : Int32) < p0
      · refine own_st (fun _ k => XS.icmpNo X0.here hx rfl (hb hby d1_39) rfl ((own_i2 _ _ _).trans (own_nyes (hc39 : (65533 : Int32) < p0))) k) ?_
        show own_Go p e below _ (T0.setTop (mkF m 42 #[.val (.int p0)] []))
        exact B42 T0 X0 e0 ((show own_a_30 p0 = own_a_42 p0 from ((if_neg hc33)).trans ((if_pos hc39))).symm.trans hbk)
      · refine own_st (fun _ k => XS.icmpYes X0.here hx rfl (pc0 := 39) (pc' := 54) rfl (hb hby d1_39) rfl ((own_i2 _ _ _).trans (own_nno (hc39 : ¬ ((65533 : Int32) < p0)))) (by decide) (by decide) k) ?_
        show own_Go p e below _ (T0.setTop (mkF m 54 #[.val (.int p0)] []))
        exact B54 T0 X0 e0 ((show own_a_30 p0 = own_a_54 p0 from ((if_neg hc33)).trans ((if_neg hc39))).symm.trans hbk)
  have B0 : ∀ (T0 : State), Stand p l e ({ frames := 0, cells := 0, slots := 0, locals := 0 } : Room) s m #[(.int p0)] below meth c T0 [] 0 0 → T0.heap = h0 → own_a_0 p0 = own_a_0 p0 → own_Go p e below (own_Post s (own_P (some (.int (own_a_0 p0))) h0) ({ frames := 0, cells := 0, slots := 0, locals := 0 } : Room).cells ({ frames := 0, cells := 0, slots := 0, locals := 0 } : Room).slots) (T0.setTop (mkF m 0 #[.val (.int p0)] [])) := by
    intro T0 X0 e0 hbk
    show own_Go p e below _ (T0.setTop (mkF m 0 #[.val (.int p0)] []))
    refine own_st (fun _ k => XS.iloadN X0.here hx rfl (hb hby d1_0) rfl k) ?_
    show own_Go p e below _ (T0.setTop (mkF m 1 #[.val (.int p0)] [(.int p0)]))
    refine own_st (fun _ k => XS.bipush X0.here hx rfl (hb hby d1_1) k) ?_
    show own_Go p e below _ (T0.setTop (mkF m 3 #[.val (.int p0)] [(.int (9 : Int32)), (.int p0)]))
    by_cases hc3 : p0 = (9 : Int32)
    · refine own_st (fun _ k => XS.icmpYes X0.here hx rfl (pc0 := 3) (pc' := 54) rfl (hb hby d1_3) rfl ((own_i2 _ _ _).trans (own_yes (hc3 : p0 = (9 : Int32)))) (by decide) (by decide) k) ?_
      show own_Go p e below _ (T0.setTop (mkF m 54 #[.val (.int p0)] []))
      exact B54 T0 X0 e0 ((show own_a_0 p0 = own_a_54 p0 from (if_pos hc3)).symm.trans hbk)
    · refine own_st (fun _ k => XS.icmpNo X0.here hx rfl (hb hby d1_3) rfl ((own_i2 _ _ _).trans (own_no (hc3 : ¬ (p0 = (9 : Int32))))) k) ?_
      show own_Go p e below _ (T0.setTop (mkF m 6 #[.val (.int p0)] []))
      refine own_st (fun _ k => XS.iloadN X0.here hx rfl (hb hby d1_6) rfl k) ?_
      show own_Go p e below _ (T0.setTop (mkF m 7 #[.val (.int p0)] [(.int p0)]))
      refine own_st (fun _ k => XS.bipush X0.here hx rfl (hb hby d1_7) k) ?_
      show own_Go p e below _ (T0.setTop (mkF m 9 #[.val (.int p0)] [(.int (10 : Int32)), (.int p0)]))
      by_cases hc9 : p0 = (10 : Int32)
      · refine own_st (fun _ k => XS.icmpYes X0.here hx rfl (pc0 := 9) (pc' := 54) rfl (hb hby d1_9) rfl ((own_i2 _ _ _).trans (own_yes (hc9 : p0 = (10 : Int32)))) (by decide) (by decide) k) ?_
        show own_Go p e below _ (T0.setTop (mkF m 54 #[.val (.int p0)] []))
        exact B54 T0 X0 e0 ((show own_a_0 p0 = own_a_54 p0 from ((if_neg hc3)).trans ((if_pos hc9))).symm.trans hbk)
      · refine own_st (fun _ k => XS.icmpNo X0.here hx rfl (hb hby d1_9) rfl ((own_i2 _ _ _).trans (own_no (hc9 : ¬ (p0 = (10 : Int32))))) k) ?_
        show own_Go p e below _ (T0.setTop (mkF m 12 #[.val (.int p0)] []))
        refine own_st (fun _ k => XS.iloadN X0.here hx rfl (hb hby d1_12) rfl k) ?_
        show own_Go p e below _ (T0.setTop (mkF m 13 #[.val (.int p0)] [(.int p0)]))
        refine own_st (fun _ k => XS.bipush X0.here hx rfl (hb hby d1_13) k) ?_
        show own_Go p e below _ (T0.setTop (mkF m 15 #[.val (.int p0)] [(.int (13 : Int32)), (.int p0)]))
        by_cases hc15 : p0 = (13 : Int32)
        · refine own_st (fun _ k => XS.icmpYes X0.here hx rfl (pc0 := 15) (pc' := 54) rfl (hb hby d1_15) rfl ((own_i2 _ _ _).trans (own_yes (hc15 : p0 = (13 : Int32)))) (by decide) (by decide) k) ?_
          show own_Go p e below _ (T0.setTop (mkF m 54 #[.val (.int p0)] []))
          exact B54 T0 X0 e0 ((show own_a_0 p0 = own_a_54 p0 from ((if_neg hc3)).trans (((if_neg hc9)).trans ((if_pos hc15)))).symm.trans hbk)
        · refine own_st (fun _ k => XS.icmpNo X0.here hx rfl (hb hby d1_15) rfl ((own_i2 _ _ _).trans (own_no (hc15 : ¬ (p0 = (13 : Int32))))) k) ?_
          show own_Go p e below _ (T0.setTop (mkF m 18 #[.val (.int p0)] []))
          refine own_st (fun _ k => XS.iloadN X0.here hx rfl (hb hby d1_18) rfl k) ?_
          show own_Go p e below _ (T0.setTop (mkF m 19 #[.val (.int p0)] [(.int p0)]))
          refine own_st (fun _ k => XS.bipush X0.here hx rfl (hb hby d1_19) k) ?_
          show own_Go p e below _ (T0.setTop (mkF m 21 #[.val (.int p0)] [(.int (32 : Int32)), (.int p0)]))
          by_cases hc21 : p0 < (32 : Int32)
          · refine own_st (fun _ k => XS.icmpYes X0.here hx rfl (pc0 := 21) (pc' := 30) rfl (hb hby d1_21) rfl ((own_i2 _ _ _).trans (own_yes (hc21 : p0 < (32 : Int32)))) (by decide) (by decide) k) ?_
            show own_Go p e below _ (T0.setTop (mkF m 30 #[.val (.int p0)] []))
            exact B30 T0 X0 e0 ((show own_a_0 p0 = own_a_30 p0 from ((if_neg hc3)).trans (((if_neg hc9)).trans (((if_neg hc15)).trans ((if_pos hc21))))).symm.trans hbk)
          · refine own_st (fun _ k => XS.icmpNo X0.here hx rfl (hb hby d1_21) rfl ((own_i2 _ _ _).trans (own_no (hc21 : ¬ (p0 < (32 : Int32))))) k) ?_
            show own_Go p e below _ (T0.setTop (mkF m 24 #[.val (.int p0)] []))
            refine own_st (fun _ k => XS.iloadN X0.here hx rfl (hb hby d1_24) rfl k) ?_
            show own_Go p e below _ (T0.setTop (mkF m 25 #[.val (.int p0)] [(.int p0)]))
            refine own_st (fun _ k => X0.ldcInt hx hown (mvT hZ (hw _ (List.mem_of_getElem? (i := 22) rfl))) (g := (mkF m 25 #[.val (.int p0)] [(.int p0)])) rfl (hb hby d1_25) _ k) ?_
            show own_Go p e below _ (T0.setTop (mkF m 27 #[.val (.int p0)] [(.int (55295 : Int32)), (.int p0)]))
            by_cases hc27 : (55295 : Int32) < p0
            · refine own_st (fun _ k => XS.icmpNo X0.here hx rfl (hb hby d1_27) rfl ((own_i2 _ _ _).trans (own_nyes (hc27 : (55295 : Int32) < p0))) k) ?_
              show own_Go p e below _ (T0.setTop (mkF m 30 #[.val (.int p0)] []))
              exact B30 T0 X0 e0 ((show own_a_0 p0 = own_a_30 p0 from ((if_neg hc3)).trans (((if_neg hc9)).trans (((if_neg hc15)).trans (((if_neg hc21)).trans ((if_pos hc27)))))).symm.trans hbk)
            · refine own_st (fun _ k => XS.icmpYes X0.here hx rfl (pc0 := 27) (pc' := 54) rfl (hb hby d1_27) rfl ((own_i2 _ _ _).trans (own_nno (hc27 : ¬ ((55295 : Int32) < p0)))) (by decide) (by decide) k) ?_
              show own_Go p e below _ (T0.setTop (mkF m 54 #[.val (.int p0)] []))
              exact B54 T0 X0 e0 ((show own_a_0 p0 = own_a_54 p0 from ((if_neg hc3)).trans (((if_neg hc9)).trans (((if_neg hc15)).trans (((if_neg hc21)).trans ((if_neg hc27)))))).symm.trans hbk)
  rw [ef_1]
  exact B0 _ X0 e0 rfl
def own_r_78 (p0 : Int32) : Int32 := (0 : Int32)
def own_r_68 (p0 : Int32) : Int32 := (if (1114111 : Int32) < p0 then (own_r_78 p0) else (1 : Int32))
def own_r_60 (p0 : Int32) : Int32 := (if p0 < (65536 : Int32) then (0 : Int32) else (own_r_68 p0))
def own_r_52 (p0 : Int32) : Int32 := (if p0 < (65534 : Int32) then (1 : Int32) else (own_r_60 p0))
def own_r_44 (p0 : Int32) : Int32 := (if p0 < (57344 : Int32) then (0 : Int32) else (own_r_52 p0))
def own_r_36 (p0 : Int32) : Int32 := (if p0 < (55296 : Int32) then (1 : Int32) else (own_r_44 p0))
def own_r_34 (p0 : Int32) : Int32 := (0 : Int32)
def own_r_30 (p0 : Int32) : Int32 := (1 : Int32)
def own_r_6 (p0 : Int32) : Int32 := (if p0 < (32 : Int32) then (if p0 = (9 : Int32) then (own_r_30 p0) else (if p0 = (10 : Int32) then (own_r_30 p0) else (if p0 = (13 : Int32) then (own_r_30 p0) else (own_r_34 p0)))) else (own_r_36 p0))
def own_r_0 (p0 : Int32) : Int32 := (if p0 < (0 : Int32) then (0 : Int32) else (own_r_6 p0))
theorem d2_0 : decode method_2_code 0 = .ok (.iload_n 0, 1) := by decide +kernel
theorem d2_1 : decode method_2_code 1 = .ok (.ifCond .ge 5, 3) := by decide +kernel
theorem d2_4 : decode method_2_code 4 = .ok (.iconst 0, 1) := by decide +kernel
theorem d2_5 : decode method_2_code 5 = .ok (.ireturn, 1) := by decide +kernel
theorem d2_6 : decode method_2_code 6 = .ok (.iload_n 0, 1) := by decide +kernel
theorem d2_7 : decode method_2_code 7 = .ok (.bipush 32, 2) := by decide +kernel
theorem d2_9 : decode method_2_code 9 = .ok (.if_icmp .ge 27, 3) := by decide +kernel
theorem d2_12 : decode method_2_code 12 = .ok (.iload_n 0, 1) := by decide +kernel
theorem d2_13 : decode method_2_code 13 = .ok (.bipush 9, 2) := by decide +kernel
theorem d2_15 : decode method_2_code 15 = .ok (.if_icmp .eq 15, 3) := by decide +kernel
theorem d2_18 : decode method_2_code 18 = .ok (.iload_n 0, 1) := by decide +kernel
theorem d2_19 : decode method_2_code 19 = .ok (.bipush 10, 2) := by decide +kernel
theorem d2_21 : decode method_2_code 21 = .ok (.if_icmp .eq 9, 3) := by decide +kernel
theorem d2_24 : decode method_2_code 24 = .ok (.iload_n 0, 1) := by decide +kernel
theorem d2_25 : decode method_2_code 25 = .ok (.bipush 13, 2) := by decide +kernel
theorem d2_27 : decode method_2_code 27 = .ok (.if_icmp .ne 7, 3) := by decide +kernel
theorem d2_30 : decode method_2_code 30 = .ok (.iconst 1, 1) := by decide +kernel
theorem d2_31 : decode method_2_code 31 = .ok (.goto 4, 3) := by decide +kernel
theorem d2_34 : decode method_2_code 34 = .ok (.iconst 0, 1) := by decide +kernel
theorem d2_35 : decode method_2_code 35 = .ok (.ireturn, 1) := by decide +kernel
theorem d2_36 : decode method_2_code 36 = .ok (.iload_n 0, 1) := by decide +kernel
theorem d2_37 : decode method_2_code 37 = .ok (.ldc 7, 2) := by decide +kernel
theorem d2_39 : decode method_2_code 39 = .ok (.if_icmp .ge 5, 3) := by decide +kernel
theorem d2_42 : decode method_2_code 42 = .ok (.iconst 1, 1) := by decide +kernel
theorem d2_43 : decode method_2_code 43 = .ok (.ireturn, 1) := by decide +kernel
theorem d2_44 : decode method_2_code 44 = .ok (.iload_n 0, 1) := by decide +kernel
theorem d2_45 : decode method_2_code 45 = .ok (.ldc 8, 2) := by decide +kernel
theorem d2_47 : decode method_2_code 47 = .ok (.if_icmp .ge 5, 3) := by decide +kernel
theorem d2_50 : decode method_2_code 50 = .ok (.iconst 0, 1) := by decide +kernel
theorem d2_51 : decode method_2_code 51 = .ok (.ireturn, 1) := by decide +kernel
theorem d2_52 : decode method_2_code 52 = .ok (.iload_n 0, 1) := by decide +kernel
theorem d2_53 : decode method_2_code 53 = .ok (.ldc 9, 2) := by decide +kernel
theorem d2_55 : decode method_2_code 55 = .ok (.if_icmp .ge 5, 3) := by decide +kernel
theorem d2_58 : decode method_2_code 58 = .ok (.iconst 1, 1) := by decide +kernel
theorem d2_59 : decode method_2_code 59 = .ok (.ireturn, 1) := by decide +kernel
theorem d2_60 : decode method_2_code 60 = .ok (.iload_n 0, 1) := by decide +kernel
theorem d2_61 : decode method_2_code 61 = .ok (.ldc 10, 2) := by decide +kernel
theorem d2_63 : decode method_2_code 63 = .ok (.if_icmp .ge 5, 3) := by decide +kernel
theorem d2_66 : decode method_2_code 66 = .ok (.iconst 0, 1) := by decide +kernel
theorem d2_67 : decode method_2_code 67 = .ok (.ireturn, 1) := by decide +kernel
theorem d2_68 : decode method_2_code 68 = .ok (.iload_n 0, 1) := by decide +kernel
theorem d2_69 : decode method_2_code 69 = .ok (.ldc 11, 2) := by decide +kernel
theorem d2_71 : decode method_2_code 71 = .ok (.if_icmp .gt 7, 3) := by decide +kernel
theorem d2_74 : decode method_2_code 74 = .ok (.iconst 1, 1) := by decide +kernel
theorem d2_75 : decode method_2_code 75 = .ok (.goto 4, 3) := by decide +kernel
theorem d2_78 : decode method_2_code 78 = .ok (.iconst 0, 1) := by decide +kernel
theorem d2_79 : decode method_2_code 79 = .ok (.ireturn, 1) := by decide +kernel
theorem pn_2 : plainFor (⟨"com/example/early_sieve/earlysieve/io/XmlCharactersIsCharacterPinLaw", "ref", "(I)Z"⟩ : MethodName) = true := plainFor_of_name (by first | (simp [plainName, overriddenIn]; done) | decide +kernel)
theorem ef_2 (m : MethodId) (x0 : Int32) : entryFrame m #[(.int x0)] 1 = mkF m 0 #[.val (.int x0)] [] := by first | (simp [entryFrame, mkF, argsToLocals, Value.category]; done) | rfl
set_option maxRecDepth 65536 in
set_option maxHeartbeats 40000000 in
theorem rm2 (l : Launch) (Z : State) (tA : Array Value) (hw : ∀ d ∈ tables_1, d.before tA Z = true) (p0 : Int32) (h0 : Heap) :
    own_Met l Z (⟨"com/example/early_sieve/earlysieve/io/XmlCharactersIsCharacterPinLaw", "ref", "(I)Z"⟩ : MethodName) method_2_code 1 (some .boolean) ({ frames := 0, cells := 0, slots := 0, locals := 0 } : Room) #[(.int p0)] h0 (own_P (some (.int (own_r_0 p0))) h0) := by
  refine own_body pn_2 ?_
  intro p e s m below meth c s₁ X0 hx hZ hby hml hown hret hlk hnm e0
  have B78 : ∀ (T0 : State), Stand p l e ({ frames := 0, cells := 0, slots := 0, locals := 0 } : Room) s m #[(.int p0)] below meth c T0 [] 0 0 → T0.heap = h0 → own_r_78 p0 = own_r_0 p0 → own_Go p e below (own_Post s (own_P (some (.int (own_r_0 p0))) h0) ({ frames := 0, cells := 0, slots := 0, locals := 0 } : Room).cells ({ frames := 0, cells := 0, slots := 0, locals := 0 } : Room).slots) (T0.setTop (mkF m 78 #[.val (.int p0)] [])) := by
    intro T0 X0 e0 hbk
    show own_Go p e below _ (T0.setTop (mkF m 78 #[.val (.int p0)] []))
    refine own_st (fun _ k => XS.iconst X0.here hx rfl (hb hby d2_78) k) ?_
    show own_Go p e below _ (T0.setTop (mkF m 79 #[.val (.int p0)] [(.int (0 : Int32))]))
    exact own_retZ X0 hx hlk hret rfl (hb hby d2_79) ⟨congrArg (fun z => some (Value.int z)) ((show own_r_78 p0 = (0 : Int32) from rfl).symm.trans hbk), rfl, e0⟩ (by decide) (by decide)
  have B68 : ∀ (T0 : State), Stand p l e ({ frames := 0, cells := 0, slots := 0, locals := 0 } : Room) s m #[(.int p0)] below meth c T0 [] 0 0 → T0.heap = h0 → own_r_68 p0 = own_r_0 p0 → own_Go p e below (own_Post s (own_P (some (.int (own_r_0 p0))) h0) ({ frames := 0, cells := 0, slots := 0, locals := 0 } : Room).cells ({ frames := 0, cells := 0, slots := 0, locals := 0 } : Room).slots) (T0.setTop (mkF m 68 #[.val (.int p0)] [])) := by
    intro T0 X0 e0 hbk
    show own_Go p e below _ (T0.setTop (mkF m 68 #[.val (.int p0)] []))
    refine own_st (fun _ k => XS.iloadN X0.here hx rfl (hb hby d2_68) rfl k) ?_
    show own_Go p e below _ (T0.setTop (mkF m 69 #[.val (.int p0)] [(.int p0)]))
    refine own_st (fun _ k => X0.ldcInt hx hown (mvT hZ (hw _ (List.mem_of_getElem? (i := 8) rfl))) (g := (mkF m 69 #[.val (.int p0)] [(.int p0)])) rfl (hb hby d2_69) _ k) ?_
    show own_Go p e below _ (T0.setTop (mkF m 71 #[.val (.int p0)] [(.int (1114111 : Int32)), (.int p0)]))
    by_cases hc71 : (1114111 : Int32) < p0
    · refine own_st (fun _ k => XS.icmpYes X0.here hx rfl (pc0 := 71) (pc' := 78) rfl (hb hby d2_71) rfl ((own_i2 _ _ _).trans (own_yes (hc71 : (1114111 : Int32) < p0))) (by decide) (by decide) k) ?_
      show own_Go p e below _ (T0.setTop (mkF m 78 #[.val (.int p0)] []))
      exact B78 T0 X0 e0 ((show own_r_68 p0 = own_r_78 p0 from (if_pos hc71)).symm.trans hbk)
    · refine own_st (fun _ k => XS.icmpNo X0.here hx rfl (hb hby d2_71) rfl ((own_i2 _ _ _).trans (own_no (hc71 : ¬ ((1114111 : Int32) < p0)))) k) ?_
      show own_Go p e below _ (T0.setTop (mkF m 74 #[.val (.int p0)] []))
      refine own_st (fun _ k => XS.iconst X0.here hx rfl (hb hby d2_74) k) ?_
      show own_Go p e below _ (T0.setTop (mkF m 75 #[.val (.int p0)] [(.int (1 : Int32))]))
      refine own_st (fun _ k => XS.goto X0.here hx rfl (pc0 := 75) (pc' := 79) rfl (hb hby d2_75) (by decide) (by decide) k) ?_
      show own_Go p e below _ (T0.setTop (mkF m 79 #[.val (.int p0)] [(.int (1 : Int32))]))
      exact own_retZ X0 hx hlk hret rfl (hb hby d2_79) ⟨congrArg (fun z => some (Value.int z)) ((show own_r_68 p0 = (1 : Int32) from (if_neg hc71)).symm.trans hbk), rfl, e0⟩ (by decide) (by decide)
  have B60 : ∀ (T0 : State), Stand p l e ({ frames := 0, cells := 0, slots := 0, locals := 0 } : Room) s m #[(.int p0)] below meth c T0 [] 0 0 → T0.heap = h0 → own_r_60 p0 = own_r_0 p0 → own_Go p e below (own_Post s (own_P (some (.int (own_r_0 p0))) h0) ({ frames := 0, cells := 0, slots := 0, locals := 0 } : Room).cells ({ frames := 0, cells := 0, slots := 0, locals := 0 } : Room).slots) (T0.setTop (mkF m 60 #[.val (.int p0)] [])) := by
    intro T0 X0 e0 hbk
    show own_Go p e below _ (T0.setTop (mkF m 60 #[.val (.int p0)] []))
    refine own_st (fun _ k => XS.iloadN X0.here hx rfl (hb hby d2_60) rfl k) ?_
    show own_Go p e below _ (T0.setTop (mkF m 61 #[.val (.int p0)] [(.int p0)]))
    refine own_st (fun _ k => X0.ldcInt hx hown (mvT hZ (hw _ (List.mem_of_getElem? (i := 7) rfl))) (g := (mkF m 61 #[.val (.int p0)] [(.int p0)])) rfl (hb hby d2_61) _ k) ?_
    show own_Go p e below _ (T0.setTop (mkF m 63 #[.val (.int p0)] [(.int (65536 : Int32)), (.int p0)]))
    by_cases hc63 : p0 < (65536 : Int32)
    · refine own_st (fun _ k => XS.icmpNo X0.here hx rfl (hb hby d2_63) rfl ((own_i2 _ _ _).trans (own_nyes (hc63 : p0 < (65536 : Int32)))) k) ?_
      show own_Go p e below _ (T0.setTop (mkF m 66 #[.val (.int p0)] []))
      refine own_st (fun _ k => XS.iconst X0.here hx rfl (hb hby d2_66) k) ?_
      show own_Go p e below _ (T0.setTop (mkF m 67 #[.val (.int p0)] [(.int (0 : Int32))]))
      exact own_retZ X0 hx hlk hret rfl (hb hby d2_67) ⟨congrArg (fun z => some (Value.int z)) ((show own_r_60 p0 = (0 : Int32) from (if_pos hc63)).symm.trans hbk), rfl, e0⟩ (by decide) (by decide)
    · refine own_st (fun _ k => XS.icmpYes X0.here hx rfl (pc0 := 63) (pc' := 68) rfl (hb hby d2_63) rfl ((own_i2 _ _ _).trans (own_nno (hc63 : ¬ (p0 < (65536 : Int32))))) (by decide) (by decide) k) ?_
      show own_Go p e below _ (T0.setTop (mkF m 68 #[.val (.int p0)] []))
      exact B68 T0 X0 e0 ((show own_r_60 p0 = own_r_68 p0 from (if_neg hc63)).symm.trans hbk)
  have B52 : ∀ (T0 : State), Stand p l e ({ frames := 0, cells := 0, slots := 0, locals := 0 } : Room) s m #[(.int p0)] below meth c T0 [] 0 0 → T0.heap = h0 → own_r_52 p0 = own_r_0 p0 → own_Go p e below (own_Post s (own_P (some (.int (own_r_0 p0))) h0) ({ frames := 0, cells := 0, slots := 0, locals := 0 } : Room).cells ({ frames := 0, cells := 0, slots := 0, locals := 0 } : Room).slots) (T0.setTop (mkF m 52 #[.val (.int p0)] [])) := by
    intro T0 X0 e0 hbk
    show own_Go p e below _ (T0.setTop (mkF m 52 #[.val (.int p0)] []))
    refine own_st (fun _ k => XS.iloadN X0.here hx rfl (hb hby d2_52) rfl k) ?_
    show own_Go p e below _ (T0.setTop (mkF m 53 #[.val (.int p0)] [(.int p0)]))
    refine own_st (fun _ k => X0.ldcInt hx hown (mvT hZ (hw _ (List.mem_of_getElem? (i := 6) rfl))) (g := (mkF m 53 #[.val (.int p0)] [(.int p0)])) rfl (hb hby d2_53) _ k) ?_
    show own_Go p e below _ (T0.setTop (mkF m 55 #[.val (.int p0)] [(.int (65534 : Int32)), (.int p0)]))
    by_cases hc55 : p0 < (65534 : Int32)
    · refine own_st (fun _ k => XS.icmpNo X0.here hx rfl (hb hby d2_55) rfl ((own_i2 _ _ _).trans (own_nyes (hc55 : p0 < (65534 : Int32)))) k) ?_
      show own_Go p e below _ (T0.setTop (mkF m 58 #[.val (.int p0)] []))
      refine own_st (fun _ k => XS.iconst X0.here hx rfl (hb hby d2_58) k) ?_
      show own_Go p e below _ (T0.setTop (mkF m 59 #[.val (.int p0)] [(.int (1 : Int32))]))
      exact own_retZ X0 hx hlk hret rfl (hb hby d2_59) ⟨congrArg (fun z => some (Value.int z)) ((show own_r_52 p0 = (1 : Int32) from (if_pos hc55)).symm.trans hbk), rfl, e0⟩ (by decide) (by decide)
    · refine own_st (fun _ k => XS.icmpYes X0.here hx rfl (pc0 := 55) (pc' := 60) rfl (hb hby d2_55) rfl ((own_i2 _ _ _).trans (own_nno (hc55 : ¬ (p0 < (65534 : Int32))))) (by decide) (by decide) k) ?_
      show own_Go p e below _ (T0.setTop (mkF m 60 #[.val (.int p0)] []))
      exact B60 T0 X0 e0 ((show own_r_52 p0 = own_r_60 p0 from (if_neg hc55)).symm.trans hbk)
  have B44 : ∀ (T0 : State), Stand p l e ({ frames := 0, cells := 0, slots := 0, locals := 0 } : Room) s m #[(.int p0)] below meth c T0 [] 0 0 → T0.heap = h0 → own_r_44 p0 = own_r_0 p0 → own_Go p e below (own_Post s (own_P (some (.int (own_r_0 p0))) h0) ({ frames := 0, cells := 0, slots := 0, locals := 0 } : Room).cells ({ frames := 0, cells := 0, slots := 0, locals := 0 } : Room).slots) (T0.setTop (mkF m 44 #[.val (.int p0)] [])) := by
    intro T0 X0 e0 hbk
    show own_Go p e below _ (T0.setTop (mkF m 44 #[.val (.int p0)] []))
    refine own_st (fun _ k => XS.iloadN X0.here hx rfl (hb hby d2_44) rfl k) ?_
    show own_Go p e below _ (T0.setTop (mkF m 45 #[.val (.int p0)] [(.int p0)]))
    refine own_st (fun _ k => X0.ldcInt hx hown (mvT hZ (hw _ (List.mem_of_getElem? (i := 4) rfl))) (g := (mkF m 45 #[.val (.int p0)] [(.int p0)])) rfl (hb hby d2_45) _ k) ?_
    show own_Go p e below _ (T0.setTop (mkF m 47 #[.val (.int p0)] [(.int (57344 : Int32)), (.int p0)]))
    by_cases hc47 : p0 < (57344 : Int32)
    · refine own_st (fun _ k => XS.icmpNo X0.here hx rfl (hb hby d2_47) rfl ((own_i2 _ _ _).trans (own_nyes (hc47 : p0 < (57344 : Int32)))) k) ?_
      show own_Go p e below _ (T0.setTop (mkF m 50 #[.val (.int p0)] []))
      refine own_st (fun _ k => XS.iconst X0.here hx rfl (hb hby d2_50) k) ?_
      show own_Go p e below _ (T0.setTop (mkF m 51 #[.val (.int p0)] [(.int (0 : Int32))]))
      exact own_retZ X0 hx hlk hret rfl (hb hby d2_51) ⟨congrArg (fun z => some (Value.int z)) ((show own_r_44 p0 = (0 : Int32) from (if_pos hc47)).symm.trans hbk), rfl, e0⟩ (by decide) (by decide)
    · refine own_st (fun _ k => XS.icmpYes X0.here hx rfl (pc0 := 47) (pc' := 52) rfl (hb hby d2_47) rfl ((own_i2 _ _ _).trans (own_nno (hc47 : ¬ (p0 < (57344 : Int32))))) (by decide) (by decide) k) ?_
      show own_Go p e below _ (T0.setTop (mkF m 52 #[.val (.int p0)] []))
      exact B52 T0 X0 e0 ((show own_r_44 p0 = own_r_52 p0 from (if_neg hc47)).symm.trans hbk)
  have B36 : ∀ (T0 : State), Stand p l e ({ frames := 0, cells := 0, slots := 0, locals := 0 } : Room) s m #[(.int p0)] below meth c T0 [] 0 0 → T0.heap = h0 → own_r_36 p0 = own_r_0 p0 → own_Go p e below (own_Post s (own_P (some (.int (own_r_0 p0))) h0) ({ frames := 0, cells := 0, slots := 0, locals := 0 } : Room).cells ({ frames := 0, cells := 0, slots := 0, locals := 0 } : Room).slots) (T0.setTop (mkF m 36 #[.val (.int p0)] [])) := by
    intro T0 X0 e0 hbk
    show own_Go p e below _ (T0.setTop (mkF m 36 #[.val (.int p0)] []))
    refine own_st (fun _ k => XS.iloadN X0.here hx rfl (hb hby d2_36) rfl k) ?_
    show own_Go p e below _ (T0.setTop (mkF m 37 #[.val (.int p0)] [(.int p0)]))
    refine own_st (fun _ k => X0.ldcInt hx hown (mvT hZ (hw _ (List.mem_of_getElem? (i := 2) rfl))) (g := (mkF m 37 #[.val (.int p0)] [(.int p0)])) rfl (hb hby d2_37) _ k) ?_
    show own_Go p e below _ (T0.setTop (mkF m 39 #[.val (.int p0)] [(.int (55296 : Int32)), (.int p0)]))
    by_cases hc39 : p0 < (55296 : Int32)
    · refine own_st (fun _ k => XS.icmpNo X0.here hx rfl (hb hby d2_39) rfl ((own_i2 _ _ _).trans (own_nyes (hc39 : p0 < (55296 : Int32)))) k) ?_
      show own_Go p e below _ (T0.setTop (mkF m 42 #[.val (.int p0)] []))
      refine own_st (fun _ k => XS.iconst X0.here hx rfl (hb hby d2_42) k) ?_
      show own_Go p e below _ (T0.setTop (mkF m 43 #[.val (.int p0)] [(.int (1 : Int32))]))
      exact own_retZ X0 hx hlk hret rfl (hb hby d2_43) ⟨congrArg (fun z => some (Value.int z)) ((show own_r_36 p0 = (1 : Int32) from (if_pos hc39)).symm.trans hbk), rfl, e0⟩ (by decide) (by decide)
    · refine own_st (fun _ k => XS.icmpYes X0.here hx rfl (pc0 := 39) (pc' := 44) rfl (hb hby d2_39) rfl ((own_i2 _ _ _).trans (own_nno (hc39 : ¬ (p0 < (55296 : Int32))))) (by decide) (by decide) k) ?_
      show own_Go p e below _ (T0.setTop (mkF m 44 #[.val (.int p0)] []))
      exact B44 T0 X0 e0 ((show own_r_36 p0 = own_r_44 p0 from (if_neg hc39)).symm.trans hbk)
  have B34 : ∀ (T0 : State), Stand p l e ({ frames := 0, cells := 0, slots := 0, locals := 0 } : Room) s m #[(.int p0)] below meth c T0 [] 0 0 → T0.heap = h0 → own_r_34 p0 = own_r_0 p0 → own_Go p e below (own_Post s (own_P (some (.int (own_r_0 p0))) h0) ({ frames := 0, cells := 0, slots := 0, locals := 0 } : Room).cells ({ frames := 0, cells := 0, slots := 0, locals := 0 } : Room).slots) (T0.setTop (mkF m 34 #[.val (.int p0)] [])) := by
    intro T0 X0 e0 hbk
    show own_Go p e below _ (T0.setTop (mkF m 34 #[.val (.int p0)] []))
    refine own_st (fun _ k => XS.iconst X0.here hx rfl (hb hby d2_34) k) ?_
    show own_Go p e below _ (T0.setTop (mkF m 35 #[.val (.int p0)] [(.int (0 : Int32))]))
    exact own_retZ X0 hx hlk hret rfl (hb hby d2_35) ⟨congrArg (fun z => some (Value.int z)) ((show own_r_34 p0 = (0 : Int32) from rfl).symm.trans hbk), rfl, e0⟩ (by decide) (by decide)
  have B30 : ∀ (T0 : State), Stand p l e ({ frames := 0, cells := 0, slots := 0, locals := 0 } : Room) s m #[(.int p0)] below meth c T0 [] 0 0 → T0.heap = h0 → own_r_30 p0 = own_r_0 p0 → own_Go p e below (own_Post s (own_P (some (.int (own_r_0 p0))) h0) ({ frames := 0, cells := 0, slots := 0, locals := 0 } : Room).cells ({ frames := 0, cells := 0, slots := 0, locals := 0 } : Room).slots) (T0.setTop (mkF m 30 #[.val (.int p0)] [])) := by
    intro T0 X0 e0 hbk
    show own_Go p e below _ (T0.setTop (mkF m 30 #[.val (.int p0)] []))
    refine own_st (fun _ k => XS.iconst X0.here hx rfl (hb hby d2_30) k) ?_
    show own_Go p e below _ (T0.setTop (mkF m 31 #[.val (.int p0)] [(.int (1 : Int32))]))
    refine own_st (fun _ k => XS.goto X0.here hx rfl (pc0 := 31) (pc' := 35) rfl (hb hby d2_31) (by decide) (by decide) k) ?_
    show own_Go p e below _ (T0.setTop (mkF m 35 #[.val (.int p0)] [(.int (1 : Int32))]))
    exact own_retZ X0 hx hlk hret rfl (hb hby d2_35) ⟨congrArg (fun z => some (Value.int z)) ((show own_r_30 p0 = (1 : Int32) from rfl).symm.trans hbk), rfl, e0⟩ (by decide) (by decide)
  have B6 : ∀ (T0 : State), Stand p l e ({ frames := 0, cells := 0, slots := 0, locals := 0 } : Room) s m #[(.int p0)] below meth c T0 [] 0 0 → T0.heap = h0 → own_r_6 p0 = own_r_0 p0 → own_Go p e below (own_Post s (own_P (some (.int (own_r_0 p0))) h0) ({ frames := 0, cells := 0, slots := 0, locals := 0 } : Room).cells ({ frames := 0, cells := 0, slots := 0, locals := 0 } : Room).slots) (T0.setTop (mkF m 6 #[.val (.int p0)] [])) := by
    intro T0 X0 e0 hbk
    show own_Go p e below _ (T0.setTop (mkF m 6 #[.val (.int p0)] []))
    refine own_st (fun _ k => XS.iloadN X0.here hx rfl (hb hby d2_6) rfl k) ?_
    show own_Go p e below _ (T0.setTop (mkF m 7 #[.val (.int p0)] [(.int p0)]))
    refine own_st (fun _ k => XS.bipush X0.here hx rfl (hb hby d2_7) k) ?_
    show own_Go p e below _ (T0.setTop (mkF m 9 #[.val (.int p0)] [(.int (32 : Int32)), (.int p0)]))
    by_cases hc9 : p0 < (32 : Int32)
    · refine own_st (fun _ k => XS.icmpNo X0.here hx rfl (hb hby d2_9) rfl ((own_i2 _ _ _).trans (own_nyes (hc9 : p0 < (32 : Int32)))) k) ?_
      show own_Go p e below _ (T0.setTop (mkF m 12 #[.val (.int p0)] []))
      refine own_st (fun _ k => XS.iloadN X0.here hx rfl (hb hby d2_12) rfl k) ?_
      show own_Go p e below _ (T0.setTop (mkF m 13 #[.val (.int p0)] [(.int p0)]))
      refine own_st (fun _ k => XS.bipush X0.here hx rfl (hb hby d2_13) k) ?_
      show own_Go p e below _ (T0.setTop (mkF m 15 #[.val (.int p0)] [(.int (9 : Int32)), (.int p0)]))
      by_cases hc15 : p0 = (9 : Int32)
      · refine own_st (fun _ k => XS.icmpYes X0.here hx rfl (pc0 := 15) (pc' := 30) rfl (hb hby d2_15) rfl ((own_i2 _ _ _).trans (own_yes (hc15 : p0 = (9 : Int32)))) (by decide) (by decide) k) ?_
        show own_Go p e below _ (T0.setTop (mkF m 30 #[.val (.int p0)] []))
        exact B30 T0 X0 e0 ((show own_r_6 p0 = own_r_30 p0 from ((if_pos hc9)).trans ((if_pos hc15))).symm.trans hbk)
      · refine own_st (fun _ k => XS.icmpNo X0.here hx rfl (hb hby d2_15) rfl ((own_i2 _ _ _).trans (own_no (hc15 : ¬ (p0 = (9 : Int32))))) k) ?_
        show own_Go p e below _ (T0.setTop (mkF m 18 #[.val (.int p0)] []))
        refine own_st (fun _ k => XS.iloadN X0.here hx rfl (hb hby d2_18) rfl k) ?_
        show own_Go p e below _ (T0.setTop (mkF m 19 #[.val (.int p0)] [(.int p0)]))
        refine own_st (fun _ k => XS.bipush X0.here hx rfl (hb hby d2_19) k) ?_
        show own_Go p e below _ (T0.setTop (mkF m 21 #[.val (.int p0)] [(.int (10 : Int32)), (.int p0)]))
        by_cases hc21 : p0 = (10 : Int32)
        · refine own_st (fun _ k => XS.icmpYes X0.here hx rfl (pc0 := 21) (pc' := 30) rfl (hb hby d2_21) rfl ((own_i2 _ _ _).trans (own_yes (hc21 : p0 = (10 : Int32)))) (by decide) (by decide) k) ?_
          show own_Go p e below _ (T0.setTop (mkF m 30 #[.val (.int p0)] []))
          exact B30 T0 X0 e0 ((show own_r_6 p0 = own_r_30 p0 from ((if_pos hc9)).trans (((if_neg hc15)).trans ((if_pos hc21)))).symm.trans hbk)
        · refine own_st (fun _ k => XS.icmpNo X0.here hx rfl (hb hby d2_21) rfl ((own_i2 _ _ _).trans (own_no (hc21 : ¬ (p0 = (10 : Int32))))) k) ?_
          show own_Go p e below _ (T0.setTop (mkF m 24 #[.val (.int p0)] []))
          refine own_st (fun _ k => XS.iloadN X0.here hx rfl (hb hby d2_24) rfl k) ?_
          show own_Go p e below _ (T0.setTop (mkF m 25 #[.val (.int p0)] [(.int p0)]))
          refine own_st (fun _ k => XS.bipush X0.here hx rfl (hb hby d2_25) k) ?_
          show own_Go p e below _ (T0.setTop (mkF m 27 #[.val (.int p0)] [(.int (13 : Int32)), (.int p0)]))
          by_cases hc27 : p0 = (13 : Int32)
          · refine own_st (fun _ k => XS.icmpNo X0.here hx rfl (hb hby d2_27) rfl ((own_i2 _ _ _).trans (own_nyes (hc27 : p0 = (13 : Int32)))) k) ?_
            show own_Go p e below _ (T0.setTop (mkF m 30 #[.val (.int p0)] []))
            exact B30 T0 X0 e0 ((show own_r_6 p0 = own_r_30 p0 from ((if_pos hc9)).trans (((if_neg hc15)).trans (((if_neg hc21)).trans ((if_pos hc27))))).symm.trans hbk)
          · refine own_st (fun _ k => XS.icmpYes X0.here hx rfl (pc0 := 27) (pc' := 34) rfl (hb hby d2_27) rfl ((own_i2 _ _ _).trans (own_nno (hc27 : ¬ (p0 = (13 : Int32))))) (by decide) (by decide) k) ?_
            show own_Go p e below _ (T0.setTop (mkF m 34 #[.val (.int p0)] []))
            exact B34 T0 X0 e0 ((show own_r_6 p0 = own_r_34 p0 from ((if_pos hc9)).trans (((if_neg hc15)).trans (((if_neg hc21)).trans ((if_neg hc27))))).symm.trans hbk)
    · refine own_st (fun _ k => XS.icmpYes X0.here hx rfl (pc0 := 9) (pc' := 36) rfl (hb hby d2_9) rfl ((own_i2 _ _ _).trans (own_nno (hc9 : ¬ (p0 < (32 : Int32))))) (by decide) (by decide) k) ?_
      show own_Go p e below _ (T0.setTop (mkF m 36 #[.val (.int p0)] []))
      exact B36 T0 X0 e0 ((show own_r_6 p0 = own_r_36 p0 from (if_neg hc9)).symm.trans hbk)
  have B0 : ∀ (T0 : State), Stand p l e ({ frames := 0, cells := 0, slots := 0, locals := 0 } : Room) s m #[(.int p0)] below meth c T0 [] 0 0 → T0.heap = h0 → own_r_0 p0 = own_r_0 p0 → own_Go p e below (own_Post s (own_P (some (.int (own_r_0 p0))) h0) ({ frames := 0, cells := 0, slots := 0, locals := 0 } : Room).cells ({ frames := 0, cells := 0, slots := 0, locals := 0 } : Room).slots) (T0.setTop (mkF m 0 #[.val (.int p0)] [])) := by
    intro T0 X0 e0 hbk
    show own_Go p e below _ (T0.setTop (mkF m 0 #[.val (.int p0)] []))
    refine own_st (fun _ k => XS.iloadN X0.here hx rfl (hb hby d2_0) rfl k) ?_
    show own_Go p e below _ (T0.setTop (mkF m 1 #[.val (.int p0)] [(.int p0)]))
    by_cases hc1 : p0 < (0 : Int32)
    · refine own_st (fun _ k => XS.ifNo X0.here hx rfl (hb hby d2_1) rfl ((own_i0 _ _).trans (own_nyes (hc1 : p0 < (0 : Int32)))) k) ?_
      show own_Go p e below _ (T0.setTop (mkF m 4 #[.val (.int p0)] []))
      refine own_st (fun _ k => XS.iconst X0.here hx rfl (hb hby d2_4) k) ?_
      show own_Go p e below _ (T0.setTop (mkF m 5 #[.val (.int p0)] [(.int (0 : Int32))]))
      exact own_retZ X0 hx hlk hret rfl (hb hby d2_5) ⟨congrArg (fun z => some (Value.int z)) ((show own_r_0 p0 = (0 : Int32) from (if_pos hc1)).symm.trans hbk), rfl, e0⟩ (by decide) (by decide)
    · refine own_st (fun _ k => XS.ifYes X0.here hx rfl (pc0 := 1) (pc' := 6) rfl (hb hby d2_1) rfl ((own_i0 _ _).trans (own_nno (hc1 : ¬ (p0 < (0 : Int32))))) (by decide) (by decide) k) ?_
      show own_Go p e below _ (T0.setTop (mkF m 6 #[.val (.int p0)] []))
      exact B6 T0 X0 e0 ((show own_r_0 p0 = own_r_6 p0 from (if_neg hc1)).symm.trans hbk)
  rw [ef_2]
  exact B0 _ X0 e0 rfl
def own_Ks : List Int32 := [0, 1, 9, 10, 13, 32, 55295, 55296, 57344, 65533, 65534, 65536, 1114111]
def own_pts : List Int32 := [-2147483648, 0, 1, 2, 9, 10, 11, 13, 14, 32, 33, 55295, 55296, 55297, 57344, 57345, 65533, 65534, 65535, 65536, 65537, 1114111, 1114112]
def own_E (x y : Int32) : Prop := ∀ k ∈ own_Ks, (x < k ↔ y < k) ∧ (k < x ↔ k < y) ∧ (x = k ↔ y = k)
theorem own_ite {P Q : Prop} [Decidable P] [Decidable Q] {a b a' b' : Int32} (h : P ↔ Q) (h1 : a = a') (h2 : b = b') : (if P then a else b) = (if Q then a' else b') := by
  subst h1 h2
  by_cases q : P
  · rw [if_pos q, if_pos (h.mp q)]
  · rw [if_neg q, if_neg fun r => q (h.mpr r)]
/-- the greatest of a list's members that isn't above x -/
theorem own_top (x : Int32) : ∀ L : List Int32, (∃ q ∈ L, q ≤ x) → ∃ r ∈ L, r ≤ x ∧ ∀ q ∈ L, q ≤ x → q ≤ r
  | [], h => by obtain ⟨q, h1, -⟩ := h; cases h1
  | a :: L, h => by
    by_cases hL : ∃ q ∈ L, q ≤ x
    · obtain ⟨r, h1, h2, h3⟩ := own_top x L hL
      by_cases ha : a ≤ x ∧ r ≤ a
      · refine ⟨a, List.mem_cons_self .., ha.1, fun q hq hx => ?_⟩
        rcases List.mem_cons.mp hq with rfl | hq
        · exact Int32.le_refl _
        · exact Int32.le_trans (h3 q hq hx) ha.2
      · refine ⟨r, List.mem_cons_of_mem _ h1, h2, fun q hq hx => ?_⟩
        rcases List.mem_cons.mp hq with rfl | hq
        · rcases Int32.le_total q r with z | z
          · exact z
          · exact absurd ⟨hx, z⟩ ha
        · exact h3 q hq hx
    · obtain ⟨q, h1, h2⟩ := h
      rcases List.mem_cons.mp h1 with rfl | h1
      · refine ⟨q, List.mem_cons_self .., h2, fun r hr hx => ?_⟩
        rcases List.mem_cons.mp hr with rfl | hr
        · exact Int32.le_refl _
        · exact absurd ⟨r, hr, hx⟩ hL
      · exact absurd ⟨q, h1, h2⟩ hL
theorem own_kpts : ∀ k ∈ own_Ks, k ∈ own_pts ∧ (k + 1) ∈ own_pts ∧ (k + 1).toInt = k.toInt + 1 := by decide +kernel
theorem own_rep (x : Int32) : ∃ r ∈ own_pts, own_E x r := by
  obtain ⟨r, h1, h2, h3⟩ := own_top x own_pts ⟨-2147483648, by decide +kernel, by rw [Int32.le_iff_toInt_le]; exact x.le_toInt⟩
  refine ⟨r, h1, fun k hk => ?_⟩
  obtain ⟨k1, k2, k3⟩ := own_kpts k hk
  have q1 := h3 k k1
  have q2 := h3 (k + 1) k2
  simp only [Int32.le_iff_toInt_le, Int32.lt_iff_toInt_lt, ← Int32.toInt_inj] at *
  omega

theorem own_a_c58 {x y : Int32} (h : own_E x y) : own_a_58 x = own_a_58 y := rfl
theorem own_a_c54 {x y : Int32} (h : own_E x y) : own_a_54 x = own_a_54 y := rfl
theorem own_a_c42 {x y : Int32} (h : own_E x y) : own_a_42 x = own_a_42 y := (own_ite (h (65536 : Int32) (by decide)).1 (own_a_c58 h) (own_ite (h (1114111 : Int32) (by decide)).2.1 (own_a_c58 h) (own_a_c54 h)))
theorem own_a_c30 {x y : Int32} (h : own_E x y) : own_a_30 x = own_a_30 y := (own_ite (h (57344 : Int32) (by decide)).1 (own_a_c42 h) (own_ite (h (65533 : Int32) (by decide)).2.1 (own_a_c42 h) (own_a_c54 h)))
theorem own_a_c0 {x y : Int32} (h : own_E x y) : own_a_0 x = own_a_0 y := (own_ite (h (9 : Int32) (by decide)).2.2 (own_a_c54 h) (own_ite (h (10 : Int32) (by decide)).2.2 (own_a_c54 h) (own_ite (h (13 : Int32) (by decide)).2.2 (own_a_c54 h) (own_ite (h (32 : Int32) (by decide)).1 (own_a_c30 h) (own_ite (h (55295 : Int32) (by decide)).2.1 (own_a_c30 h) (own_a_c54 h))))))
theorem own_r_c78 {x y : Int32} (h : own_E x y) : own_r_78 x = own_r_78 y := rfl
theorem own_r_c68 {x y : Int32} (h : own_E x y) : own_r_68 x = own_r_68 y := (own_ite (h (1114111 : Int32) (by decide)).2.1 (own_r_c78 h) rfl)
theorem own_r_c60 {x y : Int32} (h : own_E x y) : own_r_60 x = own_r_60 y := (own_ite (h (65536 : Int32) (by decide)).1 rfl (own_r_c68 h))
theorem own_r_c52 {x y : Int32} (h : own_E x y) : own_r_52 x = own_r_52 y := (own_ite (h (65534 : Int32) (by decide)).1 rfl (own_r_c60 h))
theorem own_r_c44 {x y : Int32} (h : own_E x y) : own_r_44 x = own_r_44 y := (own_ite (h (57344 : Int32) (by decide)).1 rfl (own_r_c52 h))
theorem own_r_c36 {x y : Int32} (h : own_E x y) : own_r_36 x = own_r_36 y := (own_ite (h (55296 : Int32) (by decide)).1 rfl (own_r_c44 h))
theorem own_r_c34 {x y : Int32} (h : own_E x y) : own_r_34 x = own_r_34 y := rfl
theorem own_r_c30 {x y : Int32} (h : own_E x y) : own_r_30 x = own_r_30 y := rfl
theorem own_r_c6 {x y : Int32} (h : own_E x y) : own_r_6 x = own_r_6 y := (own_ite (h (32 : Int32) (by decide)).1 (own_ite (h (9 : Int32) (by decide)).2.2 (own_r_c30 h) (own_ite (h (10 : Int32) (by decide)).2.2 (own_r_c30 h) (own_ite (h (13 : Int32) (by decide)).2.2 (own_r_c30 h) (own_r_c34 h)))) (own_r_c36 h))
theorem own_r_c0 {x y : Int32} (h : own_E x y) : own_r_0 x = own_r_0 y := (own_ite (h (0 : Int32) (by decide)).1 rfl (own_r_c6 h))
theorem own_chk : ∀ q ∈ own_pts, own_a_0 q = own_r_0 q := by decide +kernel
theorem own_law (x : Int32) : own_a_0 x = own_r_0 x := by
  obtain ⟨r, h1, h2⟩ := own_rep x
  rw [own_a_c0 h2, own_r_c0 h2]
  exact own_chk r h1
theorem own_ix (x : Int32) : ¬ ((x &&& (2147483647 : Int32)) % (20 : Int32)) < 0 ∧ ((x &&& (2147483647 : Int32)) % (20 : Int32)) < (20 : Int32) := by
  have e1 := c_mask x (2147483647 : Int32) 31 (by decide) (by decide)
  have e2 := (c_irem (x &&& (2147483647 : Int32)) (20 : Int32) 20 rfl).1 (by rw [e1]; omega)
  simp only [Int32.lt_iff_toInt_lt]
  have e3 : (0 : Int32).toInt = 0 := rfl
  have e4 : (20 : Int32).toInt = 20 := rfl
  rw [e2, e3, e4]
  omega
theorem pn_0 : plainFor (⟨"com/example/early_sieve/earlysieve/io/XmlCharactersIsCharacterPinLaw", "law", "(III)Z"⟩ : MethodName) = true := plainFor_of_name (by first | (simp [plainName, overriddenIn]; done) | decide +kernel)
theorem ef_0 (m : MethodId) (x0 : Int32) (x1 : Int32) (x2 : Int32) : entryFrame m #[(.int x0), (.int x1), (.int x2)] maxLocals = mkF m 0 #[.val (.int x0), .val (.int x1), .val (.int x2), .unset, .unset, .unset, .unset] [] := by first | (simp [entryFrame, mkF, argsToLocals, Value.category, maxLocals]; done) | rfl
set_option maxRecDepth 65536 in
set_option maxHeartbeats 40000000 in
theorem rm0 (l : Launch) (Z : State) (tA : Array Value) (hw : ∀ d ∈ tables_1, d.before tA Z = true) (p0 : Int32) (p1 : Int32) (p2 : Int32) (h0 : Heap) (n0 : Nat) (Z0 : n0 ≤ h0.size) :
    MetFree l x (head1 (Jvm.Cond.code x code maxLocals ret :: tables_1) room_1) (fun a U => a = #[(.int p0), (.int p1), (.int p2)] ∧ Z.Warmed39 U.vm ∧ U.heap = h0) (fun _ _ _ _ _ => True) (fun _ U o U' => own_Post U (fun v _ L => v = some (.int (1 : Int32)) ∧ Fr n0 L) 16 128 o U') := by
  refine own_body pn_0 ?_
  intro p e s m below meth c s₁ X0 hx hZ hby hml hown hret hlk hnm e0
  have N0 := Fr.nil n0
  rw [ef_0]
  show own_Go p e below _ (s₁.setTop (mkF m 0 #[.val (.int p0), .val (.int p1), .val (.int p2), .unset, .unset, .unset, .unset] []))
  refine own_st (fun _ k => XS.bipush X0.here hx rfl (hb hby at_0) k) ?_
  show own_Go p e below _ (s₁.setTop (mkF m 2 #[.val (.int p0), .val (.int p1), .val (.int p2), .unset, .unset, .unset, .unset] [(.int (20 : Int32))]))
  obtain ⟨T1, h1, k1, X1, e1, E1, A1, st1⟩ := newP X0 hx hZ (hw _ (List.mem_of_getElem? (i := 0) rfl)) e0 (g := (mkF m 2 #[.val (.int p0), .val (.int p1), .val (.int p2), .unset, .unset, .unset, .unset] [(.int (20 : Int32))])) rfl (hb hby at_2) rfl (by decide) (cap := 20) (by decide) (by decide) (by decide) (by decide)
  refine own_st st1 ?_
  obtain ⟨b1, g1⟩ : ∃ z, z = h0.size := ⟨_, rfl⟩
  rw [← g1] at A1 ⊢
  have g_b1 : n0 ≤ b1 := Nat.le_trans Z0 (Nat.le_of_eq g1.symm)
  replace Z0 := Nat.le_trans Z0 E1.1
  have V_b1 : Arv Z h1 b1 k1 .int (20 : Int32) [(.int (0 : Int32)), (.int (0 : Int32)), (.int (0 : Int32)), (.int (0 : Int32)), (.int (0 : Int32)), (.int (0 : Int32)), (.int (0 : Int32)), (.int (0 : Int32)), (.int (0 : Int32)), (.int (0 : Int32)), (.int (0 : Int32)), (.int (0 : Int32)), (.int (0 : Int32)), (.int (0 : Int32)), (.int (0 : Int32)), (.int (0 : Int32)), (.int (0 : Int32)), (.int (0 : Int32)), (.int (0 : Int32)), (.int (0 : Int32))] (.int (0 : Int32)) := (Arv.new A1 (by decide)).pad (pad_rep [] (.int (0 : Int32)) 20)
  show own_Go p e below _ (T1.setTop (mkF m 4 #[.val (.int p0), .val (.int p1), .val (.int p2), .unset, .unset, .unset, .unset] [(.ref b1)]))
  refine own_st (fun _ k => XS.dup X1.here hx rfl (hb hby at_4) rfl rfl k) ?_
  show own_Go p e below _ (T1.setTop (mkF m 5 #[.val (.int p0), .val (.int p1), .val (.int p2), .unset, .unset, .unset, .unset] [(.ref b1), (.ref b1)]))
  refine own_st (fun _ k => XS.iconst X1.here hx rfl (hb hby at_5) k) ?_
  show own_Go p e below _ (T1.setTop (mkF m 6 #[.val (.int p0), .val (.int p1), .val (.int p2), .unset, .unset, .unset, .unset] [(.int (0 : Int32)), (.ref b1), (.ref b1)]))
  refine own_st (fun _ k => XS.iconst X1.here hx rfl (hb hby at_6) k) ?_
  show own_Go p e below _ (T1.setTop (mkF m 7 #[.val (.int p0), .val (.int p1), .val (.int p2), .unset, .unset, .unset, .unset] [(.int (0 : Int32)), (.int (0 : Int32)), (.ref b1), (.ref b1)]))
  obtain ⟨cl2, Ar2, qc2, S2, M2, H2, G2⟩ := V_b1
  obtain ⟨T2, h2, X2, e2, W2, st2⟩ := stI X1 hx hZ e1 Ar2 (j := (0 : Int32)) (inb_of S2 ⟨by decide, by decide⟩) (g := (mkF m 7 #[.val (.int p0), .val (.int p1), .val (.int p2), .unset, .unset, .unset, .unset] [(.int (0 : Int32)), (.int (0 : Int32)), (.ref b1), (.ref b1)])) rfl rfl (hb hby at_7)
  refine own_st st2 ?_
  replace Z0 := Nat.le_trans Z0 (Nat.le_of_eq W2.size.symm)
  replace N0 := Fr.snoc X2 N0 g_b1
  have V_b1 : Arv Z h2 b1 k1 .int (20 : Int32) [(.int (0 : Int32)), (.int (0 : Int32)), (.int (0 : Int32)), (.int (0 : Int32)), (.int (0 : Int32)), (.int (0 : Int32)), (.int (0 : Int32)), (.int (0 : Int32)), (.int (0 : Int32)), (.int (0 : Int32)), (.int (0 : Int32)), (.int (0 : Int32)), (.int (0 : Int32)), (.int (0 : Int32)), (.int (0 : Int32)), (.int (0 : Int32)), (.int (0 : Int32)), (.int (0 : Int32)), (.int (0 : Int32)), (.int (0 : Int32))] (.int (0 : Int32)) := Arv.set Ar2 qc2 S2 M2 H2 G2 rfl W2 0 rfl (Nat.le_of_ble_eq_true rfl)
  show own_Go p e below _ (T2.setTop (mkF m 8 #[.val (.int p0), .val (.int p1), .val (.int p2), .unset, .unset, .unset, .unset] [(.ref b1)]))
  refine own_st (fun _ k => XS.dup X2.here hx rfl (hb hby at_8) rfl rfl k) ?_
  show own_Go p e below _ (T2.setTop (mkF m 9 #[.val (.int p0), .val (.int p1), .val (.int p2), .unset, .unset, .unset, .unset] [(.ref b1), (.ref b1)]))
  refine own_st (fun _ k => XS.iconst X2.here hx rfl (hb hby at_9) k) ?_
  show own_Go p e below _ (T2.setTop (mkF m 10 #[.val (.int p0), .val (.int p1), .val (.int p2), .unset, .unset, .unset, .unset] [(.int (1 : Int32)), (.ref b1), (.ref b1)]))
  refine own_st (fun _ k => XS.bipush X2.here hx rfl (hb hby at_10) k) ?_
  show own_Go p e below _ (T2.setTop (mkF m 12 #[.val (.int p0), .val (.int p1), .val (.int p2), .unset, .unset, .unset, .unset] [(.int (8 : Int32)), (.int (1 : Int32)), (.ref b1), (.ref b1)]))
  obtain ⟨cl3, Ar3, qc3, S3, M3, H3, G3⟩ := V_b1
  obtain ⟨T3, h3, X3, e3, W3, st3⟩ := stI X2 hx hZ e2 Ar3 (j := (1 : Int32)) (inb_of S3 ⟨by decide, by decide⟩) (g := (mkF m 12 #[.val (.int p0), .val (.int p1), .val (.int p2), .unset, .unset, .unset, .unset] [(.int (8 : Int32)), (.int (1 : Int32)), (.ref b1), (.ref b1)])) rfl rfl (hb hby at_12)
  refine own_st st3 ?_
  replace Z0 := Nat.le_trans Z0 (Nat.le_of_eq W3.size.symm)
  replace N0 := Fr.snoc X3 N0 g_b1
  have V_b1 : Arv Z h3 b1 k1 .int (20 : Int32) [(.int (0 : Int32)), (.int (8 : Int32)), (.int (0 : Int32)), (.int (0 : Int32)), (.int (0 : Int32)), (.int (0 : Int32)), (.int (0 : Int32)), (.int (0 : Int32)), (.int (0 : Int32)), (.int (0 : Int32)), (.int (0 : Int32)), (.int (0 : Int32)), (.int (0 : Int32)), (.int (0 : Int32)), (.int (0 : Int32)), (.int (0 : Int32)), (.int (0 : Int32)), (.int (0 : Int32)), (.int (0 : Int32)), (.int (0 : Int32))] (.int (0 : Int32)) := Arv.set Ar3 qc3 S3 M3 H3 G3 rfl W3 1 rfl (Nat.le_of_ble_eq_true rfl)
  show own_Go p e below _ (T3.setTop (mkF m 13 #[.val (.int p0), .val (.int p1), .val (.int p2), .unset, .unset, .unset, .unset] [(.ref b1)]))
  refine own_st (fun _ k => XS.dup X3.here hx rfl (hb hby at_13) rfl rfl k) ?_
  show own_Go p e below _ (T3.setTop (mkF m 14 #[.val (.int p0), .val (.int p1), .val (.int p2), .unset, .unset, .unset, .unset] [(.ref b1), (.ref b1)]))
  refine own_st (fun _ k => XS.iconst X3.here hx rfl (hb hby at_14) k) ?_
  show own_Go p e below _ (T3.setTop (mkF m 15 #[.val (.int p0), .val (.int p1), .val (.int p2), .unset, .unset, .unset, .unset] [(.int (2 : Int32)), (.ref b1), (.ref b1)]))
  refine own_st (fun _ k => XS.bipush X3.here hx rfl (hb hby at_15) k) ?_
  show own_Go p e below _ (T3.setTop (mkF m 17 #[.val (.int p0), .val (.int p1), .val (.int p2), .unset, .unset, .unset, .unset] [(.int (9 : Int32)), (.int (2 : Int32)), (.ref b1), (.ref b1)]))
  obtain ⟨cl4, Ar4, qc4, S4, M4, H4, G4⟩ := V_b1
  obtain ⟨T4, h4, X4, e4, W4, st4⟩ := stI X3 hx hZ e3 Ar4 (j := (2 : Int32)) (inb_of S4 ⟨by decide, by decide⟩) (g := (mkF m 17 #[.val (.int p0), .val (.int p1), .val (.int p2), .unset, .unset, .unset, .unset] [(.int (9 : Int32)), (.int (2 : Int32)), (.ref b1), (.ref b1)])) rfl rfl (hb hby at_17)
  refine own_st st4 ?_
  replace Z0 := Nat.le_trans Z0 (Nat.le_of_eq W4.size.symm)
  replace N0 := Fr.snoc X4 N0 g_b1
  have V_b1 : Arv Z h4 b1 k1 .int (20 : Int32) [(.int (0 : Int32)), (.int (8 : Int32)), (.int (9 : Int32)), (.int (0 : Int32)), (.int (0 : Int32)), (.int (0 : Int32)), (.int (0 : Int32)), (.int (0 : Int32)), (.int (0 : Int32)), (.int (0 : Int32)), (.int (0 : Int32)), (.int (0 : Int32)), (.int (0 : Int32)), (.int (0 : Int32)), (.int (0 : Int32)), (.int (0 : Int32)), (.int (0 : Int32)), (.int (0 : Int32)), (.int (0 : Int32)), (.int (0 : Int32))] (.int (0 : Int32)) := Arv.set Ar4 qc4 S4 M4 H4 G4 rfl W4 2 rfl (Nat.le_of_ble_eq_true rfl)
  show own_Go p e below _ (T4.setTop (mkF m 18 #[.val (.int p0), .val (.int p1), .val (.int p2), .unset, .unset, .unset, .unset] [(.ref b1)]))
  refine own_st (fun _ k => XS.dup X4.here hx rfl (hb hby at_18) rfl rfl k) ?_
  show own_Go p e below _ (T4.setTop (mkF m 19 #[.val (.int p0), .val (.int p1), .val (.int p2), .unset, .unset, .unset, .unset] [(.ref b1), (.ref b1)]))
  refine own_st (fun _ k => XS.iconst X4.here hx rfl (hb hby at_19) k) ?_
  show own_Go p e below _ (T4.setTop (mkF m 20 #[.val (.int p0), .val (.int p1), .val (.int p2), .unset, .unset, .unset, .unset] [(.int (3 : Int32)), (.ref b1), (.ref b1)]))
  refine own_st (fun _ k => XS.bipush X4.here hx rfl (hb hby at_20) k) ?_
  show own_Go p e below _ (T4.setTop (mkF m 22 #[.val (.int p0), .val (.int p1), .val (.int p2), .unset, .unset, .unset, .unset] [(.int (10 : Int32)), (.int (3 : Int32)), (.ref b1), (.ref b1)]))
  obtain ⟨cl5, Ar5, qc5, S5, M5, H5, G5⟩ := V_b1
  obtain ⟨T5, h5, X5, e5, W5, st5⟩ := stI X4 hx hZ e4 Ar5 (j := (3 : Int32)) (inb_of S5 ⟨by decide, by decide⟩) (g := (mkF m 22 #[.val (.int p0), .val (.int p1), .val (.int p2), .unset, .unset, .unset, .unset] [(.int (10 : Int32)), (.int (3 : Int32)), (.ref b1), (.ref b1)])) rfl rfl (hb hby at_22)
  refine own_st st5 ?_
  replace Z0 := Nat.le_trans Z0 (Nat.le_of_eq W5.size.symm)
  replace N0 := Fr.snoc X5 N0 g_b1
  have V_b1 : Arv Z h5 b1 k1 .int (20 : Int32) [(.int (0 : Int32)), (.int (8 : Int32)), (.int (9 : Int32)), (.int (10 : Int32)), (.int (0 : Int32)), (.int (0 : Int32)), (.int (0 : Int32)), (.int (0 : Int32)), (.int (0 : Int32)), (.int (0 : Int32)), (.int (0 : Int32)), (.int (0 : Int32)), (.int (0 : Int32)), (.int (0 : Int32)), (.int (0 : Int32)), (.int (0 : Int32)), (.int (0 : Int32)), (.int (0 : Int32)), (.int (0 : Int32)), (.int (0 : Int32))] (.int (0 : Int32)) := Arv.set Ar5 qc5 S5 M5 H5 G5 rfl W5 3 rfl (Nat.le_of_ble_eq_true rfl)
  show own_Go p e below _ (T5.setTop (mkF m 23 #[.val (.int p0), .val (.int p1), .val (.int p2), .unset, .unset, .unset, .unset] [(.ref b1)]))
  refine own_st (fun _ k => XS.dup X5.here hx rfl (hb hby at_23) rfl rfl k) ?_
  show own_Go p e below _ (T5.setTop (mkF m 24 #[.val (.int p0), .val (.int p1), .val (.int p2), .unset, .unset, .unset, .unset] [(.ref b1), (.ref b1)]))
  refine own_st (fun _ k => XS.iconst X5.here hx rfl (hb hby at_24) k) ?_
  show own_Go p e below _ (T5.setTop (mkF m 25 #[.val (.int p0), .val (.int p1), .val (.int p2), .unset, .unset, .unset, .unset] [(.int (4 : Int32)), (.ref b1), (.ref b1)]))
  refine own_st (fun _ k => XS.bipush X5.here hx rfl (hb hby at_25) k) ?_
  show own_Go p e below _ (T5.setTop (mkF m 27 #[.val (.int p0), .val (.int p1), .val (.int p2), .unset, .unset, .unset, .unset] [(.int (11 : Int32)), (.int (4 : Int32)), (.ref b1), (.ref b1)]))
  obtain ⟨cl6, Ar6, qc6, S6, M6, H6, G6⟩ := V_b1
  obtain ⟨T6, h6, X6, e6, W6, st6⟩ := stI X5 hx hZ e5 Ar6 (j := (4 : Int32)) (inb_of S6 ⟨by decide, by decide⟩) (g := (mkF m 27 #[.val (.int p0), .val (.int p1), .val (.int p2), .unset, .unset, .unset, .unset] [(.int (11 : Int32)), (.int (4 : Int32)), (.ref b1), (.ref b1)])) rfl rfl (hb hby at_27)
  refine own_st st6 ?_
  replace Z0 := Nat.le_trans Z0 (Nat.le_of_eq W6.size.symm)
  replace N0 := Fr.snoc X6 N0 g_b1
  have V_b1 : Arv Z h6 b1 k1 .int (20 : Int32) [(.int (0 : Int32)), (.int (8 : Int32)), (.int (9 : Int32)), (.int (10 : Int32)), (.int (11 : Int32)), (.int (0 : Int32)), (.int (0 : Int32)), (.int (0 : Int32)), (.int (0 : Int32)), (.int (0 : Int32)), (.int (0 : Int32)), (.int (0 : Int32)), (.int (0 : Int32)), (.int (0 : Int32)), (.int (0 : Int32)), (.int (0 : Int32)), (.int (0 : Int32)), (.int (0 : Int32)), (.int (0 : Int32)), (.int (0 : Int32))] (.int (0 : Int32)) := Arv.set Ar6 qc6 S6 M6 H6 G6 rfl W6 4 rfl (Nat.le_of_ble_eq_true rfl)
  show own_Go p e below _ (T6.setTop (mkF m 28 #[.val (.int p0), .val (.int p1), .val (.int p2), .unset, .unset, .unset, .unset] [(.ref b1)]))
  refine own_st (fun _ k => XS.dup X6.here hx rfl (hb hby at_28) rfl rfl k) ?_
  show own_Go p e below _ (T6.setTop (mkF m 29 #[.val (.int p0), .val (.int p1), .val (.int p2), .unset, .unset, .unset, .unset] [(.ref b1), (.ref b1)]))
  refine own_st (fun _ k => XS.iconst X6.here hx rfl (hb hby at_29) k) ?_
  show own_Go p e below _ (T6.setTop (mkF m 30 #[.val (.int p0), .val (.int p1), .val (.int p2), .unset, .unset, .unset, .unset] [(.int (5 : Int32)), (.ref b1), (.ref b1)]))
  refine own_st (fun _ k => XS.bipush X6.here hx rfl (hb hby at_30) k) ?_
  show own_Go p e below _ (T6.setTop (mkF m 32 #[.val (.int p0), .val (.int p1), .val (.int p2), .unset, .unset, .unset, .unset] [(.int (13 : Int32)), (.int (5 : Int32)), (.ref b1), (.ref b1)]))
  obtain ⟨cl7, Ar7, qc7, S7, M7, H7, G7⟩ := V_b1
  obtain ⟨T7, h7, X7, e7, W7, st7⟩ := stI X6 hx hZ e6 Ar7 (j := (5 : Int32)) (inb_of S7 ⟨by decide, by decide⟩) (g := (mkF m 32 #[.val (.int p0), .val (.int p1), .val (.int p2), .unset, .unset, .unset, .unset] [(.int (13 : Int32)), (.int (5 : Int32)), (.ref b1), (.ref b1)])) rfl rfl (hb hby at_32)
  refine own_st st7 ?_
  replace Z0 := Nat.le_trans Z0 (Nat.le_of_eq W7.size.symm)
  replace N0 := Fr.snoc X7 N0 g_b1
  have V_b1 : Arv Z h7 b1 k1 .int (20 : Int32) [(.int (0 : Int32)), (.int (8 : Int32)), (.int (9 : Int32)), (.int (10 : Int32)), (.int (11 : Int32)), (.int (13 : Int32)), (.int (0 : Int32)), (.int (0 : Int32)), (.int (0 : Int32)), (.int (0 : Int32)), (.int (0 : Int32)), (.int (0 : Int32)), (.int (0 : Int32)), (.int (0 : Int32)), (.int (0 : Int32)), (.int (0 : Int32)), (.int (0 : Int32)), (.int (0 : Int32)), (.int (0 : Int32)), (.int (0 : Int32))] (.int (0 : Int32)) := Arv.set Ar7 qc7 S7 M7 H7 G7 rfl W7 5 rfl (Nat.le_of_ble_eq_true rfl)
  show own_Go p e below _ (T7.setTop (mkF m 33 #[.val (.int p0), .val (.int p1), .val (.int p2), .unset, .unset, .unset, .unset] [(.ref b1)]))
  refine own_st (fun _ k => XS.dup X7.here hx rfl (hb hby at_33) rfl rfl k) ?_
  show own_Go p e below _ (T7.setTop (mkF m 34 #[.val (.int p0), .val (.int p1), .val (.int p2), .unset, .unset, .unset, .unset] [(.ref b1), (.ref b1)]))
  refine own_st (fun _ k => XS.bipush X7.here hx rfl (hb hby at_34) k) ?_
  show own_Go p e below _ (T7.setTop (mkF m 36 #[.val (.int p0), .val (.int p1), .val (.int p2), .unset, .unset, .unset, .unset] [(.int (6 : Int32)), (.ref b1), (.ref b1)]))
  refine own_st (fun _ k => XS.bipush X7.here hx rfl (hb hby at_36) k) ?_
  show own_Go p e below _ (T7.setTop (mkF m 38 #[.val (.int p0), .val (.int p1), .val (.int p2), .unset, .unset, .unset, .unset] [(.int (14 : Int32)), (.int (6 : Int32)), (.ref b1), (.ref b1)]))
  obtain ⟨cl8, Ar8, qc8, S8, M8, H8, G8⟩ := V_b1
  obtain ⟨T8, h8, X8, e8, W8, st8⟩ := stI X7 hx hZ e7 Ar8 (j := (6 : Int32)) (inb_of S8 ⟨by decide, by decide⟩) (g := (mkF m 38 #[.val (.int p0), .val (.int p1), .val (.int p2), .unset, .unset, .unset, .unset] [(.int (14 : Int32)), (.int (6 : Int32)), (.ref b1), (.ref b1)])) rfl rfl (hb hby at_38)
  refine own_st st8 ?_
  replace Z0 := Nat.le_trans Z0 (Nat.le_of_eq W8.size.symm)
  replace N0 := Fr.snoc X8 N0 g_b1
  have V_b1 : Arv Z h8 b1 k1 .int (20 : Int32) [(.int (0 : Int32)), (.int (8 : Int32)), (.int (9 : Int32)), (.int (10 : Int32)), (.int (11 : Int32)), (.int (13 : Int32)), (.int (14 : Int32)), (.int (0 : Int32)), (.int (0 : Int32)), (.int (0 : Int32)), (.int (0 : Int32)), (.int (0 : Int32)), (.int (0 : Int32)), (.int (0 : Int32)), (.int (0 : Int32)), (.int (0 : Int32)), (.int (0 : Int32)), (.int (0 : Int32)), (.int (0 : Int32)), (.int (0 : Int32))] (.int (0 : Int32)) := Arv.set Ar8 qc8 S8 M8 H8 G8 rfl W8 6 rfl (Nat.le_of_ble_eq_true rfl)
  show own_Go p e below _ (T8.setTop (mkF m 39 #[.val (.int p0), .val (.int p1), .val (.int p2), .unset, .unset, .unset, .unset] [(.ref b1)]))
  refine own_st (fun _ k => XS.dup X8.here hx rfl (hb hby at_39) rfl rfl k) ?_
  show own_Go p e below _ (T8.setTop (mkF m 40 #[.val (.int p0), .val (.int p1), .val (.int p2), .unset, .unset, .unset, .unset] [(.ref b1), (.ref b1)]))
  refine own_st (fun _ k => XS.bipush X8.here hx rfl (hb hby at_40) k) ?_
  show own_Go p e below _ (T8.setTop (mkF m 42 #[.val (.int p0), .val (.int p1), .val (.int p2), .unset, .unset, .unset, .unset] [(.int (7 : Int32)), (.ref b1), (.ref b1)]))
  refine own_st (fun _ k => XS.bipush X8.here hx rfl (hb hby at_42) k) ?_
  show own_Go p e below _ (T8.setTop (mkF m 44 #[.val (.int p0), .val (.int p1), .val (.int p2), .unset, .unset, .unset, .unset] [(.int (31 : Int32)), (.int (7 : Int32)), (.ref b1), (.ref b1)]))
  obtain ⟨cl9, Ar9, qc9, S9, M9, H9, G9⟩ := V_b1
  obtain ⟨T9, h9, X9, e9, W9, st9⟩ := stI X8 hx hZ e8 Ar9 (j := (7 : Int32)) (inb_of S9 ⟨by decide, by decide⟩) (g := (mkF m 44 #[.val (.int p0), .val (.int p1), .val (.int p2), .unset, .unset, .unset, .unset] [(.int (31 : Int32)), (.int (7 : Int32)), (.ref b1), (.ref b1)])) rfl rfl (hb hby at_44)
  refine own_st st9 ?_
  replace Z0 := Nat.le_trans Z0 (Nat.le_of_eq W9.size.symm)
  replace N0 := Fr.snoc X9 N0 g_b1
  have V_b1 : Arv Z h9 b1 k1 .int (20 : Int32) [(.int (0 : Int32)), (.int (8 : Int32)), (.int (9 : Int32)), (.int (10 : Int32)), (.int (11 : Int32)), (.int (13 : Int32)), (.int (14 : Int32)), (.int (31 : Int32)), (.int (0 : Int32)), (.int (0 : Int32)), (.int (0 : Int32)), (.int (0 : Int32)), (.int (0 : Int32)), (.int (0 : Int32)), (.int (0 : Int32)), (.int (0 : Int32)), (.int (0 : Int32)), (.int (0 : Int32)), (.int (0 : Int32)), (.int (0 : Int32))] (.int (0 : Int32)) := Arv.set Ar9 qc9 S9 M9 H9 G9 rfl W9 7 rfl (Nat.le_of_ble_eq_true rfl)
  show own_Go p e below _ (T9.setTop (mkF m 45 #[.val (.int p0), .val (.int p1), .val (.int p2), .unset, .unset, .unset, .unset] [(.ref b1)]))
  refine own_st (fun _ k => XS.dup X9.here hx rfl (hb hby at_45) rfl rfl k) ?_
  show own_Go p e below _ (T9.setTop (mkF m 46 #[.val (.int p0), .val (.int p1), .val (.int p2), .unset, .unset, .unset, .unset] [(.ref b1), (.ref b1)]))
  refine own_st (fun _ k => XS.bipush X9.here hx rfl (hb hby at_46) k) ?_
  show own_Go p e below _ (T9.setTop (mkF m 48 #[.val (.int p0), .val (.int p1), .val (.int p2), .unset, .unset, .unset, .unset] [(.int (8 : Int32)), (.ref b1), (.ref b1)]))
  refine own_st (fun _ k => XS.bipush X9.here hx rfl (hb hby at_48) k) ?_
  show own_Go p e below _ (T9.setTop (mkF m 50 #[.val (.int p0), .val (.int p1), .val (.int p2), .unset, .unset, .unset, .unset] [(.int (32 : Int32)), (.int (8 : Int32)), (.ref b1), (.ref b1)]))
  obtain ⟨cl10, Ar10, qc10, S10, M10, H10, G10⟩ := V_b1
  obtain ⟨T10, h10, X10, e10, W10, st10⟩ := stI X9 hx hZ e9 Ar10 (j := (8 : Int32)) (inb_of S10 ⟨by decide, by decide⟩) (g := (mkF m 50 #[.val (.int p0), .val (.int p1), .val (.int p2), .unset, .unset, .unset, .unset] [(.int (32 : Int32)), (.int (8 : Int32)), (.ref b1), (.ref b1)])) rfl rfl (hb hby at_50)
  refine own_st st10 ?_
  replace Z0 := Nat.le_trans Z0 (Nat.le_of_eq W10.size.symm)
  replace N0 := Fr.snoc X10 N0 g_b1
  have V_b1 : Arv Z h10 b1 k1 .int (20 : Int32) [(.int (0 : Int32)), (.int (8 : Int32)), (.int (9 : Int32)), (.int (10 : Int32)), (.int (11 : Int32)), (.int (13 : Int32)), (.int (14 : Int32)), (.int (31 : Int32)), (.int (32 : Int32)), (.int (0 : Int32)), (.int (0 : Int32)), (.int (0 : Int32)), (.int (0 : Int32)), (.int (0 : Int32)), (.int (0 : Int32)), (.int (0 : Int32)), (.int (0 : Int32)), (.int (0 : Int32)), (.int (0 : Int32)), (.int (0 : Int32))] (.int (0 : Int32)) := Arv.set Ar10 qc10 S10 M10 H10 G10 rfl W10 8 rfl (Nat.le_of_ble_eq_true rfl)
  show own_Go p e below _ (T10.setTop (mkF m 51 #[.val (.int p0), .val (.int p1), .val (.int p2), .unset, .unset, .unset, .unset] [(.ref b1)]))
  refine own_st (fun _ k => XS.dup X10.here hx rfl (hb hby at_51) rfl rfl k) ?_
  show own_Go p e below _ (T10.setTop (mkF m 52 #[.val (.int p0), .val (.int p1), .val (.int p2), .unset, .unset, .unset, .unset] [(.ref b1), (.ref b1)]))
  refine own_st (fun _ k => XS.bipush X10.here hx rfl (hb hby at_52) k) ?_
  show own_Go p e below _ (T10.setTop (mkF m 54 #[.val (.int p0), .val (.int p1), .val (.int p2), .unset, .unset, .unset, .unset] [(.int (9 : Int32)), (.ref b1), (.ref b1)]))
  refine own_st (fun _ k => X10.ldcInt hx hown (mvT hZ (hw _ (List.mem_of_getElem? (i := 1) rfl))) (g := (mkF m 54 #[.val (.int p0), .val (.int p1), .val (.int p2), .unset, .unset, .unset, .unset] [(.int (9 : Int32)), (.ref b1), (.ref b1)])) rfl (hb hby at_54) _ k) ?_
  show own_Go p e below _ (T10.setTop (mkF m 56 #[.val (.int p0), .val (.int p1), .val (.int p2), .unset, .unset, .unset, .unset] [(.int (55295 : Int32)), (.int (9 : Int32)), (.ref b1), (.ref b1)]))
  obtain ⟨cl11, Ar11, qc11, S11, M11, H11, G11⟩ := V_b1
  obtain ⟨T11, h11, X11, e11, W11, st11⟩ := stI X10 hx hZ e10 Ar11 (j := (9 : Int32)) (inb_of S11 ⟨by decide, by decide⟩) (g := (mkF m 56 #[.val (.int p0), .val (.int p1), .val (.int p2), .unset, .unset, .unset, .unset] [(.int (55295 : Int32)), (.int (9 : Int32)), (.ref b1), (.ref b1)])) rfl rfl (hb hby at_56)
  refine own_st st11 ?_
  replace Z0 := Nat.le_trans Z0 (Nat.le_of_eq W11.size.symm)
  replace N0 := Fr.snoc X11 N0 g_b1
  have V_b1 : Arv Z h11 b1 k1 .int (20 : Int32) [(.int (0 : Int32)), (.int (8 : Int32)), (.int (9 : Int32)), (.int (10 : Int32)), (.int (11 : Int32)), (.int (13 : Int32)), (.int (14 : Int32)), (.int (31 : Int32)), (.int (32 : Int32)), (.int (55295 : Int32)), (.int (0 : Int32)), (.int (0 : Int32)), (.int (0 : Int32)), (.int (0 : Int32)), (.int (0 : Int32)), (.int (0 : Int32)), (.int (0 : Int32)), (.int (0 : Int32)), (.int (0 : Int32)), (.int (0 : Int32))] (.int (0 : Int32)) := Arv.set Ar11 qc11 S11 M11 H11 G11 rfl W11 9 rfl (Nat.le_of_ble_eq_true rfl)
  show own_Go p e below _ (T11.setTop (mkF m 57 #[.val (.int p0), .val (.int p1), .val (.int p2), .unset, .unset, .unset, .unset] [(.ref b1)]))
  refine own_st (fun _ k => XS.dup X11.here hx rfl (hb hby at_57) rfl rfl k) ?_
  show own_Go p e below _ (T11.setTop (mkF m 58 #[.val (.int p0), .val (.int p1), .val (.int p2), .unset, .unset, .unset, .unset] [(.ref b1), (.ref b1)]))
  refine own_st (fun _ k => XS.bipush X11.here hx rfl (hb hby at_58) k) ?_
  show own_Go p e below _ (T11.setTop (mkF m 60 #[.val (.int p0), .val (.int p1), .val (.int p2), .unset, .unset, .unset, .unset] [(.int (10 : Int32)), (.ref b1), (.ref b1)]))
  refine own_st (fun _ k => X11.ldcInt hx hown (mvT hZ (hw _ (List.mem_of_getElem? (i := 2) rfl))) (g := (mkF m 60 #[.val (.int p0), .val (.int p1), .val (.int p2), .unset, .unset, .unset, .unset] [(.int (10 : Int32)), (.ref b1), (.ref b1)])) rfl (hb hby at_60) _ k) ?_
  show own_Go p e below _ (T11.setTop (mkF m 62 #[.val (.int p0), .val (.int p1), .val (.int p2), .unset, .unset, .unset, .unset] [(.int (55296 : Int32)), (.int (10 : Int32)), (.ref b1), (.ref b1)]))
  obtain ⟨cl12, Ar12, qc12, S12, M12, H12, G12⟩ := V_b1
  obtain ⟨T12, h12, X12, e12, W12, st12⟩ := stI X11 hx hZ e11 Ar12 (j := (10 : Int32)) (inb_of S12 ⟨by decide, by decide⟩) (g := (mkF m 62 #[.val (.int p0), .val (.int p1), .val (.int p2), .unset, .unset, .unset, .unset] [(.int (55296 : Int32)), (.int (10 : Int32)), (.ref b1), (.ref b1)])) rfl rfl (hb hby at_62)
  refine own_st st12 ?_
  replace Z0 := Nat.le_trans Z0 (Nat.le_of_eq W12.size.symm)
  replace N0 := Fr.snoc X12 N0 g_b1
  have V_b1 : Arv Z h12 b1 k1 .int (20 : Int32) [(.int (0 : Int32)), (.int (8 : Int32)), (.int (9 : Int32)), (.int (10 : Int32)), (.int (11 : Int32)), (.int (13 : Int32)), (.int (14 : Int32)), (.int (31 : Int32)), (.int (32 : Int32)), (.int (55295 : Int32)), (.int (55296 : Int32)), (.int (0 : Int32)), (.int (0 : Int32)), (.int (0 : Int32)), (.int (0 : Int32)), (.int (0 : Int32)), (.int (0 : Int32)), (.int (0 : Int32)), (.int (0 : Int32)), (.int (0 : Int32))] (.int (0 : Int32)) := Arv.set Ar12 qc12 S12 M12 H12 G12 rfl W12 10 rfl (Nat.le_of_ble_eq_true rfl)
  show own_Go p e below _ (T12.setTop (mkF m 63 #[.val (.int p0), .val (.int p1), .val (.int p2), .unset, .unset, .unset, .unset] [(.ref b1)]))
  refine own_st (fun _ k => XS.dup X12.here hx rfl (hb hby at_63) rfl rfl k) ?_
  show own_Go p e below _ (T12.setTop (mkF m 64 #[.val (.int p0), .val (.int p1), .val (.int p2), .unset, .unset, .unset, .unset] [(.ref b1), (.ref b1)]))
  refine own_st (fun _ k => XS.bipush X12.here hx rfl (hb hby at_64) k) ?_
  show own_Go p e below _ (T12.setTop (mkF m 66 #[.val (.int p0), .val (.int p1), .val (.int p2), .unset, .unset, .unset, .unset] [(.int (11 : Int32)), (.ref b1), (.ref b1)]))
  refine own_st (fun _ k => X12.ldcInt hx hown (mvT hZ (hw _ (List.mem_of_getElem? (i := 3) rfl))) (g := (mkF m 66 #[.val (.int p0), .val (.int p1), .val (.int p2), .unset, .unset, .unset, .unset] [(.int (11 : Int32)), (.ref b1), (.ref b1)])) rfl (hb hby at_66) _ k) ?_
  show own_Go p e below _ (T12.setTop (mkF m 68 #[.val (.int p0), .val (.int p1), .val (.int p2), .unset, .unset, .unset, .unset] [(.int (57343 : Int32)), (.int (11 : Int32)), (.ref b1), (.ref b1)]))
  obtain ⟨cl13, Ar13, qc13, S13, M13, H13, G13⟩ := V_b1
  obtain ⟨T13, h13, X13, e13, W13, st13⟩ := stI X12 hx hZ e12 Ar13 (j := (11 : Int32)) (inb_of S13 ⟨by decide, by decide⟩) (g := (mkF m 68 #[.val (.int p0), .val (.int p1), .val (.int p2), .unset, .unset, .unset, .unset] [(.int (57343 : Int32)), (.int (11 : Int32)), (.ref b1), (.ref b1)])) rfl rfl (hb hby at_68)
  refine own_st st13 ?_
  replace Z0 := Nat.le_trans Z0 (Nat.le_of_eq W13.size.symm)
  replace N0 := Fr.snoc X13 N0 g_b1
  have V_b1 : Arv Z h13 b1 k1 .int (20 : Int32) [(.int (0 : Int32)), (.int (8 : Int32)), (.int (9 : Int32)), (.int (10 : Int32)), (.int (11 : Int32)), (.int (13 : Int32)), (.int (14 : Int32)), (.int (31 : Int32)), (.int (32 : Int32)), (.int (55295 : Int32)), (.int (55296 : Int32)), (.int (57343 : Int32)), (.int (0 : Int32)), (.int (0 : Int32)), (.int (0 : Int32)), (.int (0 : Int32)), (.int (0 : Int32)), (.int (0 : Int32)), (.int (0 : Int32)), (.int (0 : Int32))] (.int (0 : Int32)) := Arv.set Ar13 qc13 S13 M13 H13 G13 rfl W13 11 rfl (Nat.le_of_ble_eq_true rfl)
  show own_Go p e below _ (T13.setTop (mkF m 69 #[.val (.int p0), .val (.int p1), .val (.int p2), .unset, .unset, .unset, .unset] [(.ref b1)]))
  refine own_st (fun _ k => XS.dup X13.here hx rfl (hb hby at_69) rfl rfl k) ?_
  show own_Go p e below _ (T13.setTop (mkF m 70 #[.val (.int p0), .val (.int p1), .val (.int p2), .unset, .unset, .unset, .unset] [(.ref b1), (.ref b1)]))
  refine own_st (fun _ k => XS.bipush X13.here hx rfl (hb hby at_70) k) ?_
  show own_Go p e below _ (T13.setTop (mkF m 72 #[.val (.int p0), .val (.int p1), .val (.int p2), .unset, .unset, .unset, .unset] [(.int (12 : Int32)), (.ref b1), (.ref b1)]))
  refine own_st (fun _ k => X13.ldcInt hx hown (mvT hZ (hw _ (List.mem_of_getElem? (i := 4) rfl))) (g := (mkF m 72 #[.val (.int p0), .val (.int p1), .val (.int p2), .unset, .unset, .unset, .unset] [(.int (12 : Int32)), (.ref b1), (.ref b1)])) rfl (hb hby at_72) _ k) ?_
  show own_Go p e below _ (T13.setTop (mkF m 74 #[.val (.int p0), .val (.int p1), .val (.int p2), .unset, .unset, .unset, .unset] [(.int (57344 : Int32)), (.int (12 : Int32)), (.ref b1), (.ref b1)]))
  obtain ⟨cl14, Ar14, qc14, S14, M14, H14, G14⟩ := V_b1
  obtain ⟨T14, h14, X14, e14, W14, st14⟩ := stI X13 hx hZ e13 Ar14 (j := (12 : Int32)) (inb_of S14 ⟨by decide, by decide⟩) (g := (mkF m 74 #[.val (.int p0), .val (.int p1), .val (.int p2), .unset, .unset, .unset, .unset] [(.int (57344 : Int32)), (.int (12 : Int32)), (.ref b1), (.ref b1)])) rfl rfl (hb hby at_74)
  refine own_st st14 ?_
  replace Z0 := Nat.le_trans Z0 (Nat.le_of_eq W14.size.symm)
  replace N0 := Fr.snoc X14 N0 g_b1
  have V_b1 : Arv Z h14 b1 k1 .int (20 : Int32) [(.int (0 : Int32)), (.int (8 : Int32)), (.int (9 : Int32)), (.int (10 : Int32)), (.int (11 : Int32)), (.int (13 : Int32)), (.int (14 : Int32)), (.int (31 : Int32)), (.int (32 : Int32)), (.int (55295 : Int32)), (.int (55296 : Int32)), (.int (57343 : Int32)), (.int (57344 : Int32)), (.int (0 : Int32)), (.int (0 : Int32)), (.int (0 : Int32)), (.int (0 : Int32)), (.int (0 : Int32)), (.int (0 : Int32)), (.int (0 : Int32))] (.int (0 : Int32)) := Arv.set Ar14 qc14 S14 M14 H14 G14 rfl W14 12 rfl (Nat.le_of_ble_eq_true rfl)
  show own_Go p e below _ (T14.setTop (mkF m 75 #[.val (.int p0), .val (.int p1), .val (.int p2), .unset, .unset, .unset, .unset] [(.ref b1)]))
  refine own_st (fun _ k => XS.dup X14.here hx rfl (hb hby at_75) rfl rfl k) ?_
  show own_Go p e below _ (T14.setTop (mkF m 76 #[.val (.int p0), .val (.int p1), .val (.int p2), .unset, .unset, .unset, .unset] [(.ref b1), (.ref b1)]))
  refine own_st (fun _ k => XS.bipush X14.here hx rfl (hb hby at_76) k) ?_
  show own_Go p e below _ (T14.setTop (mkF m 78 #[.val (.int p0), .val (.int p1), .val (.int p2), .unset, .unset, .unset, .unset] [(.int (13 : Int32)), (.ref b1), (.ref b1)]))
  refine own_st (fun _ k => X14.ldcInt hx hown (mvT hZ (hw _ (List.mem_of_getElem? (i := 5) rfl))) (g := (mkF m 78 #[.val (.int p0), .val (.int p1), .val (.int p2), .unset, .unset, .unset, .unset] [(.int (13 : Int32)), (.ref b1), (.ref b1)])) rfl (hb hby at_78) _ k) ?_
  show own_Go p e below _ (T14.setTop (mkF m 80 #[.val (.int p0), .val (.int p1), .val (.int p2), .unset, .unset, .unset, .unset] [(.int (65533 : Int32)), (.int (13 : Int32)), (.ref b1), (.ref b1)]))
  obtain ⟨cl15, Ar15, qc15, S15, M15, H15, G15⟩ := V_b1
  obtain ⟨T15, h15, X15, e15, W15, st15⟩ := stI X14 hx hZ e14 Ar15 (j := (13 : Int32)) (inb_of S15 ⟨by decide, by decide⟩) (g := (mkF m 80 #[.val (.int p0), .val (.int p1), .val (.int p2), .unset, .unset, .unset, .unset] [(.int (65533 : Int32)), (.int (13 : Int32)), (.ref b1), (.ref b1)])) rfl rfl (hb hby at_80)
  refine own_st st15 ?_
  replace Z0 := Nat.le_trans Z0 (Nat.le_of_eq W15.size.symm)
  replace N0 := Fr.snoc X15 N0 g_b1
  have V_b1 : Arv Z h15 b1 k1 .int (20 : Int32) [(.int (0 : Int32)), (.int (8 : Int32)), (.int (9 : Int32)), (.int (10 : Int32)), (.int (11 : Int32)), (.int (13 : Int32)), (.int (14 : Int32)), (.int (31 : Int32)), (.int (32 : Int32)), (.int (55295 : Int32)), (.int (55296 : Int32)), (.int (57343 : Int32)), (.int (57344 : Int32)), (.int (65533 : Int32)), (.int (0 : Int32)), (.int (0 : Int32)), (.int (0 : Int32)), (.int (0 : Int32)), (.int (0 : Int32)), (.int (0 : Int32))] (.int (0 : Int32)) := Arv.set Ar15 qc15 S15 M15 H15 G15 rfl W15 13 rfl (Nat.le_of_ble_eq_true rfl)
  show own_Go p e below _ (T15.setTop (mkF m 81 #[.val (.int p0), .val (.int p1), .val (.int p2), .unset, .unset, .unset, .unset] [(.ref b1)]))
  refine own_st (fun _ k => XS.dup X15.here hx rfl (hb hby at_81) rfl rfl k) ?_
  show own_Go p e below _ (T15.setTop (mkF m 82 #[.val (.int p0), .val (.int p1), .val (.int p2), .unset, .unset, .unset, .unset] [(.ref b1), (.ref b1)]))
  refine own_st (fun _ k => XS.bipush X15.here hx rfl (hb hby at_82) k) ?_
  show own_Go p e below _ (T15.setTop (mkF m 84 #[.val (.int p0), .val (.int p1), .val (.int p2), .unset, .unset, .unset, .unset] [(.int (14 : Int32)), (.ref b1), (.ref b1)]))
  refine own_st (fun _ k => X15.ldcInt hx hown (mvT hZ (hw _ (List.mem_of_getElem? (i := 6) rfl))) (g := (mkF m 84 #[.val (.int p0), .val (.int p1), .val (.int p2), .unset, .unset, .unset, .unset] [(.int (14 : Int32)), (.ref b1), (.ref b1)])) rfl (hb hby at_84) _ k) ?_
  show own_Go p e below _ (T15.setTop (mkF m 86 #[.val (.int p0), .val (.int p1), .val (.int p2), .unset, .unset, .unset, .unset] [(.int (65534 : Int32)), (.int (14 : Int32)), (.ref b1), (.ref b1)]))
  obtain ⟨cl16, Ar16, qc16, S16, M16, H16, G16⟩ := V_b1
  obtain ⟨T16, h16, X16, e16, W16, st16⟩ := stI X15 hx hZ e15 Ar16 (j := (14 : Int32)) (inb_of S16 ⟨by decide, by decide⟩) (g := (mkF m 86 #[.val (.int p0), .val (.int p1), .val (.int p2), .unset, .unset, .unset, .unset] [(.int (65534 : Int32)), (.int (14 : Int32)), (.ref b1), (.ref b1)])) rfl rfl (hb hby at_86)
  refine own_st st16 ?_
  replace Z0 := Nat.le_trans Z0 (Nat.le_of_eq W16.size.symm)
  replace N0 := Fr.snoc X16 N0 g_b1
  have V_b1 : Arv Z h16 b1 k1 .int (20 : Int32) [(.int (0 : Int32)), (.int (8 : Int32)), (.int (9 : Int32)), (.int (10 : Int32)), (.int (11 : Int32)), (.int (13 : Int32)), (.int (14 : Int32)), (.int (31 : Int32)), (.int (32 : Int32)), (.int (55295 : Int32)), (.int (55296 : Int32)), (.int (57343 : Int32)), (.int (57344 : Int32)), (.int (65533 : Int32)), (.int (65534 : Int32)), (.int (0 : Int32)), (.int (0 : Int32)), (.int (0 : Int32)), (.int (0 : Int32)), (.int (0 : Int32))] (.int (0 : Int32)) := Arv.set Ar16 qc16 S16 M16 H16 G16 rfl W16 14 rfl (Nat.le_of_ble_eq_true rfl)
  show own_Go p e below _ (T16.setTop (mkF m 87 #[.val (.int p0), .val (.int p1), .val (.int p2), .unset, .unset, .unset, .unset] [(.ref b1)]))
  refine own_st (fun _ k => XS.dup X16.here hx rfl (hb hby at_87) rfl rfl k) ?_
  show own_Go p e below _ (T16.setTop (mkF m 88 #[.val (.int p0), .val (.int p1), .val (.int p2), .unset, .unset, .unset, .unset] [(.ref b1), (.ref b1)]))
  refine own_st (fun _ k => XS.bipush X16.here hx rfl (hb hby at_88) k) ?_
  show own_Go p e below _ (T16.setTop (mkF m 90 #[.val (.int p0), .val (.int p1), .val (.int p2), .unset, .unset, .unset, .unset] [(.int (15 : Int32)), (.ref b1), (.ref b1)]))
  refine own_st (fun _ k => X16.ldcInt hx hown (mvT hZ (hw _ (List.mem_of_getElem? (i := 7) rfl))) (g := (mkF m 90 #[.val (.int p0), .val (.int p1), .val (.int p2), .unset, .unset, .unset, .unset] [(.int (15 : Int32)), (.ref b1), (.ref b1)])) rfl (hb hby at_90) _ k) ?_
  show own_Go p e below _ (T16.setTop (mkF m 92 #[.val (.int p0), .val (.int p1), .val (.int p2), .unset, .unset, .unset, .unset] [(.int (65536 : Int32)), (.int (15 : Int32)), (.ref b1), (.ref b1)]))
  obtain ⟨cl17, Ar17, qc17, S17, M17, H17, G17⟩ := V_b1
  obtain ⟨T17, h17, X17, e17, W17, st17⟩ := stI X16 hx hZ e16 Ar17 (j := (15 : Int32)) (inb_of S17 ⟨by decide, by decide⟩) (g := (mkF m 92 #[.val (.int p0), .val (.int p1), .val (.int p2), .unset, .unset, .unset, .unset] [(.int (65536 : Int32)), (.int (15 : Int32)), (.ref b1), (.ref b1)])) rfl rfl (hb hby at_92)
  refine own_st st17 ?_
  replace Z0 := Nat.le_trans Z0 (Nat.le_of_eq W17.size.symm)
  replace N0 := Fr.snoc X17 N0 g_b1
  have V_b1 : Arv Z h17 b1 k1 .int (20 : Int32) [(.int (0 : Int32)), (.int (8 : Int32)), (.int (9 : Int32)), (.int (10 : Int32)), (.int (11 : Int32)), (.int (13 : Int32)), (.int (14 : Int32)), (.int (31 : Int32)), (.int (32 : Int32)), (.int (55295 : Int32)), (.int (55296 : Int32)), (.int (57343 : Int32)), (.int (57344 : Int32)), (.int (65533 : Int32)), (.int (65534 : Int32)), (.int (65536 : Int32)), (.int (0 : Int32)), (.int (0 : Int32)), (.int (0 : Int32)), (.int (0 : Int32))] (.int (0 : Int32)) := Arv.set Ar17 qc17 S17 M17 H17 G17 rfl W17 15 rfl (Nat.le_of_ble_eq_true rfl)
  show own_Go p e below _ (T17.setTop (mkF m 93 #[.val (.int p0), .val (.int p1), .val (.int p2), .unset, .unset, .unset, .unset] [(.ref b1)]))
  refine own_st (fun _ k => XS.dup X17.here hx rfl (hb hby at_93) rfl rfl k) ?_
  show own_Go p e below _ (T17.setTop (mkF m 94 #[.val (.int p0), .val (.int p1), .val (.int p2), .unset, .unset, .unset, .unset] [(.ref b1), (.ref b1)]))
  refine own_st (fun _ k => XS.bipush X17.here hx rfl (hb hby at_94) k) ?_
  show own_Go p e below _ (T17.setTop (mkF m 96 #[.val (.int p0), .val (.int p1), .val (.int p2), .unset, .unset, .unset, .unset] [(.int (16 : Int32)), (.ref b1), (.ref b1)]))
  refine own_st (fun _ k => X17.ldcInt hx hown (mvT hZ (hw _ (List.mem_of_getElem? (i := 8) rfl))) (g := (mkF m 96 #[.val (.int p0), .val (.int p1), .val (.int p2), .unset, .unset, .unset, .unset] [(.int (16 : Int32)), (.ref b1), (.ref b1)])) rfl (hb hby at_96) _ k) ?_
  show own_Go p e below _ (T17.setTop (mkF m 98 #[.val (.int p0), .val (.int p1), .val (.int p2), .unset, .unset, .unset, .unset] [(.int (1114111 : Int32)), (.int (16 : Int32)), (.ref b1), (.ref b1)]))
  obtain ⟨cl18, Ar18, qc18, S18, M18, H18, G18⟩ := V_b1
  obtain ⟨T18, h18, X18, e18, W18, st18⟩ := stI X17 hx hZ e17 Ar18 (j := (16 : Int32)) (inb_of S18 ⟨by decide, by decide⟩) (g := (mkF m 98 #[.val (.int p0), .val (.int p1), .val (.int p2), .unset, .unset, .unset, .unset] [(.int (1114111 : Int32)), (.int (16 : Int32)), (.ref b1), (.ref b1)])) rfl rfl (hb hby at_98)
  refine own_st st18 ?_
  replace Z0 := Nat.le_trans Z0 (Nat.le_of_eq W18.size.symm)
  replace N0 := Fr.snoc X18 N0 g_b1
  have V_b1 : Arv Z h18 b1 k1 .int (20 : Int32) [(.int (0 : Int32)), (.int (8 : Int32)), (.int (9 : Int32)), (.int (10 : Int32)), (.int (11 : Int32)), (.int (13 : Int32)), (.int (14 : Int32)), (.int (31 : Int32)), (.int (32 : Int32)), (.int (55295 : Int32)), (.int (55296 : Int32)), (.int (57343 : Int32)), (.int (57344 : Int32)), (.int (65533 : Int32)), (.int (65534 : Int32)), (.int (65536 : Int32)), (.int (1114111 : Int32)), (.int (0 : Int32)), (.int (0 : Int32)), (.int (0 : Int32))] (.int (0 : Int32)) := Arv.set Ar18 qc18 S18 M18 H18 G18 rfl W18 16 rfl (Nat.le_of_ble_eq_true rfl)
  show own_Go p e below _ (T18.setTop (mkF m 99 #[.val (.int p0), .val (.int p1), .val (.int p2), .unset, .unset, .unset, .unset] [(.ref b1)]))
  refine own_st (fun _ k => XS.dup X18.here hx rfl (hb hby at_99) rfl rfl k) ?_
  show own_Go p e below _ (T18.setTop (mkF m 100 #[.val (.int p0), .val (.int p1), .val (.int p2), .unset, .unset, .unset, .unset] [(.ref b1), (.ref b1)]))
  refine own_st (fun _ k => XS.bipush X18.here hx rfl (hb hby at_100) k) ?_
  show own_Go p e below _ (T18.setTop (mkF m 102 #[.val (.int p0), .val (.int p1), .val (.int p2), .unset, .unset, .unset, .unset] [(.int (17 : Int32)), (.ref b1), (.ref b1)]))
  refine own_st (fun _ k => X18.ldcInt hx hown (mvT hZ (hw _ (List.mem_of_getElem? (i := 9) rfl))) (g := (mkF m 102 #[.val (.int p0), .val (.int p1), .val (.int p2), .unset, .unset, .unset, .unset] [(.int (17 : Int32)), (.ref b1), (.ref b1)])) rfl (hb hby at_102) _ k) ?_
  show own_Go p e below _ (T18.setTop (mkF m 104 #[.val (.int p0), .val (.int p1), .val (.int p2), .unset, .unset, .unset, .unset] [(.int (1114112 : Int32)), (.int (17 : Int32)), (.ref b1), (.ref b1)]))
  obtain ⟨cl19, Ar19, qc19, S19, M19, H19, G19⟩ := V_b1
  obtain ⟨T19, h19, X19, e19, W19, st19⟩ := stI X18 hx hZ e18 Ar19 (j := (17 : Int32)) (inb_of S19 ⟨by decide, by decide⟩) (g := (mkF m 104 #[.val (.int p0), .val (.int p1), .val (.int p2), .unset, .unset, .unset, .unset] [(.int (1114112 : Int32)), (.int (17 : Int32)), (.ref b1), (.ref b1)])) rfl rfl (hb hby at_104)
  refine own_st st19 ?_
  replace Z0 := Nat.le_trans Z0 (Nat.le_of_eq W19.size.symm)
  replace N0 := Fr.snoc X19 N0 g_b1
  have V_b1 : Arv Z h19 b1 k1 .int (20 : Int32) [(.int (0 : Int32)), (.int (8 : Int32)), (.int (9 : Int32)), (.int (10 : Int32)), (.int (11 : Int32)), (.int (13 : Int32)), (.int (14 : Int32)), (.int (31 : Int32)), (.int (32 : Int32)), (.int (55295 : Int32)), (.int (55296 : Int32)), (.int (57343 : Int32)), (.int (57344 : Int32)), (.int (65533 : Int32)), (.int (65534 : Int32)), (.int (65536 : Int32)), (.int (1114111 : Int32)), (.int (1114112 : Int32)), (.int (0 : Int32)), (.int (0 : Int32))] (.int (0 : Int32)) := Arv.set Ar19 qc19 S19 M19 H19 G19 rfl W19 17 rfl (Nat.le_of_ble_eq_true rfl)
  show own_Go p e below _ (T19.setTop (mkF m 105 #[.val (.int p0), .val (.int p1), .val (.int p2), .unset, .unset, .unset, .unset] [(.ref b1)]))
  refine own_st (fun _ k => XS.dup X19.here hx rfl (hb hby at_105) rfl rfl k) ?_
  show own_Go p e below _ (T19.setTop (mkF m 106 #[.val (.int p0), .val (.int p1), .val (.int p2), .unset, .unset, .unset, .unset] [(.ref b1), (.ref b1)]))
  refine own_st (fun _ k => XS.bipush X19.here hx rfl (hb hby at_106) k) ?_
  show own_Go p e below _ (T19.setTop (mkF m 108 #[.val (.int p0), .val (.int p1), .val (.int p2), .unset, .unset, .unset, .unset] [(.int (18 : Int32)), (.ref b1), (.ref b1)]))
  refine own_st (fun _ k => X19.ldcInt hx hown (mvT hZ (hw _ (List.mem_of_getElem? (i := 10) rfl))) (g := (mkF m 108 #[.val (.int p0), .val (.int p1), .val (.int p2), .unset, .unset, .unset, .unset] [(.int (18 : Int32)), (.ref b1), (.ref b1)])) rfl (hb hby at_108) _ k) ?_
  show own_Go p e below _ (T19.setTop (mkF m 110 #[.val (.int p0), .val (.int p1), .val (.int p2), .unset, .unset, .unset, .unset] [(.int (-2147483648 : Int32)), (.int (18 : Int32)), (.ref b1), (.ref b1)]))
  obtain ⟨cl20, Ar20, qc20, S20, M20, H20, G20⟩ := V_b1
  obtain ⟨T20, h20, X20, e20, W20, st20⟩ := stI X19 hx hZ e19 Ar20 (j := (18 : Int32)) (inb_of S20 ⟨by decide, by decide⟩) (g := (mkF m 110 #[.val (.int p0), .val (.int p1), .val (.int p2), .unset, .unset, .unset, .unset] [(.int (-2147483648 : Int32)), (.int (18 : Int32)), (.ref b1), (.ref b1)])) rfl rfl (hb hby at_110)
  refine own_st st20 ?_
  replace Z0 := Nat.le_trans Z0 (Nat.le_of_eq W20.size.symm)
  replace N0 := Fr.snoc X20 N0 g_b1
  have V_b1 : Arv Z h20 b1 k1 .int (20 : Int32) [(.int (0 : Int32)), (.int (8 : Int32)), (.int (9 : Int32)), (.int (10 : Int32)), (.int (11 : Int32)), (.int (13 : Int32)), (.int (14 : Int32)), (.int (31 : Int32)), (.int (32 : Int32)), (.int (55295 : Int32)), (.int (55296 : Int32)), (.int (57343 : Int32)), (.int (57344 : Int32)), (.int (65533 : Int32)), (.int (65534 : Int32)), (.int (65536 : Int32)), (.int (1114111 : Int32)), (.int (1114112 : Int32)), (.int (-2147483648 : Int32)), (.int (0 : Int32))] (.int (0 : Int32)) := Arv.set Ar20 qc20 S20 M20 H20 G20 rfl W20 18 rfl (Nat.le_of_ble_eq_true rfl)
  show own_Go p e below _ (T20.setTop (mkF m 111 #[.val (.int p0), .val (.int p1), .val (.int p2), .unset, .unset, .unset, .unset] [(.ref b1)]))
  refine own_st (fun _ k => XS.dup X20.here hx rfl (hb hby at_111) rfl rfl k) ?_
  show own_Go p e below _ (T20.setTop (mkF m 112 #[.val (.int p0), .val (.int p1), .val (.int p2), .unset, .unset, .unset, .unset] [(.ref b1), (.ref b1)]))
  refine own_st (fun _ k => XS.bipush X20.here hx rfl (hb hby at_112) k) ?_
  show own_Go p e below _ (T20.setTop (mkF m 114 #[.val (.int p0), .val (.int p1), .val (.int p2), .unset, .unset, .unset, .unset] [(.int (19 : Int32)), (.ref b1), (.ref b1)]))
  refine own_st (fun _ k => X20.ldcInt hx hown (mvT hZ (hw _ (List.mem_of_getElem? (i := 11) rfl))) (g := (mkF m 114 #[.val (.int p0), .val (.int p1), .val (.int p2), .unset, .unset, .unset, .unset] [(.int (19 : Int32)), (.ref b1), (.ref b1)])) rfl (hb hby at_114) _ k) ?_
  show own_Go p e below _ (T20.setTop (mkF m 116 #[.val (.int p0), .val (.int p1), .val (.int p2), .unset, .unset, .unset, .unset] [(.int (2147483647 : Int32)), (.int (19 : Int32)), (.ref b1), (.ref b1)]))
  obtain ⟨cl21, Ar21, qc21, S21, M21, H21, G21⟩ := V_b1
  obtain ⟨T21, h21, X21, e21, W21, st21⟩ := stI X20 hx hZ e20 Ar21 (j := (19 : Int32)) (inb_of S21 ⟨by decide, by decide⟩) (g := (mkF m 116 #[.val (.int p0), .val (.int p1), .val (.int p2), .unset, .unset, .unset, .unset] [(.int (2147483647 : Int32)), (.int (19 : Int32)), (.ref b1), (.ref b1)])) rfl rfl (hb hby at_116)
  refine own_st st21 ?_
  replace Z0 := Nat.le_trans Z0 (Nat.le_of_eq W21.size.symm)
  replace N0 := Fr.snoc X21 N0 g_b1
  have V_b1 : Arv Z h21 b1 k1 .int (20 : Int32) [(.int (0 : Int32)), (.int (8 : Int32)), (.int (9 : Int32)), (.int (10 : Int32)), (.int (11 : Int32)), (.int (13 : Int32)), (.int (14 : Int32)), (.int (31 : Int32)), (.int (32 : Int32)), (.int (55295 : Int32)), (.int (55296 : Int32)), (.int (57343 : Int32)), (.int (57344 : Int32)), (.int (65533 : Int32)), (.int (65534 : Int32)), (.int (65536 : Int32)), (.int (1114111 : Int32)), (.int (1114112 : Int32)), (.int (-2147483648 : Int32)), (.int (2147483647 : Int32))] (.int (0 : Int32)) := Arv.set Ar21 qc21 S21 M21 H21 G21 rfl W21 19 rfl (Nat.le_of_ble_eq_true rfl)
  show own_Go p e below _ (T21.setTop (mkF m 117 #[.val (.int p0), .val (.int p1), .val (.int p2), .unset, .unset, .unset, .unset] [(.ref b1)]))
  refine own_st (fun _ k => XS.astoreN X21.here hx rfl (hb hby at_117) rfl rfl (l' := #[.val (.int p0), .val (.int p1), .val (.int p2), .val (.ref b1), .unset, .unset, .unset]) rfl k) ?_
  show own_Go p e below _ (T21.setTop (mkF m 118 #[.val (.int p0), .val (.int p1), .val (.int p2), .val (.ref b1), .unset, .unset, .unset] []))
  refine own_st (fun _ k => XS.aloadN X21.here hx rfl (hb hby at_118) rfl rfl k) ?_
  show own_Go p e below _ (T21.setTop (mkF m 119 #[.val (.int p0), .val (.int p1), .val (.int p2), .val (.ref b1), .unset, .unset, .unset] [(.ref b1)]))
  refine own_st (fun _ k => XS.iloadN X21.here hx rfl (hb hby at_119) rfl k) ?_
  show own_Go p e below _ (T21.setTop (mkF m 120 #[.val (.int p0), .val (.int p1), .val (.int p2), .val (.ref b1), .unset, .unset, .unset] [(.int p1), (.ref b1)]))
  refine own_st (fun _ k => X21.ldcInt hx hown (mvT hZ (hw _ (List.mem_of_getElem? (i := 11) rfl))) (g := (mkF m 120 #[.val (.int p0), .val (.int p1), .val (.int p2), .val (.ref b1), .unset, .unset, .unset] [(.int p1), (.ref b1)])) rfl (hb hby at_120) _ k) ?_
  show own_Go p e below _ (T21.setTop (mkF m 122 #[.val (.int p0), .val (.int p1), .val (.int p2), .val (.ref b1), .unset, .unset, .unset] [(.int (2147483647 : Int32)), (.int p1), (.ref b1)]))
  refine own_st (fun _ k => XS.iand X21.here hx rfl (hb hby at_122) rfl k) ?_
  show own_Go p e below _ (T21.setTop (mkF m 123 #[.val (.int p0), .val (.int p1), .val (.int p2), .val (.ref b1), .unset, .unset, .unset] [(.int (p1 &&& (2147483647 : Int32))), (.ref b1)]))
  refine own_st (fun _ k => XS.aloadN X21.here hx rfl (hb hby at_123) rfl rfl k) ?_
  show own_Go p e below _ (T21.setTop (mkF m 124 #[.val (.int p0), .val (.int p1), .val (.int p2), .val (.ref b1), .unset, .unset, .unset] [(.ref b1), (.int (p1 &&& (2147483647 : Int32))), (.ref b1)]))
  obtain ⟨cl22, Ar22, S22, M22⟩ := own_len V_b1
  refine own_st (fun _ k => X21.arraylength hx (by rw [e21]; exact Ar22.1) (State.isArrayOf_alike hZ.alike Ar22.2.1) (g := (mkF m 124 #[.val (.int p0), .val (.int p1), .val (.int p2), .val (.ref b1), .unset, .unset, .unset] [(.ref b1), (.int (p1 &&& (2147483647 : Int32))), (.ref b1)])) rfl rfl (hb hby at_124) _ k) ?_
  rw [len_of S22 M22]
  show own_Go p e below _ (T21.setTop (mkF m 125 #[.val (.int p0), .val (.int p1), .val (.int p2), .val (.ref b1), .unset, .unset, .unset] [(.int (20 : Int32)), (.int (p1 &&& (2147483647 : Int32))), (.ref b1)]))
  refine own_st (fun _ k => iremM X21 hx rfl (hb hby at_125) rfl (by decide) k) ?_
  show own_Go p e below _ (T21.setTop (mkF m 126 #[.val (.int p0), .val (.int p1), .val (.int p2), .val (.ref b1), .unset, .unset, .unset] [(.int ((p1 &&& (2147483647 : Int32)) % (20 : Int32))), (.ref b1)]))
  obtain ⟨cl23, v23, Ar23, hin23, hat23⟩ := own_ldI V_b1 (j := ((p1 &&& (2147483647 : Int32)) % (20 : Int32))) (own_ix p1)
  refine own_st (fun _ k => X21.iaload hx (j := ((p1 &&& (2147483647 : Int32)) % (20 : Int32))) (v := (.int v23)) (by rw [e21]; exact Ar23.1) (State.isArrayOf_alike hZ.alike Ar23.2.1) Ar23.2.2 hin23 hat23 (g := (mkF m 126 #[.val (.int p0), .val (.int p1), .val (.int p2), .val (.ref b1), .unset, .unset, .unset] [(.int ((p1 &&& (2147483647 : Int32)) % (20 : Int32))), (.ref b1)])) rfl rfl (hb hby at_126) _ k) ?_
  show own_Go p e below _ (T21.setTop (mkF m 127 #[.val (.int p0), .val (.int p1), .val (.int p2), .val (.ref b1), .unset, .unset, .unset] [(.int v23)]))
  refine own_st (fun _ k => XS.iloadN X21.here hx rfl (hb hby at_127) rfl k) ?_
  show own_Go p e below _ (T21.setTop (mkF m 128 #[.val (.int p0), .val (.int p1), .val (.int p2), .val (.ref b1), .unset, .unset, .unset] [(.int p2), (.int v23)]))
  refine own_st (fun _ k => XS.bipush X21.here hx rfl (hb hby at_128) k) ?_
  show own_Go p e below _ (T21.setTop (mkF m 130 #[.val (.int p0), .val (.int p1), .val (.int p2), .val (.ref b1), .unset, .unset, .unset] [(.int (7 : Int32)), (.int p2), (.int v23)]))
  refine own_st (fun _ k => XS.iand X21.here hx rfl (hb hby at_130) rfl k) ?_
  show own_Go p e below _ (T21.setTop (mkF m 131 #[.val (.int p0), .val (.int p1), .val (.int p2), .val (.ref b1), .unset, .unset, .unset] [(.int (p2 &&& (7 : Int32))), (.int v23)]))
  refine own_st (fun _ k => XS.iconst X21.here hx rfl (hb hby at_131) k) ?_
  show own_Go p e below _ (T21.setTop (mkF m 132 #[.val (.int p0), .val (.int p1), .val (.int p2), .val (.ref b1), .unset, .unset, .unset] [(.int (4 : Int32)), (.int (p2 &&& (7 : Int32))), (.int v23)]))
  refine own_st (fun _ k => XS.isub X21.here hx rfl (hb hby at_132) rfl k) ?_
  show own_Go p e below _ (T21.setTop (mkF m 133 #[.val (.int p0), .val (.int p1), .val (.int p2), .val (.ref b1), .unset, .unset, .unset] [(.int ((p2 &&& (7 : Int32)) - (4 : Int32))), (.int v23)]))
  refine own_st (fun _ k => XS.iadd X21.here hx rfl (hb hby at_133) rfl k) ?_
  show own_Go p e below _ (T21.setTop (mkF m 134 #[.val (.int p0), .val (.int p1), .val (.int p2), .val (.ref b1), .unset, .unset, .unset] [(.int (v23 + ((p2 &&& (7 : Int32)) - (4 : Int32))))]))
  refine own_st (fun _ k => XS.istore X21.here hx rfl (hb hby at_134) rfl (l' := #[.val (.int p0), .val (.int p1), .val (.int p2), .val (.ref b1), .val (.int (v23 + ((p2 &&& (7 : Int32)) - (4 : Int32)))), .unset, .unset]) rfl k) ?_
  show own_Go p e below _ (T21.setTop (mkF m 136 #[.val (.int p0), .val (.int p1), .val (.int p2), .val (.ref b1), .val (.int (v23 + ((p2 &&& (7 : Int32)) - (4 : Int32)))), .unset, .unset] []))
  refine own_st (fun _ k => XS.iloadN X21.here hx rfl (hb hby at_136) rfl k) ?_
  show own_Go p e below _ (T21.setTop (mkF m 137 #[.val (.int p0), .val (.int p1), .val (.int p2), .val (.ref b1), .val (.int (v23 + ((p2 &&& (7 : Int32)) - (4 : Int32)))), .unset, .unset] [(.int p0)]))
  obtain ⟨_, T24, _, X24, ⟨rfl, rfl, e24⟩, st24⟩ := own_callS X21 hx hZ (y := (⟨"com/example/early_sieve/earlysieve/io/XmlCharacters", "isCharacter", "(I)Z"⟩ : MethodName)) (argsL := [(.int p0)]) (rest := []) (W := 0) (g := (mkF m 137 #[.val (.int p0), .val (.int p1), .val (.int p2), .val (.ref b1), .val (.int (v23 + ((p2 &&& (7 : Int32)) - (4 : Int32)))), .unset, .unset] [(.int p0)])) (rm1 l Z tA hw p0 h21) hown (hw _ (List.mem_of_getElem? (i := 12) rfl)) (hw _ (List.mem_of_getElem? (i := 13) rfl)) (hw _ (List.mem_of_getElem? (i := 14) rfl)) (hw _ (List.mem_of_getElem? (i := 15) rfl)) (by decide) e21 rfl (by rw [hml]; rfl) pd_0 rfl rfl (by show 2 * 0 + _ ≤ _; exact Nat.le_of_eq rfl) (hb hby at_137) (by decide) (by decide) (by decide) (by decide)
  replace X24 := own_flat X24
  refine own_st st24 ?_
  show own_Go p e below _ (T24.setTop (mkF m 140 #[.val (.int p0), .val (.int p1), .val (.int p2), .val (.ref b1), .val (.int (v23 + ((p2 &&& (7 : Int32)) - (4 : Int32)))), .unset, .unset] [(.int (own_a_0 p0))]))
  refine own_st (fun _ k => XS.iloadN X24.here hx rfl (hb hby at_140) rfl k) ?_
  show own_Go p e below _ (T24.setTop (mkF m 141 #[.val (.int p0), .val (.int p1), .val (.int p2), .val (.ref b1), .val (.int (v23 + ((p2 &&& (7 : Int32)) - (4 : Int32)))), .unset, .unset] [(.int p0), (.int (own_a_0 p0))]))
  obtain ⟨_, T25, _, X25, ⟨rfl, rfl, e25⟩, st25⟩ := own_callS X24 hx hZ (y := (⟨"com/example/early_sieve/earlysieve/io/XmlCharactersIsCharacterPinLaw", "ref", "(I)Z"⟩ : MethodName)) (argsL := [(.int p0)]) (rest := [(.int (own_a_0 p0))]) (W := 1) (g := (mkF m 141 #[.val (.int p0), .val (.int p1), .val (.int p2), .val (.ref b1), .val (.int (v23 + ((p2 &&& (7 : Int32)) - (4 : Int32)))), .unset, .unset] [(.int p0), (.int (own_a_0 p0))])) (rm2 l Z tA hw p0 h21) hown (hw _ (List.mem_of_getElem? (i := 18) rfl)) (hw _ (List.mem_of_getElem? (i := 19) rfl)) (hw _ (List.mem_of_getElem? (i := 20) rfl)) (hw _ (List.mem_of_getElem? (i := 21) rfl)) (by decide) e24 rfl (by rw [hml]; rfl) pd_0 rfl rfl (by show 2 * 0 + _ ≤ _; exact Nat.le_of_eq rfl) (hb hby at_141) (by decide) (by decide) (by decide) (by decide)
  replace X25 := own_flat X25
  refine own_st st25 ?_
  show own_Go p e below _ (T25.setTop (mkF m 144 #[.val (.int p0), .val (.int p1), .val (.int p2), .val (.ref b1), .val (.int (v23 + ((p2 &&& (7 : Int32)) - (4 : Int32)))), .unset, .unset] [(.int (own_r_0 p0)), (.int (own_a_0 p0))]))
  refine own_st (fun _ k => XS.icmpNo X25.here hx rfl (hb hby at_144) rfl ((own_i2 _ _ _).trans (own_nyes ((own_law _) : (own_a_0 p0) = (own_r_0 p0)))) k) ?_
  show own_Go p e below _ (T25.setTop (mkF m 147 #[.val (.int p0), .val (.int p1), .val (.int p2), .val (.ref b1), .val (.int (v23 + ((p2 &&& (7 : Int32)) - (4 : Int32)))), .unset, .unset] []))
  refine own_st (fun _ k => XS.iconst X25.here hx rfl (hb hby at_147) k) ?_
  show own_Go p e below _ (T25.setTop (mkF m 148 #[.val (.int p0), .val (.int p1), .val (.int p2), .val (.ref b1), .val (.int (v23 + ((p2 &&& (7 : Int32)) - (4 : Int32)))), .unset, .unset] [(.int (1 : Int32))]))
  refine own_st (fun _ k => XS.goto X25.here hx rfl (pc0 := 148) (pc' := 152) rfl (hb hby at_148) (by decide) (by decide) k) ?_
  show own_Go p e below _ (T25.setTop (mkF m 152 #[.val (.int p0), .val (.int p1), .val (.int p2), .val (.ref b1), .val (.int (v23 + ((p2 &&& (7 : Int32)) - (4 : Int32)))), .unset, .unset] [(.int (1 : Int32))]))
  refine own_st (fun _ k => XS.istore X25.here hx rfl (hb hby at_152) rfl (l' := #[.val (.int p0), .val (.int p1), .val (.int p2), .val (.ref b1), .val (.int (v23 + ((p2 &&& (7 : Int32)) - (4 : Int32)))), .val (.int (1 : Int32)), .unset]) rfl k) ?_
  show own_Go p e below _ (T25.setTop (mkF m 154 #[.val (.int p0), .val (.int p1), .val (.int p2), .val (.ref b1), .val (.int (v23 + ((p2 &&& (7 : Int32)) - (4 : Int32)))), .val (.int (1 : Int32)), .unset] []))
  refine own_st (fun _ k => XS.iload X25.here hx rfl (hb hby at_154) rfl k) ?_
  show own_Go p e below _ (T25.setTop (mkF m 156 #[.val (.int p0), .val (.int p1), .val (.int p2), .val (.ref b1), .val (.int (v23 + ((p2 &&& (7 : Int32)) - (4 : Int32)))), .val (.int (1 : Int32)), .unset] [(.int (v23 + ((p2 &&& (7 : Int32)) - (4 : Int32))))]))
  obtain ⟨_, T26, _, X26, ⟨rfl, rfl, e26⟩, st26⟩ := own_callS X25 hx hZ (y := (⟨"com/example/early_sieve/earlysieve/io/XmlCharacters", "isCharacter", "(I)Z"⟩ : MethodName)) (argsL := [(.int (v23 + ((p2 &&& (7 : Int32)) - (4 : Int32))))]) (rest := []) (W := 0) (g := (mkF m 156 #[.val (.int p0), .val (.int p1), .val (.int p2), .val (.ref b1), .val (.int (v23 + ((p2 &&& (7 : Int32)) - (4 : Int32)))), .val (.int (1 : Int32)), .unset] [(.int (v23 + ((p2 &&& (7 : Int32)) - (4 : Int32))))])) (rm1 l Z tA hw (v23 + ((p2 &&& (7 : Int32)) - (4 : Int32))) h21) hown (hw _ (List.mem_of_getElem? (i := 12) rfl)) (hw _ (List.mem_of_getElem? (i := 13) rfl)) (hw _ (List.mem_of_getElem? (i := 14) rfl)) (hw _ (List.mem_of_getElem? (i := 15) rfl)) (by decide) e25 rfl (by rw [hml]; rfl) pd_0 rfl rfl (by show 2 * 0 + _ ≤ _; exact Nat.le_of_eq rfl) (hb hby at_156) (by decide) (by decide) (by decide) (by decide)
  replace X26 := own_flat X26
  refine own_st st26 ?_
  show own_Go p e below _ (T26.setTop (mkF m 159 #[.val (.int p0), .val (.int p1), .val (.int p2), .val (.ref b1), .val (.int (v23 + ((p2 &&& (7 : Int32)) - (4 : Int32)))), .val (.int (1 : Int32)), .unset] [(.int (own_a_0 (v23 + ((p2 &&& (7 : Int32)) - (4 : Int32)))))]))
  refine own_st (fun _ k => XS.iload X26.here hx rfl (hb hby at_159) rfl k) ?_
  show own_Go p e below _ (T26.setTop (mkF m 161 #[.val (.int p0), .val (.int p1), .val (.int p2), .val (.ref b1), .val (.int (v23 + ((p2 &&& (7 : Int32)) - (4 : Int32)))), .val (.int (1 : Int32)), .unset] [(.int (v23 + ((p2 &&& (7 : Int32)) - (4 : Int32)))), (.int (own_a_0 (v23 + ((p2 &&& (7 : Int32)) - (4 : Int32)))))]))
  obtain ⟨_, T27, _, X27, ⟨rfl, rfl, e27⟩, st27⟩ := own_callS X26 hx hZ (y := (⟨"com/example/early_sieve/earlysieve/io/XmlCharactersIsCharacterPinLaw", "ref", "(I)Z"⟩ : MethodName)) (argsL := [(.int (v23 + ((p2 &&& (7 : Int32)) - (4 : Int32))))]) (rest := [(.int (own_a_0 (v23 + ((p2 &&& (7 : Int32)) - (4 : Int32)))))]) (W := 1) (g := (mkF m 161 #[.val (.int p0), .val (.int p1), .val (.int p2), .val (.ref b1), .val (.int (v23 + ((p2 &&& (7 : Int32)) - (4 : Int32)))), .val (.int (1 : Int32)), .unset] [(.int (v23 + ((p2 &&& (7 : Int32)) - (4 : Int32)))), (.int (own_a_0 (v23 + ((p2 &&& (7 : Int32)) - (4 : Int32)))))])) (rm2 l Z tA hw (v23 + ((p2 &&& (7 : Int32)) - (4 : Int32))) h21) hown (hw _ (List.mem_of_getElem? (i := 18) rfl)) (hw _ (List.mem_of_getElem? (i := 19) rfl)) (hw _ (List.mem_of_getElem? (i := 20) rfl)) (hw _ (List.mem_of_getElem? (i := 21) rfl)) (by decide) e26 rfl (by rw [hml]; rfl) pd_0 rfl rfl (by show 2 * 0 + _ ≤ _; exact Nat.le_of_eq rfl) (hb hby at_161) (by decide) (by decide) (by decide) (by decide)
  replace X27 := own_flat X27
  refine own_st st27 ?_
  show own_Go p e below _ (T27.setTop (mkF m 164 #[.val (.int p0), .val (.int p1), .val (.int p2), .val (.ref b1), .val (.int (v23 + ((p2 &&& (7 : Int32)) - (4 : Int32)))), .val (.int (1 : Int32)), .unset] [(.int (own_r_0 (v23 + ((p2 &&& (7 : Int32)) - (4 : Int32))))), (.int (own_a_0 (v23 + ((p2 &&& (7 : Int32)) - (4 : Int32)))))]))
  refine own_st (fun _ k => XS.icmpNo X27.here hx rfl (hb hby at_164) rfl ((own_i2 _ _ _).trans (own_nyes ((own_law _) : (own_a_0 (v23 + ((p2 &&& (7 : Int32)) - (4 : Int32)))) = (own_r_0 (v23 + ((p2 &&& (7 : Int32)) - (4 : Int32))))))) k) ?_
  show own_Go p e below _ (T27.setTop (mkF m 167 #[.val (.int p0), .val (.int p1), .val (.int p2), .val (.ref b1), .val (.int (v23 + ((p2 &&& (7 : Int32)) - (4 : Int32)))), .val (.int (1 : Int32)), .unset] []))
  refine own_st (fun _ k => XS.iconst X27.here hx rfl (hb hby at_167) k) ?_
  show own_Go p e below _ (T27.setTop (mkF m 168 #[.val (.int p0), .val (.int p1), .val (.int p2), .val (.ref b1), .val (.int (v23 + ((p2 &&& (7 : Int32)) - (4 : Int32)))), .val (.int (1 : Int32)), .unset] [(.int (1 : Int32))]))
  refine own_st (fun _ k => XS.goto X27.here hx rfl (pc0 := 168) (pc' := 172) rfl (hb hby at_168) (by decide) (by decide) k) ?_
  show own_Go p e below _ (T27.setTop (mkF m 172 #[.val (.int p0), .val (.int p1), .val (.int p2), .val (.ref b1), .val (.int (v23 + ((p2 &&& (7 : Int32)) - (4 : Int32)))), .val (.int (1 : Int32)), .unset] [(.int (1 : Int32))]))
  refine own_st (fun _ k => XS.istore X27.here hx rfl (hb hby at_172) rfl (l' := #[.val (.int p0), .val (.int p1), .val (.int p2), .val (.ref b1), .val (.int (v23 + ((p2 &&& (7 : Int32)) - (4 : Int32)))), .val (.int (1 : Int32)), .val (.int (1 : Int32))]) rfl k) ?_
  show own_Go p e below _ (T27.setTop (mkF m 174 #[.val (.int p0), .val (.int p1), .val (.int p2), .val (.ref b1), .val (.int (v23 + ((p2 &&& (7 : Int32)) - (4 : Int32)))), .val (.int (1 : Int32)), .val (.int (1 : Int32))] []))
  refine own_st (fun _ k => XS.iload X27.here hx rfl (hb hby at_174) rfl k) ?_
  show own_Go p e below _ (T27.setTop (mkF m 176 #[.val (.int p0), .val (.int p1), .val (.int p2), .val (.ref b1), .val (.int (v23 + ((p2 &&& (7 : Int32)) - (4 : Int32)))), .val (.int (1 : Int32)), .val (.int (1 : Int32))] [(.int (1 : Int32))]))
  refine own_st (fun _ k => XS.ifNo X27.here hx rfl (hb hby at_176) rfl ((own_i0 _ _).trans (own_no ((by decide) : ¬ ((1 : Int32) = (0 : Int32))))) k) ?_
  show own_Go p e below _ (T27.setTop (mkF m 179 #[.val (.int p0), .val (.int p1), .val (.int p2), .val (.ref b1), .val (.int (v23 + ((p2 &&& (7 : Int32)) - (4 : Int32)))), .val (.int (1 : Int32)), .val (.int (1 : Int32))] []))
  refine own_st (fun _ k => XS.iload X27.here hx rfl (hb hby at_179) rfl k) ?_
  show own_Go p e below _ (T27.setTop (mkF m 181 #[.val (.int p0), .val (.int p1), .val (.int p2), .val (.ref b1), .val (.int (v23 + ((p2 &&& (7 : Int32)) - (4 : Int32)))), .val (.int (1 : Int32)), .val (.int (1 : Int32))] [(.int (1 : Int32))]))
  refine own_st (fun _ k => XS.ifNo X27.here hx rfl (hb hby at_181) rfl ((own_i0 _ _).trans (own_no ((by decide) : ¬ ((1 : Int32) = (0 : Int32))))) k) ?_
  show own_Go p e below _ (T27.setTop (mkF m 184 #[.val (.int p0), .val (.int p1), .val (.int p2), .val (.ref b1), .val (.int (v23 + ((p2 &&& (7 : Int32)) - (4 : Int32)))), .val (.int (1 : Int32)), .val (.int (1 : Int32))] []))
  refine own_st (fun _ k => XS.iconst X27.here hx rfl (hb hby at_184) k) ?_
  show own_Go p e below _ (T27.setTop (mkF m 185 #[.val (.int p0), .val (.int p1), .val (.int p2), .val (.ref b1), .val (.int (v23 + ((p2 &&& (7 : Int32)) - (4 : Int32)))), .val (.int (1 : Int32)), .val (.int (1 : Int32))] [(.int (1 : Int32))]))
  refine own_st (fun _ k => XS.goto X27.here hx rfl (pc0 := 185) (pc' := 189) rfl (hb hby at_185) (by decide) (by decide) k) ?_
  show own_Go p e below _ (T27.setTop (mkF m 189 #[.val (.int p0), .val (.int p1), .val (.int p2), .val (.ref b1), .val (.int (v23 + ((p2 &&& (7 : Int32)) - (4 : Int32)))), .val (.int (1 : Int32)), .val (.int (1 : Int32))] [(.int (1 : Int32))]))
  exact own_retZ X27 hx hlk hret rfl (hb hby at_189) ⟨rfl, N0⟩ (by decide) (by decide)
set_option maxRecDepth 65536 in
set_option maxHeartbeats 40000000 in
theorem comes_1 {Post : Tables → Env → Array Value → State → Outcome → State → Prop} (hpost : ∀ tb e args s v u, (limb_1_1.after args s (.returned v) u = true ∧ limb_1_2.after args s (.returned v) u = true ∧ True) → FrameEnd s (.returned v) u (Jvm.fieldLocs frame_1_writes args s ++ Jvm.arrayLocs frame_1_arrays args s ++ Jvm.staticLocs frame_1_statics s) 16 128 → Post tb e args s (.returned v) u) :
    ArmFor flags0 classFile x code maxLocals ret World_1 tables_1 room_1 Calls_1 rest_1 Pre_1 Post := by
  intro l hfl _ _ p e ha hc hk s m args below hf hA hF happ hP
  obtain ⟨hcalls, hrest, hpre⟩ := hP
  obtain ⟨-, -, -, hnamed, -, -, -, hat⟩ := (Spec.applies_iff hf).mp happ
  obtain ⟨hg, hn⟩ := and_e (Cond.before_iff.mp (show (Jvm.Cond.and given_1 narrow_1).before args s = true from hpre))
  obtain ⟨g1, g2⟩ := and_e hg
  obtain ⟨g3, g4⟩ := and_e g2
  obtain ⟨g5, g6⟩ := and_e g4
  obtain ⟨w0, w1, w2, rfl⟩ : ∃ w0 w1 w2 : Value, args = #[w0, w1, w2] := by
    have hs : args.size = 3 := by simpa [Cond.value, given_1] using g1
    obtain ⟨L⟩ := args
    match L, hs with
    | [w0, w1, w2], _ => exact ⟨w0, w1, w2, rfl⟩
  have hw := fun d (hd : d ∈ tables_1) => atoms_spec (ws := Jvm.Cond.code x code maxLocals ret :: tables_1) hat d (List.mem_cons_of_mem _ hd)
  obtain ⟨i0, ei0⟩ := is_v g3
  obtain rfl : w0 = (.int i0) := Option.some.inj ei0
  obtain ⟨i1, ei1⟩ := is_v g5
  obtain rfl : w1 = (.int i1) := Option.some.inj ei1
  obtain ⟨i2, ei2⟩ := is_v g6
  obtain rfl : w2 = (.int i2) := Option.some.inj ei2
  obtain ⟨n, o, h1, h2, h3, _, L, rfl, ⟨rfl, N⟩, hq⟩ := rm0 l s _ hw i0 i1 i2 s.heap s.heap.size (Nat.le_refl _) p e ha hc hk s m _ below hf ((Spec.applies_iff_loose hf).mp happ).1 ⟨rfl, State.Warmed39.refl s, rfl⟩ trivial
  refine ⟨n, _, h1, h2, h3, hpost _ _ _ _ _ _ ⟨Cond.after_iff.mpr rfl, Cond.after_iff.mpr (eq_i res_at (Term.int_eval (1)) rfl), trivial⟩ ⟨hq.1, hq.2.1, (hq.2.2.sift fun y hy => Or.inr (N y hy)).mono (by decide) (by decide)⟩⟩
theorem main_1_1 : Claimed_1_1 := comes_1 fun _ _ _ _ _ _ h hF => ⟨h.1, hF⟩
theorem main_1_2 : Claimed_1_2 := comes_1 fun _ _ _ _ _ _ h hF => ⟨h.2.1, hF⟩
end Jvm.Pilot.@@N@@
namespace Jvm.Pilot.@@N@@
open Jvm Jvm.ClassFile Sem Op Lib Jvm.Free Jvm.Stand Jvm.Pilot.@@N@@.Jvm.D
/-! MADE BY PROGRAM (witnessworld.py) out of the Statement's table words and the real class files: 9 classes; the members and pool entries that the words name. The judged class is class 1, her method 2. -/
namespace start1
open Jvm.ClassFile
def u (s : String) : CpInfo := .utf8 (stringToUtf16 s)
/-- a pool by its gaps: so many unusable entries, then the entry; so many at the end -/
def gap : Nat → List CpInfo → List CpInfo
  | 0, r => r
  | n + 1, r => .unusable :: gap n r
def poolList (es : List (Nat × CpInfo)) (last : Nat) : List CpInfo := es.foldr (fun e r => gap e.1 (e.2 :: r)) (gap last [])
def pool (es : List (Nat × CpInfo)) (last : Nat) : Array CpInfo := ⟨poolList es last⟩
def fileOf (pool : Array CpInfo) (this : Nat) (attrs : Array Attribute := #[]) (ms : Array MethodInfo := #[]) (fl : Nat := 33) (sup : Nat := 0) (ifs : Array Nat := #[]) (fds : Array FieldInfo := #[]) : ClassFile where
  minorVersion := 0
  majorVersion := 65
  constantPool := pool
  accessFlags := fl
  thisClass := this
  superClass := sup
  interfaces := ifs
  fields := fds
  methods := ms
  attributes := attrs
def plain (name : String) (sup : Option ClassId) : Class where
  name := name
  kind := .ordinary
  loader := none
  accessFlags := 33
  super := sup
  interfaces := #[]
  cf := none
  fields := #[]
  methods := #[]
  instanceTypes := #[]
  staticTypes := #[]
  resolved := #[]
  callSites := []
  init := .initialized
  statics := none
  mirror := none

def pool0 : Array CpInfo := pool [(5, u "<init>"), (0, u "()V"), (1, .class_ 10), (1, u "java/lang/Object")] 113

def k0m0 : Method := { name := "<init>", desc := "()V", sig := { parameters := [], returnType := none }, accessFlags := 1, code := none }
/-- java/lang/Object -/
def k0 : Class := { plain "java/lang/Object" none with
  accessFlags := 33
  interfaces := #[]
  cf := some (fileOf pool0 8 #[] #[{ accessFlags := 1, nameIndex := 5, descriptorIndex := 6, attributes := #[] }] 33 0 #[] #[])
  fields := #[]
  methods := #[k0m0]
  instanceTypes := #[]
  staticTypes := #[]
  resolved := Array.replicate 124 none
  statics := none }

def pool1 : Array CpInfo := pool [(2, .class_ 4), (1, u "java/lang/Object"), (0, u "<init>"), (0, u "()V"), (0, .integer 55296), (0, .integer 57344), (0, .integer 65534), (0, .integer 65536), (0, .integer 1114111), (0, .integer 55295), (0, .integer 57343), (0, .integer 65533), (0, .integer 1114112), (2, .integer 2147483648), (0, .integer 2147483647), (0, .methodref 21 22), (0, .class_ 23), (0, .nameAndType 24 25), (0, u "com/example/early_sieve/earlysieve/io/XmlCharacters"), (0, u "isCharacter"), (0, u "(I)Z"), (0, .methodref 27 28), (0, .class_ 29), (0, .nameAndType 30 25), (0, u "com/example/early_sieve/earlysieve/io/XmlCharactersIsCharacterPinLaw"), (0, u "ref"), (3, u "law"), (0, u "(III)Z")] 4

def k1m0 : Method := { name := "<init>", desc := "()V", sig := { parameters := [], returnType := none }, accessFlags := 2, code := none }
def k1c1 : Code := { maxStack := 2, maxLocals := 1, code := method_2_code, exceptionTable := #[], attributes := #[] }
def k1m1 : Method := { name := "ref", desc := "(I)Z", sig := { parameters := [.int], returnType := some .boolean }, accessFlags := 10, code := some k1c1 }
def k1c2 : Code := { maxStack := 4, maxLocals := 7, code := code, exceptionTable := #[], attributes := #[] }
def k1m2 : Method := { name := "law", desc := "(III)Z", sig := { parameters := [.int, .int, .int], returnType := some .boolean }, accessFlags := 9, code := some k1c2 }
/-- com/example/early_sieve/earlysieve/io/XmlCharactersIsCharacterPinLaw -/
def k1 : Class := { plain "com/example/early_sieve/earlysieve/io/XmlCharactersIsCharacterPinLaw" (some 0) with
  accessFlags := 49
  interfaces := #[]
  cf := some (fileOf pool1 27 #[] #[{ accessFlags := 2, nameIndex := 5, descriptorIndex := 6, attributes := #[] }, { accessFlags := 10, nameIndex := 30, descriptorIndex := 25, attributes := #[] }, { accessFlags := 9, nameIndex := 34, descriptorIndex := 35, attributes := #[] }] 49 2 #[] #[])
  fields := #[]
  methods := #[k1m0, k1m1, k1m2]
  instanceTypes := #[]
  staticTypes := #[]
  resolved := Array.replicate 40 none
  statics := none }

def pool2 : Array CpInfo := pool [(2, .class_ 4), (1, u "java/lang/Object"), (0, u "<init>"), (0, u "()V"), (0, .integer 55295), (0, .integer 57344), (0, .integer 65533), (0, .integer 65536), (0, .integer 1114111), (19, .class_ 33), (1, u "com/example/early_sieve/earlysieve/io/XmlCharacters"), (1, u "(I)Z"), (6, u "REFERENCE_NOT_ALLOWED"), (0, u "Ljava/lang/String;"), (5, u "isCharacter")] 8

def k2m0 : Method := { name := "<init>", desc := "()V", sig := { parameters := [], returnType := none }, accessFlags := 2, code := none }
def k2c1 : Code := { maxStack := 2, maxLocals := 1, code := prog_34_method_2_code, exceptionTable := #[], attributes := #[] }
def k2m1 : Method := { name := "isCharacter", desc := "(I)Z", sig := { parameters := [.int], returnType := some .boolean }, accessFlags := 8, code := some k2c1 }
/-- com/example/early_sieve/earlysieve/io/XmlCharacters -/
def k2 : Class := { plain "com/example/early_sieve/earlysieve/io/XmlCharacters" (some 0) with
  accessFlags := 48
  interfaces := #[]
  cf := some (fileOf pool2 31 #[] #[{ accessFlags := 2, nameIndex := 5, descriptorIndex := 6, attributes := #[] }, { accessFlags := 8, nameIndex := 49, descriptorIndex := 35, attributes := #[] }] 48 2 #[] #[{ accessFlags := 24, nameIndex := 42, descriptorIndex := 43, attributes := #[] }])
  fields := #[{ name := "REFERENCE_NOT_ALLOWED", type := (.object "java/lang/String"), accessFlags := 24, slot := 0, constantValue := 0 }]
  methods := #[k2m0, k2m1]
  instanceTypes := #[]
  staticTypes := #[(.object "java/lang/String")]
  resolved := Array.replicate 58 none
  statics := none }

def pool3 : Array CpInfo := pool [(1, u "java/lang/Cloneable"), (0, .class_ 1), (0, u "java/lang/Object"), (0, .class_ 3)] 3

/-- java/lang/Cloneable -/
def k3 : Class := { plain "java/lang/Cloneable" (some 0) with
  accessFlags := 1537
  interfaces := #[]
  cf := some (fileOf pool3 2 #[] #[] 1537 4 #[] #[])
  fields := #[]
  methods := #[]
  instanceTypes := #[]
  staticTypes := #[]
  resolved := Array.replicate 8 none
  statics := none }

def pool4 : Array CpInfo := pool [(1, u "java/io/Serializable"), (0, .class_ 1), (0, u "java/lang/Object"), (0, .class_ 3)] 3

/-- java/io/Serializable -/
def k4 : Class := { plain "java/io/Serializable" (some 0) with
  accessFlags := 1537
  interfaces := #[]
  cf := some (fileOf pool4 2 #[] #[] 1537 4 #[] #[])
  fields := #[]
  methods := #[]
  instanceTypes := #[]
  staticTypes := #[]
  resolved := Array.replicate 8 none
  statics := none }

/-- the primitive byte -/
def k5 : Class := { plain "byte" none with kind := .primitive 'B', accessFlags := 0x411 }
/-- [B -/
def k6 : Class := { plain "[B" (some 0) with kind := .array 5 .byte, interfaces := #[3, 4], accessFlags := 1041 }

/-- the primitive int -/
def k7 : Class := { plain "int" none with kind := .primitive 'I', accessFlags := 0x411 }
/-- [I -/
def k8 : Class := { plain "[I" (some 0) with kind := .array 7 .int, interfaces := #[3, 4], accessFlags := 1041 }

def heap : Heap := #[]
def classes : Array Class := #[k0, k1, k2, k3, k4, k5, k6, k7, k8]
def interned : List (Array UInt16 × Addr) := []
def slotsUsed : Nat := 0
def theMethod : MethodId := ⟨1, 2⟩
def args0 : Array Value := #[.int 5, .int 3, .int 8]
def aboutOver (below : List Frame) : State where
  vm := { classes := classes, interned := interned.toArray }
  heap := heap
  slotsUsed := slotsUsed
  threads := #[{ frames := .invoking theMethod args0 :: below }]
def below0 : List Frame := [.native { method := ⟨0, 0⟩, args := #[] }]
def about1 : State := aboutOver below0
def p0 : Program := .bare "" "" ""
def e0 : Env := launch0.env 0 0 0
theorem w_frames : about1.frames = Frame.invoking theMethod args0 :: below0 := rfl
set_option maxRecDepth 65536 in
theorem w_args : argsFit about1.vm theMethod args0 = true := by decide +kernel
set_option maxRecDepth 65536 in
theorem w_heap : heapFits about1 = true := by decide +kernel
set_option maxRecDepth 65536 in
theorem w_runnable : about1.curStatus? = some .runnable := by decide +kernel
set_option maxRecDepth 65536 in
theorem w_alone : about1.alone = true := by decide +kernel
set_option maxRecDepth 65536 in
theorem w_named : about1.methodNamed? x = some theMethod := by decide +kernel
set_option maxRecDepth 65536 in
theorem w_hears : about1.hears theMethod below0 = true := by decide +kernel
set_option maxRecDepth 65536 in
theorem w_ripe : about1.ripe theMethod args0 below0 = true := by decide +kernel
theorem w_running : about1.status = .running := rfl
set_option maxRecDepth 65536 in
theorem w_room : about1.hasRoom e0.platform room_1 = true :=
  launch0.hasRoom_least _ room_1 (by decide +kernel) (by decide +kernel) (by decide +kernel) (by decide +kernel) (by decide +kernel) (by decide +kernel)
theorem allAtoms_all (ts : List Jvm.Cond) (a : Array Jvm.Value) (st : Jvm.State) : (allAtoms ts).before a st = ts.all (fun c => c.before a st) := by
  induction ts with
  | nil => rfl
  | cons c t ih =>
    show (Jvm.Cond.and c (allAtoms t)).before a st = _
    rw [Jvm.Cond.before_and, ih, List.all_cons]
def words1 : List Jvm.Cond := Jvm.Cond.code x code maxLocals ret :: tables_1
/-- a 'code' word, met by the world's own term for the bytes: nothing is compared byte by byte -/
theorem code_word {y : MethodName} {bytes : ByteArray} {mx : Nat} {rt : Option FieldType} {a : Array Value} {s : State} {m : MethodId} {meth : Method} {c : Code} (h1 : s.methodNamed? y = some m) (h2 : s.vm.method? m = some meth) (h3 : meth.code = some c) (h4 : c.code = bytes)
    (h5 : (c.maxLocals == mx && c.exceptionTable.isEmpty && decide (c.maxStack ≤ mostOperands) && decide (meth.sig.returnType = rt) && !meth.locks && decide (parseMethodDescriptor y.desc = some meth.sig)) = true) : (Jvm.Cond.code y bytes mx rt).before a s = true := by
  simp only [Bool.and_eq_true, beq_iff_eq, Bool.not_eq_true', decide_eq_true_eq] at h5
  obtain ⟨⟨⟨⟨⟨g1, g2⟩, g3⟩, g4⟩, g5⟩, g6⟩ := h5
  simp [Cond.before, Cond.holds, Cond.value, h1, h2, h3, h4, g1, g2, g3, g4, g5, g6]
def isCode : Jvm.Cond → Bool
  | .code _ _ _ _ => true
  | _ => false
theorem all_split {L : List Jvm.Cond} {P : Jvm.Cond → Bool} (h1 : L.all (fun c => isCode c || P c) = true) (h2 : ∀ c ∈ L.filter isCode, P c = true) : L.all P = true := by
  refine List.all_eq_true.mpr fun c hc => ?_
  have h := List.all_eq_true.mp h1 c hc
  rcases Bool.eq_false_or_eq_true (isCode c) with hi | hi
  · exact h2 c (List.mem_filter.mpr ⟨hc, hi⟩)
  · simpa [hi] using h
set_option maxRecDepth 65536 in
theorem w_c0 : (Jvm.Cond.code x code maxLocals ret).before args0 about1 = true := code_word (m := ⟨1, 2⟩) (meth := k1m2) (c := k1c2) (by decide +kernel) rfl rfl rfl (by decide +kernel)
set_option maxRecDepth 65536 in
theorem w_c1 : (Jvm.Cond.code ({ cls := "com/example/early_sieve/earlysieve/io/XmlCharacters", name := "isCharacter", desc := "(I)Z" } : Jvm.MethodName) prog_34_method_2_code (1 : Nat) (Option.some Jvm.ClassFile.FieldType.boolean)).before args0 about1 = true := code_word (m := ⟨2, 1⟩) (meth := k2m1) (c := k2c1) (by decide +kernel) rfl rfl rfl (by decide +kernel)
set_option maxRecDepth 65536 in
theorem w_c2 : (Jvm.Cond.code ({ cls := "com/example/early_sieve/earlysieve/io/XmlCharactersIsCharacterPinLaw", name := "ref", desc := "(I)Z" } : Jvm.MethodName) method_2_code (1 : Nat) (Option.some Jvm.ClassFile.FieldType.boolean)).before args0 about1 = true := code_word (m := ⟨1, 1⟩) (meth := k1m1) (c := k1c1) (by decide +kernel) rfl rfl rfl (by decide +kernel)
def codes1 : List Jvm.Cond := [Jvm.Cond.code x code maxLocals ret, Jvm.Cond.code ({ cls := "com/example/early_sieve/earlysieve/io/XmlCharacters", name := "isCharacter", desc := "(I)Z" } : Jvm.MethodName) prog_34_method_2_code (1 : Nat) (Option.some Jvm.ClassFile.FieldType.boolean), Jvm.Cond.code ({ cls := "com/example/early_sieve/earlysieve/io/XmlCharactersIsCharacterPinLaw", name := "ref", desc := "(I)Z" } : Jvm.MethodName) method_2_code (1 : Nat) (Option.some Jvm.ClassFile.FieldType.boolean)]
set_option maxRecDepth 65536 in
theorem codes_eq : words1.filter isCode = codes1 := rfl
theorem w_codes : ∀ c ∈ words1.filter isCode, c.before args0 about1 = true := by
  rw [codes_eq]
  intro c hc
  simp only [codes1, List.mem_cons, List.not_mem_nil, or_false] at hc
  rcases hc with rfl | rfl | rfl
  · exact w_c0
  · exact w_c1
  · exact w_c2
set_option maxRecDepth 65536 in
theorem w_t1 : (words1.take 24).all (fun c => isCode c || c.before args0 about1) = true := by decide +kernel
set_option maxRecDepth 65536 in
theorem w_t2 : (words1.drop 24).all (fun c => isCode c || c.before args0 about1) = true := by decide +kernel
theorem w_tables : (allAtoms (Jvm.Cond.code x code maxLocals ret :: tables_1)).before args0 about1 = true := by
  rw [allAtoms_all]
  show words1.all (fun c => c.before args0 about1) = true
  refine all_split ?_ w_codes
  rw [← List.take_append_drop 24 words1, List.all_append, w_t1, w_t2]
  rfl
set_option maxRecDepth 65536 in
theorem w_case : (Jvm.Cond.and given_1 narrow_1).before args0 about1 = true := by decide +kernel
theorem w_applies : (headSpec (Jvm.Cond.code x code maxLocals ret :: tables_1) room_1).applies x e0.platform about1 = true :=
  (Spec.applies_iff w_frames).mpr ⟨w_running, w_runnable, w_alone, w_named, w_hears, w_ripe, w_room, w_tables⟩
theorem atStart : AtStart classFile x code maxLocals ret World_1 tables_1 room_1 Calls_1 rest_1 Pre_1 launch0 p0 e0 about1 theMethod args0 below0 :=
  ⟨lists_1, trivial, launch0.admits_env _ _ _, launch0.least_env, fairChoices_fair.cas, fairChoices_fair.clock, w_frames, w_args, w_heap, w_applies, trivial, trivial, w_case⟩
end start1
theorem witness_1 : WitnessClaimed_1 := ⟨start1.p0, start1.e0, start1.about1, start1.theMethod, start1.args0, start1.below0, start1.atStart⟩
end Jvm.Pilot.@@N@@
