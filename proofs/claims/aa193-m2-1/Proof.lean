import JvmDerived
import JvmDerived.Pilot.@@N@@Statement
import JvmDerived.Pilot.@@N@@Code
set_option linter.unusedVariables false
set_option linter.unusedSimpArgs false
namespace Jvm.OwnGo
open Jvm Jvm.ClassFile Sem Op Lib Jvm.Free Jvm.Stand Jvm.LawKit Jvm.RoadKit
section Own
variable {p : Program} {l : Launch} {e : Env} {R : Room} {s : State} {m : MethodId} {args : Array Value} {below : List Frame} {meth : Method} {c : Code} {T T' : State} {locs : List Loc} {cells slots : Nat} {Z : State} {a0 : Array Value} {h : Heap} {g g' : JFrame} {P : Outcome → State → Prop}
/-- the run goes on from T with the frame g on top and comes to an end at which P holds -/
def Go (p : Program) (e : Env) (below : List Frame) (P : Outcome → State → Prop) (T : State) (g : JFrame) : Prop := ∃ t o, Steps p.tables e below (T.setTop g) t ∧ t.status = .running ∧ Ended t below o ∧ P o t
theorem Go.of (g' : JFrame) (st : ∀ t, Steps p.tables e below (T'.setTop g') t → Steps p.tables e below (T.setTop g) t) (k : Go p e below P T' g') : Go p e below P T g := by
  obtain ⟨t, o, h1, h2⟩ := k; exact ⟨t, o, st t h1, h2⟩
theorem Go.via (g' : JFrame) (st : Steps p.tables e below (T.setTop g) (T'.setTop g')) (k : Go p e below P T' g') : Go p e below P T g := by
  obtain ⟨t, o, h1, h2⟩ := k; exact ⟨t, o, st.trans h1, h2⟩
theorem Go.cast (q : g = g') (k : Go p e below P T g') : Go p e below P T g := q ▸ k
abbrev EndP (s : State) (rm : Room) (Q : Option Value → Heap → List Loc → Prop) : Outcome → State → Prop := fun o U' => ∃ v L, o = .returned v ∧ Q v U'.heap L ∧ FrameEnd s o U' L rm.cells rm.slots
def Met (l : Launch) (Z : State) (y : MethodName) (bytes : ByteArray) (maxL : Nat) (ret : Option FieldType) (ws : List Cond) (rm : Room) (as' : Array Value) (h0 : Heap) (Q : Option Value → Heap → List Loc → Prop) : Prop :=
  MetFree l y (head1 (Cond.code y bytes maxL ret :: ws) rm) (fun a U => a = as' ∧ Z.Warmed39 U.vm ∧ U.heap = h0) (fun _ _ _ _ _ => True) (fun _ U o U' => ∃ v L, o = .returned v ∧ Q v U'.heap L ∧ FrameEnd U o U' L rm.cells rm.slots)
variable {y : MethodName} {bytes : ByteArray} {maxL : Nat} {ret : Option FieldType} {ws : List Cond} {rm : Room} {as' : Array Value} {h0 : Heap} {Q : Option Value → Heap → List Loc → Prop}
theorem Met.intro (hpl : plainFor y = true)
    (body : ∀ p e s m below meth c s₁, Stand p l e rm s m as' below meth c s₁ [] 0 0 → p.tables.exec = Jvm.exec → Z.Warmed39 s.vm → s.vm.findClass y.cls = some m.cls → c.code = bytes → c.maxLocals = maxL →
      meth.sig.returnType = ret → meth.locks = false → meth.name = y.name → s₁.heap = h0 → Go p e below (EndP s rm Q) s₁ (entryFrame m as' maxL)) : Met l Z y bytes maxL ret ws rm as' h0 Q := by
  refine MetFree.of_bodySF hpl hisR ?_
  intro p e s m args below meth c s₁ Bd hml0 hP hK
  obtain ⟨rfl, hZ, hh⟩ := hP
  exact body p e s m below meth c s₁ (Stand.of_body Bd) Bd.exec hZ (findClass_of_methodNamed Bd.named) Bd.bytes hml0 Bd.returns Bd.notSynchronized (name_of_methodNamed Bd.named Bd.method).1 (by rw [← hh, Bd.state]; rfl)
theorem Met.mono {Q' : Option Value → Heap → List Loc → Prop} (h : Met l Z y bytes maxL ret ws rm as' h0 Q) (q : ∀ v h L, Q v h L → Q' v h L) : Met l Z y bytes maxL ret ws rm as' h0 Q' := by
  intro p e ha hc hk s m args below hf happ hP hK
  obtain ⟨n, o, h1, h2, h3, v, L, h4, h5, h6⟩ := h p e ha hc hk s m args below hf happ hP hK
  exact ⟨n, o, h1, h2, h3, v, L, h4, q _ _ _ h5, h6⟩
theorem Go.fin (X : Stand p l e R s m args below meth c T locs cells slots) {v : Option Value} (hv : meth.sig.returnType = none → v = none) (hlk : meth.locks = false) (hc : cells ≤ rm.cells) (hs : slots ≤ rm.slots)
    (st : ∀ fs, (∀ (f : JFrame) (acts : List Action), f.method = m → f.locked = none → f.entered = [] → (doReturn e (T.setTop f) acts v).1 = T.setFrames fs) → Steps p.tables e below (T.setTop g) (T.setFrames fs)) (hQ : Q v T.heap locs) : Go p e below (EndP s rm Q) T g := by
  obtain ⟨fs, hr, hrun, hended, hW, hsame⟩ := X.leave (v := v) hv hlk
  exact ⟨_, _, st fs hr, hrun, hended, v, locs, rfl, hQ, ⟨v, rfl⟩, hW, hsame.mono hc hs⟩
/-- a value is returned -/
theorem Go.retW (X : Stand p l e R s m args below meth c T locs cells slots) (hx : p.tables.exec = Jvm.exec) {pc : Nat} {Ls : Array Slot} {w : Value} {t : FieldType} {i : Instr} {rest : List Value} (hret : meth.sig.returnType = some t) (hlk : meth.locks = false) (hn : narrow t w = w)
    (hi : (i = .ireturn ∧ (t = .int ∨ t = .boolean ∨ t = .byte ∨ t = .char ∨ t = .short) ∧ ∃ z, w = .int z) ∨ (i = .lreturn ∧ t = .long ∧ ∃ z, w = .long z) ∨ (i = .dreturn ∧ t = .double ∧ ∃ z, w = .double z) ∨ (i = .freturn ∧ t = .float ∧ ∃ z, w = .float z) ∨ (i = .areturn ∧ t.isReference = true ∧ w.isRef = true))
    (hd : decode c.code pc = .ok (i, 1)) (hc : cells ≤ rm.cells) (hs : slots ≤ rm.slots) (hQ : Q (some w) T.heap locs) : Go p e below (EndP s rm Q) T (mkF m pc Ls (w :: rest)) :=
  Go.fin X (fun q => by rw [hret] at q; cases q) hlk hc hs (fun fs hr => retOut X hx hret hn hi hd hr) hQ
/-- nothing is returned -/
theorem Go.retV (X : Stand p l e R s m args below meth c T locs cells slots) (hx : p.tables.exec = Jvm.exec) {pc : Nat} {Ls : Array Slot} (hret : meth.sig.returnType = none) (hlk : meth.locks = false)
    (hd : decode c.code pc = .ok (.return_, 1)) (hc : cells ≤ rm.cells) (hs : slots ≤ rm.slots) (hQ : Q none T.heap locs) : Go p e below (EndP s rm Q) T (mkF m pc Ls []) :=
  Go.fin X (fun _ => rfl) hlk hc hs (fun fs hr => X.returnOut hx hret hd hr) hQ
theorem ri_int {z : Int32} {t : FieldType} (ht : t = .int ∨ t = .boolean ∨ t = .byte ∨ t = .char ∨ t = .short) : ((.ireturn : Instr) = .ireturn ∧ (t = .int ∨ t = .boolean ∨ t = .byte ∨ t = .char ∨ t = .short) ∧ ∃ z', (Value.int z) = .int z') ∨ ((.ireturn : Instr) = .lreturn ∧ t = .long ∧ ∃ z', (Value.int z) = .long z') ∨ ((.ireturn : Instr) = .dreturn ∧ t = .double ∧ ∃ z', (Value.int z) = .double z') ∨ ((.ireturn : Instr) = .freturn ∧ t = .float ∧ ∃ z', (Value.int z) = .float z') ∨ ((.ireturn : Instr) = .areturn ∧ t.isReference = true ∧ (Value.int z).isRef = true) := Or.inl ⟨rfl, ht, z, rfl⟩
/-- a static call, by the callee's contract -/
theorem Go.callS (X : Stand p l e R s m args below meth c T locs cells slots) (hx : p.tables.exec = Jvm.exec) (hZ : Z.Warmed39 s.vm) {own : String} {index W : Nat} {argsL rest : List Value} (hown : s.vm.findClass own = some m.cls)
    (w1 : (Cond.methodLink own index y).before a0 Z = true) (w2 : (Cond.static y).before a0 Z = true) (w3 : (Cond.initialized y.cls).before a0 Z = true) (w4 : (Cond.code y bytes maxL ret).before a0 Z = true)
    (hy : y.cls ≠ "java/lang/invoke/MethodHandle" ∧ y.cls ≠ "java/lang/invoke/VarHandle") (eT : T.heap = h) (hM : Met l Z y bytes maxL ret [] rm argsL.toArray h Q)
    (hg : g.method = m) (hsize : g.locals.size = c.maxLocals) (hlen : ∀ sig, parseMethodDescriptor y.desc = some sig → argsL.length = sig.parameters.length) (hs : g.stack = argsL.reverse ++ rest)
    (hW : 2 * g.monitorRoom + (rest.map fun v => v.category).sum ≤ W) (hd : decode c.code g.pc = .ok (.invokestatic index, 3)) (hf : rm.frames + 1 ≤ R.frames) (hl : W + (maxL + 11) + rm.locals ≤ R.locals) (hc : cells + rm.cells ≤ R.cells) (hsl : slots + rm.slots ≤ R.slots)
    (k : ∀ T' L v, Stand p l e R s m args below meth c T' (locs ++ L) (cells + rm.cells) (slots + rm.slots) → Q v T'.heap L → Go p e below P T' { g with pc := g.pc + 3, stack := v.toList ++ rest }) : Go p e below P T g := by
  obtain ⟨v, _, ⟨U, L, q1, q2⟩, -, X', ⟨Lc, hQ, l1, l2, l3⟩, st⟩ := Jvm.LawKit.callS X hx (y := y) hown (mvT hZ w1) (mvT hZ w2) (mvT hZ w3) (mvT hZ w4) hy (backOf (W := W) hM hZ w4 w3 hf hl) hg hsize hlen hs hW hd (fun _ _ => ⟨rfl, eT, hc, hsl⟩)
  dsimp only [Pt.U, Pt.locs, Pt.cells, Pt.slots] at X' l1 l2 l3 st hQ
  subst l1 l2 l3
  exact Go.of _ st (k _ _ _ X' hQ)
/-- a constructor, by its contract -/
theorem Go.init (X : Stand p l e R s m args below meth c T locs cells slots) (hx : p.tables.exec = Jvm.exec) (hZ : Z.Warmed39 s.vm) {own : String} {index W : Nat} {a : Addr} {argsL rest : List Value} (hown : s.vm.findClass own = some m.cls) (hy1 : y.name = "<init>")
    (w1 : (Cond.methodLink own index y).before a0 Z = true) (w2 : (Cond.instanceMethod y).before a0 Z = true) (w3 : (Cond.initialized y.cls).before a0 Z = true) (w4 : (Cond.code y bytes maxL none).before a0 Z = true)
    (hy : y.cls ≠ "java/lang/invoke/MethodHandle" ∧ y.cls ≠ "java/lang/invoke/VarHandle") (eT : T.heap = h) (hM : Met l Z y bytes maxL none [] rm (.ref a :: argsL).toArray h Q)
    (hg : g.method = m) (hsize : g.locals.size = c.maxLocals) (hlen : ∀ sig, parseMethodDescriptor y.desc = some sig → argsL.length = sig.parameters.length) (hs : g.stack = argsL.reverse ++ .ref a :: rest)
    (hW : 2 * g.monitorRoom + (rest.map fun v => v.category).sum ≤ W) (hd : decode c.code g.pc = .ok (.invokespecial index, 3)) (hf : rm.frames + 1 ≤ R.frames) (hl : W + (maxL + 11) + rm.locals ≤ R.locals) (hc : cells + rm.cells ≤ R.cells) (hsl : slots + rm.slots ≤ R.slots)
    (k : ∀ T' L v, Stand p l e R s m args below meth c T' (locs ++ L) (cells + rm.cells) (slots + rm.slots) → Q v T'.heap L → Go p e below P T' { g with pc := g.pc + 3, stack := v.toList ++ rest }) : Go p e below P T g := by
  obtain ⟨v, _, ⟨U, L, q1, q2⟩, -, X', ⟨Lc, hQ, l1, l2, l3⟩, st⟩ := X.specialBack hx (y := y) hy1 hown (mvT hZ w1) (mvT hZ w2) (mvT hZ w4) hy (backOf (W := W) hM hZ w4 w3 hf hl) hg hsize (Steps.refl _) hlen hs hW hd (fun _ _ => ⟨rfl, eT, hc, hsl⟩)
  dsimp only [Pt.U, Pt.locs, Pt.cells, Pt.slots] at X' l1 l2 l3 st hQ
  subst l1 l2 l3
  exact Go.via _ st (k _ _ _ X' hQ)
/-- an instance method, by the contract of the method that the receiver's class selects -/
theorem Go.virt (X : Stand p l e R s m args below meth c T locs cells slots) (hx : p.tables.exec = Jvm.exec) (hZ : Z.Warmed39 s.vm) {own C : String} {z : MethodName} {index W : Nat} {a : Addr} {argsL rest : List Value} (hown : s.vm.findClass own = some m.cls)
    (w1 : (Cond.methodLink own index z).before a0 Z = true) (w2 : (Cond.declares z).before a0 Z = true) (nf : NotFace s z) (w5 : (Cond.selects C z y).before a0 Z = true) (w6 : (Cond.instanceMethod y).before a0 Z = true) (w3 : (Cond.initialized y.cls).before a0 Z = true) (w4 : (Cond.code y bytes maxL ret).before a0 Z = true)
    (hy : z.cls ≠ "java/lang/invoke/MethodHandle" ∧ z.cls ≠ "java/lang/invoke/VarHandle") (eT : T.heap = h) (E : Exa Z h a C) (hM : Met l Z y bytes maxL ret [] rm (.ref a :: argsL).toArray h Q)
    (hg : g.method = m) (hsize : g.locals.size = c.maxLocals) (hlen : ∀ sig, parseMethodDescriptor z.desc = some sig → argsL.length = sig.parameters.length) (hs : g.stack = argsL.reverse ++ .ref a :: rest)
    (hW : 2 * g.monitorRoom + (rest.map fun v => v.category).sum ≤ W) (hd : decode c.code g.pc = .ok (.invokevirtual index, 3)) (hf : rm.frames + 1 ≤ R.frames) (hl : W + (maxL + 11) + rm.locals ≤ R.locals) (hc : cells + rm.cells ≤ R.cells) (hsl : slots + rm.slots ≤ R.slots)
    (k : ∀ T' L v, Stand p l e R s m args below meth c T' (locs ++ L) (cells + rm.cells) (slots + rm.slots) → Q v T'.heap L → Go p e below P T' { g with pc := g.pc + 3, stack := v.toList ++ rest }) : Go p e below P T g := by
  obtain ⟨cq, kq, qa, qb, qc⟩ := isOf hZ eT E
  obtain ⟨v, _, ⟨U, L, q1, q2⟩, -, X', ⟨Lc, hQ, l1, l2, l3⟩, st⟩ := X.virtualBack hx (y := z) (z := y) hown (mvT hZ w1) (mvT hZ w2) nf (mvT hZ w5) (mvT hZ w6) hy (backOf (W := W) hM hZ w4 w3 hf hl) qa qc hg hsize (Steps.refl _) hlen hs hW hd (fun _ _ => ⟨rfl, eT, hc, hsl⟩)
  dsimp only [Pt.U, Pt.locs, Pt.cells, Pt.slots] at X' l1 l2 l3 st hQ
  subst l1 l2 l3
  exact Go.via _ st (k _ _ _ X' hQ)
/-- a private method (invokevirtual) -/
theorem Go.priv (X : Stand p l e R s m args below meth c T locs cells slots) (hx : p.tables.exec = Jvm.exec) (hZ : Z.Warmed39 s.vm) {own C : String} {index W : Nat} {a : Addr} {argsL rest : List Value} (hown : s.vm.findClass own = some m.cls)
    (w1 : (Cond.methodLink own index y).before a0 Z = true) (w6 : (Cond.instanceMethod y).before a0 Z = true) (w5 : (Cond.selects y.cls y y).before a0 Z = true) (w7 : (Cond.privateMethod y).before a0 Z = true) (w3 : (Cond.initialized y.cls).before a0 Z = true) (w4 : (Cond.code y bytes maxL ret).before a0 Z = true)
    (hy : y.cls ≠ "java/lang/invoke/MethodHandle" ∧ y.cls ≠ "java/lang/invoke/VarHandle") (eT : T.heap = h) (E : Exa Z h a C) (hM : Met l Z y bytes maxL ret [] rm (.ref a :: argsL).toArray h Q)
    (hg : g.method = m) (hsize : g.locals.size = c.maxLocals) (hlen : ∀ sig, parseMethodDescriptor y.desc = some sig → argsL.length = sig.parameters.length) (hs : g.stack = argsL.reverse ++ .ref a :: rest)
    (hW : 2 * g.monitorRoom + (rest.map fun v => v.category).sum ≤ W) (hd : decode c.code g.pc = .ok (.invokevirtual index, 3)) (hf : rm.frames + 1 ≤ R.frames) (hl : W + (maxL + 11) + rm.locals ≤ R.locals) (hc : cells + rm.cells ≤ R.cells) (hsl : slots + rm.slots ≤ R.slots)
    (k : ∀ T' L v, Stand p l e R s m args below meth c T' (locs ++ L) (cells + rm.cells) (slots + rm.slots) → Q v T'.heap L → Go p e below P T' { g with pc := g.pc + 3, stack := v.toList ++ rest }) : Go p e below P T g := by
  obtain ⟨cq, q, q'⟩ := E.cell
  obtain ⟨v, _, ⟨U, L, q1, q2⟩, -, X', ⟨Lc, hQ, l1, l2, l3⟩, st⟩ := X.privateBack hx (y := y) hown (mvT hZ w1) (mvT hZ w6) (mvT hZ w5) (Cond.privateMethod_at (mvP hZ w7 (args := #[]))) (mvT hZ w4) hy (backOf (W := W) hM hZ w4 w3 hf hl) hg hsize (Steps.refl _) (a := a) (by rw [eT]; exact q) q' hlen hs hW hd (fun _ _ => ⟨rfl, eT, hc, hsl⟩)
  dsimp only [Pt.U, Pt.locs, Pt.cells, Pt.slots] at X' l1 l2 l3 st hQ
  subst l1 l2 l3
  exact Go.via _ st (k _ _ _ X' hQ)
/-! arrays by a function of the place -/
def fnup {α : Type} (y : Int32 → α) (j : Int32) (v : α) : Int32 → α := fun i => if i = j then v else y i
theorem fnup_same {α : Type} (y : Int32 → α) (j : Int32) (v : α) : fnup y j v j = v := if_pos rfl
theorem fnup_ne {α : Type} {y : Int32 → α} {i j : Int32} {v : α} (h : ¬ i = j) : fnup y j v i = y i := if_neg h
def Fa (Z : State) (h : Heap) (a : Addr) (ty : FieldType) (n : Int32) (y : Int32 → Value) : Prop :=
  ∃ c : Cell, Arr Z h a c ty ∧ c.slots.size = n.toNatClampNeg ∧ ¬ n < 0 ∧ ∀ j : Int32, ¬ j < 0 → j < n → c.slots[j.toNatClampNeg]? = some (y j) ∧ fits ty (y j) = true
variable {a b : Addr} {ty : FieldType} {n : Int32} {yv : Int32 → Value} {h' : Heap} {j : Int32} {v : Value} {sl : Nat} {hws : List Addr}
theorem Fa.lt (F : Fa Z h a ty n yv) : a < h.size := by obtain ⟨c, A, -⟩ := F; exact A.lt
theorem Fa.ext (F : Fa Z h a ty n yv) (E : Ext h h') : Fa Z h' a ty n yv := by obtain ⟨c, A, r⟩ := F; exact ⟨c, A.ext E, r⟩
theorem Fa.other (F : Fa Z h b ty n yv) (W : Wr h h' a sl v) (q : b ≠ a) : Fa Z h' b ty n yv := by obtain ⟨c, A, r⟩ := F; exact ⟨c, A.other W q, r⟩
theorem Fa.keep (F : Fa Z h a ty n yv) (K : Keep h h' hws) (q : a ∉ hws) : Fa Z h' a ty n yv := by obtain ⟨c, A, r⟩ := F; exact ⟨c, ⟨K.2.1 a c A.1 q, A.2⟩, r⟩
theorem Fa.new {k : ClassId} (A : Arr Z h a (newA k ty n) ty) (q : ¬ n < 0) : Fa Z h a ty n (fun _ => defaultValue ty) :=
  ⟨_, A, sz_new _ _ _, q, fun i h0 h1 => ⟨get_new (by have := inb_of (c := newA k ty n) (sz_new k ty n) ⟨h0, h1⟩; rwa [sz_new] at this), by cases ty <;> rfl⟩⟩
theorem Fa.set (F : Fa Z h a ty n yv) (W : Wr h h' a j.toNatClampNeg v) (hj : ¬ j < 0) (hv : fits ty v = true) : Fa Z h' a ty n (fnup yv j v) := by
  obtain ⟨c, A, S, M, H⟩ := F
  refine ⟨c.setSlot j.toNatClampNeg v, A.same W, by rw [sz_set]; exact S, M, fun i h0 h1 => ?_⟩
  by_cases e : i = j
  · subst e; rw [fnup_same]; exact ⟨get_hit (inb_of S ⟨h0, h1⟩) rfl, hv⟩
  · rw [fnup_ne e, get_miss hj h0 e]; exact H i h0 h1
theorem Fa.congr {yw : Int32 → Value} (F : Fa Z h a ty n yv) (q : ∀ j, ¬ j < 0 → j < n → yw j = yv j) : Fa Z h a ty n yw := by
  obtain ⟨c, A, S, M, H⟩ := F
  exact ⟨c, A, S, M, fun j h0 h1 => by rw [q j h0 h1]; exact H j h0 h1⟩
theorem Fa.pos (F : Fa Z h a ty n yv) : ¬ n < 0 := by obtain ⟨c, A, S, M, H⟩ := F; exact M
theorem Fa.ofArv {k : ClassId} {vs : List Value} {dv : Value} (F : Arv Z h a k ty n vs dv) : Fa Z h a ty n (fun j => vs.getD j.toNatClampNeg dv) := by
  obtain ⟨c, A, q1, S, M, H, G⟩ := F
  exact ⟨c, A, S, M, fun j h0 h1 => by
    have q : j.toNatClampNeg < c.slots.size := Nat.lt_of_not_le fun z => inb_of S ⟨h0, h1⟩ (Or.inr z)
    exact ⟨H _ q, G _ q⟩⟩
theorem fnup_int (y : Int32 → Int32) (j x : Int32) : fnup (fun i => Value.int (y i)) j (.int x) = fun i => Value.int (fnup y j x i) := by funext i; unfold fnup; split <;> rfl
theorem fnup_long (y : Int32 → Int64) (j : Int32) (x : Int64) : fnup (fun i => Value.long (y i)) j (.long x) = fun i => Value.long (fnup y j x i) := by funext i; unfold fnup; split <;> rfl
theorem fnup_dbl (y : Int32 → UInt64) (j : Int32) (x : UInt64) : fnup (fun i => Value.double (y i)) j (.double x) = fun i => Value.double (fnup y j x i) := by funext i; unfold fnup; split <;> rfl
variable {rest : List Value}
theorem Go.arraylength (X : Stand p l e R s m args below meth c T locs cells slots) (hx : p.tables.exec = Jvm.exec) (hZ : Z.Warmed39 s.vm) (eT : T.heap = h) (F : Fa Z h a ty n yv) (hg : g.method = m) (hs : g.stack = .ref a :: rest) (hd : decode c.code g.pc = .ok (.arraylength, 1))
    (k : Go p e below P T { g with pc := g.pc + 1, stack := .int n :: rest }) : Go p e below P T g := by
  obtain ⟨cl, A, S, M, H⟩ := F
  refine Go.of _ (fun t k => X.arraylength hx (by rw [eT]; exact A.1) (State.isArrayOf_alike hZ.alike A.2.1) hg hs hd _ k) ?_
  rw [len_of S M]; exact k
theorem Go.iaload (X : Stand p l e R s m args below meth c T locs cells slots) (hx : p.tables.exec = Jvm.exec) (hZ : Z.Warmed39 s.vm) (eT : T.heap = h) {y : Int32 → Int32} (F : Fa Z h a .int n (fun i => .int (y i))) (h0 : ¬ j < 0) (h1 : j < n) (hg : g.method = m) (hs : g.stack = .int j :: .ref a :: rest) (hd : decode c.code g.pc = .ok (.iaload, 1))
    (k : Go p e below P T { g with pc := g.pc + 1, stack := .int (y j) :: rest }) : Go p e below P T g := by
  obtain ⟨cl, A, S, M, H⟩ := F
  exact Go.of _ (fun t k => X.iaload hx (by rw [eT]; exact A.1) (State.isArrayOf_alike hZ.alike A.2.1) A.2.2 (inb_of S ⟨h0, h1⟩) (H j h0 h1).1 hg hs hd _ k) k
theorem Go.caload (X : Stand p l e R s m args below meth c T locs cells slots) (hx : p.tables.exec = Jvm.exec) (hZ : Z.Warmed39 s.vm) (eT : T.heap = h) {y : Int32 → Int32} (F : Fa Z h a .char n (fun i => .int (y i))) (h0 : ¬ j < 0) (h1 : j < n) (hg : g.method = m) (hs : g.stack = .int j :: .ref a :: rest) (hd : decode c.code g.pc = .ok (.caload, 1))
    (k : Go p e below P T { g with pc := g.pc + 1, stack := .int (y j) :: rest }) : Go p e below P T g := by
  obtain ⟨cl, A, S, M, H⟩ := F
  exact Go.of _ (fun t k => X.caload hx (by rw [eT]; exact A.1) (State.isArrayOf_alike hZ.alike A.2.1) A.2.2 (inb_of S ⟨h0, h1⟩) (H j h0 h1).1 hg hs hd _ k) k
theorem Go.saload (X : Stand p l e R s m args below meth c T locs cells slots) (hx : p.tables.exec = Jvm.exec) (hZ : Z.Warmed39 s.vm) (eT : T.heap = h) {y : Int32 → Int32} (F : Fa Z h a .short n (fun i => .int (y i))) (h0 : ¬ j < 0) (h1 : j < n) (hg : g.method = m) (hs : g.stack = .int j :: .ref a :: rest) (hd : decode c.code g.pc = .ok (.saload, 1))
    (k : Go p e below P T { g with pc := g.pc + 1, stack := .int (y j) :: rest }) : Go p e below P T g := by
  obtain ⟨cl, A, S, M, H⟩ := F
  exact Go.of _ (fun t k => X.saload hx (by rw [eT]; exact A.1) (State.isArrayOf_alike hZ.alike A.2.1) A.2.2 (inb_of S ⟨h0, h1⟩) (H j h0 h1).1 hg hs hd _ k) k
theorem Go.baload (X : Stand p l e R s m args below meth c T locs cells slots) (hx : p.tables.exec = Jvm.exec) (hZ : Z.Warmed39 s.vm) (eT : T.heap = h) {y : Int32 → Int32} (F : Fa Z h a .byte n (fun i => .int (y i))) (h0 : ¬ j < 0) (h1 : j < n) (hg : g.method = m) (hs : g.stack = .int j :: .ref a :: rest) (hd : decode c.code g.pc = .ok (.baload, 1))
    (k : Go p e below P T { g with pc := g.pc + 1, stack := .int (y j) :: rest }) : Go p e below P T g := by
  obtain ⟨cl, A, S, M, H⟩ := F
  exact Go.of _ (fun t k => X.baloadBytes hx (by rw [eT]; exact A.1) (State.isArrayOf_alike hZ.alike A.2.1) A.2.2 (inb_of S ⟨h0, h1⟩) (H j h0 h1).1 hg hs hd _ k) k
theorem Go.zaload (X : Stand p l e R s m args below meth c T locs cells slots) (hx : p.tables.exec = Jvm.exec) (hZ : Z.Warmed39 s.vm) (eT : T.heap = h) {y : Int32 → Int32} (F : Fa Z h a .boolean n (fun i => .int (y i))) (h0 : ¬ j < 0) (h1 : j < n) (hg : g.method = m) (hs : g.stack = .int j :: .ref a :: rest) (hd : decode c.code g.pc = .ok (.baload, 1))
    (k : Go p e below P T { g with pc := g.pc + 1, stack := .int (y j) :: rest }) : Go p e below P T g := by
  obtain ⟨cl, A, S, M, H⟩ := F
  exact Go.of _ (fun t k => X.baloadBooleans hx (by rw [eT]; exact A.1) (State.isArrayOf_alike hZ.alike A.2.1) A.2.2 (inb_of S ⟨h0, h1⟩) (H j h0 h1).1 hg hs hd _ k) k
theorem Go.laload (X : Stand p l e R s m args below meth c T locs cells slots) (hx : p.tables.exec = Jvm.exec) (hZ : Z.Warmed39 s.vm) (eT : T.heap = h) {y : Int32 → Int64} (F : Fa Z h a .long n (fun i => .long (y i))) (h0 : ¬ j < 0) (h1 : j < n) (hg : g.method = m) (hs : g.stack = .int j :: .ref a :: rest) (hd : decode c.code g.pc = .ok (.laload, 1))
    (k : Go p e below P T { g with pc := g.pc + 1, stack := .long (y j) :: rest }) : Go p e below P T g := by
  obtain ⟨cl, A, S, M, H⟩ := F
  exact Go.of _ (fun t k => X.laload hx (by rw [eT]; exact A.1) (State.isArrayOf_alike hZ.alike A.2.1) A.2.2 (inb_of S ⟨h0, h1⟩) (H j h0 h1).1 hg hs hd _ k) k
theorem Go.aaload (X : Stand p l e R s m args below meth c T locs cells slots) (hx : p.tables.exec = Jvm.exec) (hZ : Z.Warmed39 s.vm) (eT : T.heap = h) (F : Fa Z h a ty n yv) (hty : ty.isReference = true) (h0 : ¬ j < 0) (h1 : j < n) (hg : g.method = m) (hs : g.stack = .int j :: .ref a :: rest) (hd : decode c.code g.pc = .ok (.aaload, 1))
    (k : Go p e below P T { g with pc := g.pc + 1, stack := yv j :: rest }) : Go p e below P T g := by
  obtain ⟨cl, A, S, M, H⟩ := F
  exact Go.of _ (fun t k => X.aaload hx (by rw [eT]; exact A.1) (State.isArrayOf_alike hZ.alike A.2.1) hty A.2.2 (inb_of S ⟨h0, h1⟩) (H j h0 h1).1 hg hs hd _ k) k
theorem Go.iastore (X : Stand p l e R s m args below meth c T locs cells slots) (hx : p.tables.exec = Jvm.exec) (hZ : Z.Warmed39 s.vm) (eT : T.heap = h) {y : Int32 → Int32} {x : Int32} (F : Fa Z h a .int n (fun i => .int (y i))) (h0 : ¬ j < 0) (h1 : j < n) (hg : g.method = m) (hs : g.stack = .int x :: .int j :: .ref a :: rest) (hd : decode c.code g.pc = .ok (.iastore, 1))
    (k : ∀ T' h', Stand p l e R s m args below meth c T' (locs ++ [⟨a, j.toNatClampNeg⟩]) cells slots → T'.heap = h' → Wr h h' a j.toNatClampNeg (.int x) → Fa Z h' a .int n (fun i => .int (fnup y j x i)) → Go p e below P T' { g with pc := g.pc + 1, stack := rest }) : Go p e below P T g := by
  obtain ⟨cl, A, S, M, H⟩ := id F
  obtain ⟨T', h', X', e', W, st⟩ := stI X hx hZ eT A (inb_of S ⟨h0, h1⟩) hg hs hd
  exact Go.of _ st (k _ _ X' e' W (by have := F.set W h0 rfl; rwa [fnup_int] at this))
theorem Go.castore (X : Stand p l e R s m args below meth c T locs cells slots) (hx : p.tables.exec = Jvm.exec) (hZ : Z.Warmed39 s.vm) (eT : T.heap = h) {y : Int32 → Int32} {x : Int32} (F : Fa Z h a .char n (fun i => .int (y i))) (h0 : ¬ j < 0) (h1 : j < n) (hg : g.method = m) (hs : g.stack = .int x :: .int j :: .ref a :: rest) (hd : decode c.code g.pc = .ok (.castore, 1))
    (k : ∀ T' h', Stand p l e R s m args below meth c T' (locs ++ [⟨a, j.toNatClampNeg⟩]) cells slots → T'.heap = h' → Wr h h' a j.toNatClampNeg (.int (nar .char x)) → Fa Z h' a .char n (fun i => .int (fnup y j (nar .char x) i)) → Go p e below P T' { g with pc := g.pc + 1, stack := rest }) : Go p e below P T g := by
  obtain ⟨cl, A, S, M, H⟩ := id F
  obtain ⟨T', h', X', e', W, st⟩ := stC X hx hZ eT A (inb_of S ⟨h0, h1⟩) hg hs hd
  exact Go.of _ st (k _ _ X' e' W (by have := F.set W h0 (fits_nar_char _); rwa [fnup_int] at this))
theorem Go.bastore (X : Stand p l e R s m args below meth c T locs cells slots) (hx : p.tables.exec = Jvm.exec) (hZ : Z.Warmed39 s.vm) (eT : T.heap = h) {y : Int32 → Int32} {x : Int32} (F : Fa Z h a .byte n (fun i => .int (y i))) (h0 : ¬ j < 0) (h1 : j < n) (hg : g.method = m) (hs : g.stack = .int x :: .int j :: .ref a :: rest) (hd : decode c.code g.pc = .ok (.bastore, 1))
    (k : ∀ T' h', Stand p l e R s m args below meth c T' (locs ++ [⟨a, j.toNatClampNeg⟩]) cells slots → T'.heap = h' → Wr h h' a j.toNatClampNeg (.int (nar .byte x)) → Fa Z h' a .byte n (fun i => .int (fnup y j (nar .byte x) i)) → Go p e below P T' { g with pc := g.pc + 1, stack := rest }) : Go p e below P T g := by
  obtain ⟨cl, A, S, M, H⟩ := id F
  obtain ⟨T', h', X', e', W, st⟩ := stB X hx hZ eT A (inb_of S ⟨h0, h1⟩) hg hs hd
  exact Go.of _ st (k _ _ X' e' W (by have := F.set W h0 (fits_nar_byte _); rwa [fnup_int] at this))
theorem Go.zastore (X : Stand p l e R s m args below meth c T locs cells slots) (hx : p.tables.exec = Jvm.exec) (hZ : Z.Warmed39 s.vm) (eT : T.heap = h) {y : Int32 → Int32} {x : Int32} (F : Fa Z h a .boolean n (fun i => .int (y i))) (h0 : ¬ j < 0) (h1 : j < n) (hg : g.method = m) (hs : g.stack = .int x :: .int j :: .ref a :: rest) (hd : decode c.code g.pc = .ok (.bastore, 1))
    (k : ∀ T' h', Stand p l e R s m args below meth c T' (locs ++ [⟨a, j.toNatClampNeg⟩]) cells slots → T'.heap = h' → Wr h h' a j.toNatClampNeg (.int (nar .boolean x)) → Fa Z h' a .boolean n (fun i => .int (fnup y j (nar .boolean x) i)) → Go p e below P T' { g with pc := g.pc + 1, stack := rest }) : Go p e below P T g := by
  obtain ⟨cl, A, S, M, H⟩ := id F
  obtain ⟨T', h', X', e', W, st⟩ := stZ X hx hZ eT A (inb_of S ⟨h0, h1⟩) hg hs hd
  exact Go.of _ st (k _ _ X' e' W (by have := F.set W h0 (fits_nar_bool _); rwa [fnup_int] at this))
theorem Go.lastore (X : Stand p l e R s m args below meth c T locs cells slots) (hx : p.tables.exec = Jvm.exec) (hZ : Z.Warmed39 s.vm) (eT : T.heap = h) {y : Int32 → Int64} {x : Int64} (F : Fa Z h a .long n (fun i => .long (y i))) (h0 : ¬ j < 0) (h1 : j < n) (hg : g.method = m) (hs : g.stack = .long x :: .int j :: .ref a :: rest) (hd : decode c.code g.pc = .ok (.lastore, 1))
    (k : ∀ T' h', Stand p l e R s m args below meth c T' (locs ++ [⟨a, j.toNatClampNeg⟩]) cells slots → T'.heap = h' → Wr h h' a j.toNatClampNeg (.long x) → Fa Z h' a .long n (fun i => .long (fnup y j x i)) → Go p e below P T' { g with pc := g.pc + 1, stack := rest }) : Go p e below P T g := by
  obtain ⟨cl, A, S, M, H⟩ := id F
  obtain ⟨T', h', X', e', W, st⟩ := stJ X hx hZ eT A (inb_of S ⟨h0, h1⟩) hg hs hd
  exact Go.of _ st (k _ _ X' e' W (by have := F.set W h0 rfl; rwa [fnup_long] at this))
theorem Go.aastore (X : Stand p l e R s m args below meth c T locs cells slots) (hx : p.tables.exec = Jvm.exec) (hZ : Z.Warmed39 s.vm) (eT : T.heap = h) (F : Fa Z h a ty n yv) (hty : ty.isReference = true) (hf : fits ty v = true) (O : Sto Z h a v) (h0 : ¬ j < 0) (h1 : j < n) (hg : g.method = m) (hs : g.stack = v :: .int j :: .ref a :: rest) (hd : decode c.code g.pc = .ok (.aastore, 1))
    (k : ∀ T' h', Stand p l e R s m args below meth c T' (locs ++ [⟨a, j.toNatClampNeg⟩]) cells slots → T'.heap = h' → Wr h h' a j.toNatClampNeg v → Fa Z h' a ty n (fnup yv j v) → Go p e below P T' { g with pc := g.pc + 1, stack := rest }) : Go p e below P T g := by
  obtain ⟨cl, A, S, M, H⟩ := id F
  obtain ⟨T', h', X', e', W, st⟩ := stR X hx hZ eT A (inb_of S ⟨h0, h1⟩) hty O hg hs hd
  exact Go.of _ st (k _ _ X' e' W (F.set W h0 hf))
/-- the array's class is that of the arrays over C -/
def Uty (Z : State) (h : Heap) (a : Addr) (C : String) : Prop := ∃ c : Cell, h[a]? = some c ∧ Ovr Z c.cls C
theorem Uty.ext {C : String} (F : Uty Z h a C) (E : Ext h h') : Uty Z h' a C := by obtain ⟨c, A, r⟩ := F; exact ⟨c, E.2 _ _ A, r⟩
theorem Uty.wr {C : String} (F : Uty Z h b C) (W : Wr h h' a sl v) : Uty Z h' b C := by
  obtain ⟨c, A, r⟩ := F
  obtain ⟨c', e1, e2, -⟩ := wr_at W A
  exact ⟨c', e1, by rw [e2]; exact r⟩
theorem Uty.keep {C : String} (F : Uty Z h a C) (K : Keep h h' hws) : Uty Z h' a C := by
  obtain ⟨c, A, r⟩ := F
  obtain ⟨c', e1, e2, -⟩ := K.2.2 _ _ A
  exact ⟨c', e1, by rw [e2]; exact r⟩
theorem Fa.sto {C : String} (F : Fa Z h a ty n yv) (U : Uty Z h a C) (I : Ins Z h b C true) : Sto Z h a (.ref b) := by
  obtain ⟨c, A, -⟩ := F
  obtain ⟨c', A', O⟩ := U
  cases A.1.symm.trans A'
  exact Sto.of A O I
theorem nat_back {i : Nat} (hi : i < 2 ^ 31) : i.toInt32.toNatClampNeg = i ∧ ¬ i.toInt32 < 0 := by
  have e : i.toInt32.toInt = i := len_toInt hi
  refine ⟨?_, ?_⟩
  · show i.toInt32.toInt.toNat = i
    rw [e]; rfl
  · rw [Int32.lt_iff_toInt_lt, e]
    have z : (0 : Int32).toInt = 0 := by decide
    omega
theorem lt_of_nat {i : Nat} {z : Int32} (hz : ¬ z < 0) (hi : i < z.toNatClampNeg) : i.toInt32 < z ∧ i < 2 ^ 31 := by
  have q := nat_of hz
  have b := rng32 z
  have hb : i < 2 ^ 31 := by omega
  refine ⟨?_, hb⟩
  rw [Int32.lt_iff_toInt_lt, len_toInt hb]
  omega
theorem Fa.fitC {cl : Cell} (A : Arr Z h a cl ty) (S : cl.slots.size = n.toNatClampNeg) (M : ¬ n < 0) (H : ∀ j : Int32, ¬ j < 0 → j < n → cl.slots[j.toNatClampNeg]? = some (yv j) ∧ fits ty (yv j) = true) : FitC Z cl :=
  fitC_of A fun i hi w hw => by
    have q := lt_of_nat M (S ▸ hi)
    have r := nat_back q.2
    have u := H i.toInt32 r.2 q.1
    rw [r.1] at u
    cases hw.symm.trans u.1
    exact u.2
theorem Go.clone (X : Stand p l e R s m args below meth c T locs cells slots) (hx : p.tables.exec = Jvm.exec) (hZ : Z.Warmed39 s.vm) {own ad : String} {index : Nat} (hown : s.vm.findClass own = some m.cls)
    (w1 : (Cond.methodLink own index ⟨ad, "clone", "()Ljava/lang/Object;"⟩).before a0 Z = true) (w2 : (Cond.sameMethod ad "java/lang/Object" "clone" "()Ljava/lang/Object;").before a0 Z = true) (w3 : (Cond.native ⟨"java/lang/Object", "clone", "()Ljava/lang/Object;"⟩).before a0 Z = true)
    (w4 : (Cond.instanceMethod ⟨"java/lang/Object", "clone", "()Ljava/lang/Object;"⟩).before a0 Z = true) (w5 : (Cond.selects ad ⟨ad, "clone", "()Ljava/lang/Object;"⟩ ⟨"java/lang/Object", "clone", "()Ljava/lang/Object;"⟩).before a0 Z = true) (w6 : (Cond.castable ad "java/lang/Cloneable").before a0 Z = true)
    (eT : T.heap = h) (F : Fa Z h a ty n yv) (E : Exa Z h a ad) (hg : g.method = m) (hsize : g.locals.size = c.maxLocals) (hs : g.stack = .ref a :: rest) (hd : decode c.code g.pc = .ok (.invokevirtual index, 3))
    (hf : 1 ≤ R.frames) {W cap : Nat} (hW : 2 * g.monitorRoom + (rest.map fun v => v.category).sum ≤ W) (hl : W + 14 ≤ R.locals) (hcap : n.toNatClampNeg ≤ cap) (hc : cells + 1 ≤ R.cells) (hsl : slots + cap ≤ R.slots)
    (k : ∀ T' h' b, b = h.size → Stand p l e R s m args below meth c T' locs (cells + 1) (slots + cap) → T'.heap = h' → Ext h h' → Fa Z h' b ty n yv → Exa Z h' b ad → Go p e below P T' { g with pc := g.pc + 3, stack := .ref b :: rest }) : Go p e below P T g := by
  obtain ⟨cl, A, S, M, H⟩ := id F
  obtain ⟨T', h', X', e', ex, A', E', st⟩ := cloneA X hx hZ hown w1 w2 w3 w4 w5 w6 eT A E (Fa.fitC A S M H) hg hsize hs hd hf hW hl (by rw [S]; exact hcap) hc hsl
  exact Go.of _ st (k _ _ _ rfl X' e' ex ⟨cloneOf cl, A', S, M, H⟩ E')
theorem exa_ns {C : String} (E : Exa Z h a C) : ∀ c : Cell, h[a]? = some c → c.vm.isStatics = false := fun c hc => by
  obtain ⟨c', k, h1, -, -, h4, -⟩ := E
  cases h1.symm.trans hc; exact h4
theorem Sta.keep {C nn d : String} (F : Sta Z h C nn d v) (K : Keep h h' hws) (q : ∀ x ∈ hws, ∀ c : Cell, h[x]? = some c → c.vm.isStatics = false) : Sta Z h' C nn d v := by
  obtain ⟨cf, i, k, f, st, cell, h1, h2, h3, h4, h5, h6, h7⟩ := F
  refine ⟨cf, i, k, f, st, cell, h1, h2, h3, h4, K.2.1 _ _ h5 fun z => ?_, h6, h7⟩
  rw [q _ z _ h5] at h6; cases h6
/-- an inherited instance method (the entry names it through the subclass) -/
theorem Go.virtUp (X : Stand p l e R s m args below meth c T locs cells slots) (hx : p.tables.exec = Jvm.exec) (hZ : Z.Warmed39 s.vm) {own C owner : String} {z : MethodName} {index W : Nat} {argsL : List Value} (hown : s.vm.findClass own = some m.cls)
    (w1 : (Cond.methodLink own index z).before a0 Z = true) (w2 : (Cond.sameMethod z.cls owner z.name z.desc).before a0 Z = true) (w8 : (Cond.declares ⟨owner, z.name, z.desc⟩).before a0 Z = true) (hy : owner ≠ "java/lang/invoke/MethodHandle" ∧ owner ≠ "java/lang/invoke/VarHandle") (w5 : (Cond.selects C z y).before a0 Z = true) (w6 : (Cond.instanceMethod y).before a0 Z = true) (w3 : (Cond.initialized y.cls).before a0 Z = true) (w4 : (Cond.code y bytes maxL ret).before a0 Z = true)
    (eT : T.heap = h) (E : Exa Z h a C) (hM : Met l Z y bytes maxL ret [] rm (.ref a :: argsL).toArray h Q)
    (hg : g.method = m) (hsize : g.locals.size = c.maxLocals) (hlen : ∀ sig, parseMethodDescriptor z.desc = some sig → argsL.length = sig.parameters.length) (hs : g.stack = argsL.reverse ++ .ref a :: rest)
    (hW : 2 * g.monitorRoom + (rest.map fun v => v.category).sum ≤ W) (hd : decode c.code g.pc = .ok (.invokevirtual index, 3)) (hf : rm.frames + 1 ≤ R.frames) (hl : W + (maxL + 11) + rm.locals ≤ R.locals) (hc : cells + rm.cells ≤ R.cells) (hsl : slots + rm.slots ≤ R.slots)
    (k : ∀ T' L v, Stand p l e R s m args below meth c T' (locs ++ L) (cells + rm.cells) (slots + rm.slots) → Q v T'.heap L → Go p e below P T' { g with pc := g.pc + 3, stack := v.toList ++ rest }) : Go p e below P T g := by
  obtain ⟨cq, kq, qa, qb, qc⟩ := isOf hZ eT E
  obtain ⟨v, _, ⟨U, L, q1, q2⟩, -, X', ⟨Lc, hQ, l1, l2, l3⟩, st⟩ := X.virtualBackUp hx (x := z) (y := y) hown (mvT hZ w1) (mvT hZ w2) (mvT hZ w8) hy (mvT hZ w5) (mvT hZ w6) (backOf (W := W) hM hZ w4 w3 hf hl) qa qc hg hsize (Steps.refl _) hlen hs hW hd (fun _ _ => ⟨rfl, eT, hc, hsl⟩)
  dsimp only [Pt.U, Pt.locs, Pt.cells, Pt.slots] at X' l1 l2 l3 st hQ
  subst l1 l2 l3
  exact Go.via _ st (k _ _ _ X' hQ)
/-- the two sides of a call as the pasted laws of String have them -/
abbrev BPre (R : Room) (as' : Array Value) (h : Heap) (kc ks : Nat) : Pt → Array Value → Prop := fun P a => a = as' ∧ P.U.heap = h ∧ P.cells + kc ≤ R.cells ∧ P.slots + ks ≤ R.slots
abbrev BPost (Q : Option Value → Heap → List Loc → Prop) (kc ks : Nat) : Pt → Array Value → Option Value → Pt → Prop := fun P _ v B => ∃ L, Q v B.U.heap L ∧ B.locs = P.locs ++ L ∧ B.cells = P.cells + kc ∧ B.slots = P.slots + ks
theorem Go.initB (X : Stand p l e R s m args below meth c T locs cells slots) (hx : p.tables.exec = Jvm.exec) (hZ : Z.Warmed39 s.vm) {own : String} {index W kc ks : Nat} {argsL : List Value} (hown : s.vm.findClass own = some m.cls) (hy1 : y.name = "<init>")
    (w1 : (Cond.methodLink own index y).before a0 Z = true) (w2 : (Cond.instanceMethod y).before a0 Z = true) (w4 : (Cond.code y bytes maxL none).before a0 Z = true)
    (hy : y.cls ≠ "java/lang/invoke/MethodHandle" ∧ y.cls ≠ "java/lang/invoke/VarHandle") (eT : T.heap = h) (hK : Back l R p e below s args y 3 W (BPre R (.ref a :: argsL).toArray h kc ks) (BPost Q kc ks))
    (hg : g.method = m) (hsize : g.locals.size = c.maxLocals) (hlen : ∀ sig, parseMethodDescriptor y.desc = some sig → argsL.length = sig.parameters.length) (hs : g.stack = argsL.reverse ++ .ref a :: rest)
    (hW : 2 * g.monitorRoom + (rest.map fun v => v.category).sum ≤ W) (hd : decode c.code g.pc = .ok (.invokespecial index, 3)) (hc : cells + kc ≤ R.cells) (hsl : slots + ks ≤ R.slots)
    (k : ∀ T' L v, Stand p l e R s m args below meth c T' (locs ++ L) (cells + kc) (slots + ks) → Q v T'.heap L → Go p e below P T' { g with pc := g.pc + 3, stack := v.toList ++ rest }) : Go p e below P T g := by
  obtain ⟨v, _, ⟨U, L, q1, q2⟩, -, X', ⟨Lc, hQ, l1, l2, l3⟩, st⟩ := X.specialBack hx (y := y) hy1 hown (mvT hZ w1) (mvT hZ w2) (mvT hZ w4) hy hK hg hsize (Steps.refl _) hlen hs hW hd (fun _ _ => ⟨rfl, eT, hc, hsl⟩)
  dsimp only [Pt.U, Pt.locs, Pt.cells, Pt.slots] at X' l1 l2 l3 st hQ
  subst l1 l2 l3
  exact Go.via _ st (k _ _ _ X' hQ)
theorem Go.virtB (X : Stand p l e R s m args below meth c T locs cells slots) (hx : p.tables.exec = Jvm.exec) (hZ : Z.Warmed39 s.vm) {own C : String} {z : MethodName} {index W kc ks : Nat} {argsL : List Value} (hown : s.vm.findClass own = some m.cls)
    (w1 : (Cond.methodLink own index z).before a0 Z = true) (w2 : (Cond.declares z).before a0 Z = true) (nf : NotFace s z) (w5 : (Cond.selects C z y).before a0 Z = true) (w6 : (Cond.instanceMethod y).before a0 Z = true)
    (hy : z.cls ≠ "java/lang/invoke/MethodHandle" ∧ z.cls ≠ "java/lang/invoke/VarHandle") (eT : T.heap = h) (E : Exa Z h a C) (hK : Back l R p e below s args y 3 W (BPre R (.ref a :: argsL).toArray h kc ks) (BPost Q kc ks))
    (hg : g.method = m) (hsize : g.locals.size = c.maxLocals) (hlen : ∀ sig, parseMethodDescriptor z.desc = some sig → argsL.length = sig.parameters.length) (hs : g.stack = argsL.reverse ++ .ref a :: rest)
    (hW : 2 * g.monitorRoom + (rest.map fun v => v.category).sum ≤ W) (hd : decode c.code g.pc = .ok (.invokevirtual index, 3)) (hc : cells + kc ≤ R.cells) (hsl : slots + ks ≤ R.slots)
    (k : ∀ T' L v, Stand p l e R s m args below meth c T' (locs ++ L) (cells + kc) (slots + ks) → Q v T'.heap L → Go p e below P T' { g with pc := g.pc + 3, stack := v.toList ++ rest }) : Go p e below P T g := by
  obtain ⟨cq, kq, qa, qb, qc⟩ := isOf hZ eT E
  obtain ⟨v, _, ⟨U, L, q1, q2⟩, -, X', ⟨Lc, hQ, l1, l2, l3⟩, st⟩ := X.virtualBack hx (y := z) (z := y) hown (mvT hZ w1) (mvT hZ w2) nf (mvT hZ w5) (mvT hZ w6) hy hK qa qc hg hsize (Steps.refl _) hlen hs hW hd (fun _ _ => ⟨rfl, eT, hc, hsl⟩)
  dsimp only [Pt.U, Pt.locs, Pt.cells, Pt.slots] at X' l1 l2 l3 st hQ
  subst l1 l2 l3
  exact Go.via _ st (k _ _ _ X' hQ)
theorem Fa.toArv {vs : List Value} {dv : Value} (F : Fa Z h a ty n yv) (q : ∀ i : Nat, i < n.toNatClampNeg → vs.getD i dv = yv i.toInt32) : ∃ k, Arv Z h a k ty n vs dv := by
  obtain ⟨cl, A, S, M, H⟩ := F
  refine ⟨cl.cls, cl, A, rfl, S, M, fun i hi => ?_, fun i hi => ?_⟩
  · rw [S] at hi
    have b := lt_of_nat M hi
    have r := nat_back b.2
    have u := (H _ r.2 b.1).1
    rw [r.1] at u; rw [q i hi]; exact u
  · rw [S] at hi
    have b := lt_of_nat M hi
    have r := nat_back b.2
    rw [q i hi]; exact (H _ r.2 b.1).2
end Own
end Jvm.OwnGo
namespace Jvm.Pilot.@@N@@
open Jvm Jvm.ClassFile Sem Op Lib Jvm.Free Jvm.Stand Jvm.LawKit Jvm.RoadKit Bundle Jvm.OwnGo Jvm.Pilot.@@N@@.Jvm.D

theorem own_fi {args : Array Value} {s : State} {t : Term} {C n d : String} {k : Int32} {a : Addr} (h : (Jvm.Cond.eq (Jvm.Term.field t C n d) (Jvm.Term.int k)).value args s none s [] = some true) (ht : t.eval args s none [] s = some (.ref a)) : Fld s s.heap a C n d (.int k) := by
  obtain ⟨x, y, e1, e2, k1, k2⟩ := cmp_v (Or.inl h)
  cases (Term.int_eval k).symm.trans e2
  obtain ⟨z, rfl⟩ := k2
  simp [Cond.value, e1, e2] at h
  subst h
  exact Fld.start (by rw [← fld_at ht]; exact e1)
theorem own_ix (x : Int32) : ¬ ((x &&& 2147483647) % 6) < 0 ∧ ((x &&& 2147483647) % 6) < 6 := by
  have e : (x &&& 2147483647).toInt = x.toInt % (2 ^ 31 : Nat) := c_mask x 2147483647 31 (by decide) (by decide)
  have r := (c_iremV (x &&& 2147483647) 6).1 (by rw [e]; omega) (by decide)
  have z : (0 : Int32).toInt = 0 := by decide
  constructor
  · rw [Int32.lt_iff_toInt_lt, z]; omega
  · rw [Int32.lt_iff_toInt_lt]; omega
theorem own_six (x : Int32) (h0 : ¬ x < 0) (h1 : x < 6) : x = 0 ∨ x = 1 ∨ x = 2 ∨ x = 3 ∨ x = 4 ∨ x = 5 := by
  rw [Int32.lt_iff_toInt_lt] at h0 h1
  have z : (0 : Int32).toInt = 0 := by decide
  have z6 : (6 : Int32).toInt = 6 := by decide
  rcases (by omega : x.toInt = 0 ∨ x.toInt = 1 ∨ x.toInt = 2 ∨ x.toInt = 3 ∨ x.toInt = 4 ∨ x.toInt = 5) with h | h | h | h | h | h
  · left; exact Int32.toInt_inj.mp (h.trans (by decide))
  · right; left; exact Int32.toInt_inj.mp (h.trans (by decide))
  · right; right; left; exact Int32.toInt_inj.mp (h.trans (by decide))
  · right; right; right; left; exact Int32.toInt_inj.mp (h.trans (by decide))
  · right; right; right; right; left; exact Int32.toInt_inj.mp (h.trans (by decide))
  · right; right; right; right; right; exact Int32.toInt_inj.mp (h.trans (by decide))
theorem tw0 {Z : State} {a0 : Array Value} (hw : ∀ d ∈ tables_1, d.before a0 Z = true) : (Jvm.Cond.classLink "com/example/sealed_ledger/sealedledger/intake/MaskRuleHoldsCredentialsPinLaw" (7 : Nat) "com/example/sealed_ledger/sealedledger/intake/MaskRule").before a0 Z = true := hw _ (List.mem_of_getElem? (i := 0) rfl)
theorem tw1 {Z : State} {a0 : Array Value} (hw : ∀ d ∈ tables_1, d.before a0 Z = true) : (Jvm.Cond.arrayOver (Jvm.ClassFile.FieldType.object "com/example/sealed_ledger/sealedledger/intake/MaskRule")).before a0 Z = true := hw _ (List.mem_of_getElem? (i := 1) rfl)
theorem tw2 {Z : State} {a0 : Array Value} (hw : ∀ d ∈ tables_1, d.before a0 Z = true) : (Jvm.Cond.fieldLink "com/example/sealed_ledger/sealedledger/intake/MaskRuleHoldsCredentialsPinLaw" (9 : Nat) "com/example/sealed_ledger/sealedledger/intake/MaskRule" "SECRET" "Lcom/example/sealed_ledger/sealedledger/intake/MaskRule;").before a0 Z = true := hw _ (List.mem_of_getElem? (i := 2) rfl)
theorem tw3 {Z : State} {a0 : Array Value} (hw : ∀ d ∈ tables_1, d.before a0 Z = true) : (Jvm.Cond.initialized "com/example/sealed_ledger/sealedledger/intake/MaskRule").before a0 Z = true := hw _ (List.mem_of_getElem? (i := 3) rfl)
theorem tw4 {Z : State} {a0 : Array Value} (hw : ∀ d ∈ tables_1, d.before a0 Z = true) : (Jvm.Cond.laysStatic "com/example/sealed_ledger/sealedledger/intake/MaskRule" "SECRET" "Lcom/example/sealed_ledger/sealedledger/intake/MaskRule;").before a0 Z = true := hw _ (List.mem_of_getElem? (i := 4) rfl)
theorem tw6 {Z : State} {a0 : Array Value} (hw : ∀ d ∈ tables_1, d.before a0 Z = true) : (Jvm.Cond.fieldLink "com/example/sealed_ledger/sealedledger/intake/MaskRuleHoldsCredentialsPinLaw" (13 : Nat) "com/example/sealed_ledger/sealedledger/intake/MaskRule" "API_KEY" "Lcom/example/sealed_ledger/sealedledger/intake/MaskRule;").before a0 Z = true := hw _ (List.mem_of_getElem? (i := 6) rfl)
theorem tw7 {Z : State} {a0 : Array Value} (hw : ∀ d ∈ tables_1, d.before a0 Z = true) : (Jvm.Cond.laysStatic "com/example/sealed_ledger/sealedledger/intake/MaskRule" "API_KEY" "Lcom/example/sealed_ledger/sealedledger/intake/MaskRule;").before a0 Z = true := hw _ (List.mem_of_getElem? (i := 7) rfl)
theorem tw8 {Z : State} {a0 : Array Value} (hw : ∀ d ∈ tables_1, d.before a0 Z = true) : (Jvm.Cond.fieldLink "com/example/sealed_ledger/sealedledger/intake/MaskRuleHoldsCredentialsPinLaw" (16 : Nat) "com/example/sealed_ledger/sealedledger/intake/MaskRule" "EMAIL" "Lcom/example/sealed_ledger/sealedledger/intake/MaskRule;").before a0 Z = true := hw _ (List.mem_of_getElem? (i := 8) rfl)
theorem tw9 {Z : State} {a0 : Array Value} (hw : ∀ d ∈ tables_1, d.before a0 Z = true) : (Jvm.Cond.laysStatic "com/example/sealed_ledger/sealedledger/intake/MaskRule" "EMAIL" "Lcom/example/sealed_ledger/sealedledger/intake/MaskRule;").before a0 Z = true := hw _ (List.mem_of_getElem? (i := 9) rfl)
theorem tw10 {Z : State} {a0 : Array Value} (hw : ∀ d ∈ tables_1, d.before a0 Z = true) : (Jvm.Cond.fieldLink "com/example/sealed_ledger/sealedledger/intake/MaskRuleHoldsCredentialsPinLaw" (19 : Nat) "com/example/sealed_ledger/sealedledger/intake/MaskRule" "CARD" "Lcom/example/sealed_ledger/sealedledger/intake/MaskRule;").before a0 Z = true := hw _ (List.mem_of_getElem? (i := 10) rfl)
theorem tw11 {Z : State} {a0 : Array Value} (hw : ∀ d ∈ tables_1, d.before a0 Z = true) : (Jvm.Cond.laysStatic "com/example/sealed_ledger/sealedledger/intake/MaskRule" "CARD" "Lcom/example/sealed_ledger/sealedledger/intake/MaskRule;").before a0 Z = true := hw _ (List.mem_of_getElem? (i := 11) rfl)
theorem tw12 {Z : State} {a0 : Array Value} (hw : ∀ d ∈ tables_1, d.before a0 Z = true) : (Jvm.Cond.fieldLink "com/example/sealed_ledger/sealedledger/intake/MaskRuleHoldsCredentialsPinLaw" (22 : Nat) "com/example/sealed_ledger/sealedledger/intake/MaskRule" "FULL" "Lcom/example/sealed_ledger/sealedledger/intake/MaskRule;").before a0 Z = true := hw _ (List.mem_of_getElem? (i := 12) rfl)
theorem tw13 {Z : State} {a0 : Array Value} (hw : ∀ d ∈ tables_1, d.before a0 Z = true) : (Jvm.Cond.laysStatic "com/example/sealed_ledger/sealedledger/intake/MaskRule" "FULL" "Lcom/example/sealed_ledger/sealedledger/intake/MaskRule;").before a0 Z = true := hw _ (List.mem_of_getElem? (i := 13) rfl)
theorem tw14 {Z : State} {a0 : Array Value} (hw : ∀ d ∈ tables_1, d.before a0 Z = true) : (Jvm.Cond.fieldLink "com/example/sealed_ledger/sealedledger/intake/MaskRuleHoldsCredentialsPinLaw" (25 : Nat) "com/example/sealed_ledger/sealedledger/intake/MaskRule" "SHAPE" "Lcom/example/sealed_ledger/sealedledger/intake/MaskRule;").before a0 Z = true := hw _ (List.mem_of_getElem? (i := 14) rfl)
theorem tw15 {Z : State} {a0 : Array Value} (hw : ∀ d ∈ tables_1, d.before a0 Z = true) : (Jvm.Cond.laysStatic "com/example/sealed_ledger/sealedledger/intake/MaskRule" "SHAPE" "Lcom/example/sealed_ledger/sealedledger/intake/MaskRule;").before a0 Z = true := hw _ (List.mem_of_getElem? (i := 15) rfl)
theorem tw16 {Z : State} {a0 : Array Value} (hw : ∀ d ∈ tables_1, d.before a0 Z = true) : (Jvm.Cond.constant "com/example/sealed_ledger/sealedledger/intake/MaskRuleHoldsCredentialsPinLaw" (28 : Nat) (2147483647 : Int32)).before a0 Z = true := hw _ (List.mem_of_getElem? (i := 16) rfl)
theorem tw17 {Z : State} {a0 : Array Value} (hw : ∀ d ∈ tables_1, d.before a0 Z = true) : (Jvm.Cond.methodLink "com/example/sealed_ledger/sealedledger/intake/MaskRuleHoldsCredentialsPinLaw" (29 : Nat) ({ cls := "com/example/sealed_ledger/sealedledger/intake/MaskRule", name := "holdsCredentials", desc := "()Z" } : Jvm.MethodName)).before a0 Z = true := hw _ (List.mem_of_getElem? (i := 17) rfl)
theorem tw18 {Z : State} {a0 : Array Value} (hw : ∀ d ∈ tables_1, d.before a0 Z = true) : (Jvm.Cond.declares ({ cls := "com/example/sealed_ledger/sealedledger/intake/MaskRule", name := "holdsCredentials", desc := "()Z" } : Jvm.MethodName)).before a0 Z = true := hw _ (List.mem_of_getElem? (i := 18) rfl)
theorem tw19 {Z : State} {a0 : Array Value} (hw : ∀ d ∈ tables_1, d.before a0 Z = true) : (Jvm.Cond.instanceMethod ({ cls := "com/example/sealed_ledger/sealedledger/intake/MaskRule", name := "holdsCredentials", desc := "()Z" } : Jvm.MethodName)).before a0 Z = true := hw _ (List.mem_of_getElem? (i := 19) rfl)
theorem tw20 {Z : State} {a0 : Array Value} (hw : ∀ d ∈ tables_1, d.before a0 Z = true) : (Jvm.Cond.selects "com/example/sealed_ledger/sealedledger/intake/MaskRule" ({ cls := "com/example/sealed_ledger/sealedledger/intake/MaskRule", name := "holdsCredentials", desc := "()Z" } : Jvm.MethodName) ({ cls := "com/example/sealed_ledger/sealedledger/intake/MaskRule", name := "holdsCredentials", desc := "()Z" } : Jvm.MethodName)).before a0 Z = true := hw _ (List.mem_of_getElem? (i := 20) rfl)
theorem tw21 {Z : State} {a0 : Array Value} (hw : ∀ d ∈ tables_1, d.before a0 Z = true) : (Jvm.Cond.code ({ cls := "com/example/sealed_ledger/sealedledger/intake/MaskRule", name := "holdsCredentials", desc := "()Z" } : Jvm.MethodName) prog_10_method_9_code (1 : Nat) (Option.some Jvm.ClassFile.FieldType.boolean)).before a0 Z = true := hw _ (List.mem_of_getElem? (i := 21) rfl)
theorem tw22 {Z : State} {a0 : Array Value} (hw : ∀ d ∈ tables_1, d.before a0 Z = true) : (Jvm.Cond.methodLink "com/example/sealed_ledger/sealedledger/intake/MaskRule" (117 : Nat) ({ cls := "com/example/sealed_ledger/sealedledger/intake/MaskRule", name := "ordinal", desc := "()I" } : Jvm.MethodName)).before a0 Z = true := hw _ (List.mem_of_getElem? (i := 22) rfl)
theorem tw23 {Z : State} {a0 : Array Value} (hw : ∀ d ∈ tables_1, d.before a0 Z = true) : (Jvm.Cond.sameMethod "com/example/sealed_ledger/sealedledger/intake/MaskRule" "java/lang/Enum" "ordinal" "()I").before a0 Z = true := hw _ (List.mem_of_getElem? (i := 23) rfl)
theorem tw24 {Z : State} {a0 : Array Value} (hw : ∀ d ∈ tables_1, d.before a0 Z = true) : (Jvm.Cond.declares ({ cls := "java/lang/Enum", name := "ordinal", desc := "()I" } : Jvm.MethodName)).before a0 Z = true := hw _ (List.mem_of_getElem? (i := 24) rfl)
theorem tw25 {Z : State} {a0 : Array Value} (hw : ∀ d ∈ tables_1, d.before a0 Z = true) : (Jvm.Cond.instanceMethod ({ cls := "java/lang/Enum", name := "ordinal", desc := "()I" } : Jvm.MethodName)).before a0 Z = true := hw _ (List.mem_of_getElem? (i := 25) rfl)
theorem tw26 {Z : State} {a0 : Array Value} (hw : ∀ d ∈ tables_1, d.before a0 Z = true) : (Jvm.Cond.selects "com/example/sealed_ledger/sealedledger/intake/MaskRule" ({ cls := "com/example/sealed_ledger/sealedledger/intake/MaskRule", name := "ordinal", desc := "()I" } : Jvm.MethodName) ({ cls := "java/lang/Enum", name := "ordinal", desc := "()I" } : Jvm.MethodName)).before a0 Z = true := hw _ (List.mem_of_getElem? (i := 26) rfl)
theorem tw27 {Z : State} {a0 : Array Value} (hw : ∀ d ∈ tables_1, d.before a0 Z = true) : (Jvm.Cond.initialized "java/lang/Enum").before a0 Z = true := hw _ (List.mem_of_getElem? (i := 27) rfl)
theorem tw28 {Z : State} {a0 : Array Value} (hw : ∀ d ∈ tables_1, d.before a0 Z = true) : (Jvm.Cond.code ({ cls := "java/lang/Enum", name := "ordinal", desc := "()I" } : Jvm.MethodName) jdk_37_method_2_code (1 : Nat) (Option.some Jvm.ClassFile.FieldType.int)).before a0 Z = true := hw _ (List.mem_of_getElem? (i := 28) rfl)
theorem tw29 {Z : State} {a0 : Array Value} (hw : ∀ d ∈ tables_1, d.before a0 Z = true) : (Jvm.Cond.fieldLink "java/lang/Enum" (7 : Nat) "java/lang/Enum" "ordinal" "I").before a0 Z = true := hw _ (List.mem_of_getElem? (i := 29) rfl)
theorem pn0 : plainFor (⟨"java/lang/Enum", "ordinal", "()I"⟩ : MethodName) = true := plainFor_of_name (by first | (simp [plainName, overriddenIn]; done) | decide +kernel)
theorem d2_0 : decode jdk_37_method_2_code 0 = .ok (.aload_n 0, 1) := by decide +kernel
theorem d2_1 : decode jdk_37_method_2_code 1 = .ok (.getfield 7, 3) := by decide +kernel
theorem d2_4 : decode jdk_37_method_2_code 4 = .ok (.ireturn, 1) := by decide +kernel
theorem pn1 : plainFor (⟨"com/example/sealed_ledger/sealedledger/intake/MaskRule", "holdsCredentials", "()Z"⟩ : MethodName) = true := plainFor_of_name (by first | (simp [plainName, overriddenIn]; done) | decide +kernel)
theorem d1_0 : decode prog_10_method_9_code 0 = .ok (.aload_n 0, 1) := by decide +kernel
theorem d1_1 : decode prog_10_method_9_code 1 = .ok (.invokevirtual 117, 3) := by decide +kernel
theorem pd2 : parseMethodDescriptor "()I" = some ⟨[], some .int⟩ := by decide +kernel
theorem d1_4 : decode prog_10_method_9_code 4 = .ok (.tableswitch 40 0 5 #[50, 50, 54, 54, 54, 54], 40) := by decide +kernel
theorem d1_54 : decode prog_10_method_9_code 54 = .ok (.iconst 1, 1) := by decide +kernel
theorem d1_55 : decode prog_10_method_9_code 55 = .ok (.goto 4, 3) := by decide +kernel
theorem d1_59 : decode prog_10_method_9_code 59 = .ok (.ireturn, 1) := by decide +kernel
theorem d1_58 : decode prog_10_method_9_code 58 = .ok (.iconst 0, 1) := by decide +kernel
theorem pn3 : plainFor (⟨"com/example/sealed_ledger/sealedledger/intake/MaskRuleHoldsCredentialsPinLaw", "law", "(I)Z"⟩ : MethodName) = true := plainFor_of_name (by first | (simp [plainName, overriddenIn]; done) | decide +kernel)
theorem pd4 : parseMethodDescriptor "()Z" = some ⟨[], some .boolean⟩ := by decide +kernel
theorem ef_rmO (m : MethodId) (x0 : Addr) : entryFrame m #[(.ref x0)] 1 = mkF m 0 #[.val (.ref x0)] [] := by first | (simp [entryFrame, mkF, argsToLocals, Value.category]; done) | rfl
set_option maxRecDepth 65536 in
set_option maxHeartbeats 40000000 in
theorem rmO (l : Launch) (Z : State) (a0 : Array Value) (hw : ∀ d ∈ tables_1, d.before a0 Z = true) (ws : List Jvm.Cond) (a : Addr) (k : Int32) (h0 : Heap) (F : Fld Z h0 a "java/lang/Enum" "ordinal" "I" (.int k)) :
    Met l Z (⟨"java/lang/Enum", "ordinal", "()I"⟩ : MethodName) jdk_37_method_2_code 1 (some .int) ws ({ frames := 0, cells := 0, slots := 0, locals := 0 } : Room) #[(.ref a)] h0 (fun v h L => v = some (.int k) ∧ L = [] ∧ h = h0) := by
  refine Met.intro pn0 ?_
  intro pr ev s m below meth c T0 X0 hx hZ hown hby hml hret hlk hnm e0
  refine Go.cast (ef_rmO m a) ?_
  refine Go.of (mkF m 1 #[.val (.ref a)] [(.ref a)]) (fun t k => XS.aloadN X0.here hx rfl (hb hby d2_0) rfl rfl k) ?_
  obtain ⟨T1, X1, e1, st1⟩ := getF X0 hx hZ hown (host := "") (Or.inl (tw29 hw)) Via.refl e0 F (g := (mkF m 1 #[.val (.ref a)] [(.ref a)])) rfl rfl (hb hby d2_1)
  refine Go.of (mkF m 4 #[.val (.ref a)] [(.int k)]) (st1) ?_
  exact Go.retW X1 hx (t := .int) hret hlk rfl (Or.inl ⟨rfl, by simp, _, rfl⟩) (hb hby d2_4) (by decide) (by decide) ⟨rfl, rfl, e1⟩
theorem ef_rmH0 (m : MethodId) (x0 : Addr) : entryFrame m #[(.ref x0)] 1 = mkF m 0 #[.val (.ref x0)] [] := by first | (simp [entryFrame, mkF, argsToLocals, Value.category]; done) | rfl
set_option maxRecDepth 65536 in
set_option maxHeartbeats 40000000 in
theorem rmH0 (l : Launch) (Z : State) (a0 : Array Value) (hw : ∀ d ∈ tables_1, d.before a0 Z = true) (ws : List Jvm.Cond) (a : Addr) (h0 : Heap) (E : Exa Z h0 a "com/example/sealed_ledger/sealedledger/intake/MaskRule") (F : Fld Z h0 a "java/lang/Enum" "ordinal" "I" (.int (0 : Int32))) :
    Met l Z (⟨"com/example/sealed_ledger/sealedledger/intake/MaskRule", "holdsCredentials", "()Z"⟩ : MethodName) prog_10_method_9_code 1 (some .boolean) ws ({ frames := 1, cells := 0, slots := 0, locals := 12 } : Room) #[(.ref a)] h0 (fun v h L => v = some (.int 1) ∧ L = [] ∧ h = h0) := by
  refine Met.intro pn1 ?_
  intro pr ev s m below meth c T0 X0 hx hZ hown hby hml hret hlk hnm e0
  refine Go.cast (ef_rmH0 m a) ?_
  refine Go.of (mkF m 1 #[.val (.ref a)] [(.ref a)]) (fun t k => XS.aloadN X0.here hx rfl (hb hby d1_0) rfl rfl k) ?_
  refine Go.virtUp X0 hx hZ (y := (⟨"java/lang/Enum", "ordinal", "()I"⟩ : MethodName)) (z := (⟨"com/example/sealed_ledger/sealedledger/intake/MaskRule", "ordinal", "()I"⟩ : MethodName)) (owner := "java/lang/Enum") (a := a) (argsL := []) (rest := []) hown (tw22 hw) (tw23 hw) (tw24 hw) (by decide) (tw26 hw) (tw25 hw) (tw27 hw) (tw28 hw) e0 E (rmO l Z a0 hw [] a (0 : Int32) h0 F) (g := (mkF m 1 #[.val (.ref a)] [(.ref a)])) rfl (by rw [hml]; rfl) (lenOf pd2 rfl) rfl (W := 0) (by show 2 * 0 + _ ≤ _; exact Nat.le_of_eq rfl) (hb hby d1_1) (by decide) (by decide) (by decide) (by decide) ?_
  rintro T1 L1 v1 X1 ⟨rfl, rfl, hh1⟩
  show Go pr ev below _ T1 (mkF m 4 #[.val (.ref a)] [(.int (0 : Int32))])
  refine Go.of (mkF m 54 #[.val (.ref a)] []) (fun t kk => X1.tableswitchIn hx (g := (mkF m 4 #[.val (.ref a)] [(.int (0 : Int32))])) rfl rfl (hb hby d1_4) (by decide) (off := 50) rfl (by show (0 : Int) ≤ ((4 : Nat) : Int) + 50; decide) _ kk) ?_
  refine Go.of (mkF m 55 #[.val (.ref a)] [(.int (1 : Int32))]) (fun t k => XS.iconst X1.here hx rfl (hb hby d1_54) k) ?_
  refine Go.of (mkF m 59 #[.val (.ref a)] [(.int (1 : Int32))]) (fun t k => XS.goto X1.here hx rfl (pc0 := 55) (pc' := 59) rfl (hb hby d1_55) (by decide) (by decide) k) ?_
  exact Go.retW X1 hx (t := .boolean) hret hlk rfl (Or.inl ⟨rfl, by simp, _, rfl⟩) (hb hby d1_59) (by decide) (by decide) ⟨rfl, by simp, hh1⟩
theorem ef_rmH1 (m : MethodId) (x0 : Addr) : entryFrame m #[(.ref x0)] 1 = mkF m 0 #[.val (.ref x0)] [] := by first | (simp [entryFrame, mkF, argsToLocals, Value.category]; done) | rfl
set_option maxRecDepth 65536 in
set_option maxHeartbeats 40000000 in
theorem rmH1 (l : Launch) (Z : State) (a0 : Array Value) (hw : ∀ d ∈ tables_1, d.before a0 Z = true) (ws : List Jvm.Cond) (a : Addr) (h0 : Heap) (E : Exa Z h0 a "com/example/sealed_ledger/sealedledger/intake/MaskRule") (F : Fld Z h0 a "java/lang/Enum" "ordinal" "I" (.int (1 : Int32))) :
    Met l Z (⟨"com/example/sealed_ledger/sealedledger/intake/MaskRule", "holdsCredentials", "()Z"⟩ : MethodName) prog_10_method_9_code 1 (some .boolean) ws ({ frames := 1, cells := 0, slots := 0, locals := 12 } : Room) #[(.ref a)] h0 (fun v h L => v = some (.int 1) ∧ L = [] ∧ h = h0) := by
  refine Met.intro pn1 ?_
  intro pr ev s m below meth c T0 X0 hx hZ hown hby hml hret hlk hnm e0
  refine Go.cast (ef_rmH1 m a) ?_
  refine Go.of (mkF m 1 #[.val (.ref a)] [(.ref a)]) (fun t k => XS.aloadN X0.here hx rfl (hb hby d1_0) rfl rfl k) ?_
  refine Go.virtUp X0 hx hZ (y := (⟨"java/lang/Enum", "ordinal", "()I"⟩ : MethodName)) (z := (⟨"com/example/sealed_ledger/sealedledger/intake/MaskRule", "ordinal", "()I"⟩ : MethodName)) (owner := "java/lang/Enum") (a := a) (argsL := []) (rest := []) hown (tw22 hw) (tw23 hw) (tw24 hw) (by decide) (tw26 hw) (tw25 hw) (tw27 hw) (tw28 hw) e0 E (rmO l Z a0 hw [] a (1 : Int32) h0 F) (g := (mkF m 1 #[.val (.ref a)] [(.ref a)])) rfl (by rw [hml]; rfl) (lenOf pd2 rfl) rfl (W := 0) (by show 2 * 0 + _ ≤ _; exact Nat.le_of_eq rfl) (hb hby d1_1) (by decide) (by decide) (by decide) (by decide) ?_
  rintro T1 L1 v1 X1 ⟨rfl, rfl, hh1⟩
  show Go pr ev below _ T1 (mkF m 4 #[.val (.ref a)] [(.int (1 : Int32))])
  refine Go.of (mkF m 54 #[.val (.ref a)] []) (fun t kk => X1.tableswitchIn hx (g := (mkF m 4 #[.val (.ref a)] [(.int (1 : Int32))])) rfl rfl (hb hby d1_4) (by decide) (off := 50) rfl (by show (0 : Int) ≤ ((4 : Nat) : Int) + 50; decide) _ kk) ?_
  refine Go.of (mkF m 55 #[.val (.ref a)] [(.int (1 : Int32))]) (fun t k => XS.iconst X1.here hx rfl (hb hby d1_54) k) ?_
  refine Go.of (mkF m 59 #[.val (.ref a)] [(.int (1 : Int32))]) (fun t k => XS.goto X1.here hx rfl (pc0 := 55) (pc' := 59) rfl (hb hby d1_55) (by decide) (by decide) k) ?_
  exact Go.retW X1 hx (t := .boolean) hret hlk rfl (Or.inl ⟨rfl, by simp, _, rfl⟩) (hb hby d1_59) (by decide) (by decide) ⟨rfl, by simp, hh1⟩
theorem ef_rmH2 (m : MethodId) (x0 : Addr) : entryFrame m #[(.ref x0)] 1 = mkF m 0 #[.val (.ref x0)] [] := by first | (simp [entryFrame, mkF, argsToLocals, Value.category]; done) | rfl
set_option maxRecDepth 65536 in
set_option maxHeartbeats 40000000 in
theorem rmH2 (l : Launch) (Z : State) (a0 : Array Value) (hw : ∀ d ∈ tables_1, d.before a0 Z = true) (ws : List Jvm.Cond) (a : Addr) (h0 : Heap) (E : Exa Z h0 a "com/example/sealed_ledger/sealedledger/intake/MaskRule") (F : Fld Z h0 a "java/lang/Enum" "ordinal" "I" (.int (2 : Int32))) :
    Met l Z (⟨"com/example/sealed_ledger/sealedledger/intake/MaskRule", "holdsCredentials", "()Z"⟩ : MethodName) prog_10_method_9_code 1 (some .boolean) ws ({ frames := 1, cells := 0, slots := 0, locals := 12 } : Room) #[(.ref a)] h0 (fun v h L => v = some (.int 0) ∧ L = [] ∧ h = h0) := by
  refine Met.intro pn1 ?_
  intro pr ev s m below meth c T0 X0 hx hZ hown hby hml hret hlk hnm e0
  refine Go.cast (ef_rmH2 m a) ?_
  refine Go.of (mkF m 1 #[.val (.ref a)] [(.ref a)]) (fun t k => XS.aloadN X0.here hx rfl (hb hby d1_0) rfl rfl k) ?_
  refine Go.virtUp X0 hx hZ (y := (⟨"java/lang/Enum", "ordinal", "()I"⟩ : MethodName)) (z := (⟨"com/example/sealed_ledger/sealedledger/intake/MaskRule", "ordinal", "()I"⟩ : MethodName)) (owner := "java/lang/Enum") (a := a) (argsL := []) (rest := []) hown (tw22 hw) (tw23 hw) (tw24 hw) (by decide) (tw26 hw) (tw25 hw) (tw27 hw) (tw28 hw) e0 E (rmO l Z a0 hw [] a (2 : Int32) h0 F) (g := (mkF m 1 #[.val (.ref a)] [(.ref a)])) rfl (by rw [hml]; rfl) (lenOf pd2 rfl) rfl (W := 0) (by show 2 * 0 + _ ≤ _; exact Nat.le_of_eq rfl) (hb hby d1_1) (by decide) (by decide) (by decide) (by decide) ?_
  rintro T1 L1 v1 X1 ⟨rfl, rfl, hh1⟩
  show Go pr ev below _ T1 (mkF m 4 #[.val (.ref a)] [(.int (2 : Int32))])
  refine Go.of (mkF m 58 #[.val (.ref a)] []) (fun t kk => X1.tableswitchIn hx (g := (mkF m 4 #[.val (.ref a)] [(.int (2 : Int32))])) rfl rfl (hb hby d1_4) (by decide) (off := 54) rfl (by show (0 : Int) ≤ ((4 : Nat) : Int) + 54; decide) _ kk) ?_
  refine Go.of (mkF m 59 #[.val (.ref a)] [(.int (0 : Int32))]) (fun t k => XS.iconst X1.here hx rfl (hb hby d1_58) k) ?_
  exact Go.retW X1 hx (t := .boolean) hret hlk rfl (Or.inl ⟨rfl, by simp, _, rfl⟩) (hb hby d1_59) (by decide) (by decide) ⟨rfl, by simp, hh1⟩
theorem ef_rmH3 (m : MethodId) (x0 : Addr) : entryFrame m #[(.ref x0)] 1 = mkF m 0 #[.val (.ref x0)] [] := by first | (simp [entryFrame, mkF, argsToLocals, Value.category]; done) | rfl
set_option maxRecDepth 65536 in
set_option maxHeartbeats 40000000 in
theorem rmH3 (l : Launch) (Z : State) (a0 : Array Value) (hw : ∀ d ∈ tables_1, d.before a0 Z = true) (ws : List Jvm.Cond) (a : Addr) (h0 : Heap) (E : Exa Z h0 a "com/example/sealed_ledger/sealedledger/intake/MaskRule") (F : Fld Z h0 a "java/lang/Enum" "ordinal" "I" (.int (3 : Int32))) :
    Met l Z (⟨"com/example/sealed_ledger/sealedledger/intake/MaskRule", "holdsCredentials", "()Z"⟩ : MethodName) prog_10_method_9_code 1 (some .boolean) ws ({ frames := 1, cells := 0, slots := 0, locals := 12 } : Room) #[(.ref a)] h0 (fun v h L => v = some (.int 0) ∧ L = [] ∧ h = h0) := by
  refine Met.intro pn1 ?_
  intro pr ev s m below meth c T0 X0 hx hZ hown hby hml hret hlk hnm e0
  refine Go.cast (ef_rmH3 m a) ?_
  refine Go.of (mkF m 1 #[.val (.ref a)] [(.ref a)]) (fun t k => XS.aloadN X0.here hx rfl (hb hby d1_0) rfl rfl k) ?_
  refine Go.virtUp X0 hx hZ (y := (⟨"java/lang/Enum", "ordinal", "()I"⟩ : MethodName)) (z := (⟨"com/example/sealed_ledger/sealedledger/intake/MaskRule", "ordinal", "()I"⟩ : MethodName)) (owner := "java/lang/Enum") (a := a) (argsL := []) (rest := []) hown (tw22 hw) (tw23 hw) (tw24 hw) (by decide) (tw26 hw) (tw25 hw) (tw27 hw) (tw28 hw) e0 E (rmO l Z a0 hw [] a (3 : Int32) h0 F) (g := (mkF m 1 #[.val (.ref a)] [(.ref a)])) rfl (by rw [hml]; rfl) (lenOf pd2 rfl) rfl (W := 0) (by show 2 * 0 + _ ≤ _; exact Nat.le_of_eq rfl) (hb hby d1_1) (by decide) (by decide) (by decide) (by decide) ?_
  rintro T1 L1 v1 X1 ⟨rfl, rfl, hh1⟩
  show Go pr ev below _ T1 (mkF m 4 #[.val (.ref a)] [(.int (3 : Int32))])
  refine Go.of (mkF m 58 #[.val (.ref a)] []) (fun t kk => X1.tableswitchIn hx (g := (mkF m 4 #[.val (.ref a)] [(.int (3 : Int32))])) rfl rfl (hb hby d1_4) (by decide) (off := 54) rfl (by show (0 : Int) ≤ ((4 : Nat) : Int) + 54; decide) _ kk) ?_
  refine Go.of (mkF m 59 #[.val (.ref a)] [(.int (0 : Int32))]) (fun t k => XS.iconst X1.here hx rfl (hb hby d1_58) k) ?_
  exact Go.retW X1 hx (t := .boolean) hret hlk rfl (Or.inl ⟨rfl, by simp, _, rfl⟩) (hb hby d1_59) (by decide) (by decide) ⟨rfl, by simp, hh1⟩
theorem ef_rmH4 (m : MethodId) (x0 : Addr) : entryFrame m #[(.ref x0)] 1 = mkF m 0 #[.val (.ref x0)] [] := by first | (simp [entryFrame, mkF, argsToLocals, Value.category]; done) | rfl
set_option maxRecDepth 65536 in
set_option maxHeartbeats 40000000 in
theorem rmH4 (l : Launch) (Z : State) (a0 : Array Value) (hw : ∀ d ∈ tables_1, d.before a0 Z = true) (ws : List Jvm.Cond) (a : Addr) (h0 : Heap) (E : Exa Z h0 a "com/example/sealed_ledger/sealedledger/intake/MaskRule") (F : Fld Z h0 a "java/lang/Enum" "ordinal" "I" (.int (4 : Int32))) :
    Met l Z (⟨"com/example/sealed_ledger/sealedledger/intake/MaskRule", "holdsCredentials", "()Z"⟩ : MethodName) prog_10_method_9_code 1 (some .boolean) ws ({ frames := 1, cells := 0, slots := 0, locals := 12 } : Room) #[(.ref a)] h0 (fun v h L => v = some (.int 0) ∧ L = [] ∧ h = h0) := by
  refine Met.intro pn1 ?_
  intro pr ev s m below meth c T0 X0 hx hZ hown hby hml hret hlk hnm e0
  refine Go.cast (ef_rmH4 m a) ?_
  refine Go.of (mkF m 1 #[.val (.ref a)] [(.ref a)]) (fun t k => XS.aloadN X0.here hx rfl (hb hby d1_0) rfl rfl k) ?_
  refine Go.virtUp X0 hx hZ (y := (⟨"java/lang/Enum", "ordinal", "()I"⟩ : MethodName)) (z := (⟨"com/example/sealed_ledger/sealedledger/intake/MaskRule", "ordinal", "()I"⟩ : MethodName)) (owner := "java/lang/Enum") (a := a) (argsL := []) (rest := []) hown (tw22 hw) (tw23 hw) (tw24 hw) (by decide) (tw26 hw) (tw25 hw) (tw27 hw) (tw28 hw) e0 E (rmO l Z a0 hw [] a (4 : Int32) h0 F) (g := (mkF m 1 #[.val (.ref a)] [(.ref a)])) rfl (by rw [hml]; rfl) (lenOf pd2 rfl) rfl (W := 0) (by show 2 * 0 + _ ≤ _; exact Nat.le_of_eq rfl) (hb hby d1_1) (by decide) (by decide) (by decide) (by decide) ?_
  rintro T1 L1 v1 X1 ⟨rfl, rfl, hh1⟩
  show Go pr ev below _ T1 (mkF m 4 #[.val (.ref a)] [(.int (4 : Int32))])
  refine Go.of (mkF m 58 #[.val (.ref a)] []) (fun t kk => X1.tableswitchIn hx (g := (mkF m 4 #[.val (.ref a)] [(.int (4 : Int32))])) rfl rfl (hb hby d1_4) (by decide) (off := 54) rfl (by show (0 : Int) ≤ ((4 : Nat) : Int) + 54; decide) _ kk) ?_
  refine Go.of (mkF m 59 #[.val (.ref a)] [(.int (0 : Int32))]) (fun t k => XS.iconst X1.here hx rfl (hb hby d1_58) k) ?_
  exact Go.retW X1 hx (t := .boolean) hret hlk rfl (Or.inl ⟨rfl, by simp, _, rfl⟩) (hb hby d1_59) (by decide) (by decide) ⟨rfl, by simp, hh1⟩
theorem ef_rmH5 (m : MethodId) (x0 : Addr) : entryFrame m #[(.ref x0)] 1 = mkF m 0 #[.val (.ref x0)] [] := by first | (simp [entryFrame, mkF, argsToLocals, Value.category]; done) | rfl
set_option maxRecDepth 65536 in
set_option maxHeartbeats 40000000 in
theorem rmH5 (l : Launch) (Z : State) (a0 : Array Value) (hw : ∀ d ∈ tables_1, d.before a0 Z = true) (ws : List Jvm.Cond) (a : Addr) (h0 : Heap) (E : Exa Z h0 a "com/example/sealed_ledger/sealedledger/intake/MaskRule") (F : Fld Z h0 a "java/lang/Enum" "ordinal" "I" (.int (5 : Int32))) :
    Met l Z (⟨"com/example/sealed_ledger/sealedledger/intake/MaskRule", "holdsCredentials", "()Z"⟩ : MethodName) prog_10_method_9_code 1 (some .boolean) ws ({ frames := 1, cells := 0, slots := 0, locals := 12 } : Room) #[(.ref a)] h0 (fun v h L => v = some (.int 0) ∧ L = [] ∧ h = h0) := by
  refine Met.intro pn1 ?_
  intro pr ev s m below meth c T0 X0 hx hZ hown hby hml hret hlk hnm e0
  refine Go.cast (ef_rmH5 m a) ?_
  refine Go.of (mkF m 1 #[.val (.ref a)] [(.ref a)]) (fun t k => XS.aloadN X0.here hx rfl (hb hby d1_0) rfl rfl k) ?_
  refine Go.virtUp X0 hx hZ (y := (⟨"java/lang/Enum", "ordinal", "()I"⟩ : MethodName)) (z := (⟨"com/example/sealed_ledger/sealedledger/intake/MaskRule", "ordinal", "()I"⟩ : MethodName)) (owner := "java/lang/Enum") (a := a) (argsL := []) (rest := []) hown (tw22 hw) (tw23 hw) (tw24 hw) (by decide) (tw26 hw) (tw25 hw) (tw27 hw) (tw28 hw) e0 E (rmO l Z a0 hw [] a (5 : Int32) h0 F) (g := (mkF m 1 #[.val (.ref a)] [(.ref a)])) rfl (by rw [hml]; rfl) (lenOf pd2 rfl) rfl (W := 0) (by show 2 * 0 + _ ≤ _; exact Nat.le_of_eq rfl) (hb hby d1_1) (by decide) (by decide) (by decide) (by decide) ?_
  rintro T1 L1 v1 X1 ⟨rfl, rfl, hh1⟩
  show Go pr ev below _ T1 (mkF m 4 #[.val (.ref a)] [(.int (5 : Int32))])
  refine Go.of (mkF m 58 #[.val (.ref a)] []) (fun t kk => X1.tableswitchIn hx (g := (mkF m 4 #[.val (.ref a)] [(.int (5 : Int32))])) rfl rfl (hb hby d1_4) (by decide) (off := 54) rfl (by show (0 : Int) ≤ ((4 : Nat) : Int) + 54; decide) _ kk) ?_
  refine Go.of (mkF m 59 #[.val (.ref a)] [(.int (0 : Int32))]) (fun t k => XS.iconst X1.here hx rfl (hb hby d1_58) k) ?_
  exact Go.retW X1 hx (t := .boolean) hret hlk rfl (Or.inl ⟨rfl, by simp, _, rfl⟩) (hb hby d1_59) (by decide) (by decide) ⟨rfl, by simp, hh1⟩
theorem ef_rm0 (m : MethodId) (x0 : Int32) : entryFrame m #[(.int x0)] maxLocals = mkF m 0 #[.val (.int x0), .unset, .unset, .unset, .unset] [] := by first | (simp [entryFrame, mkF, argsToLocals, Value.category, maxLocals]; done) | rfl
set_option maxRecDepth 65536 in
set_option maxHeartbeats 40000000 in
theorem rm0 (l : Launch) (Z : State) (a0 : Array Value) (hw : ∀ d ∈ tables_1, d.before a0 Z = true) (ws : List Jvm.Cond) (p : Int32) (h0 : Heap) (n0 : Nat) (hz0 : n0 ≤ h0.size) (u0 u1 u2 u3 u4 u5 : Addr) (S0 : Sta Z h0 "com/example/sealed_ledger/sealedledger/intake/MaskRule" "SECRET" "Lcom/example/sealed_ledger/sealedledger/intake/MaskRule;" (.ref u0)) (Ex0 : Exa Z h0 u0 "com/example/sealed_ledger/sealedledger/intake/MaskRule") (F0 : Fld Z h0 u0 "java/lang/Enum" "ordinal" "I" (.int (0 : Int32))) (S1 : Sta Z h0 "com/example/sealed_ledger/sealedledger/intake/MaskRule" "API_KEY" "Lcom/example/sealed_ledger/sealedledger/intake/MaskRule;" (.ref u1)) (Ex1 : Exa Z h0 u1 "com/example/sealed_ledger/sealedledger/intake/MaskRule") (F1 : Fld Z h0 u1 "java/lang/Enum" "ordinal" "I" (.int (1 : Int32))) (S2 : Sta Z h0 "com/example/sealed_ledger/sealedledger/intake/MaskRule" "EMAIL" "Lcom/example/sealed_ledger/sealedledger/intake/MaskRule;" (.ref u2)) (Ex2 : Exa Z h0 u2 "com/example/sealed_ledger/sealedledger/intake/MaskRule") (F2 : Fld Z h0 u2 "java/lang/Enum" "ordinal" "I" (.int (2 : Int32))) (S3 : Sta Z h0 "com/example/sealed_ledger/sealedledger/intake/MaskRule" "CARD" "Lcom/example/sealed_ledger/sealedledger/intake/MaskRule;" (.ref u3)) (Ex3 : Exa Z h0 u3 "com/example/sealed_ledger/sealedledger/intake/MaskRule") (F3 : Fld Z h0 u3 "java/lang/Enum" "ordinal" "I" (.int (3 : Int32))) (S4 : Sta Z h0 "com/example/sealed_ledger/sealedledger/intake/MaskRule" "FULL" "Lcom/example/sealed_ledger/sealedledger/intake/MaskRule;" (.ref u4)) (Ex4 : Exa Z h0 u4 "com/example/sealed_ledger/sealedledger/intake/MaskRule") (F4 : Fld Z h0 u4 "java/lang/Enum" "ordinal" "I" (.int (4 : Int32))) (S5 : Sta Z h0 "com/example/sealed_ledger/sealedledger/intake/MaskRule" "SHAPE" "Lcom/example/sealed_ledger/sealedledger/intake/MaskRule;" (.ref u5)) (Ex5 : Exa Z h0 u5 "com/example/sealed_ledger/sealedledger/intake/MaskRule") (F5 : Fld Z h0 u5 "java/lang/Enum" "ordinal" "I" (.int (5 : Int32))) :
    Met l Z x code maxLocals ret ws room_1 #[(.int p)] h0 (fun v h L => v = some (.int 1) ∧ Fr n0 L) := by
  refine Met.intro pn3 ?_
  intro pr ev s m below meth c T0 X0 hx hZ hown hby hml hret hlk hnm e0
  refine Go.cast (ef_rm0 m p) ?_
  have N0 := Fr.nil n0
  have hz := hz0
  have nu0_1 : u0 ≠ u1 := Fld.ne F0 F1 (by simp)
  have nu0_2 : u0 ≠ u2 := Fld.ne F0 F2 (by simp)
  have nu1_2 : u1 ≠ u2 := Fld.ne F1 F2 (by simp)
  have nu0_3 : u0 ≠ u3 := Fld.ne F0 F3 (by simp)
  have nu1_3 : u1 ≠ u3 := Fld.ne F1 F3 (by simp)
  have nu2_3 : u2 ≠ u3 := Fld.ne F2 F3 (by simp)
  have nu0_4 : u0 ≠ u4 := Fld.ne F0 F4 (by simp)
  have nu1_4 : u1 ≠ u4 := Fld.ne F1 F4 (by simp)
  have nu2_4 : u2 ≠ u4 := Fld.ne F2 F4 (by simp)
  have nu3_4 : u3 ≠ u4 := Fld.ne F3 F4 (by simp)
  have nu0_5 : u0 ≠ u5 := Fld.ne F0 F5 (by simp)
  have nu1_5 : u1 ≠ u5 := Fld.ne F1 F5 (by simp)
  have nu2_5 : u2 ≠ u5 := Fld.ne F2 F5 (by simp)
  have nu3_5 : u3 ≠ u5 := Fld.ne F3 F5 (by simp)
  have nu4_5 : u4 ≠ u5 := Fld.ne F4 F5 (by simp)
  refine Go.of (mkF m 2 #[.val (.int p), .unset, .unset, .unset, .unset] [(.int (6 : Int32))]) (fun t k => XS.bipush X0.here hx rfl (hb hby at_0) k) ?_
  obtain ⟨T1, h1, k1, X1, e1, E1, A1, Q1, O1, st1⟩ := newRE X0 hx hZ hown (tw0 hw) (tw1 hw) e0 (g := (mkF m 2 #[.val (.int p), .unset, .unset, .unset, .unset] [(.int (6 : Int32))])) rfl (hb hby at_2) rfl (by decide) (cap := 6) (by decide) (by decide) (by decide) (by decide) (ad := "[Lcom/example/sealed_ledger/sealedledger/intake/MaskRule;") rfl
  obtain ⟨b1, g1⟩ : ∃ z, z = h0.size := ⟨_, rfl⟩
  rw [← g1] at A1 Q1 st1
  have ne_u0_b1 : u0 ≠ b1 := Nat.ne_of_lt (Nat.lt_of_lt_of_le Ex0.lt (Nat.le_of_eq g1.symm))
  have ne_u1_b1 : u1 ≠ b1 := Nat.ne_of_lt (Nat.lt_of_lt_of_le Ex1.lt (Nat.le_of_eq g1.symm))
  have ne_u2_b1 : u2 ≠ b1 := Nat.ne_of_lt (Nat.lt_of_lt_of_le Ex2.lt (Nat.le_of_eq g1.symm))
  have ne_u3_b1 : u3 ≠ b1 := Nat.ne_of_lt (Nat.lt_of_lt_of_le Ex3.lt (Nat.le_of_eq g1.symm))
  have ne_u4_b1 : u4 ≠ b1 := Nat.ne_of_lt (Nat.lt_of_lt_of_le Ex4.lt (Nat.le_of_eq g1.symm))
  have ne_u5_b1 : u5 ≠ b1 := Nat.ne_of_lt (Nat.lt_of_lt_of_le Ex5.lt (Nat.le_of_eq g1.symm))
  have gb_b1 : n0 ≤ b1 := Nat.le_trans hz (Nat.le_of_eq g1.symm)
  replace F0 := F0.ext E1
  replace F1 := F1.ext E1
  replace F2 := F2.ext E1
  replace F3 := F3.ext E1
  replace F4 := F4.ext E1
  replace F5 := F5.ext E1
  replace Ex0 := Ex0.ext E1
  replace Ex1 := Ex1.ext E1
  replace Ex2 := Ex2.ext E1
  replace Ex3 := Ex3.ext E1
  replace Ex4 := Ex4.ext E1
  replace Ex5 := Ex5.ext E1
  replace S0 := S0.ext E1
  replace S1 := S1.ext E1
  replace S2 := S2.ext E1
  replace S3 := S3.ext E1
  replace S4 := S4.ext E1
  replace S5 := S5.ext E1
  replace hz := Nat.le_trans hz E1.1
  have V_b1 : Fa Z h1 b1 (.object "com/example/sealed_ledger/sealedledger/intake/MaskRule") (6 : Int32) (fun _ => Value.null) := Fa.new A1 (by decide)
  have U_b1 : Uty Z h1 b1 "com/example/sealed_ledger/sealedledger/intake/MaskRule" := ⟨_, A1.1, O1⟩
  refine Go.of (mkF m 5 #[.val (.int p), .unset, .unset, .unset, .unset] [(.ref b1)]) (st1) ?_
  refine Go.of (mkF m 6 #[.val (.int p), .unset, .unset, .unset, .unset] [(.ref b1), (.ref b1)]) (fun t k => XS.dup X1.here hx rfl (hb hby at_5) rfl rfl k) ?_
  refine Go.of (mkF m 7 #[.val (.int p), .unset, .unset, .unset, .unset] [(.int (0 : Int32)), (.ref b1), (.ref b1)]) (fun t k => XS.iconst X1.here hx rfl (hb hby at_6) k) ?_
  obtain ⟨T2, X2, e2, st2⟩ := getS2 X1 hx hZ hown (host := "") (Or.inl (tw2 hw)) Via.refl e1 S0 (g := (mkF m 7 #[.val (.int p), .unset, .unset, .unset, .unset] [(.int (0 : Int32)), (.ref b1), (.ref b1)])) rfl (hb hby at_7)
  refine Go.of (mkF m 10 #[.val (.int p), .unset, .unset, .unset, .unset] [(.ref u0), (.int (0 : Int32)), (.ref b1), (.ref b1)]) (st2) ?_
  refine Go.aastore X2 hx hZ e2 V_b1 rfl rfl (Fa.sto V_b1 U_b1 (Ins.self Ex0)) (by decide) (by decide) (g := (mkF m 10 #[.val (.int p), .unset, .unset, .unset, .unset] [(.ref u0), (.int (0 : Int32)), (.ref b1), (.ref b1)])) rfl rfl (hb hby at_10) ?_
  rintro T3 h3 X3 e3 W3 V3
  replace F0 := F0.other W3 (Or.inl ne_u0_b1)
  replace F1 := F1.other W3 (Or.inl ne_u1_b1)
  replace F2 := F2.other W3 (Or.inl ne_u2_b1)
  replace F3 := F3.other W3 (Or.inl ne_u3_b1)
  replace F4 := F4.other W3 (Or.inl ne_u4_b1)
  replace F5 := F5.other W3 (Or.inl ne_u5_b1)
  replace Ex0 := Ex0.wr W3
  replace Ex1 := Ex1.wr W3
  replace Ex2 := Ex2.wr W3
  replace Ex3 := Ex3.wr W3
  replace Ex4 := Ex4.wr W3
  replace Ex5 := Ex5.wr W3
  replace Q1 := Q1.wr W3
  replace S0 := S0.wr W3
  replace S1 := S1.wr W3
  replace S2 := S2.wr W3
  replace S3 := S3.wr W3
  replace S4 := S4.wr W3
  replace S5 := S5.wr W3
  replace U_b1 := U_b1.wr W3
  replace hz := Nat.le_trans hz (Nat.le_of_eq W3.size.symm)
  replace V_b1 := V3
  have N3 := Fr.snoc X3 N0 gb_b1
  show Go pr ev below _ T3 (mkF m 11 #[.val (.int p), .unset, .unset, .unset, .unset] [(.ref b1)])
  refine Go.of (mkF m 12 #[.val (.int p), .unset, .unset, .unset, .unset] [(.ref b1), (.ref b1)]) (fun t k => XS.dup X3.here hx rfl (hb hby at_11) rfl rfl k) ?_
  refine Go.of (mkF m 13 #[.val (.int p), .unset, .unset, .unset, .unset] [(.int (1 : Int32)), (.ref b1), (.ref b1)]) (fun t k => XS.iconst X3.here hx rfl (hb hby at_12) k) ?_
  obtain ⟨T4, X4, e4, st4⟩ := getS2 X3 hx hZ hown (host := "") (Or.inl (tw6 hw)) Via.refl e3 S1 (g := (mkF m 13 #[.val (.int p), .unset, .unset, .unset, .unset] [(.int (1 : Int32)), (.ref b1), (.ref b1)])) rfl (hb hby at_13)
  refine Go.of (mkF m 16 #[.val (.int p), .unset, .unset, .unset, .unset] [(.ref u1), (.int (1 : Int32)), (.ref b1), (.ref b1)]) (st4) ?_
  refine Go.aastore X4 hx hZ e4 V_b1 rfl rfl (Fa.sto V_b1 U_b1 (Ins.self Ex1)) (by decide) (by decide) (g := (mkF m 16 #[.val (.int p), .unset, .unset, .unset, .unset] [(.ref u1), (.int (1 : Int32)), (.ref b1), (.ref b1)])) rfl rfl (hb hby at_16) ?_
  rintro T5 h5 X5 e5 W5 V5
  replace F0 := F0.other W5 (Or.inl ne_u0_b1)
  replace F1 := F1.other W5 (Or.inl ne_u1_b1)
  replace F2 := F2.other W5 (Or.inl ne_u2_b1)
  replace F3 := F3.other W5 (Or.inl ne_u3_b1)
  replace F4 := F4.other W5 (Or.inl ne_u4_b1)
  replace F5 := F5.other W5 (Or.inl ne_u5_b1)
  replace Ex0 := Ex0.wr W5
  replace Ex1 := Ex1.wr W5
  replace Ex2 := Ex2.wr W5
  replace Ex3 := Ex3.wr W5
  replace Ex4 := Ex4.wr W5
  replace Ex5 := Ex5.wr W5
  replace Q1 := Q1.wr W5
  replace S0 := S0.wr W5
  replace S1 := S1.wr W5
  replace S2 := S2.wr W5
  replace S3 := S3.wr W5
  replace S4 := S4.wr W5
  replace S5 := S5.wr W5
  replace U_b1 := U_b1.wr W5
  replace hz := Nat.le_trans hz (Nat.le_of_eq W5.size.symm)
  replace V_b1 := V5
  have N5 := Fr.snoc X5 N3 gb_b1
  show Go pr ev below _ T5 (mkF m 17 #[.val (.int p), .unset, .unset, .unset, .unset] [(.ref b1)])
  refine Go.of (mkF m 18 #[.val (.int p), .unset, .unset, .unset, .unset] [(.ref b1), (.ref b1)]) (fun t k => XS.dup X5.here hx rfl (hb hby at_17) rfl rfl k) ?_
  refine Go.of (mkF m 19 #[.val (.int p), .unset, .unset, .unset, .unset] [(.int (2 : Int32)), (.ref b1), (.ref b1)]) (fun t k => XS.iconst X5.here hx rfl (hb hby at_18) k) ?_
  obtain ⟨T6, X6, e6, st6⟩ := getS2 X5 hx hZ hown (host := "") (Or.inl (tw8 hw)) Via.refl e5 S2 (g := (mkF m 19 #[.val (.int p), .unset, .unset, .unset, .unset] [(.int (2 : Int32)), (.ref b1), (.ref b1)])) rfl (hb hby at_19)
  refine Go.of (mkF m 22 #[.val (.int p), .unset, .unset, .unset, .unset] [(.ref u2), (.int (2 : Int32)), (.ref b1), (.ref b1)]) (st6) ?_
  refine Go.aastore X6 hx hZ e6 V_b1 rfl rfl (Fa.sto V_b1 U_b1 (Ins.self Ex2)) (by decide) (by decide) (g := (mkF m 22 #[.val (.int p), .unset, .unset, .unset, .unset] [(.ref u2), (.int (2 : Int32)), (.ref b1), (.ref b1)])) rfl rfl (hb hby at_22) ?_
  rintro T7 h7 X7 e7 W7 V7
  replace F0 := F0.other W7 (Or.inl ne_u0_b1)
  replace F1 := F1.other W7 (Or.inl ne_u1_b1)
  replace F2 := F2.other W7 (Or.inl ne_u2_b1)
  replace F3 := F3.other W7 (Or.inl ne_u3_b1)
  replace F4 := F4.other W7 (Or.inl ne_u4_b1)
  replace F5 := F5.other W7 (Or.inl ne_u5_b1)
  replace Ex0 := Ex0.wr W7
  replace Ex1 := Ex1.wr W7
  replace Ex2 := Ex2.wr W7
  replace Ex3 := Ex3.wr W7
  replace Ex4 := Ex4.wr W7
  replace Ex5 := Ex5.wr W7
  replace Q1 := Q1.wr W7
  replace S0 := S0.wr W7
  replace S1 := S1.wr W7
  replace S2 := S2.wr W7
  replace S3 := S3.wr W7
  replace S4 := S4.wr W7
  replace S5 := S5.wr W7
  replace U_b1 := U_b1.wr W7
  replace hz := Nat.le_trans hz (Nat.le_of_eq W7.size.symm)
  replace V_b1 := V7
  have N7 := Fr.snoc X7 N5 gb_b1
  show Go pr ev below _ T7 (mkF m 23 #[.val (.int p), .unset, .unset, .unset, .unset] [(.ref b1)])
  refine Go.of (mkF m 24 #[.val (.int p), .unset, .unset, .unset, .unset] [(.ref b1), (.ref b1)]) (fun t k => XS.dup X7.here hx rfl (hb hby at_23) rfl rfl k) ?_
  refine Go.of (mkF m 25 #[.val (.int p), .unset, .unset, .unset, .unset] [(.int (3 : Int32)), (.ref b1), (.ref b1)]) (fun t k => XS.iconst X7.here hx rfl (hb hby at_24) k) ?_
  obtain ⟨T8, X8, e8, st8⟩ := getS2 X7 hx hZ hown (host := "") (Or.inl (tw10 hw)) Via.refl e7 S3 (g := (mkF m 25 #[.val (.int p), .unset, .unset, .unset, .unset] [(.int (3 : Int32)), (.ref b1), (.ref b1)])) rfl (hb hby at_25)
  refine Go.of (mkF m 28 #[.val (.int p), .unset, .unset, .unset, .unset] [(.ref u3), (.int (3 : Int32)), (.ref b1), (.ref b1)]) (st8) ?_
  refine Go.aastore X8 hx hZ e8 V_b1 rfl rfl (Fa.sto V_b1 U_b1 (Ins.self Ex3)) (by decide) (by decide) (g := (mkF m 28 #[.val (.int p), .unset, .unset, .unset, .unset] [(.ref u3), (.int (3 : Int32)), (.ref b1), (.ref b1)])) rfl rfl (hb hby at_28) ?_
  rintro T9 h9 X9 e9 W9 V9
  replace F0 := F0.other W9 (Or.inl ne_u0_b1)
  replace F1 := F1.other W9 (Or.inl ne_u1_b1)
  replace F2 := F2.other W9 (Or.inl ne_u2_b1)
  replace F3 := F3.other W9 (Or.inl ne_u3_b1)
  replace F4 := F4.other W9 (Or.inl ne_u4_b1)
  replace F5 := F5.other W9 (Or.inl ne_u5_b1)
  replace Ex0 := Ex0.wr W9
  replace Ex1 := Ex1.wr W9
  replace Ex2 := Ex2.wr W9
  replace Ex3 := Ex3.wr W9
  replace Ex4 := Ex4.wr W9
  replace Ex5 := Ex5.wr W9
  replace Q1 := Q1.wr W9
  replace S0 := S0.wr W9
  replace S1 := S1.wr W9
  replace S2 := S2.wr W9
  replace S3 := S3.wr W9
  replace S4 := S4.wr W9
  replace S5 := S5.wr W9
  replace U_b1 := U_b1.wr W9
  replace hz := Nat.le_trans hz (Nat.le_of_eq W9.size.symm)
  replace V_b1 := V9
  have N9 := Fr.snoc X9 N7 gb_b1
  show Go pr ev below _ T9 (mkF m 29 #[.val (.int p), .unset, .unset, .unset, .unset] [(.ref b1)])
  refine Go.of (mkF m 30 #[.val (.int p), .unset, .unset, .unset, .unset] [(.ref b1), (.ref b1)]) (fun t k => XS.dup X9.here hx rfl (hb hby at_29) rfl rfl k) ?_
  refine Go.of (mkF m 31 #[.val (.int p), .unset, .unset, .unset, .unset] [(.int (4 : Int32)), (.ref b1), (.ref b1)]) (fun t k => XS.iconst X9.here hx rfl (hb hby at_30) k) ?_
  obtain ⟨T10, X10, e10, st10⟩ := getS2 X9 hx hZ hown (host := "") (Or.inl (tw12 hw)) Via.refl e9 S4 (g := (mkF m 31 #[.val (.int p), .unset, .unset, .unset, .unset] [(.int (4 : Int32)), (.ref b1), (.ref b1)])) rfl (hb hby at_31)
  refine Go.of (mkF m 34 #[.val (.int p), .unset, .unset, .unset, .unset] [(.ref u4), (.int (4 : Int32)), (.ref b1), (.ref b1)]) (st10) ?_
  refine Go.aastore X10 hx hZ e10 V_b1 rfl rfl (Fa.sto V_b1 U_b1 (Ins.self Ex4)) (by decide) (by decide) (g := (mkF m 34 #[.val (.int p), .unset, .unset, .unset, .unset] [(.ref u4), (.int (4 : Int32)), (.ref b1), (.ref b1)])) rfl rfl (hb hby at_34) ?_
  rintro T11 h11 X11 e11 W11 V11
  replace F0 := F0.other W11 (Or.inl ne_u0_b1)
  replace F1 := F1.other W11 (Or.inl ne_u1_b1)
  replace F2 := F2.other W11 (Or.inl ne_u2_b1)
  replace F3 := F3.other W11 (Or.inl ne_u3_b1)
  replace F4 := F4.other W11 (Or.inl ne_u4_b1)
  replace F5 := F5.other W11 (Or.inl ne_u5_b1)
  replace Ex0 := Ex0.wr W11
  replace Ex1 := Ex1.wr W11
  replace Ex2 := Ex2.wr W11
  replace Ex3 := Ex3.wr W11
  replace Ex4 := Ex4.wr W11
  replace Ex5 := Ex5.wr W11
  replace Q1 := Q1.wr W11
  replace S0 := S0.wr W11
  replace S1 := S1.wr W11
  replace S2 := S2.wr W11
  replace S3 := S3.wr W11
  replace S4 := S4.wr W11
  replace S5 := S5.wr W11
  replace U_b1 := U_b1.wr W11
  replace hz := Nat.le_trans hz (Nat.le_of_eq W11.size.symm)
  replace V_b1 := V11
  have N11 := Fr.snoc X11 N9 gb_b1
  show Go pr ev below _ T11 (mkF m 35 #[.val (.int p), .unset, .unset, .unset, .unset] [(.ref b1)])
  refine Go.of (mkF m 36 #[.val (.int p), .unset, .unset, .unset, .unset] [(.ref b1), (.ref b1)]) (fun t k => XS.dup X11.here hx rfl (hb hby at_35) rfl rfl k) ?_
  refine Go.of (mkF m 37 #[.val (.int p), .unset, .unset, .unset, .unset] [(.int (5 : Int32)), (.ref b1), (.ref b1)]) (fun t k => XS.iconst X11.here hx rfl (hb hby at_36) k) ?_
  obtain ⟨T12, X12, e12, st12⟩ := getS2 X11 hx hZ hown (host := "") (Or.inl (tw14 hw)) Via.refl e11 S5 (g := (mkF m 37 #[.val (.int p), .unset, .unset, .unset, .unset] [(.int (5 : Int32)), (.ref b1), (.ref b1)])) rfl (hb hby at_37)
  refine Go.of (mkF m 40 #[.val (.int p), .unset, .unset, .unset, .unset] [(.ref u5), (.int (5 : Int32)), (.ref b1), (.ref b1)]) (st12) ?_
  refine Go.aastore X12 hx hZ e12 V_b1 rfl rfl (Fa.sto V_b1 U_b1 (Ins.self Ex5)) (by decide) (by decide) (g := (mkF m 40 #[.val (.int p), .unset, .unset, .unset, .unset] [(.ref u5), (.int (5 : Int32)), (.ref b1), (.ref b1)])) rfl rfl (hb hby at_40) ?_
  rintro T13 h13 X13 e13 W13 V13
  replace F0 := F0.other W13 (Or.inl ne_u0_b1)
  replace F1 := F1.other W13 (Or.inl ne_u1_b1)
  replace F2 := F2.other W13 (Or.inl ne_u2_b1)
  replace F3 := F3.other W13 (Or.inl ne_u3_b1)
  replace F4 := F4.other W13 (Or.inl ne_u4_b1)
  replace F5 := F5.other W13 (Or.inl ne_u5_b1)
  replace Ex0 := Ex0.wr W13
  replace Ex1 := Ex1.wr W13
  replace Ex2 := Ex2.wr W13
  replace Ex3 := Ex3.wr W13
  replace Ex4 := Ex4.wr W13
  replace Ex5 := Ex5.wr W13
  replace Q1 := Q1.wr W13
  replace S0 := S0.wr W13
  replace S1 := S1.wr W13
  replace S2 := S2.wr W13
  replace S3 := S3.wr W13
  replace S4 := S4.wr W13
  replace S5 := S5.wr W13
  replace U_b1 := U_b1.wr W13
  replace hz := Nat.le_trans hz (Nat.le_of_eq W13.size.symm)
  replace V_b1 := V13
  have N13 := Fr.snoc X13 N11 gb_b1
  show Go pr ev below _ T13 (mkF m 41 #[.val (.int p), .unset, .unset, .unset, .unset] [(.ref b1)])
  refine Go.of (mkF m 42 #[.val (.int p), .val (.ref b1), .unset, .unset, .unset] []) (fun t k => XS.astoreN X13.here hx rfl (hb hby at_41) rfl rfl (l' := #[.val (.int p), .val (.ref b1), .unset, .unset, .unset]) rfl k) ?_
  refine Go.of (mkF m 43 #[.val (.int p), .val (.ref b1), .unset, .unset, .unset] [(.int p)]) (fun t k => XS.iloadN X13.here hx rfl (hb hby at_42) rfl k) ?_
  refine Go.of (mkF m 45 #[.val (.int p), .val (.ref b1), .unset, .unset, .unset] [(.int (2147483647 : Int32)), (.int p)]) (fun t k => X13.ldcInt hx hown (mvT hZ (tw16 hw)) (g := (mkF m 43 #[.val (.int p), .val (.ref b1), .unset, .unset, .unset] [(.int p)])) rfl (hb hby at_43) _ k) ?_
  refine Go.of (mkF m 46 #[.val (.int p), .val (.ref b1), .unset, .unset, .unset] [(.int (p &&& (2147483647 : Int32)))]) (fun t k => XS.iand X13.here hx rfl (hb hby at_45) rfl k) ?_
  refine Go.of (mkF m 48 #[.val (.int p), .val (.ref b1), .unset, .unset, .unset] [(.int (6 : Int32)), (.int (p &&& (2147483647 : Int32)))]) (fun t k => XS.bipush X13.here hx rfl (hb hby at_46) k) ?_
  refine Go.of (mkF m 49 #[.val (.int p), .val (.ref b1), .unset, .unset, .unset] [(.int ((p &&& (2147483647 : Int32)) % (6 : Int32)))]) (fun t k => iremM X13 hx rfl (hb hby at_48) rfl (by decide) k) ?_
  refine Go.of (mkF m 50 #[.val (.int p), .val (.ref b1), .val (.int ((p &&& (2147483647 : Int32)) % (6 : Int32))), .unset, .unset] []) (fun t k => XS.istoreN X13.here hx rfl (hb hby at_49) rfl (l' := #[.val (.int p), .val (.ref b1), .val (.int ((p &&& (2147483647 : Int32)) % (6 : Int32))), .unset, .unset]) rfl k) ?_
  have hix := own_ix p
  generalize hixe : ((p &&& (2147483647 : Int32)) % (6 : Int32)) = ix
  rw [hixe] at hix
  clear hixe
  rcases own_six ix hix.1 hix.2 with rfl | rfl | rfl | rfl | rfl | rfl
  ·
    refine Go.of (mkF m 51 #[.val (.int p), .val (.ref b1), .val (.int (0 : Int32)), .unset, .unset] [(.ref b1)]) (fun t k => XS.aloadN X13.here hx rfl (hb hby at_50) rfl rfl k) ?_
    refine Go.of (mkF m 52 #[.val (.int p), .val (.ref b1), .val (.int (0 : Int32)), .unset, .unset] [(.int (0 : Int32)), (.ref b1)]) (fun t k => XS.iloadN X13.here hx rfl (hb hby at_51) rfl k) ?_
    refine Go.aaload X13 hx hZ e13 V_b1 rfl (by decide) (by decide) (g := (mkF m 52 #[.val (.int p), .val (.ref b1), .val (.int (0 : Int32)), .unset, .unset] [(.int (0 : Int32)), (.ref b1)])) rfl rfl (hb hby at_52) ?_
    show Go pr ev below _ T13 (mkF m 53 #[.val (.int p), .val (.ref b1), .val (.int (0 : Int32)), .unset, .unset] [((fnup (fnup (fnup (fnup (fnup (fnup (fun _ => Value.null) (0 : Int32) (.ref u0)) (1 : Int32) (.ref u1)) (2 : Int32) (.ref u2)) (3 : Int32) (.ref u3)) (4 : Int32) (.ref u4)) (5 : Int32) (.ref u5)) (0 : Int32))])
    rw [show ((fnup (fnup (fnup (fnup (fnup (fnup (fun _ => Value.null) (0 : Int32) (.ref u0)) (1 : Int32) (.ref u1)) (2 : Int32) (.ref u2)) (3 : Int32) (.ref u3)) (4 : Int32) (.ref u4)) (5 : Int32) (.ref u5)) (0 : Int32)) = (.ref u0) from by simp [fnup]]
    show Go pr ev below _ T13 (mkF m 53 #[.val (.int p), .val (.ref b1), .val (.int (0 : Int32)), .unset, .unset] [(.ref u0)])
    refine Go.of (mkF m 54 #[.val (.int p), .val (.ref b1), .val (.int (0 : Int32)), .val (.ref u0), .unset] []) (fun t k => XS.astoreN X13.here hx rfl (hb hby at_53) rfl rfl (l' := #[.val (.int p), .val (.ref b1), .val (.int (0 : Int32)), .val (.ref u0), .unset]) rfl k) ?_
    refine Go.of (mkF m 55 #[.val (.int p), .val (.ref b1), .val (.int (0 : Int32)), .val (.ref u0), .unset] [(.ref u0)]) (fun t k => XS.aloadN X13.here hx rfl (hb hby at_54) rfl rfl k) ?_
    obtain ⟨T14, X14, e14, st14⟩ := getS2 X13 hx hZ hown (host := "") (Or.inl (tw2 hw)) Via.refl e13 S0 (g := (mkF m 55 #[.val (.int p), .val (.ref b1), .val (.int (0 : Int32)), .val (.ref u0), .unset] [(.ref u0)])) rfl (hb hby at_55)
    refine Go.of (mkF m 58 #[.val (.int p), .val (.ref b1), .val (.int (0 : Int32)), .val (.ref u0), .unset] [(.ref u0), (.ref u0)]) (st14) ?_
    refine Go.of (mkF m 68 #[.val (.int p), .val (.ref b1), .val (.int (0 : Int32)), .val (.ref u0), .unset] []) (fun t k => Jvm.RoadKit.acmp (g := (mkF m 58 #[.val (.int p), .val (.ref b1), .val (.int (0 : Int32)), .val (.ref u0), .unset] [(.ref u0), (.ref u0)])) X14 hx rfl (x := (.ref u0)) (y := (.ref u0)) rfl rfl (pc0 := 58) (pc' := 68) (same := true) rfl (hb hby at_58) rfl (decide_eq_true rfl) (by decide) (by decide) k) ?_
    refine Go.of (mkF m 69 #[.val (.int p), .val (.ref b1), .val (.int (0 : Int32)), .val (.ref u0), .unset] [(.int (1 : Int32))]) (fun t k => XS.iconst X14.here hx rfl (hb hby at_68) k) ?_
    refine Go.of (mkF m 73 #[.val (.int p), .val (.ref b1), .val (.int (0 : Int32)), .val (.ref u0), .unset] [(.int (1 : Int32))]) (fun t k => XS.goto X14.here hx rfl (pc0 := 69) (pc' := 73) rfl (hb hby at_69) (by decide) (by decide) k) ?_
    refine Go.of (mkF m 75 #[.val (.int p), .val (.ref b1), .val (.int (0 : Int32)), .val (.ref u0), .val (.int (1 : Int32))] []) (fun t k => XS.istore X14.here hx rfl (hb hby at_73) rfl (l' := #[.val (.int p), .val (.ref b1), .val (.int (0 : Int32)), .val (.ref u0), .val (.int (1 : Int32))]) rfl k) ?_
    refine Go.of (mkF m 76 #[.val (.int p), .val (.ref b1), .val (.int (0 : Int32)), .val (.ref u0), .val (.int (1 : Int32))] [(.ref u0)]) (fun t k => XS.aloadN X14.here hx rfl (hb hby at_75) rfl rfl k) ?_
    refine Go.virt X14 hx hZ (y := (⟨"com/example/sealed_ledger/sealedledger/intake/MaskRule", "holdsCredentials", "()Z"⟩ : MethodName)) (z := (⟨"com/example/sealed_ledger/sealedledger/intake/MaskRule", "holdsCredentials", "()Z"⟩ : MethodName)) (a := u0) (argsL := []) (rest := []) hown (tw17 hw) (tw18 hw) (notFace_of_selects (args := #[]) (mvT hZ (tw20 hw))) (tw20 hw) (tw19 hw) (tw3 hw) (tw21 hw) (by decide) e14 Ex0 (rmH0 l Z a0 hw [] u0 h13 Ex0 F0) (g := (mkF m 76 #[.val (.int p), .val (.ref b1), .val (.int (0 : Int32)), .val (.ref u0), .val (.int (1 : Int32))] [(.ref u0)])) rfl (by rw [hml]; rfl) (lenOf pd4 rfl) rfl (W := 0) (by show 2 * 0 + _ ≤ _; exact Nat.le_of_eq rfl) (hb hby at_76) (by decide) (by decide) (by decide) (by decide) ?_
    rintro T15 L15 v15 X15 ⟨rfl, rfl, hh15⟩
    have N15 := Fr.app N13 (Fr.nil n0)
    show Go pr ev below _ T15 (mkF m 79 #[.val (.int p), .val (.ref b1), .val (.int (0 : Int32)), .val (.ref u0), .val (.int (1 : Int32))] [(.int (1 : Int32))])
    refine Go.of (mkF m 81 #[.val (.int p), .val (.ref b1), .val (.int (0 : Int32)), .val (.ref u0), .val (.int (1 : Int32))] [(.int (1 : Int32)), (.int (1 : Int32))]) (fun t k => XS.iload X15.here hx rfl (hb hby at_79) rfl k) ?_
    refine Go.of (mkF m 84 #[.val (.int p), .val (.ref b1), .val (.int (0 : Int32)), .val (.ref u0), .val (.int (1 : Int32))] []) (fun t k => XS.icmpNo X15.here hx rfl (hb hby at_81) rfl (teq (by decide)).2 k) ?_
    refine Go.of (mkF m 85 #[.val (.int p), .val (.ref b1), .val (.int (0 : Int32)), .val (.ref u0), .val (.int (1 : Int32))] [(.int (1 : Int32))]) (fun t k => XS.iconst X15.here hx rfl (hb hby at_84) k) ?_
    refine Go.of (mkF m 89 #[.val (.int p), .val (.ref b1), .val (.int (0 : Int32)), .val (.ref u0), .val (.int (1 : Int32))] [(.int (1 : Int32))]) (fun t k => XS.goto X15.here hx rfl (pc0 := 85) (pc' := 89) rfl (hb hby at_85) (by decide) (by decide) k) ?_
    exact Go.retW X15 hx (t := .boolean) hret hlk rfl (Or.inl ⟨rfl, by simp, _, rfl⟩) (hb hby at_89) (by decide) (by decide) ⟨rfl, N15⟩
  ·
    refine Go.of (mkF m 51 #[.val (.int p), .val (.ref b1), .val (.int (1 : Int32)), .unset, .unset] [(.ref b1)]) (fun t k => XS.aloadN X13.here hx rfl (hb hby at_50) rfl rfl k) ?_
    refine Go.of (mkF m 52 #[.val (.int p), .val (.ref b1), .val (.int (1 : Int32)), .unset, .unset] [(.int (1 : Int32)), (.ref b1)]) (fun t k => XS.iloadN X13.here hx rfl (hb hby at_51) rfl k) ?_
    refine Go.aaload X13 hx hZ e13 V_b1 rfl (by decide) (by decide) (g := (mkF m 52 #[.val (.int p), .val (.ref b1), .val (.int (1 : Int32)), .unset, .unset] [(.int (1 : Int32)), (.ref b1)])) rfl rfl (hb hby at_52) ?_
    show Go pr ev below _ T13 (mkF m 53 #[.val (.int p), .val (.ref b1), .val (.int (1 : Int32)), .unset, .unset] [((fnup (fnup (fnup (fnup (fnup (fnup (fun _ => Value.null) (0 : Int32) (.ref u0)) (1 : Int32) (.ref u1)) (2 : Int32) (.ref u2)) (3 : Int32) (.ref u3)) (4 : Int32) (.ref u4)) (5 : Int32) (.ref u5)) (1 : Int32))])
    rw [show ((fnup (fnup (fnup (fnup (fnup (fnup (fun _ => Value.null) (0 : Int32) (.ref u0)) (1 : Int32) (.ref u1)) (2 : Int32) (.ref u2)) (3 : Int32) (.ref u3)) (4 : Int32) (.ref u4)) (5 : Int32) (.ref u5)) (1 : Int32)) = (.ref u1) from by simp [fnup]]
    show Go pr ev below _ T13 (mkF m 53 #[.val (.int p), .val (.ref b1), .val (.int (1 : Int32)), .unset, .unset] [(.ref u1)])
    refine Go.of (mkF m 54 #[.val (.int p), .val (.ref b1), .val (.int (1 : Int32)), .val (.ref u1), .unset] []) (fun t k => XS.astoreN X13.here hx rfl (hb hby at_53) rfl rfl (l' := #[.val (.int p), .val (.ref b1), .val (.int (1 : Int32)), .val (.ref u1), .unset]) rfl k) ?_
    refine Go.of (mkF m 55 #[.val (.int p), .val (.ref b1), .val (.int (1 : Int32)), .val (.ref u1), .unset] [(.ref u1)]) (fun t k => XS.aloadN X13.here hx rfl (hb hby at_54) rfl rfl k) ?_
    obtain ⟨T16, X16, e16, st16⟩ := getS2 X13 hx hZ hown (host := "") (Or.inl (tw2 hw)) Via.refl e13 S0 (g := (mkF m 55 #[.val (.int p), .val (.ref b1), .val (.int (1 : Int32)), .val (.ref u1), .unset] [(.ref u1)])) rfl (hb hby at_55)
    refine Go.of (mkF m 58 #[.val (.int p), .val (.ref b1), .val (.int (1 : Int32)), .val (.ref u1), .unset] [(.ref u0), (.ref u1)]) (st16) ?_
    refine Go.of (mkF m 61 #[.val (.int p), .val (.ref b1), .val (.int (1 : Int32)), .val (.ref u1), .unset] []) (fun t k => Jvm.RoadKit.acmp (g := (mkF m 58 #[.val (.int p), .val (.ref b1), .val (.int (1 : Int32)), .val (.ref u1), .unset] [(.ref u0), (.ref u1)])) X16 hx rfl (x := (.ref u1)) (y := (.ref u0)) rfl rfl (pc0 := 58) (pc' := 61) (same := false) rfl (hb hby at_58) rfl (decide_eq_false fun q => (Ne.symm nu0_1) (Value.ref.inj q)) (by decide) (by decide) k) ?_
    refine Go.of (mkF m 62 #[.val (.int p), .val (.ref b1), .val (.int (1 : Int32)), .val (.ref u1), .unset] [(.ref u1)]) (fun t k => XS.aloadN X16.here hx rfl (hb hby at_61) rfl rfl k) ?_
    obtain ⟨T17, X17, e17, st17⟩ := getS2 X16 hx hZ hown (host := "") (Or.inl (tw6 hw)) Via.refl e16 S1 (g := (mkF m 62 #[.val (.int p), .val (.ref b1), .val (.int (1 : Int32)), .val (.ref u1), .unset] [(.ref u1)])) rfl (hb hby at_62)
    refine Go.of (mkF m 65 #[.val (.int p), .val (.ref b1), .val (.int (1 : Int32)), .val (.ref u1), .unset] [(.ref u1), (.ref u1)]) (st17) ?_
    refine Go.of (mkF m 68 #[.val (.int p), .val (.ref b1), .val (.int (1 : Int32)), .val (.ref u1), .unset] []) (fun t k => Jvm.RoadKit.acmp (g := (mkF m 65 #[.val (.int p), .val (.ref b1), .val (.int (1 : Int32)), .val (.ref u1), .unset] [(.ref u1), (.ref u1)])) X17 hx rfl (x := (.ref u1)) (y := (.ref u1)) rfl rfl (pc0 := 65) (pc' := 68) (same := true) rfl (hb hby at_65) rfl (decide_eq_true rfl) (by decide) (by decide) k) ?_
    refine Go.of (mkF m 69 #[.val (.int p), .val (.ref b1), .val (.int (1 : Int32)), .val (.ref u1), .unset] [(.int (1 : Int32))]) (fun t k => XS.iconst X17.here hx rfl (hb hby at_68) k) ?_
    refine Go.of (mkF m 73 #[.val (.int p), .val (.ref b1), .val (.int (1 : Int32)), .val (.ref u1), .unset] [(.int (1 : Int32))]) (fun t k => XS.goto X17.here hx rfl (pc0 := 69) (pc' := 73) rfl (hb hby at_69) (by decide) (by decide) k) ?_
    refine Go.of (mkF m 75 #[.val (.int p), .val (.ref b1), .val (.int (1 : Int32)), .val (.ref u1), .val (.int (1 : Int32))] []) (fun t k => XS.istore X17.here hx rfl (hb hby at_73) rfl (l' := #[.val (.int p), .val (.ref b1), .val (.int (1 : Int32)), .val (.ref u1), .val (.int (1 : Int32))]) rfl k) ?_
    refine Go.of (mkF m 76 #[.val (.int p), .val (.ref b1), .val (.int (1 : Int32)), .val (.ref u1), .val (.int (1 : Int32))] [(.ref u1)]) (fun t k => XS.aloadN X17.here hx rfl (hb hby at_75) rfl rfl k) ?_
    refine Go.virt X17 hx hZ (y := (⟨"com/example/sealed_ledger/sealedledger/intake/MaskRule", "holdsCredentials", "()Z"⟩ : MethodName)) (z := (⟨"com/example/sealed_ledger/sealedledger/intake/MaskRule", "holdsCredentials", "()Z"⟩ : MethodName)) (a := u1) (argsL := []) (rest := []) hown (tw17 hw) (tw18 hw) (notFace_of_selects (args := #[]) (mvT hZ (tw20 hw))) (tw20 hw) (tw19 hw) (tw3 hw) (tw21 hw) (by decide) e17 Ex1 (rmH1 l Z a0 hw [] u1 h13 Ex1 F1) (g := (mkF m 76 #[.val (.int p), .val (.ref b1), .val (.int (1 : Int32)), .val (.ref u1), .val (.int (1 : Int32))] [(.ref u1)])) rfl (by rw [hml]; rfl) (lenOf pd4 rfl) rfl (W := 0) (by show 2 * 0 + _ ≤ _; exact Nat.le_of_eq rfl) (hb hby at_76) (by decide) (by decide) (by decide) (by decide) ?_
    rintro T18 L18 v18 X18 ⟨rfl, rfl, hh18⟩
    have N18 := Fr.app N13 (Fr.nil n0)
    show Go pr ev below _ T18 (mkF m 79 #[.val (.int p), .val (.ref b1), .val (.int (1 : Int32)), .val (.ref u1), .val (.int (1 : Int32))] [(.int (1 : Int32))])
    refine Go.of (mkF m 81 #[.val (.int p), .val (.ref b1), .val (.int (1 : Int32)), .val (.ref u1), .val (.int (1 : Int32))] [(.int (1 : Int32)), (.int (1 : Int32))]) (fun t k => XS.iload X18.here hx rfl (hb hby at_79) rfl k) ?_
    refine Go.of (mkF m 84 #[.val (.int p), .val (.ref b1), .val (.int (1 : Int32)), .val (.ref u1), .val (.int (1 : Int32))] []) (fun t k => XS.icmpNo X18.here hx rfl (hb hby at_81) rfl (teq (by decide)).2 k) ?_
    refine Go.of (mkF m 85 #[.val (.int p), .val (.ref b1), .val (.int (1 : Int32)), .val (.ref u1), .val (.int (1 : Int32))] [(.int (1 : Int32))]) (fun t k => XS.iconst X18.here hx rfl (hb hby at_84) k) ?_
    refine Go.of (mkF m 89 #[.val (.int p), .val (.ref b1), .val (.int (1 : Int32)), .val (.ref u1), .val (.int (1 : Int32))] [(.int (1 : Int32))]) (fun t k => XS.goto X18.here hx rfl (pc0 := 85) (pc' := 89) rfl (hb hby at_85) (by decide) (by decide) k) ?_
    exact Go.retW X18 hx (t := .boolean) hret hlk rfl (Or.inl ⟨rfl, by simp, _, rfl⟩) (hb hby at_89) (by decide) (by decide) ⟨rfl, N18⟩
  ·
    refine Go.of (mkF m 51 #[.val (.int p), .val (.ref b1), .val (.int (2 : Int32)), .unset, .unset] [(.ref b1)]) (fun t k => XS.aloadN X13.here hx rfl (hb hby at_50) rfl rfl k) ?_
    refine Go.of (mkF m 52 #[.val (.int p), .val (.ref b1), .val (.int (2 : Int32)), .unset, .unset] [(.int (2 : Int32)), (.ref b1)]) (fun t k => XS.iloadN X13.here hx rfl (hb hby at_51) rfl k) ?_
    refine Go.aaload X13 hx hZ e13 V_b1 rfl (by decide) (by decide) (g := (mkF m 52 #[.val (.int p), .val (.ref b1), .val (.int (2 : Int32)), .unset, .unset] [(.int (2 : Int32)), (.ref b1)])) rfl rfl (hb hby at_52) ?_
    show Go pr ev below _ T13 (mkF m 53 #[.val (.int p), .val (.ref b1), .val (.int (2 : Int32)), .unset, .unset] [((fnup (fnup (fnup (fnup (fnup (fnup (fun _ => Value.null) (0 : Int32) (.ref u0)) (1 : Int32) (.ref u1)) (2 : Int32) (.ref u2)) (3 : Int32) (.ref u3)) (4 : Int32) (.ref u4)) (5 : Int32) (.ref u5)) (2 : Int32))])
    rw [show ((fnup (fnup (fnup (fnup (fnup (fnup (fun _ => Value.null) (0 : Int32) (.ref u0)) (1 : Int32) (.ref u1)) (2 : Int32) (.ref u2)) (3 : Int32) (.ref u3)) (4 : Int32) (.ref u4)) (5 : Int32) (.ref u5)) (2 : Int32)) = (.ref u2) from by simp [fnup]]
    show Go pr ev below _ T13 (mkF m 53 #[.val (.int p), .val (.ref b1), .val (.int (2 : Int32)), .unset, .unset] [(.ref u2)])
    refine Go.of (mkF m 54 #[.val (.int p), .val (.ref b1), .val (.int (2 : Int32)), .val (.ref u2), .unset] []) (fun t k => XS.astoreN X13.here hx rfl (hb hby at_53) rfl rfl (l' := #[.val (.int p), .val (.ref b1), .val (.int (2 : Int32)), .val (.ref u2), .unset]) rfl k) ?_
    refine Go.of (mkF m 55 #[.val (.int p), .val (.ref b1), .val (.int (2 : Int32)), .val (.ref u2), .unset] [(.ref u2)]) (fun t k => XS.aloadN X13.here hx rfl (hb hby at_54) rfl rfl k) ?_
    obtain ⟨T19, X19, e19, st19⟩ := getS2 X13 hx hZ hown (host := "") (Or.inl (tw2 hw)) Via.refl e13 S0 (g := (mkF m 55 #[.val (.int p), .val (.ref b1), .val (.int (2 : Int32)), .val (.ref u2), .unset] [(.ref u2)])) rfl (hb hby at_55)
    refine Go.of (mkF m 58 #[.val (.int p), .val (.ref b1), .val (.int (2 : Int32)), .val (.ref u2), .unset] [(.ref u0), (.ref u2)]) (st19) ?_
    refine Go.of (mkF m 61 #[.val (.int p), .val (.ref b1), .val (.int (2 : Int32)), .val (.ref u2), .unset] []) (fun t k => Jvm.RoadKit.acmp (g := (mkF m 58 #[.val (.int p), .val (.ref b1), .val (.int (2 : Int32)), .val (.ref u2), .unset] [(.ref u0), (.ref u2)])) X19 hx rfl (x := (.ref u2)) (y := (.ref u0)) rfl rfl (pc0 := 58) (pc' := 61) (same := false) rfl (hb hby at_58) rfl (decide_eq_false fun q => (Ne.symm nu0_2) (Value.ref.inj q)) (by decide) (by decide) k) ?_
    refine Go.of (mkF m 62 #[.val (.int p), .val (.ref b1), .val (.int (2 : Int32)), .val (.ref u2), .unset] [(.ref u2)]) (fun t k => XS.aloadN X19.here hx rfl (hb hby at_61) rfl rfl k) ?_
    obtain ⟨T20, X20, e20, st20⟩ := getS2 X19 hx hZ hown (host := "") (Or.inl (tw6 hw)) Via.refl e19 S1 (g := (mkF m 62 #[.val (.int p), .val (.ref b1), .val (.int (2 : Int32)), .val (.ref u2), .unset] [(.ref u2)])) rfl (hb hby at_62)
    refine Go.of (mkF m 65 #[.val (.int p), .val (.ref b1), .val (.int (2 : Int32)), .val (.ref u2), .unset] [(.ref u1), (.ref u2)]) (st20) ?_
    refine Go.of (mkF m 72 #[.val (.int p), .val (.ref b1), .val (.int (2 : Int32)), .val (.ref u2), .unset] []) (fun t k => Jvm.RoadKit.acmp (g := (mkF m 65 #[.val (.int p), .val (.ref b1), .val (.int (2 : Int32)), .val (.ref u2), .unset] [(.ref u1), (.ref u2)])) X20 hx rfl (x := (.ref u2)) (y := (.ref u1)) rfl rfl (pc0 := 65) (pc' := 72) (same := false) rfl (hb hby at_65) rfl (decide_eq_false fun q => (Ne.symm nu1_2) (Value.ref.inj q)) (by decide) (by decide) k) ?_
    refine Go.of (mkF m 73 #[.val (.int p), .val (.ref b1), .val (.int (2 : Int32)), .val (.ref u2), .unset] [(.int (0 : Int32))]) (fun t k => XS.iconst X20.here hx rfl (hb hby at_72) k) ?_
    refine Go.of (mkF m 75 #[.val (.int p), .val (.ref b1), .val (.int (2 : Int32)), .val (.ref u2), .val (.int (0 : Int32))] []) (fun t k => XS.istore X20.here hx rfl (hb hby at_73) rfl (l' := #[.val (.int p), .val (.ref b1), .val (.int (2 : Int32)), .val (.ref u2), .val (.int (0 : Int32))]) rfl k) ?_
    refine Go.of (mkF m 76 #[.val (.int p), .val (.ref b1), .val (.int (2 : Int32)), .val (.ref u2), .val (.int (0 : Int32))] [(.ref u2)]) (fun t k => XS.aloadN X20.here hx rfl (hb hby at_75) rfl rfl k) ?_
    refine Go.virt X20 hx hZ (y := (⟨"com/example/sealed_ledger/sealedledger/intake/MaskRule", "holdsCredentials", "()Z"⟩ : MethodName)) (z := (⟨"com/example/sealed_ledger/sealedledger/intake/MaskRule", "holdsCredentials", "()Z"⟩ : MethodName)) (a := u2) (argsL := []) (rest := []) hown (tw17 hw) (tw18 hw) (notFace_of_selects (args := #[]) (mvT hZ (tw20 hw))) (tw20 hw) (tw19 hw) (tw3 hw) (tw21 hw) (by decide) e20 Ex2 (rmH2 l Z a0 hw [] u2 h13 Ex2 F2) (g := (mkF m 76 #[.val (.int p), .val (.ref b1), .val (.int (2 : Int32)), .val (.ref u2), .val (.int (0 : Int32))] [(.ref u2)])) rfl (by rw [hml]; rfl) (lenOf pd4 rfl) rfl (W := 0) (by show 2 * 0 + _ ≤ _; exact Nat.le_of_eq rfl) (hb hby at_76) (by decide) (by decide) (by decide) (by decide) ?_
    rintro T21 L21 v21 X21 ⟨rfl, rfl, hh21⟩
    have N21 := Fr.app N13 (Fr.nil n0)
    show Go pr ev below _ T21 (mkF m 79 #[.val (.int p), .val (.ref b1), .val (.int (2 : Int32)), .val (.ref u2), .val (.int (0 : Int32))] [(.int (0 : Int32))])
    refine Go.of (mkF m 81 #[.val (.int p), .val (.ref b1), .val (.int (2 : Int32)), .val (.ref u2), .val (.int (0 : Int32))] [(.int (0 : Int32)), (.int (0 : Int32))]) (fun t k => XS.iload X21.here hx rfl (hb hby at_79) rfl k) ?_
    refine Go.of (mkF m 84 #[.val (.int p), .val (.ref b1), .val (.int (2 : Int32)), .val (.ref u2), .val (.int (0 : Int32))] []) (fun t k => XS.icmpNo X21.here hx rfl (hb hby at_81) rfl (teq (by decide)).2 k) ?_
    refine Go.of (mkF m 85 #[.val (.int p), .val (.ref b1), .val (.int (2 : Int32)), .val (.ref u2), .val (.int (0 : Int32))] [(.int (1 : Int32))]) (fun t k => XS.iconst X21.here hx rfl (hb hby at_84) k) ?_
    refine Go.of (mkF m 89 #[.val (.int p), .val (.ref b1), .val (.int (2 : Int32)), .val (.ref u2), .val (.int (0 : Int32))] [(.int (1 : Int32))]) (fun t k => XS.goto X21.here hx rfl (pc0 := 85) (pc' := 89) rfl (hb hby at_85) (by decide) (by decide) k) ?_
    exact Go.retW X21 hx (t := .boolean) hret hlk rfl (Or.inl ⟨rfl, by simp, _, rfl⟩) (hb hby at_89) (by decide) (by decide) ⟨rfl, N21⟩
  ·
    refine Go.of (mkF m 51 #[.val (.int p), .val (.ref b1), .val (.int (3 : Int32)), .unset, .unset] [(.ref b1)]) (fun t k => XS.aloadN X13.here hx rfl (hb hby at_50) rfl rfl k) ?_
    refine Go.of (mkF m 52 #[.val (.int p), .val (.ref b1), .val (.int (3 : Int32)), .unset, .unset] [(.int (3 : Int32)), (.ref b1)]) (fun t k => XS.iloadN X13.here hx rfl (hb hby at_51) rfl k) ?_
    refine Go.aaload X13 hx hZ e13 V_b1 rfl (by decide) (by decide) (g := (mkF m 52 #[.val (.int p), .val (.ref b1), .val (.int (3 : Int32)), .unset, .unset] [(.int (3 : Int32)), (.ref b1)])) rfl rfl (hb hby at_52) ?_
    show Go pr ev below _ T13 (mkF m 53 #[.val (.int p), .val (.ref b1), .val (.int (3 : Int32)), .unset, .unset] [((fnup (fnup (fnup (fnup (fnup (fnup (fun _ => Value.null) (0 : Int32) (.ref u0)) (1 : Int32) (.ref u1)) (2 : Int32) (.ref u2)) (3 : Int32) (.ref u3)) (4 : Int32) (.ref u4)) (5 : Int32) (.ref u5)) (3 : Int32))])
    rw [show ((fnup (fnup (fnup (fnup (fnup (fnup (fun _ => Value.null) (0 : Int32) (.ref u0)) (1 : Int32) (.ref u1)) (2 : Int32) (.ref u2)) (3 : Int32) (.ref u3)) (4 : Int32) (.ref u4)) (5 : Int32) (.ref u5)) (3 : Int32)) = (.ref u3) from by simp [fnup]]
    show Go pr ev below _ T13 (mkF m 53 #[.val (.int p), .val (.ref b1), .val (.int (3 : Int32)), .unset, .unset] [(.ref u3)])
    refine Go.of (mkF m 54 #[.val (.int p), .val (.ref b1), .val (.int (3 : Int32)), .val (.ref u3), .unset] []) (fun t k => XS.astoreN X13.here hx rfl (hb hby at_53) rfl rfl (l' := #[.val (.int p), .val (.ref b1), .val (.int (3 : Int32)), .val (.ref u3), .unset]) rfl k) ?_
    refine Go.of (mkF m 55 #[.val (.int p), .val (.ref b1), .val (.int (3 : Int32)), .val (.ref u3), .unset] [(.ref u3)]) (fun t k => XS.aloadN X13.here hx rfl (hb hby at_54) rfl rfl k) ?_
    obtain ⟨T22, X22, e22, st22⟩ := getS2 X13 hx hZ hown (host := "") (Or.inl (tw2 hw)) Via.refl e13 S0 (g := (mkF m 55 #[.val (.int p), .val (.ref b1), .val (.int (3 : Int32)), .val (.ref u3), .unset] [(.ref u3)])) rfl (hb hby at_55)
    refine Go.of (mkF m 58 #[.val (.int p), .val (.ref b1), .val (.int (3 : Int32)), .val (.ref u3), .unset] [(.ref u0), (.ref u3)]) (st22) ?_
    refine Go.of (mkF m 61 #[.val (.int p), .val (.ref b1), .val (.int (3 : Int32)), .val (.ref u3), .unset] []) (fun t k => Jvm.RoadKit.acmp (g := (mkF m 58 #[.val (.int p), .val (.ref b1), .val (.int (3 : Int32)), .val (.ref u3), .unset] [(.ref u0), (.ref u3)])) X22 hx rfl (x := (.ref u3)) (y := (.ref u0)) rfl rfl (pc0 := 58) (pc' := 61) (same := false) rfl (hb hby at_58) rfl (decide_eq_false fun q => (Ne.symm nu0_3) (Value.ref.inj q)) (by decide) (by decide) k) ?_
    refine Go.of (mkF m 62 #[.val (.int p), .val (.ref b1), .val (.int (3 : Int32)), .val (.ref u3), .unset] [(.ref u3)]) (fun t k => XS.aloadN X22.here hx rfl (hb hby at_61) rfl rfl k) ?_
    obtain ⟨T23, X23, e23, st23⟩ := getS2 X22 hx hZ hown (host := "") (Or.inl (tw6 hw)) Via.refl e22 S1 (g := (mkF m 62 #[.val (.int p), .val (.ref b1), .val (.int (3 : Int32)), .val (.ref u3), .unset] [(.ref u3)])) rfl (hb hby at_62)
    refine Go.of (mkF m 65 #[.val (.int p), .val (.ref b1), .val (.int (3 : Int32)), .val (.ref u3), .unset] [(.ref u1), (.ref u3)]) (st23) ?_
    refine Go.of (mkF m 72 #[.val (.int p), .val (.ref b1), .val (.int (3 : Int32)), .val (.ref u3), .unset] []) (fun t k => Jvm.RoadKit.acmp (g := (mkF m 65 #[.val (.int p), .val (.ref b1), .val (.int (3 : Int32)), .val (.ref u3), .unset] [(.ref u1), (.ref u3)])) X23 hx rfl (x := (.ref u3)) (y := (.ref u1)) rfl rfl (pc0 := 65) (pc' := 72) (same := false) rfl (hb hby at_65) rfl (decide_eq_false fun q => (Ne.symm nu1_3) (Value.ref.inj q)) (by decide) (by decide) k) ?_
    refine Go.of (mkF m 73 #[.val (.int p), .val (.ref b1), .val (.int (3 : Int32)), .val (.ref u3), .unset] [(.int (0 : Int32))]) (fun t k => XS.iconst X23.here hx rfl (hb hby at_72) k) ?_
    refine Go.of (mkF m 75 #[.val (.int p), .val (.ref b1), .val (.int (3 : Int32)), .val (.ref u3), .val (.int (0 : Int32))] []) (fun t k => XS.istore X23.here hx rfl (hb hby at_73) rfl (l' := #[.val (.int p), .val (.ref b1), .val (.int (3 : Int32)), .val (.ref u3), .val (.int (0 : Int32))]) rfl k) ?_
    refine Go.of (mkF m 76 #[.val (.int p), .val (.ref b1), .val (.int (3 : Int32)), .val (.ref u3), .val (.int (0 : Int32))] [(.ref u3)]) (fun t k => XS.aloadN X23.here hx rfl (hb hby at_75) rfl rfl k) ?_
    refine Go.virt X23 hx hZ (y := (⟨"com/example/sealed_ledger/sealedledger/intake/MaskRule", "holdsCredentials", "()Z"⟩ : MethodName)) (z := (⟨"com/example/sealed_ledger/sealedledger/intake/MaskRule", "holdsCredentials", "()Z"⟩ : MethodName)) (a := u3) (argsL := []) (rest := []) hown (tw17 hw) (tw18 hw) (notFace_of_selects (args := #[]) (mvT hZ (tw20 hw))) (tw20 hw) (tw19 hw) (tw3 hw) (tw21 hw) (by decide) e23 Ex3 (rmH3 l Z a0 hw [] u3 h13 Ex3 F3) (g := (mkF m 76 #[.val (.int p), .val (.ref b1), .val (.int (3 : Int32)), .val (.ref u3), .val (.int (0 : Int32))] [(.ref u3)])) rfl (by rw [hml]; rfl) (lenOf pd4 rfl) rfl (W := 0) (by show 2 * 0 + _ ≤ _; exact Nat.le_of_eq rfl) (hb hby at_76) (by decide) (by decide) (by decide) (by decide) ?_
    rintro T24 L24 v24 X24 ⟨rfl, rfl, hh24⟩
    have N24 := Fr.app N13 (Fr.nil n0)
    show Go pr ev below _ T24 (mkF m 79 #[.val (.int p), .val (.ref b1), .val (.int (3 : Int32)), .val (.ref u3), .val (.int (0 : Int32))] [(.int (0 : Int32))])
    refine Go.of (mkF m 81 #[.val (.int p), .val (.ref b1), .val (.int (3 : Int32)), .val (.ref u3), .val (.int (0 : Int32))] [(.int (0 : Int32)), (.int (0 : Int32))]) (fun t k => XS.iload X24.here hx rfl (hb hby at_79) rfl k) ?_
    refine Go.of (mkF m 84 #[.val (.int p), .val (.ref b1), .val (.int (3 : Int32)), .val (.ref u3), .val (.int (0 : Int32))] []) (fun t k => XS.icmpNo X24.here hx rfl (hb hby at_81) rfl (teq (by decide)).2 k) ?_
    refine Go.of (mkF m 85 #[.val (.int p), .val (.ref b1), .val (.int (3 : Int32)), .val (.ref u3), .val (.int (0 : Int32))] [(.int (1 : Int32))]) (fun t k => XS.iconst X24.here hx rfl (hb hby at_84) k) ?_
    refine Go.of (mkF m 89 #[.val (.int p), .val (.ref b1), .val (.int (3 : Int32)), .val (.ref u3), .val (.int (0 : Int32))] [(.int (1 : Int32))]) (fun t k => XS.goto X24.here hx rfl (pc0 := 85) (pc' := 89) rfl (hb hby at_85) (by decide) (by decide) k) ?_
    exact Go.retW X24 hx (t := .boolean) hret hlk rfl (Or.inl ⟨rfl, by simp, _, rfl⟩) (hb hby at_89) (by decide) (by decide) ⟨rfl, N24⟩
  ·
    refine Go.of (mkF m 51 #[.val (.int p), .val (.ref b1), .val (.int (4 : Int32)), .unset, .unset] [(.ref b1)]) (fun t k => XS.aloadN X13.here hx rfl (hb hby at_50) rfl rfl k) ?_
    refine Go.of (mkF m 52 #[.val (.int p), .val (.ref b1), .val (.int (4 : Int32)), .unset, .unset] [(.int (4 : Int32)), (.ref b1)]) (fun t k => XS.iloadN X13.here hx rfl (hb hby at_51) rfl k) ?_
    refine Go.aaload X13 hx hZ e13 V_b1 rfl (by decide) (by decide) (g := (mkF m 52 #[.val (.int p), .val (.ref b1), .val (.int (4 : Int32)), .unset, .unset] [(.int (4 : Int32)), (.ref b1)])) rfl rfl (hb hby at_52) ?_
    show Go pr ev below _ T13 (mkF m 53 #[.val (.int p), .val (.ref b1), .val (.int (4 : Int32)), .unset, .unset] [((fnup (fnup (fnup (fnup (fnup (fnup (fun _ => Value.null) (0 : Int32) (.ref u0)) (1 : Int32) (.ref u1)) (2 : Int32) (.ref u2)) (3 : Int32) (.ref u3)) (4 : Int32) (.ref u4)) (5 : Int32) (.ref u5)) (4 : Int32))])
    rw [show ((fnup (fnup (fnup (fnup (fnup (fnup (fun _ => Value.null) (0 : Int32) (.ref u0)) (1 : Int32) (.ref u1)) (2 : Int32) (.ref u2)) (3 : Int32) (.ref u3)) (4 : Int32) (.ref u4)) (5 : Int32) (.ref u5)) (4 : Int32)) = (.ref u4) from by simp [fnup]]
    show Go pr ev below _ T13 (mkF m 53 #[.val (.int p), .val (.ref b1), .val (.int (4 : Int32)), .unset, .unset] [(.ref u4)])
    refine Go.of (mkF m 54 #[.val (.int p), .val (.ref b1), .val (.int (4 : Int32)), .val (.ref u4), .unset] []) (fun t k => XS.astoreN X13.here hx rfl (hb hby at_53) rfl rfl (l' := #[.val (.int p), .val (.ref b1), .val (.int (4 : Int32)), .val (.ref u4), .unset]) rfl k) ?_
    refine Go.of (mkF m 55 #[.val (.int p), .val (.ref b1), .val (.int (4 : Int32)), .val (.ref u4), .unset] [(.ref u4)]) (fun t k => XS.aloadN X13.here hx rfl (hb hby at_54) rfl rfl k) ?_
    obtain ⟨T25, X25, e25, st25⟩ := getS2 X13 hx hZ hown (host := "") (Or.inl (tw2 hw)) Via.refl e13 S0 (g := (mkF m 55 #[.val (.int p), .val (.ref b1), .val (.int (4 : Int32)), .val (.ref u4), .unset] [(.ref u4)])) rfl (hb hby at_55)
    refine Go.of (mkF m 58 #[.val (.int p), .val (.ref b1), .val (.int (4 : Int32)), .val (.ref u4), .unset] [(.ref u0), (.ref u4)]) (st25) ?_
    refine Go.of (mkF m 61 #[.val (.int p), .val (.ref b1), .val (.int (4 : Int32)), .val (.ref u4), .unset] []) (fun t k => Jvm.RoadKit.acmp (g := (mkF m 58 #[.val (.int p), .val (.ref b1), .val (.int (4 : Int32)), .val (.ref u4), .unset] [(.ref u0), (.ref u4)])) X25 hx rfl (x := (.ref u4)) (y := (.ref u0)) rfl rfl (pc0 := 58) (pc' := 61) (same := false) rfl (hb hby at_58) rfl (decide_eq_false fun q => (Ne.symm nu0_4) (Value.ref.inj q)) (by decide) (by decide) k) ?_
    refine Go.of (mkF m 62 #[.val (.int p), .val (.ref b1), .val (.int (4 : Int32)), .val (.ref u4), .unset] [(.ref u4)]) (fun t k => XS.aloadN X25.here hx rfl (hb hby at_61) rfl rfl k) ?_
    obtain ⟨T26, X26, e26, st26⟩ := getS2 X25 hx hZ hown (host := "") (Or.inl (tw6 hw)) Via.refl e25 S1 (g := (mkF m 62 #[.val (.int p), .val (.ref b1), .val (.int (4 : Int32)), .val (.ref u4), .unset] [(.ref u4)])) rfl (hb hby at_62)
    refine Go.of (mkF m 65 #[.val (.int p), .val (.ref b1), .val (.int (4 : Int32)), .val (.ref u4), .unset] [(.ref u1), (.ref u4)]) (st26) ?_
    refine Go.of (mkF m 72 #[.val (.int p), .val (.ref b1), .val (.int (4 : Int32)), .val (.ref u4), .unset] []) (fun t k => Jvm.RoadKit.acmp (g := (mkF m 65 #[.val (.int p), .val (.ref b1), .val (.int (4 : Int32)), .val (.ref u4), .unset] [(.ref u1), (.ref u4)])) X26 hx rfl (x := (.ref u4)) (y := (.ref u1)) rfl rfl (pc0 := 65) (pc' := 72) (same := false) rfl (hb hby at_65) rfl (decide_eq_false fun q => (Ne.symm nu1_4) (Value.ref.inj q)) (by decide) (by decide) k) ?_
    refine Go.of (mkF m 73 #[.val (.int p), .val (.ref b1), .val (.int (4 : Int32)), .val (.ref u4), .unset] [(.int (0 : Int32))]) (fun t k => XS.iconst X26.here hx rfl (hb hby at_72) k) ?_
    refine Go.of (mkF m 75 #[.val (.int p), .val (.ref b1), .val (.int (4 : Int32)), .val (.ref u4), .val (.int (0 : Int32))] []) (fun t k => XS.istore X26.here hx rfl (hb hby at_73) rfl (l' := #[.val (.int p), .val (.ref b1), .val (.int (4 : Int32)), .val (.ref u4), .val (.int (0 : Int32))]) rfl k) ?_
    refine Go.of (mkF m 76 #[.val (.int p), .val (.ref b1), .val (.int (4 : Int32)), .val (.ref u4), .val (.int (0 : Int32))] [(.ref u4)]) (fun t k => XS.aloadN X26.here hx rfl (hb hby at_75) rfl rfl k) ?_
    refine Go.virt X26 hx hZ (y := (⟨"com/example/sealed_ledger/sealedledger/intake/MaskRule", "holdsCredentials", "()Z"⟩ : MethodName)) (z := (⟨"com/example/sealed_ledger/sealedledger/intake/MaskRule", "holdsCredentials", "()Z"⟩ : MethodName)) (a := u4) (argsL := []) (rest := []) hown (tw17 hw) (tw18 hw) (notFace_of_selects (args := #[]) (mvT hZ (tw20 hw))) (tw20 hw) (tw19 hw) (tw3 hw) (tw21 hw) (by decide) e26 Ex4 (rmH4 l Z a0 hw [] u4 h13 Ex4 F4) (g := (mkF m 76 #[.val (.int p), .val (.ref b1), .val (.int (4 : Int32)), .val (.ref u4), .val (.int (0 : Int32))] [(.ref u4)])) rfl (by rw [hml]; rfl) (lenOf pd4 rfl) rfl (W := 0) (by show 2 * 0 + _ ≤ _; exact Nat.le_of_eq rfl) (hb hby at_76) (by decide) (by decide) (by decide) (by decide) ?_
    rintro T27 L27 v27 X27 ⟨rfl, rfl, hh27⟩
    have N27 := Fr.app N13 (Fr.nil n0)
    show Go pr ev below _ T27 (mkF m 79 #[.val (.int p), .val (.ref b1), .val (.int (4 : Int32)), .val (.ref u4), .val (.int (0 : Int32))] [(.int (0 : Int32))])
    refine Go.of (mkF m 81 #[.val (.int p), .val (.ref b1), .val (.int (4 : Int32)), .val (.ref u4), .val (.int (0 : Int32))] [(.int (0 : Int32)), (.int (0 : Int32))]) (fun t k => XS.iload X27.here hx rfl (hb hby at_79) rfl k) ?_
    refine Go.of (mkF m 84 #[.val (.int p), .val (.ref b1), .val (.int (4 : Int32)), .val (.ref u4), .val (.int (0 : Int32))] []) (fun t k => XS.icmpNo X27.here hx rfl (hb hby at_81) rfl (teq (by decide)).2 k) ?_
    refine Go.of (mkF m 85 #[.val (.int p), .val (.ref b1), .val (.int (4 : Int32)), .val (.ref u4), .val (.int (0 : Int32))] [(.int (1 : Int32))]) (fun t k => XS.iconst X27.here hx rfl (hb hby at_84) k) ?_
    refine Go.of (mkF m 89 #[.val (.int p), .val (.ref b1), .val (.int (4 : Int32)), .val (.ref u4), .val (.int (0 : Int32))] [(.int (1 : Int32))]) (fun t k => XS.goto X27.here hx rfl (pc0 := 85) (pc' := 89) rfl (hb hby at_85) (by decide) (by decide) k) ?_
    exact Go.retW X27 hx (t := .boolean) hret hlk rfl (Or.inl ⟨rfl, by simp, _, rfl⟩) (hb hby at_89) (by decide) (by decide) ⟨rfl, N27⟩
  ·
    refine Go.of (mkF m 51 #[.val (.int p), .val (.ref b1), .val (.int (5 : Int32)), .unset, .unset] [(.ref b1)]) (fun t k => XS.aloadN X13.here hx rfl (hb hby at_50) rfl rfl k) ?_
    refine Go.of (mkF m 52 #[.val (.int p), .val (.ref b1), .val (.int (5 : Int32)), .unset, .unset] [(.int (5 : Int32)), (.ref b1)]) (fun t k => XS.iloadN X13.here hx rfl (hb hby at_51) rfl k) ?_
    refine Go.aaload X13 hx hZ e13 V_b1 rfl (by decide) (by decide) (g := (mkF m 52 #[.val (.int p), .val (.ref b1), .val (.int (5 : Int32)), .unset, .unset] [(.int (5 : Int32)), (.ref b1)])) rfl rfl (hb hby at_52) ?_
    show Go pr ev below _ T13 (mkF m 53 #[.val (.int p), .val (.ref b1), .val (.int (5 : Int32)), .unset, .unset] [((fnup (fnup (fnup (fnup (fnup (fnup (fun _ => Value.null) (0 : Int32) (.ref u0)) (1 : Int32) (.ref u1)) (2 : Int32) (.ref u2)) (3 : Int32) (.ref u3)) (4 : Int32) (.ref u4)) (5 : Int32) (.ref u5)) (5 : Int32))])
    rw [show ((fnup (fnup (fnup (fnup (fnup (fnup (fun _ => Value.null) (0 : Int32) (.ref u0)) (1 : Int32) (.ref u1)) (2 : Int32) (.ref u2)) (3 : Int32) (.ref u3)) (4 : Int32) (.ref u4)) (5 : Int32) (.ref u5)) (5 : Int32)) = (.ref u5) from by simp [fnup]]
    show Go pr ev below _ T13 (mkF m 53 #[.val (.int p), .val (.ref b1), .val (.int (5 : Int32)), .unset, .unset] [(.ref u5)])
    refine Go.of (mkF m 54 #[.val (.int p), .val (.ref b1), .val (.int (5 : Int32)), .val (.ref u5), .unset] []) (fun t k => XS.astoreN X13.here hx rfl (hb hby at_53) rfl rfl (l' := #[.val (.int p), .val (.ref b1), .val (.int (5 : Int32)), .val (.ref u5), .unset]) rfl k) ?_
    refine Go.of (mkF m 55 #[.val (.int p), .val (.ref b1), .val (.int (5 : Int32)), .val (.ref u5), .unset] [(.ref u5)]) (fun t k => XS.aloadN X13.here hx rfl (hb hby at_54) rfl rfl k) ?_
    obtain ⟨T28, X28, e28, st28⟩ := getS2 X13 hx hZ hown (host := "") (Or.inl (tw2 hw)) Via.refl e13 S0 (g := (mkF m 55 #[.val (.int p), .val (.ref b1), .val (.int (5 : Int32)), .val (.ref u5), .unset] [(.ref u5)])) rfl (hb hby at_55)
    refine Go.of (mkF m 58 #[.val (.int p), .val (.ref b1), .val (.int (5 : Int32)), .val (.ref u5), .unset] [(.ref u0), (.ref u5)]) (st28) ?_
    refine Go.of (mkF m 61 #[.val (.int p), .val (.ref b1), .val (.int (5 : Int32)), .val (.ref u5), .unset] []) (fun t k => Jvm.RoadKit.acmp (g := (mkF m 58 #[.val (.int p), .val (.ref b1), .val (.int (5 : Int32)), .val (.ref u5), .unset] [(.ref u0), (.ref u5)])) X28 hx rfl (x := (.ref u5)) (y := (.ref u0)) rfl rfl (pc0 := 58) (pc' := 61) (same := false) rfl (hb hby at_58) rfl (decide_eq_false fun q => (Ne.symm nu0_5) (Value.ref.inj q)) (by decide) (by decide) k) ?_
    refine Go.of (mkF m 62 #[.val (.int p), .val (.ref b1), .val (.int (5 : Int32)), .val (.ref u5), .unset] [(.ref u5)]) (fun t k => XS.aloadN X28.here hx rfl (hb hby at_61) rfl rfl k) ?_
    obtain ⟨T29, X29, e29, st29⟩ := getS2 X28 hx hZ hown (host := "") (Or.inl (tw6 hw)) Via.refl e28 S1 (g := (mkF m 62 #[.val (.int p), .val (.ref b1), .val (.int (5 : Int32)), .val (.ref u5), .unset] [(.ref u5)])) rfl (hb hby at_62)
    refine Go.of (mkF m 65 #[.val (.int p), .val (.ref b1), .val (.int (5 : Int32)), .val (.ref u5), .unset] [(.ref u1), (.ref u5)]) (st29) ?_
    refine Go.of (mkF m 72 #[.val (.int p), .val (.ref b1), .val (.int (5 : Int32)), .val (.ref u5), .unset] []) (fun t k => Jvm.RoadKit.acmp (g := (mkF m 65 #[.val (.int p), .val (.ref b1), .val (.int (5 : Int32)), .val (.ref u5), .unset] [(.ref u1), (.ref u5)])) X29 hx rfl (x := (.ref u5)) (y := (.ref u1)) rfl rfl (pc0 := 65) (pc' := 72) (same := false) rfl (hb hby at_65) rfl (decide_eq_false fun q => (Ne.symm nu1_5) (Value.ref.inj q)) (by decide) (by decide) k) ?_
    refine Go.of (mkF m 73 #[.val (.int p), .val (.ref b1), .val (.int (5 : Int32)), .val (.ref u5), .unset] [(.int (0 : Int32))]) (fun t k => XS.iconst X29.here hx rfl (hb hby at_72) k) ?_
    refine Go.of (mkF m 75 #[.val (.int p), .val (.ref b1), .val (.int (5 : Int32)), .val (.ref u5), .val (.int (0 : Int32))] []) (fun t k => XS.istore X29.here hx rfl (hb hby at_73) rfl (l' := #[.val (.int p), .val (.ref b1), .val (.int (5 : Int32)), .val (.ref u5), .val (.int (0 : Int32))]) rfl k) ?_
    refine Go.of (mkF m 76 #[.val (.int p), .val (.ref b1), .val (.int (5 : Int32)), .val (.ref u5), .val (.int (0 : Int32))] [(.ref u5)]) (fun t k => XS.aloadN X29.here hx rfl (hb hby at_75) rfl rfl k) ?_
    refine Go.virt X29 hx hZ (y := (⟨"com/example/sealed_ledger/sealedledger/intake/MaskRule", "holdsCredentials", "()Z"⟩ : MethodName)) (z := (⟨"com/example/sealed_ledger/sealedledger/intake/MaskRule", "holdsCredentials", "()Z"⟩ : MethodName)) (a := u5) (argsL := []) (rest := []) hown (tw17 hw) (tw18 hw) (notFace_of_selects (args := #[]) (mvT hZ (tw20 hw))) (tw20 hw) (tw19 hw) (tw3 hw) (tw21 hw) (by decide) e29 Ex5 (rmH5 l Z a0 hw [] u5 h13 Ex5 F5) (g := (mkF m 76 #[.val (.int p), .val (.ref b1), .val (.int (5 : Int32)), .val (.ref u5), .val (.int (0 : Int32))] [(.ref u5)])) rfl (by rw [hml]; rfl) (lenOf pd4 rfl) rfl (W := 0) (by show 2 * 0 + _ ≤ _; exact Nat.le_of_eq rfl) (hb hby at_76) (by decide) (by decide) (by decide) (by decide) ?_
    rintro T30 L30 v30 X30 ⟨rfl, rfl, hh30⟩
    have N30 := Fr.app N13 (Fr.nil n0)
    show Go pr ev below _ T30 (mkF m 79 #[.val (.int p), .val (.ref b1), .val (.int (5 : Int32)), .val (.ref u5), .val (.int (0 : Int32))] [(.int (0 : Int32))])
    refine Go.of (mkF m 81 #[.val (.int p), .val (.ref b1), .val (.int (5 : Int32)), .val (.ref u5), .val (.int (0 : Int32))] [(.int (0 : Int32)), (.int (0 : Int32))]) (fun t k => XS.iload X30.here hx rfl (hb hby at_79) rfl k) ?_
    refine Go.of (mkF m 84 #[.val (.int p), .val (.ref b1), .val (.int (5 : Int32)), .val (.ref u5), .val (.int (0 : Int32))] []) (fun t k => XS.icmpNo X30.here hx rfl (hb hby at_81) rfl (teq (by decide)).2 k) ?_
    refine Go.of (mkF m 85 #[.val (.int p), .val (.ref b1), .val (.int (5 : Int32)), .val (.ref u5), .val (.int (0 : Int32))] [(.int (1 : Int32))]) (fun t k => XS.iconst X30.here hx rfl (hb hby at_84) k) ?_
    refine Go.of (mkF m 89 #[.val (.int p), .val (.ref b1), .val (.int (5 : Int32)), .val (.ref u5), .val (.int (0 : Int32))] [(.int (1 : Int32))]) (fun t k => XS.goto X30.here hx rfl (pc0 := 85) (pc' := 89) rfl (hb hby at_85) (by decide) (by decide) k) ?_
    exact Go.retW X30 hx (t := .boolean) hret hlk rfl (Or.inl ⟨rfl, by simp, _, rfl⟩) (hb hby at_89) (by decide) (by decide) ⟨rfl, N30⟩
set_option maxRecDepth 65536 in
set_option maxHeartbeats 40000000 in
theorem comes_1 {Post : Tables → Env → Array Value → State → Outcome → State → Prop} (hpost : ∀ tb e args s v u, (limb_1_1.after args s (.returned v) u = true ∧ limb_1_2.after args s (.returned v) u = true ∧ True) → FrameEnd s (.returned v) u (Jvm.fieldLocs frame_1_writes args s ++ Jvm.arrayLocs frame_1_arrays args s ++ Jvm.staticLocs frame_1_statics s) 16 128 → Post tb e args s (.returned v) u) :
    ArmFor flags0 classFile x code maxLocals ret World_1 tables_1 room_1 Calls_1 rest_1 Pre_1 Post := by
  intro l hfl _ _ p e ha hc hk s m args below hf hA hF happ hP
  obtain ⟨hcalls, hrest, hpre⟩ := hP
  obtain ⟨-, -, -, hnamed, -, -, -, hat⟩ := (Spec.applies_iff hf).mp happ
  obtain ⟨hg, hn⟩ := and_e (Cond.before_iff.mp (show (Jvm.Cond.and given_1 narrow_1).before args s = true from hpre))
  obtain ⟨gc, gr⟩ := and_e hg
  have gi0 := gr
  obtain ⟨w0, rfl⟩ : ∃ w0 : Value, args = #[w0] := by
    have hs : args.size = 1 := by simpa [Cond.value, given_1] using gc
    obtain ⟨L⟩ := args
    match L, hs with
    | [w0], _ => exact ⟨w0, rfl⟩
  have hw := fun d (hd : d ∈ tables_1) => atoms_spec (ws := Jvm.Cond.code x code maxLocals ret :: tables_1) hat d (List.mem_cons_of_mem _ hd)
  have hfit : Fit s := fun {y c} hc i hi => by
    obtain ⟨ha, rfl⟩ := Array.getElem?_eq_some_iff.mp hc
    have q := List.all_eq_true.mp ((Array.all_eq_true_iff_forall_mem.mp hF) _ (Array.getElem_mem ha)) i (List.mem_range.mpr hi)
    simpa [Array.getElem?_eq_getElem hi] using q
  obtain ⟨i0, ei0⟩ := is_v gi0
  obtain rfl : w0 = (.int i0) := Option.some.inj ei0
  obtain ⟨m0, hn⟩ := and_e hn
  obtain ⟨m1, hn⟩ := and_e hn
  obtain ⟨m2, hn⟩ := and_e hn
  obtain ⟨m3, hn⟩ := and_e hn
  obtain ⟨m4, hn⟩ := and_e hn
  obtain ⟨m5, hn⟩ := and_e hn
  obtain ⟨f0, hn⟩ := and_e hn
  obtain ⟨f3, hn⟩ := and_e hn
  obtain ⟨f1, hn⟩ := and_e hn
  obtain ⟨f2, hn⟩ := and_e hn
  obtain ⟨f5, hn⟩ := and_e hn
  have f4 := hn
  obtain ⟨u0, q0⟩ := exa_v m0
  have S0 := Sta.start q0 (Or.inr ⟨(tw3 hw), (tw4 hw)⟩)
  have Ex0 := Exa.start q0 m0
  have F0 := own_fi f0 q0
  obtain ⟨u1, q1⟩ := exa_v m1
  have S1 := Sta.start q1 (Or.inr ⟨(tw3 hw), (tw7 hw)⟩)
  have Ex1 := Exa.start q1 m1
  have F1 := own_fi f1 q1
  obtain ⟨u2, q2⟩ := exa_v m2
  have S2 := Sta.start q2 (Or.inr ⟨(tw3 hw), (tw9 hw)⟩)
  have Ex2 := Exa.start q2 m2
  have F2 := own_fi f2 q2
  obtain ⟨u3, q3⟩ := exa_v m3
  have S3 := Sta.start q3 (Or.inr ⟨(tw3 hw), (tw11 hw)⟩)
  have Ex3 := Exa.start q3 m3
  have F3 := own_fi f3 q3
  obtain ⟨u4, q4⟩ := exa_v m4
  have S4 := Sta.start q4 (Or.inr ⟨(tw3 hw), (tw13 hw)⟩)
  have Ex4 := Exa.start q4 m4
  have F4 := own_fi f4 q4
  obtain ⟨u5, q5⟩ := exa_v m5
  have S5 := Sta.start q5 (Or.inr ⟨(tw3 hw), (tw15 hw)⟩)
  have Ex5 := Exa.start q5 m5
  have F5 := own_fi f5 q5
  obtain ⟨n, o, h1, h2, h3, _, L, rfl, ⟨rfl, N⟩, hq⟩ := rm0 l s _ hw tables_1 i0 s.heap s.heap.size (Nat.le_refl _) u0 u1 u2 u3 u4 u5 S0 Ex0 F0 S1 Ex1 F1 S2 Ex2 F2 S3 Ex3 F3 S4 Ex4 F4 S5 Ex5 F5 p e ha hc hk s m _ below hf ((Spec.applies_iff_loose hf).mp happ).1 ⟨rfl, State.Warmed39.refl s, rfl⟩ trivial
  refine ⟨n, _, h1, h2, h3, hpost _ _ _ _ _ _ ⟨Cond.after_iff.mpr rfl, Cond.after_iff.mpr (eq_i res_at (Term.int_eval (1)) rfl), trivial⟩ ⟨hq.1, hq.2.1, (hq.2.2.sift fun y hy => Or.inr (N y hy)).mono (by decide) (by decide)⟩⟩
theorem main_1_1 : Claimed_1_1 := comes_1 fun _ _ _ _ _ _ h hF => ⟨h.1, hF⟩
theorem main_1_2 : Claimed_1_2 := comes_1 fun _ _ _ _ _ _ h hF => ⟨h.2.1, hF⟩
end Jvm.Pilot.@@N@@
namespace Jvm.Pilot.@@N@@
open Jvm Jvm.ClassFile Sem Op Lib Jvm.Free Jvm.Stand Jvm.Pilot.@@N@@.Jvm.D
/-! MADE BY PROGRAM (witnessworld.py) out of the Statement's table words and the real class files: 13 classes; the members and pool entries that the words name. The judged class is class 1, her method 1. -/
namespace start1
open Jvm.ClassFile
def u (s : String) : CpInfo := .utf8 (stringToUtf16 s)
/-- a pool by its gaps: so many unusable entries, then the entry; so many at the end -/
def gap : Nat → List CpInfo → List CpInfo
  | 0, r => r
  | n + 1, r => .unusable :: gap n r
def poolList (es : List (Nat × CpInfo)) (last : Nat) : List CpInfo := es.foldr (fun e r => gap e.1 (e.2 :: r)) (gap last [])
def pool (es : List (Nat × CpInfo)) (last : Nat) : Array CpInfo := ⟨poolList es last⟩
def fileOf (pool : Array CpInfo) (this : Nat) (attrs : Array Attribute := #[]) (ms : Array MethodInfo := #[]) (fl : Nat := 33) (sup : Nat := 0) (ifs : Array Nat := #[]) (fds : Array FieldInfo := #[]) : ClassFile where
  minorVersion := 0
  majorVersion := 65
  constantPool := pool
  accessFlags := fl
  thisClass := this
  superClass := sup
  interfaces := ifs
  fields := fds
  methods := ms
  attributes := attrs
def plain (name : String) (sup : Option ClassId) : Class where
  name := name
  kind := .ordinary
  loader := none
  accessFlags := 33
  super := sup
  interfaces := #[]
  cf := none
  fields := #[]
  methods := #[]
  instanceTypes := #[]
  staticTypes := #[]
  resolved := #[]
  callSites := []
  init := .initialized
  statics := none
  mirror := none

def pool0 : Array CpInfo := pool [(5, u "<init>"), (0, u "()V"), (1, .class_ 10), (1, u "java/lang/Object")] 113

def k0m0 : Method := { name := "<init>", desc := "()V", sig := { parameters := [], returnType := none }, accessFlags := 1, code := none }
/-- java/lang/Object -/
def k0 : Class := { plain "java/lang/Object" none with
  accessFlags := 33
  interfaces := #[]
  cf := some (fileOf pool0 8 #[] #[{ accessFlags := 1, nameIndex := 5, descriptorIndex := 6, attributes := #[] }] 33 0 #[] #[])
  fields := #[]
  methods := #[k0m0]
  instanceTypes := #[]
  staticTypes := #[]
  resolved := Array.replicate 124 none
  statics := none }

def pool1 : Array CpInfo := pool [(2, .class_ 4), (1, u "java/lang/Object"), (0, u "<init>"), (0, u "()V"), (0, .class_ 8), (0, u "com/example/sealed_ledger/sealedledger/intake/MaskRule"), (0, .fieldref 7 10), (0, .nameAndType 11 12), (0, u "SECRET"), (0, u "Lcom/example/sealed_ledger/sealedledger/intake/MaskRule;"), (0, .fieldref 7 14), (0, .nameAndType 15 12), (0, u "API_KEY"), (0, .fieldref 7 17), (0, .nameAndType 18 12), (0, u "EMAIL"), (0, .fieldref 7 20), (0, .nameAndType 21 12), (0, u "CARD"), (0, .fieldref 7 23), (0, .nameAndType 24 12), (0, u "FULL"), (0, .fieldref 7 26), (0, .nameAndType 27 12), (0, u "SHAPE"), (0, .integer 2147483647), (0, .methodref 7 30), (0, .nameAndType 31 32), (0, u "holdsCredentials"), (0, u "()Z"), (0, .class_ 34), (0, u "com/example/sealed_ledger/sealedledger/intake/MaskRuleHoldsCredentialsPinLaw"), (2, u "law"), (0, u "(I)Z")] 5

def k1m0 : Method := { name := "<init>", desc := "()V", sig := { parameters := [], returnType := none }, accessFlags := 2, code := none }
def k1c1 : Code := { maxStack := 4, maxLocals := 5, code := code, exceptionTable := #[], attributes := #[] }
def k1m1 : Method := { name := "law", desc := "(I)Z", sig := { parameters := [.int], returnType := some .boolean }, accessFlags := 9, code := some k1c1 }
/-- com/example/sealed_ledger/sealedledger/intake/MaskRuleHoldsCredentialsPinLaw -/
def k1 : Class := { plain "com/example/sealed_ledger/sealedledger/intake/MaskRuleHoldsCredentialsPinLaw" (some 0) with
  accessFlags := 49
  interfaces := #[]
  cf := some (fileOf pool1 33 #[] #[{ accessFlags := 2, nameIndex := 5, descriptorIndex := 6, attributes := #[] }, { accessFlags := 9, nameIndex := 37, descriptorIndex := 38, attributes := #[] }] 49 2 #[] #[])
  fields := #[]
  methods := #[k1m0, k1m1]
  instanceTypes := #[]
  staticTypes := #[]
  resolved := Array.replicate 44 none
  statics := none }

def pool2 : Array CpInfo := pool [(1, .class_ 2), (0, u "java/lang/constant/Constable"), (0, .class_ 4), (0, u "java/lang/Object")] 6

/-- java/lang/constant/Constable -/
def k2 : Class := { plain "java/lang/constant/Constable" (some 0) with
  accessFlags := 1537
  interfaces := #[]
  cf := some (fileOf pool2 1 #[] #[] 1537 3 #[] #[])
  fields := #[]
  methods := #[]
  instanceTypes := #[]
  staticTypes := #[]
  resolved := Array.replicate 11 none
  statics := none }

def pool3 : Array CpInfo := pool [(1, .class_ 2), (0, u "java/lang/Comparable"), (0, .class_ 4), (0, u "java/lang/Object")] 7

/-- java/lang/Comparable -/
def k3 : Class := { plain "java/lang/Comparable" (some 0) with
  accessFlags := 1537
  interfaces := #[]
  cf := some (fileOf pool3 1 #[] #[] 1537 3 #[] #[])
  fields := #[]
  methods := #[]
  instanceTypes := #[]
  staticTypes := #[]
  resolved := Array.replicate 12 none
  statics := none }

def pool4 : Array CpInfo := pool [(1, .class_ 2), (0, u "java/io/Serializable"), (0, .class_ 4), (0, u "java/lang/Object")] 2

/-- java/io/Serializable -/
def k4 : Class := { plain "java/io/Serializable" (some 0) with
  accessFlags := 1537
  interfaces := #[]
  cf := some (fileOf pool4 1 #[] #[] 1537 3 #[] #[])
  fields := #[]
  methods := #[]
  instanceTypes := #[]
  staticTypes := #[]
  resolved := Array.replicate 7 none
  statics := none }

def pool5 : Array CpInfo := pool [(2, .class_ 4), (1, u "java/lang/Enum"), (0, u "name"), (0, u "Ljava/lang/String;"), (0, .fieldref 2 8), (0, .nameAndType 9 10), (0, u "ordinal"), (0, u "I"), (1, .class_ 14), (1, u "java/lang/Object"), (4, u "hash"), (86, .class_ 108), (1, u "java/lang/Enum$EnumDesc"), (2, .class_ 112), (0, u "java/lang/constant/Constable"), (0, .class_ 114), (0, u "java/lang/Comparable"), (0, .class_ 116), (0, u "java/io/Serializable"), (9, u "()I")] 77

def k5c0 : Code := { maxStack := 1, maxLocals := 1, code := jdk_37_method_2_code, exceptionTable := #[], attributes := #[] }
def k5m0 : Method := { name := "ordinal", desc := "()I", sig := { parameters := [], returnType := some .int }, accessFlags := 17, code := some k5c0 }
/-- java/lang/Enum -/
def k5 : Class := { plain "java/lang/Enum" (some 0) with
  accessFlags := 1057
  interfaces := #[2, 3, 4]
  cf := some (fileOf pool5 2 #[.nestMembers #[106]] #[{ accessFlags := 17, nameIndex := 9, descriptorIndex := 126, attributes := #[] }] 1057 12 #[111, 113, 115] #[{ accessFlags := 18, nameIndex := 5, descriptorIndex := 6, attributes := #[] }, { accessFlags := 18, nameIndex := 9, descriptorIndex := 10, attributes := #[] }, { accessFlags := 2, nameIndex := 19, descriptorIndex := 10, attributes := #[] }])
  fields := #[{ name := "name", type := (.object "java/lang/String"), accessFlags := 18, slot := 0, constantValue := 0 }, { name := "ordinal", type := .int, accessFlags := 18, slot := 1, constantValue := 0 }, { name := "hash", type := .int, accessFlags := 2, slot := 2, constantValue := 0 }]
  methods := #[k5m0]
  instanceTypes := #[(.object "java/lang/String"), .int, .int]
  staticTypes := #[]
  resolved := Array.replicate 204 none
  statics := none }

def pool6 : Array CpInfo := pool [(1, .class_ 2), (0, u "com/example/sealed_ledger/sealedledger/intake/MaskRule"), (2, u "SECRET"), (0, u "Lcom/example/sealed_ledger/sealedledger/intake/MaskRule;"), (2, u "API_KEY"), (2, u "EMAIL"), (2, u "CARD"), (2, u "FULL"), (2, u "SHAPE"), (2, u "$VALUES"), (0, u "[Lcom/example/sealed_ledger/sealedledger/intake/MaskRule;"), (6, .class_ 34), (1, u "java/lang/Enum"), (17, u "id"), (0, u "Ljava/lang/String;"), (2, u "endings"), (0, u "Ljava/util/List;"), (5, u "keywords"), (7, u "()I"), (23, u "AT_END"), (0, u "Ljava/util/Map;"), (2, u "WITHIN"), (17, .methodref 1 118), (0, .nameAndType 119 71), (0, u "ordinal"), (171, u "()Z"), (71, u "PLURAL"), (5, u "WORDS_JOINED"), (0, u "I"), (1, u "SECRET_MASK"), (0, u "KEPT"), (1, u "SHAPE_WHOLE"), (1, u "SHAPE_KEPT"), (11, u "holdsCredentials")] 33

def k6c0 : Code := { maxStack := 4, maxLocals := 1, code := prog_10_method_9_code, exceptionTable := #[], attributes := #[] }
def k6m0 : Method := { name := "holdsCredentials", desc := "()Z", sig := { parameters := [], returnType := some .boolean }, accessFlags := 0, code := some k6c0 }
/-- com/example/sealed_ledger/sealedledger/intake/MaskRule -/
def k6 : Class := { plain "com/example/sealed_ledger/sealedledger/intake/MaskRule" (some 5) with
  accessFlags := 16433
  interfaces := #[]
  cf := some (fileOf pool6 1 #[] #[{ accessFlags := 0, nameIndex := 389, descriptorIndex := 291, attributes := #[] }] 16433 32 #[] #[{ accessFlags := 16409, nameIndex := 5, descriptorIndex := 6, attributes := #[] }, { accessFlags := 16409, nameIndex := 9, descriptorIndex := 6, attributes := #[] }, { accessFlags := 16409, nameIndex := 12, descriptorIndex := 6, attributes := #[] }, { accessFlags := 16409, nameIndex := 15, descriptorIndex := 6, attributes := #[] }, { accessFlags := 16409, nameIndex := 18, descriptorIndex := 6, attributes := #[] }, { accessFlags := 16409, nameIndex := 21, descriptorIndex := 6, attributes := #[] }, { accessFlags := 26, nameIndex := 363, descriptorIndex := 53, attributes := #[] }, { accessFlags := 26, nameIndex := 99, descriptorIndex := 96, attributes := #[] }, { accessFlags := 26, nameIndex := 95, descriptorIndex := 96, attributes := #[] }, { accessFlags := 26, nameIndex := 369, descriptorIndex := 370, attributes := #[] }, { accessFlags := 26, nameIndex := 372, descriptorIndex := 53, attributes := #[] }, { accessFlags := 26, nameIndex := 373, descriptorIndex := 370, attributes := #[] }, { accessFlags := 26, nameIndex := 375, descriptorIndex := 370, attributes := #[] }, { accessFlags := 26, nameIndex := 377, descriptorIndex := 370, attributes := #[] }, { accessFlags := 18, nameIndex := 52, descriptorIndex := 53, attributes := #[] }, { accessFlags := 18, nameIndex := 56, descriptorIndex := 57, attributes := #[] }, { accessFlags := 18, nameIndex := 63, descriptorIndex := 57, attributes := #[] }, { accessFlags := 4122, nameIndex := 24, descriptorIndex := 25, attributes := #[] }])
  fields := #[{ name := "SECRET", type := (.object "com/example/sealed_ledger/sealedledger/intake/MaskRule"), accessFlags := 16409, slot := 0, constantValue := 0 }, { name := "API_KEY", type := (.object "com/example/sealed_ledger/sealedledger/intake/MaskRule"), accessFlags := 16409, slot := 1, constantValue := 0 }, { name := "EMAIL", type := (.object "com/example/sealed_ledger/sealedledger/intake/MaskRule"), accessFlags := 16409, slot := 2, constantValue := 0 }, { name := "CARD", type := (.object "com/example/sealed_ledger/sealedledger/intake/MaskRule"), accessFlags := 16409, slot := 3, constantValue := 0 }, { name := "FULL", type := (.object "com/example/sealed_ledger/sealedledger/intake/MaskRule"), accessFlags := 16409, slot := 4, constantValue := 0 }, { name := "SHAPE", type := (.object "com/example/sealed_ledger/sealedledger/intake/MaskRule"), accessFlags := 16409, slot := 5, constantValue := 0 }, { name := "PLURAL", type := (.object "java/lang/String"), accessFlags := 26, slot := 6, constantValue := 0 }, { name := "WITHIN", type := (.object "java/util/Map"), accessFlags := 26, slot := 7, constantValue := 0 }, { name := "AT_END", type := (.object "java/util/Map"), accessFlags := 26, slot := 8, constantValue := 0 }, { name := "WORDS_JOINED", type := .int, accessFlags := 26, slot := 9, constantValue := 0 }, { name := "SECRET_MASK", type := (.object "java/lang/String"), accessFlags := 26, slot := 10, constantValue := 0 }, { name := "KEPT", type := .int, accessFlags := 26, slot := 11, constantValue := 0 }, { name := "SHAPE_WHOLE", type := .int, accessFlags := 26, slot := 12, constantValue := 0 }, { name := "SHAPE_KEPT", type := .int, accessFlags := 26, slot := 13, constantValue := 0 }, { name := "id", type := (.object "java/lang/String"), accessFlags := 18, slot := 3, constantValue := 0 }, { name := "endings", type := (.object "java/util/List"), accessFlags := 18, slot := 4, constantValue := 0 }, { name := "keywords", type := (.object "java/util/List"), accessFlags := 18, slot := 5, constantValue := 0 }, { name := "$VALUES", type := (.array (.object "com/example/sealed_ledger/sealedledger/intake/MaskRule")), accessFlags := 4122, slot := 14, constantValue := 0 }]
  methods := #[k6m0]
  instanceTypes := #[(.object "java/lang/String"), .int, .int, (.object "java/lang/String"), (.object "java/util/List"), (.object "java/util/List")]
  staticTypes := #[(.object "com/example/sealed_ledger/sealedledger/intake/MaskRule"), (.object "com/example/sealed_ledger/sealedledger/intake/MaskRule"), (.object "com/example/sealed_ledger/sealedledger/intake/MaskRule"), (.object "com/example/sealed_ledger/sealedledger/intake/MaskRule"), (.object "com/example/sealed_ledger/sealedledger/intake/MaskRule"), (.object "com/example/sealed_ledger/sealedledger/intake/MaskRule"), (.object "java/lang/String"), (.object "java/util/Map"), (.object "java/util/Map"), .int, (.object "java/lang/String"), .int, .int, .int, (.array (.object "com/example/sealed_ledger/sealedledger/intake/MaskRule"))]
  resolved := Array.replicate 423 none
  statics := some 0 }

def pool7 : Array CpInfo := pool [(1, u "java/lang/Cloneable"), (0, .class_ 1), (0, u "java/lang/Object"), (0, .class_ 3)] 3

/-- java/lang/Cloneable -/
def k7 : Class := { plain "java/lang/Cloneable" (some 0) with
  accessFlags := 1537
  interfaces := #[]
  cf := some (fileOf pool7 2 #[] #[] 1537 4 #[] #[])
  fields := #[]
  methods := #[]
  instanceTypes := #[]
  staticTypes := #[]
  resolved := Array.replicate 8 none
  statics := none }

/-- the primitive byte -/
def k8 : Class := { plain "byte" none with kind := .primitive 'B', accessFlags := 0x411 }
/-- [B -/
def k9 : Class := { plain "[B" (some 0) with kind := .array 8 .byte, interfaces := #[7, 4], accessFlags := 1041 }

/-- the primitive int -/
def k10 : Class := { plain "int" none with kind := .primitive 'I', accessFlags := 0x411 }
/-- [I -/
def k11 : Class := { plain "[I" (some 0) with kind := .array 10 .int, interfaces := #[7, 4], accessFlags := 1041 }

/-- [Lcom/example/sealed_ledger/sealedledger/intake/MaskRule; -/
def k12 : Class := { plain "[Lcom/example/sealed_ledger/sealedledger/intake/MaskRule;" (some 0) with kind := .array 6 (.object "com/example/sealed_ledger/sealedledger/intake/MaskRule"), interfaces := #[7, 4], accessFlags := 1041 }

def heap : Heap := #[{ cls := 6, slots := #[.ref 1, .ref 2, .ref 3, .ref 4, .ref 5, .ref 6, .null, .null, .null, .int 0, .null, .int 0, .int 0, .int 0, .null], vm := .statics 6 },
  { cls := 6, slots := #[.null, .int 0, .int 0, .null, .null, .null], vm := .none },
  { cls := 6, slots := #[.null, .int 1, .int 0, .null, .null, .null], vm := .none },
  { cls := 6, slots := #[.null, .int 2, .int 0, .null, .null, .null], vm := .none },
  { cls := 6, slots := #[.null, .int 3, .int 0, .null, .null, .null], vm := .none },
  { cls := 6, slots := #[.null, .int 4, .int 0, .null, .null, .null], vm := .none },
  { cls := 6, slots := #[.null, .int 5, .int 0, .null, .null, .null], vm := .none }]
def classes : Array Class := #[k0, k1, k2, k3, k4, k5, k6, k7, k8, k9, k10, k11, k12]
def interned : List (Array UInt16 × Addr) := []
def slotsUsed : Nat := 51
def theMethod : MethodId := ⟨1, 1⟩
def args0 : Array Value := #[.int 5]
def aboutOver (below : List Frame) : State where
  vm := { classes := classes, interned := interned.toArray }
  heap := heap
  slotsUsed := slotsUsed
  threads := #[{ frames := .invoking theMethod args0 :: below }]
def below0 : List Frame := [.native { method := ⟨0, 0⟩, args := #[] }]
def about1 : State := aboutOver below0
def p0 : Program := .bare "" "" ""
def e0 : Env := launch0.env 0 0 0
theorem w_frames : about1.frames = Frame.invoking theMethod args0 :: below0 := rfl
set_option maxRecDepth 65536 in
theorem w_args : argsFit about1.vm theMethod args0 = true := by decide +kernel
set_option maxRecDepth 65536 in
theorem w_heap : heapFits about1 = true := by decide +kernel
set_option maxRecDepth 65536 in
theorem w_runnable : about1.curStatus? = some .runnable := by decide +kernel
set_option maxRecDepth 65536 in
theorem w_alone : about1.alone = true := by decide +kernel
set_option maxRecDepth 65536 in
theorem w_named : about1.methodNamed? x = some theMethod := by decide +kernel
set_option maxRecDepth 65536 in
theorem w_hears : about1.hears theMethod below0 = true := by decide +kernel
set_option maxRecDepth 65536 in
theorem w_ripe : about1.ripe theMethod args0 below0 = true := by decide +kernel
theorem w_running : about1.status = .running := rfl
set_option maxRecDepth 65536 in
theorem w_room : about1.hasRoom e0.platform room_1 = true :=
  launch0.hasRoom_least _ room_1 (by decide +kernel) (by decide +kernel) (by decide +kernel) (by decide +kernel) (by decide +kernel) (by decide +kernel)
theorem allAtoms_all (ts : List Jvm.Cond) (a : Array Jvm.Value) (st : Jvm.State) : (allAtoms ts).before a st = ts.all (fun c => c.before a st) := by
  induction ts with
  | nil => rfl
  | cons c t ih =>
    show (Jvm.Cond.and c (allAtoms t)).before a st = _
    rw [Jvm.Cond.before_and, ih, List.all_cons]
def words1 : List Jvm.Cond := Jvm.Cond.code x code maxLocals ret :: tables_1
/-- a 'code' word, met by the world's own term for the bytes: nothing is compared byte by byte -/
theorem code_word {y : MethodName} {bytes : ByteArray} {mx : Nat} {rt : Option FieldType} {a : Array Value} {s : State} {m : MethodId} {meth : Method} {c : Code} (h1 : s.methodNamed? y = some m) (h2 : s.vm.method? m = some meth) (h3 : meth.code = some c) (h4 : c.code = bytes)
    (h5 : (c.maxLocals == mx && c.exceptionTable.isEmpty && decide (c.maxStack ≤ mostOperands) && decide (meth.sig.returnType = rt) && !meth.locks && decide (parseMethodDescriptor y.desc = some meth.sig)) = true) : (Jvm.Cond.code y bytes mx rt).before a s = true := by
  simp only [Bool.and_eq_true, beq_iff_eq, Bool.not_eq_true', decide_eq_true_eq] at h5
  obtain ⟨⟨⟨⟨⟨g1, g2⟩, g3⟩, g4⟩, g5⟩, g6⟩ := h5
  simp [Cond.before, Cond.holds, Cond.value, h1, h2, h3, h4, g1, g2, g3, g4, g5, g6]
def isCode : Jvm.Cond → Bool
  | .code _ _ _ _ => true
  | _ => false
theorem all_split {L : List Jvm.Cond} {P : Jvm.Cond → Bool} (h1 : L.all (fun c => isCode c || P c) = true) (h2 : ∀ c ∈ L.filter isCode, P c = true) : L.all P = true := by
  refine List.all_eq_true.mpr fun c hc => ?_
  have h := List.all_eq_true.mp h1 c hc
  rcases Bool.eq_false_or_eq_true (isCode c) with hi | hi
  · exact h2 c (List.mem_filter.mpr ⟨hc, hi⟩)
  · simpa [hi] using h
set_option maxRecDepth 65536 in
theorem w_c0 : (Jvm.Cond.code x code maxLocals ret).before args0 about1 = true := code_word (m := ⟨1, 1⟩) (meth := k1m1) (c := k1c1) (by decide +kernel) rfl rfl rfl (by decide +kernel)
set_option maxRecDepth 65536 in
theorem w_c1 : (Jvm.Cond.code ({ cls := "com/example/sealed_ledger/sealedledger/intake/MaskRule", name := "holdsCredentials", desc := "()Z" } : Jvm.MethodName) prog_10_method_9_code (1 : Nat) (Option.some Jvm.ClassFile.FieldType.boolean)).before args0 about1 = true := code_word (m := ⟨6, 0⟩) (meth := k6m0) (c := k6c0) (by decide +kernel) rfl rfl rfl (by decide +kernel)
set_option maxRecDepth 65536 in
theorem w_c2 : (Jvm.Cond.code ({ cls := "java/lang/Enum", name := "ordinal", desc := "()I" } : Jvm.MethodName) jdk_37_method_2_code (1 : Nat) (Option.some Jvm.ClassFile.FieldType.int)).before args0 about1 = true := code_word (m := ⟨5, 0⟩) (meth := k5m0) (c := k5c0) (by decide +kernel) rfl rfl rfl (by decide +kernel)
def codes1 : List Jvm.Cond := [Jvm.Cond.code x code maxLocals ret, Jvm.Cond.code ({ cls := "com/example/sealed_ledger/sealedledger/intake/MaskRule", name := "holdsCredentials", desc := "()Z" } : Jvm.MethodName) prog_10_method_9_code (1 : Nat) (Option.some Jvm.ClassFile.FieldType.boolean), Jvm.Cond.code ({ cls := "java/lang/Enum", name := "ordinal", desc := "()I" } : Jvm.MethodName) jdk_37_method_2_code (1 : Nat) (Option.some Jvm.ClassFile.FieldType.int)]
set_option maxRecDepth 65536 in
theorem codes_eq : words1.filter isCode = codes1 := rfl
theorem w_codes : ∀ c ∈ words1.filter isCode, c.before args0 about1 = true := by
  rw [codes_eq]
  intro c hc
  simp only [codes1, List.mem_cons, List.not_mem_nil, or_false] at hc
  rcases hc with rfl | rfl | rfl
  · exact w_c0
  · exact w_c1
  · exact w_c2
set_option maxRecDepth 65536 in
theorem w_t1 : (words1.take 24).all (fun c => isCode c || c.before args0 about1) = true := by decide +kernel
set_option maxRecDepth 65536 in
theorem w_t2 : (words1.drop 24).all (fun c => isCode c || c.before args0 about1) = true := by decide +kernel
theorem w_tables : (allAtoms (Jvm.Cond.code x code maxLocals ret :: tables_1)).before args0 about1 = true := by
  rw [allAtoms_all]
  show words1.all (fun c => c.before args0 about1) = true
  refine all_split ?_ w_codes
  rw [← List.take_append_drop 24 words1, List.all_append, w_t1, w_t2]
  rfl
set_option maxRecDepth 65536 in
theorem w_case : (Jvm.Cond.and given_1 narrow_1).before args0 about1 = true := by decide +kernel
theorem w_applies : (headSpec (Jvm.Cond.code x code maxLocals ret :: tables_1) room_1).applies x e0.platform about1 = true :=
  (Spec.applies_iff w_frames).mpr ⟨w_running, w_runnable, w_alone, w_named, w_hears, w_ripe, w_room, w_tables⟩
theorem atStart : AtStart classFile x code maxLocals ret World_1 tables_1 room_1 Calls_1 rest_1 Pre_1 launch0 p0 e0 about1 theMethod args0 below0 :=
  ⟨lists_1, trivial, launch0.admits_env _ _ _, launch0.least_env, fairChoices_fair.cas, fairChoices_fair.clock, w_frames, w_args, w_heap, w_applies, trivial, trivial, w_case⟩
end start1
theorem witness_1 : WitnessClaimed_1 := ⟨start1.p0, start1.e0, start1.about1, start1.theMethod, start1.args0, start1.below0, start1.atStart⟩
end Jvm.Pilot.@@N@@
