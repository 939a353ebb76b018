import JvmDerived
import JvmDerived.Pilot.@@N@@Statement
import JvmDerived.Pilot.@@N@@Code
set_option linter.unusedVariables false
set_option linter.unusedSimpArgs false
namespace Jvm.OwnGo
open Jvm Jvm.ClassFile Sem Op Lib Jvm.Free Jvm.Stand Jvm.LawKit Jvm.RoadKit
section Own
variable {p : Program} {l : Launch} {e : Env} {R : Room} {s : State} {m : MethodId} {args : Array Value} {below : List Frame} {meth : Method} {c : Code} {T T' : State} {locs : List Loc} {cells slots : Nat} {Z : State} {a0 : Array Value} {h : Heap} {g g' : JFrame} {P : Outcome → State → Prop}
/-- the run goes on from T with the frame g on top and comes to an end at which P holds -/
def Go (p : Program) (e : Env) (below : List Frame) (P : Outcome → State → Prop) (T : State) (g : JFrame) : Prop := ∃ t o, Steps p.tables e below (T.setTop g) t ∧ t.status = .running ∧ Ended t below o ∧ P o t
theorem Go.of (g' : JFrame) (st : ∀ t, Steps p.tables e below (T'.setTop g') t → Steps p.tables e below (T.setTop g) t) (k : Go p e below P T' g') : Go p e below P T g := by
  obtain ⟨t, o, h1, h2⟩ := k; exact ⟨t, o, st t h1, h2⟩
theorem Go.via (g' : JFrame) (st : Steps p.tables e below (T.setTop g) (T'.setTop g')) (k : Go p e below P T' g') : Go p e below P T g := by
  obtain ⟨t, o, h1, h2⟩ := k; exact ⟨t, o, st.trans h1, h2⟩
theorem Go.cast (q : g = g') (k : Go p e below P T g') : Go p e below P T g := q ▸ k
abbrev EndP (s : State) (rm : Room) (Q : Option Value → Heap → List Loc → Prop) : Outcome → State → Prop := fun o U' => ∃ v L, o = .returned v ∧ Q v U'.heap L ∧ FrameEnd s o U' L rm.cells rm.slots
def Met (l : Launch) (Z : State) (y : MethodName) (bytes : ByteArray) (maxL : Nat) (ret : Option FieldType) (ws : List Cond) (rm : Room) (as' : Array Value) (h0 : Heap) (Q : Option Value → Heap → List Loc → Prop) : Prop :=
  MetFree l y (head1 (Cond.code y bytes maxL ret :: ws) rm) (fun a U => a = as' ∧ Z.Warmed39 U.vm ∧ U.heap = h0) (fun _ _ _ _ _ => True) (fun _ U o U' => ∃ v L, o = .returned v ∧ Q v U'.heap L ∧ FrameEnd U o U' L rm.cells rm.slots)
variable {y : MethodName} {bytes : ByteArray} {maxL : Nat} {ret : Option FieldType} {ws : List Cond} {rm : Room} {as' : Array Value} {h0 : Heap} {Q : Option Value → Heap → List Loc → Prop}
theorem Met.intro (hpl : plainFor y = true)
    (body : ∀ p e s m below meth c s₁, Stand p l e rm s m as' below meth c s₁ [] 0 0 → p.tables.exec = Jvm.exec → Z.Warmed39 s.vm → s.vm.findClass y.cls = some m.cls → c.code = bytes → c.maxLocals = maxL →
      meth.sig.returnType = ret → meth.locks = false → meth.name = y.name → s₁.heap = h0 → Go p e below (EndP s rm Q) s₁ (entryFrame m as' maxL)) : Met l Z y bytes maxL ret ws rm as' h0 Q := by
  refine MetFree.of_bodySF hpl hisR ?_
  intro p e s m args below meth c s₁ Bd hml0 hP hK
  obtain ⟨rfl, hZ, hh⟩ := hP
  exact body p e s m below meth c s₁ (Stand.of_body Bd) Bd.exec hZ (findClass_of_methodNamed Bd.named) Bd.bytes hml0 Bd.returns Bd.notSynchronized (name_of_methodNamed Bd.named Bd.method).1 (by rw [← hh, Bd.state]; rfl)
theorem Met.mono {Q' : Option Value → Heap → List Loc → Prop} (h : Met l Z y bytes maxL ret ws rm as' h0 Q) (q : ∀ v h L, Q v h L → Q' v h L) : Met l Z y bytes maxL ret ws rm as' h0 Q' := by
  intro p e ha hc hk s m args below hf happ hP hK
  obtain ⟨n, o, h1, h2, h3, v, L, h4, h5, h6⟩ := h p e ha hc hk s m args below hf happ hP hK
  exact ⟨n, o, h1, h2, h3, v, L, h4, q _ _ _ h5, h6⟩
theorem Go.fin (X : Stand p l e R s m args below meth c T locs cells slots) {v : Option Value} (hv : meth.sig.returnType = none → v = none) (hlk : meth.locks = false) (hc : cells ≤ rm.cells) (hs : slots ≤ rm.slots)
    (st : ∀ fs, (∀ (f : JFrame) (acts : List Action), f.method = m → f.locked = none → f.entered = [] → (doReturn e (T.setTop f) acts v).1 = T.setFrames fs) → Steps p.tables e below (T.setTop g) (T.setFrames fs)) (hQ : Q v T.heap locs) : Go p e below (EndP s rm Q) T g := by
  obtain ⟨fs, hr, hrun, hended, hW, hsame⟩ := X.leave (v := v) hv hlk
  exact ⟨_, _, st fs hr, hrun, hended, v, locs, rfl, hQ, ⟨v, rfl⟩, hW, hsame.mono hc hs⟩
/-- a value is returned -/
theorem Go.retW (X : Stand p l e R s m args below meth c T locs cells slots) (hx : p.tables.exec = Jvm.exec) {pc : Nat} {Ls : Array Slot} {w : Value} {t : FieldType} {i : Instr} {rest : List Value} (hret : meth.sig.returnType = some t) (hlk : meth.locks = false) (hn : narrow t w = w)
    (hi : (i = .ireturn ∧ (t = .int ∨ t = .boolean ∨ t = .byte ∨ t = .char ∨ t = .short) ∧ ∃ z, w = .int z) ∨ (i = .lreturn ∧ t = .long ∧ ∃ z, w = .long z) ∨ (i = .dreturn ∧ t = .double ∧ ∃ z, w = .double z) ∨ (i = .freturn ∧ t = .float ∧ ∃ z, w = .float z) ∨ (i = .areturn ∧ t.isReference = true ∧ w.isRef = true))
    (hd : decode c.code pc = .ok (i, 1)) (hc : cells ≤ rm.cells) (hs : slots ≤ rm.slots) (hQ : Q (some w) T.heap locs) : Go p e below (EndP s rm Q) T (mkF m pc Ls (w :: rest)) :=
  Go.fin X (fun q => by rw [hret] at q; cases q) hlk hc hs (fun fs hr => retOut X hx hret hn hi hd hr) hQ
/-- nothing is returned -/
theorem Go.retV (X : Stand p l e R s m args below meth c T locs cells slots) (hx : p.tables.exec = Jvm.exec) {pc : Nat} {Ls : Array Slot} (hret : meth.sig.returnType = none) (hlk : meth.locks = false)
    (hd : decode c.code pc = .ok (.return_, 1)) (hc : cells ≤ rm.cells) (hs : slots ≤ rm.slots) (hQ : Q none T.heap locs) : Go p e below (EndP s rm Q) T (mkF m pc Ls []) :=
  Go.fin X (fun _ => rfl) hlk hc hs (fun fs hr => X.returnOut hx hret hd hr) hQ
theorem ri_int {z : Int32} {t : FieldType} (ht : t = .int ∨ t = .boolean ∨ t = .byte ∨ t = .char ∨ t = .short) : ((.ireturn : Instr) = .ireturn ∧ (t = .int ∨ t = .boolean ∨ t = .byte ∨ t = .char ∨ t = .short) ∧ ∃ z', (Value.int z) = .int z') ∨ ((.ireturn : Instr) = .lreturn ∧ t = .long ∧ ∃ z', (Value.int z) = .long z') ∨ ((.ireturn : Instr) = .dreturn ∧ t = .double ∧ ∃ z', (Value.int z) = .double z') ∨ ((.ireturn : Instr) = .freturn ∧ t = .float ∧ ∃ z', (Value.int z) = .float z') ∨ ((.ireturn : Instr) = .areturn ∧ t.isReference = true ∧ (Value.int z).isRef = true) := Or.inl ⟨rfl, ht, z, rfl⟩
/-- a static call, by the callee's contract -/
theorem Go.callS (X : Stand p l e R s m args below meth c T locs cells slots) (hx : p.tables.exec = Jvm.exec) (hZ : Z.Warmed39 s.vm) {own : String} {index W : Nat} {argsL rest : List Value} (hown : s.vm.findClass own = some m.cls)
    (w1 : (Cond.methodLink own index y).before a0 Z = true) (w2 : (Cond.static y).before a0 Z = true) (w3 : (Cond.initialized y.cls).before a0 Z = true) (w4 : (Cond.code y bytes maxL ret).before a0 Z = true)
    (hy : y.cls ≠ "java/lang/invoke/MethodHandle" ∧ y.cls ≠ "java/lang/invoke/VarHandle") (eT : T.heap = h) (hM : Met l Z y bytes maxL ret [] rm argsL.toArray h Q)
    (hg : g.method = m) (hsize : g.locals.size = c.maxLocals) (hlen : ∀ sig, parseMethodDescriptor y.desc = some sig → argsL.length = sig.parameters.length) (hs : g.stack = argsL.reverse ++ rest)
    (hW : 2 * g.monitorRoom + (rest.map fun v => v.category).sum ≤ W) (hd : decode c.code g.pc = .ok (.invokestatic index, 3)) (hf : rm.frames + 1 ≤ R.frames) (hl : W + (maxL + 11) + rm.locals ≤ R.locals) (hc : cells + rm.cells ≤ R.cells) (hsl : slots + rm.slots ≤ R.slots)
    (k : ∀ T' L v, Stand p l e R s m args below meth c T' (locs ++ L) (cells + rm.cells) (slots + rm.slots) → Q v T'.heap L → Go p e below P T' { g with pc := g.pc + 3, stack := v.toList ++ rest }) : Go p e below P T g := by
  obtain ⟨v, _, ⟨U, L, q1, q2⟩, -, X', ⟨Lc, hQ, l1, l2, l3⟩, st⟩ := Jvm.LawKit.callS X hx (y := y) hown (mvT hZ w1) (mvT hZ w2) (mvT hZ w3) (mvT hZ w4) hy (backOf (W := W) hM hZ w4 w3 hf hl) hg hsize hlen hs hW hd (fun _ _ => ⟨rfl, eT, hc, hsl⟩)
  dsimp only [Pt.U, Pt.locs, Pt.cells, Pt.slots] at X' l1 l2 l3 st hQ
  subst l1 l2 l3
  exact Go.of _ st (k _ _ _ X' hQ)
/-- a constructor, by its contract -/
theorem Go.init (X : Stand p l e R s m args below meth c T locs cells slots) (hx : p.tables.exec = Jvm.exec) (hZ : Z.Warmed39 s.vm) {own : String} {index W : Nat} {a : Addr} {argsL rest : List Value} (hown : s.vm.findClass own = some m.cls) (hy1 : y.name = "<init>")
    (w1 : (Cond.methodLink own index y).before a0 Z = true) (w2 : (Cond.instanceMethod y).before a0 Z = true) (w3 : (Cond.initialized y.cls).before a0 Z = true) (w4 : (Cond.code y bytes maxL none).before a0 Z = true)
    (hy : y.cls ≠ "java/lang/invoke/MethodHandle" ∧ y.cls ≠ "java/lang/invoke/VarHandle") (eT : T.heap = h) (hM : Met l Z y bytes maxL none [] rm (.ref a :: argsL).toArray h Q)
    (hg : g.method = m) (hsize : g.locals.size = c.maxLocals) (hlen : ∀ sig, parseMethodDescriptor y.desc = some sig → argsL.length = sig.parameters.length) (hs : g.stack = argsL.reverse ++ .ref a :: rest)
    (hW : 2 * g.monitorRoom + (rest.map fun v => v.category).sum ≤ W) (hd : decode c.code g.pc = .ok (.invokespecial index, 3)) (hf : rm.frames + 1 ≤ R.frames) (hl : W + (maxL + 11) + rm.locals ≤ R.locals) (hc : cells + rm.cells ≤ R.cells) (hsl : slots + rm.slots ≤ R.slots)
    (k : ∀ T' L v, Stand p l e R s m args below meth c T' (locs ++ L) (cells + rm.cells) (slots + rm.slots) → Q v T'.heap L → Go p e below P T' { g with pc := g.pc + 3, stack := v.toList ++ rest }) : Go p e below P T g := by
  obtain ⟨v, _, ⟨U, L, q1, q2⟩, -, X', ⟨Lc, hQ, l1, l2, l3⟩, st⟩ := X.specialBack hx (y := y) hy1 hown (mvT hZ w1) (mvT hZ w2) (mvT hZ w4) hy (backOf (W := W) hM hZ w4 w3 hf hl) hg hsize (Steps.refl _) hlen hs hW hd (fun _ _ => ⟨rfl, eT, hc, hsl⟩)
  dsimp only [Pt.U, Pt.locs, Pt.cells, Pt.slots] at X' l1 l2 l3 st hQ
  subst l1 l2 l3
  exact Go.via _ st (k _ _ _ X' hQ)
/-- an instance method, by the contract of the method that the receiver's class selects -/
theorem Go.virt (X : Stand p l e R s m args below meth c T locs cells slots) (hx : p.tables.exec = Jvm.exec) (hZ : Z.Warmed39 s.vm) {own C : String} {z : MethodName} {index W : Nat} {a : Addr} {argsL rest : List Value} (hown : s.vm.findClass own = some m.cls)
    (w1 : (Cond.methodLink own index z).before a0 Z = true) (w2 : (Cond.declares z).before a0 Z = true) (nf : NotFace s z) (w5 : (Cond.selects C z y).before a0 Z = true) (w6 : (Cond.instanceMethod y).before a0 Z = true) (w3 : (Cond.initialized y.cls).before a0 Z = true) (w4 : (Cond.code y bytes maxL ret).before a0 Z = true)
    (hy : z.cls ≠ "java/lang/invoke/MethodHandle" ∧ z.cls ≠ "java/lang/invoke/VarHandle") (eT : T.heap = h) (E : Exa Z h a C) (hM : Met l Z y bytes maxL ret [] rm (.ref a :: argsL).toArray h Q)
    (hg : g.method = m) (hsize : g.locals.size = c.maxLocals) (hlen : ∀ sig, parseMethodDescriptor z.desc = some sig → argsL.length = sig.parameters.length) (hs : g.stack = argsL.reverse ++ .ref a :: rest)
    (hW : 2 * g.monitorRoom + (rest.map fun v => v.category).sum ≤ W) (hd : decode c.code g.pc = .ok (.invokevirtual index, 3)) (hf : rm.frames + 1 ≤ R.frames) (hl : W + (maxL + 11) + rm.locals ≤ R.locals) (hc : cells + rm.cells ≤ R.cells) (hsl : slots + rm.slots ≤ R.slots)
    (k : ∀ T' L v, Stand p l e R s m args below meth c T' (locs ++ L) (cells + rm.cells) (slots + rm.slots) → Q v T'.heap L → Go p e below P T' { g with pc := g.pc + 3, stack := v.toList ++ rest }) : Go p e below P T g := by
  obtain ⟨cq, kq, qa, qb, qc⟩ := isOf hZ eT E
  obtain ⟨v, _, ⟨U, L, q1, q2⟩, -, X', ⟨Lc, hQ, l1, l2, l3⟩, st⟩ := X.virtualBack hx (y := z) (z := y) hown (mvT hZ w1) (mvT hZ w2) nf (mvT hZ w5) (mvT hZ w6) hy (backOf (W := W) hM hZ w4 w3 hf hl) qa qc hg hsize (Steps.refl _) hlen hs hW hd (fun _ _ => ⟨rfl, eT, hc, hsl⟩)
  dsimp only [Pt.U, Pt.locs, Pt.cells, Pt.slots] at X' l1 l2 l3 st hQ
  subst l1 l2 l3
  exact Go.via _ st (k _ _ _ X' hQ)
/-- a private method (invokevirtual) -/
theorem Go.priv (X : Stand p l e R s m args below meth c T locs cells slots) (hx : p.tables.exec = Jvm.exec) (hZ : Z.Warmed39 s.vm) {own C : String} {index W : Nat} {a : Addr} {argsL rest : List Value} (hown : s.vm.findClass own = some m.cls)
    (w1 : (Cond.methodLink own index y).before a0 Z = true) (w6 : (Cond.instanceMethod y).before a0 Z = true) (w5 : (Cond.selects y.cls y y).before a0 Z = true) (w7 : (Cond.privateMethod y).before a0 Z = true) (w3 : (Cond.initialized y.cls).before a0 Z = true) (w4 : (Cond.code y bytes maxL ret).before a0 Z = true)
    (hy : y.cls ≠ "java/lang/invoke/MethodHandle" ∧ y.cls ≠ "java/lang/invoke/VarHandle") (eT : T.heap = h) (E : Exa Z h a C) (hM : Met l Z y bytes maxL ret [] rm (.ref a :: argsL).toArray h Q)
    (hg : g.method = m) (hsize : g.locals.size = c.maxLocals) (hlen : ∀ sig, parseMethodDescriptor y.desc = some sig → argsL.length = sig.parameters.length) (hs : g.stack = argsL.reverse ++ .ref a :: rest)
    (hW : 2 * g.monitorRoom + (rest.map fun v => v.category).sum ≤ W) (hd : decode c.code g.pc = .ok (.invokevirtual index, 3)) (hf : rm.frames + 1 ≤ R.frames) (hl : W + (maxL + 11) + rm.locals ≤ R.locals) (hc : cells + rm.cells ≤ R.cells) (hsl : slots + rm.slots ≤ R.slots)
    (k : ∀ T' L v, Stand p l e R s m args below meth c T' (locs ++ L) (cells + rm.cells) (slots + rm.slots) → Q v T'.heap L → Go p e below P T' { g with pc := g.pc + 3, stack := v.toList ++ rest }) : Go p e below P T g := by
  obtain ⟨cq, q, q'⟩ := E.cell
  obtain ⟨v, _, ⟨U, L, q1, q2⟩, -, X', ⟨Lc, hQ, l1, l2, l3⟩, st⟩ := X.privateBack hx (y := y) hown (mvT hZ w1) (mvT hZ w6) (mvT hZ w5) (Cond.privateMethod_at (mvP hZ w7 (args := #[]))) (mvT hZ w4) hy (backOf (W := W) hM hZ w4 w3 hf hl) hg hsize (Steps.refl _) (a := a) (by rw [eT]; exact q) q' hlen hs hW hd (fun _ _ => ⟨rfl, eT, hc, hsl⟩)
  dsimp only [Pt.U, Pt.locs, Pt.cells, Pt.slots] at X' l1 l2 l3 st hQ
  subst l1 l2 l3
  exact Go.via _ st (k _ _ _ X' hQ)
/-! arrays by a function of the place -/
def fnup {α : Type} (y : Int32 → α) (j : Int32) (v : α) : Int32 → α := fun i => if i = j then v else y i
theorem fnup_same {α : Type} (y : Int32 → α) (j : Int32) (v : α) : fnup y j v j = v := if_pos rfl
theorem fnup_ne {α : Type} {y : Int32 → α} {i j : Int32} {v : α} (h : ¬ i = j) : fnup y j v i = y i := if_neg h
def Fa (Z : State) (h : Heap) (a : Addr) (ty : FieldType) (n : Int32) (y : Int32 → Value) : Prop :=
  ∃ c : Cell, Arr Z h a c ty ∧ c.slots.size = n.toNatClampNeg ∧ ¬ n < 0 ∧ ∀ j : Int32, ¬ j < 0 → j < n → c.slots[j.toNatClampNeg]? = some (y j) ∧ fits ty (y j) = true
variable {a b : Addr} {ty : FieldType} {n : Int32} {yv : Int32 → Value} {h' : Heap} {j : Int32} {v : Value} {sl : Nat} {hws : List Addr}
theorem Fa.lt (F : Fa Z h a ty n yv) : a < h.size := by obtain ⟨c, A, -⟩ := F; exact A.lt
theorem Fa.ext (F : Fa Z h a ty n yv) (E : Ext h h') : Fa Z h' a ty n yv := by obtain ⟨c, A, r⟩ := F; exact ⟨c, A.ext E, r⟩
theorem Fa.other (F : Fa Z h b ty n yv) (W : Wr h h' a sl v) (q : b ≠ a) : Fa Z h' b ty n yv := by obtain ⟨c, A, r⟩ := F; exact ⟨c, A.other W q, r⟩
theorem Fa.keep (F : Fa Z h a ty n yv) (K : Keep h h' hws) (q : a ∉ hws) : Fa Z h' a ty n yv := by obtain ⟨c, A, r⟩ := F; exact ⟨c, ⟨K.2.1 a c A.1 q, A.2⟩, r⟩
theorem Fa.new {k : ClassId} (A : Arr Z h a (newA k ty n) ty) (q : ¬ n < 0) : Fa Z h a ty n (fun _ => defaultValue ty) :=
  ⟨_, A, sz_new _ _ _, q, fun i h0 h1 => ⟨get_new (by have := inb_of (c := newA k ty n) (sz_new k ty n) ⟨h0, h1⟩; rwa [sz_new] at this), by cases ty <;> rfl⟩⟩
theorem Fa.set (F : Fa Z h a ty n yv) (W : Wr h h' a j.toNatClampNeg v) (hj : ¬ j < 0) (hv : fits ty v = true) : Fa Z h' a ty n (fnup yv j v) := by
  obtain ⟨c, A, S, M, H⟩ := F
  refine ⟨c.setSlot j.toNatClampNeg v, A.same W, by rw [sz_set]; exact S, M, fun i h0 h1 => ?_⟩
  by_cases e : i = j
  · subst e; rw [fnup_same]; exact ⟨get_hit (inb_of S ⟨h0, h1⟩) rfl, hv⟩
  · rw [fnup_ne e, get_miss hj h0 e]; exact H i h0 h1
theorem Fa.congr {yw : Int32 → Value} (F : Fa Z h a ty n yv) (q : ∀ j, ¬ j < 0 → j < n → yw j = yv j) : Fa Z h a ty n yw := by
  obtain ⟨c, A, S, M, H⟩ := F
  exact ⟨c, A, S, M, fun j h0 h1 => by rw [q j h0 h1]; exact H j h0 h1⟩
theorem Fa.pos (F : Fa Z h a ty n yv) : ¬ n < 0 := by obtain ⟨c, A, S, M, H⟩ := F; exact M
theorem Fa.ofArv {k : ClassId} {vs : List Value} {dv : Value} (F : Arv Z h a k ty n vs dv) : Fa Z h a ty n (fun j => vs.getD j.toNatClampNeg dv) := by
  obtain ⟨c, A, q1, S, M, H, G⟩ := F
  exact ⟨c, A, S, M, fun j h0 h1 => by
    have q : j.toNatClampNeg < c.slots.size := Nat.lt_of_not_le fun z => inb_of S ⟨h0, h1⟩ (Or.inr z)
    exact ⟨H _ q, G _ q⟩⟩
theorem fnup_int (y : Int32 → Int32) (j x : Int32) : fnup (fun i => Value.int (y i)) j (.int x) = fun i => Value.int (fnup y j x i) := by funext i; unfold fnup; split <;> rfl
theorem fnup_long (y : Int32 → Int64) (j : Int32) (x : Int64) : fnup (fun i => Value.long (y i)) j (.long x) = fun i => Value.long (fnup y j x i) := by funext i; unfold fnup; split <;> rfl
theorem fnup_dbl (y : Int32 → UInt64) (j : Int32) (x : UInt64) : fnup (fun i => Value.double (y i)) j (.double x) = fun i => Value.double (fnup y j x i) := by funext i; unfold fnup; split <;> rfl
variable {rest : List Value}
theorem Go.arraylength (X : Stand p l e R s m args below meth c T locs cells slots) (hx : p.tables.exec = Jvm.exec) (hZ : Z.Warmed39 s.vm) (eT : T.heap = h) (F : Fa Z h a ty n yv) (hg : g.method = m) (hs : g.stack = .ref a :: rest) (hd : decode c.code g.pc = .ok (.arraylength, 1))
    (k : Go p e below P T { g with pc := g.pc + 1, stack := .int n :: rest }) : Go p e below P T g := by
  obtain ⟨cl, A, S, M, H⟩ := F
  refine Go.of _ (fun t k => X.arraylength hx (by rw [eT]; exact A.1) (State.isArrayOf_alike hZ.alike A.2.1) hg hs hd _ k) ?_
  rw [len_of S M]; exact k
theorem Go.iaload (X : Stand p l e R s m args below meth c T locs cells slots) (hx : p.tables.exec = Jvm.exec) (hZ : Z.Warmed39 s.vm) (eT : T.heap = h) {y : Int32 → Int32} (F : Fa Z h a .int n (fun i => .int (y i))) (h0 : ¬ j < 0) (h1 : j < n) (hg : g.method = m) (hs : g.stack = .int j :: .ref a :: rest) (hd : decode c.code g.pc = .ok (.iaload, 1))
    (k : Go p e below P T { g with pc := g.pc + 1, stack := .int (y j) :: rest }) : Go p e below P T g := by
  obtain ⟨cl, A, S, M, H⟩ := F
  exact Go.of _ (fun t k => X.iaload hx (by rw [eT]; exact A.1) (State.isArrayOf_alike hZ.alike A.2.1) A.2.2 (inb_of S ⟨h0, h1⟩) (H j h0 h1).1 hg hs hd _ k) k
theorem Go.caload (X : Stand p l e R s m args below meth c T locs cells slots) (hx : p.tables.exec = Jvm.exec) (hZ : Z.Warmed39 s.vm) (eT : T.heap = h) {y : Int32 → Int32} (F : Fa Z h a .char n (fun i => .int (y i))) (h0 : ¬ j < 0) (h1 : j < n) (hg : g.method = m) (hs : g.stack = .int j :: .ref a :: rest) (hd : decode c.code g.pc = .ok (.caload, 1))
    (k : Go p e below P T { g with pc := g.pc + 1, stack := .int (y j) :: rest }) : Go p e below P T g := by
  obtain ⟨cl, A, S, M, H⟩ := F
  exact Go.of _ (fun t k => X.caload hx (by rw [eT]; exact A.1) (State.isArrayOf_alike hZ.alike A.2.1) A.2.2 (inb_of S ⟨h0, h1⟩) (H j h0 h1).1 hg hs hd _ k) k
theorem Go.saload (X : Stand p l e R s m args below meth c T locs cells slots) (hx : p.tables.exec = Jvm.exec) (hZ : Z.Warmed39 s.vm) (eT : T.heap = h) {y : Int32 → Int32} (F : Fa Z h a .short n (fun i => .int (y i))) (h0 : ¬ j < 0) (h1 : j < n) (hg : g.method = m) (hs : g.stack = .int j :: .ref a :: rest) (hd : decode c.code g.pc = .ok (.saload, 1))
    (k : Go p e below P T { g with pc := g.pc + 1, stack := .int (y j) :: rest }) : Go p e below P T g := by
  obtain ⟨cl, A, S, M, H⟩ := F
  exact Go.of _ (fun t k => X.saload hx (by rw [eT]; exact A.1) (State.isArrayOf_alike hZ.alike A.2.1) A.2.2 (inb_of S ⟨h0, h1⟩) (H j h0 h1).1 hg hs hd _ k) k
theorem Go.baload (X : Stand p l e R s m args below meth c T locs cells slots) (hx : p.tables.exec = Jvm.exec) (hZ : Z.Warmed39 s.vm) (eT : T.heap = h) {y : Int32 → Int32} (F : Fa Z h a .byte n (fun i => .int (y i))) (h0 : ¬ j < 0) (h1 : j < n) (hg : g.method = m) (hs : g.stack = .int j :: .ref a :: rest) (hd : decode c.code g.pc = .ok (.baload, 1))
    (k : Go p e below P T { g with pc := g.pc + 1, stack := .int (y j) :: rest }) : Go p e below P T g := by
  obtain ⟨cl, A, S, M, H⟩ := F
  exact Go.of _ (fun t k => X.baloadBytes hx (by rw [eT]; exact A.1) (State.isArrayOf_alike hZ.alike A.2.1) A.2.2 (inb_of S ⟨h0, h1⟩) (H j h0 h1).1 hg hs hd _ k) k
theorem Go.zaload (X : Stand p l e R s m args below meth c T locs cells slots) (hx : p.tables.exec = Jvm.exec) (hZ : Z.Warmed39 s.vm) (eT : T.heap = h) {y : Int32 → Int32} (F : Fa Z h a .boolean n (fun i => .int (y i))) (h0 : ¬ j < 0) (h1 : j < n) (hg : g.method = m) (hs : g.stack = .int j :: .ref a :: rest) (hd : decode c.code g.pc = .ok (.baload, 1))
    (k : Go p e below P T { g with pc := g.pc + 1, stack := .int (y j) :: rest }) : Go p e below P T g := by
  obtain ⟨cl, A, S, M, H⟩ := F
  exact Go.of _ (fun t k => X.baloadBooleans hx (by rw [eT]; exact A.1) (State.isArrayOf_alike hZ.alike A.2.1) A.2.2 (inb_of S ⟨h0, h1⟩) (H j h0 h1).1 hg hs hd _ k) k
theorem Go.laload (X : Stand p l e R s m args below meth c T locs cells slots) (hx : p.tables.exec = Jvm.exec) (hZ : Z.Warmed39 s.vm) (eT : T.heap = h) {y : Int32 → Int64} (F : Fa Z h a .long n (fun i => .long (y i))) (h0 : ¬ j < 0) (h1 : j < n) (hg : g.method = m) (hs : g.stack = .int j :: .ref a :: rest) (hd : decode c.code g.pc = .ok (.laload, 1))
    (k : Go p e below P T { g with pc := g.pc + 1, stack := .long (y j) :: rest }) : Go p e below P T g := by
  obtain ⟨cl, A, S, M, H⟩ := F
  exact Go.of _ (fun t k => X.laload hx (by rw [eT]; exact A.1) (State.isArrayOf_alike hZ.alike A.2.1) A.2.2 (inb_of S ⟨h0, h1⟩) (H j h0 h1).1 hg hs hd _ k) k
theorem Go.aaload (X : Stand p l e R s m args below meth c T locs cells slots) (hx : p.tables.exec = Jvm.exec) (hZ : Z.Warmed39 s.vm) (eT : T.heap = h) (F : Fa Z h a ty n yv) (hty : ty.isReference = true) (h0 : ¬ j < 0) (h1 : j < n) (hg : g.method = m) (hs : g.stack = .int j :: .ref a :: rest) (hd : decode c.code g.pc = .ok (.aaload, 1))
    (k : Go p e below P T { g with pc := g.pc + 1, stack := yv j :: rest }) : Go p e below P T g := by
  obtain ⟨cl, A, S, M, H⟩ := F
  exact Go.of _ (fun t k => X.aaload hx (by rw [eT]; exact A.1) (State.isArrayOf_alike hZ.alike A.2.1) hty A.2.2 (inb_of S ⟨h0, h1⟩) (H j h0 h1).1 hg hs hd _ k) k
theorem Go.iastore (X : Stand p l e R s m args below meth c T locs cells slots) (hx : p.tables.exec = Jvm.exec) (hZ : Z.Warmed39 s.vm) (eT : T.heap = h) {y : Int32 → Int32} {x : Int32} (F : Fa Z h a .int n (fun i => .int (y i))) (h0 : ¬ j < 0) (h1 : j < n) (hg : g.method = m) (hs : g.stack = .int x :: .int j :: .ref a :: rest) (hd : decode c.code g.pc = .ok (.iastore, 1))
    (k : ∀ T' h', Stand p l e R s m args below meth c T' (locs ++ [⟨a, j.toNatClampNeg⟩]) cells slots → T'.heap = h' → Wr h h' a j.toNatClampNeg (.int x) → Fa Z h' a .int n (fun i => .int (fnup y j x i)) → Go p e below P T' { g with pc := g.pc + 1, stack := rest }) : Go p e below P T g := by
  obtain ⟨cl, A, S, M, H⟩ := id F
  obtain ⟨T', h', X', e', W, st⟩ := stI X hx hZ eT A (inb_of S ⟨h0, h1⟩) hg hs hd
  exact Go.of _ st (k _ _ X' e' W (by have := F.set W h0 rfl; rwa [fnup_int] at this))
theorem Go.castore (X : Stand p l e R s m args below meth c T locs cells slots) (hx : p.tables.exec = Jvm.exec) (hZ : Z.Warmed39 s.vm) (eT : T.heap = h) {y : Int32 → Int32} {x : Int32} (F : Fa Z h a .char n (fun i => .int (y i))) (h0 : ¬ j < 0) (h1 : j < n) (hg : g.method = m) (hs : g.stack = .int x :: .int j :: .ref a :: rest) (hd : decode c.code g.pc = .ok (.castore, 1))
    (k : ∀ T' h', Stand p l e R s m args below meth c T' (locs ++ [⟨a, j.toNatClampNeg⟩]) cells slots → T'.heap = h' → Wr h h' a j.toNatClampNeg (.int (nar .char x)) → Fa Z h' a .char n (fun i => .int (fnup y j (nar .char x) i)) → Go p e below P T' { g with pc := g.pc + 1, stack := rest }) : Go p e below P T g := by
  obtain ⟨cl, A, S, M, H⟩ := id F
  obtain ⟨T', h', X', e', W, st⟩ := stC X hx hZ eT A (inb_of S ⟨h0, h1⟩) hg hs hd
  exact Go.of _ st (k _ _ X' e' W (by have := F.set W h0 (fits_nar_char _); rwa [fnup_int] at this))
theorem Go.bastore (X : Stand p l e R s m args below meth c T locs cells slots) (hx : p.tables.exec = Jvm.exec) (hZ : Z.Warmed39 s.vm) (eT : T.heap = h) {y : Int32 → Int32} {x : Int32} (F : Fa Z h a .byte n (fun i => .int (y i))) (h0 : ¬ j < 0) (h1 : j < n) (hg : g.method = m) (hs : g.stack = .int x :: .int j :: .ref a :: rest) (hd : decode c.code g.pc = .ok (.bastore, 1))
    (k : ∀ T' h', Stand p l e R s m args below meth c T' (locs ++ [⟨a, j.toNatClampNeg⟩]) cells slots → T'.heap = h' → Wr h h' a j.toNatClampNeg (.int (nar .byte x)) → Fa Z h' a .byte n (fun i => .int (fnup y j (nar .byte x) i)) → Go p e below P T' { g with pc := g.pc + 1, stack := rest }) : Go p e below P T g := by
  obtain ⟨cl, A, S, M, H⟩ := id F
  obtain ⟨T', h', X', e', W, st⟩ := stB X hx hZ eT A (inb_of S ⟨h0, h1⟩) hg hs hd
  exact Go.of _ st (k _ _ X' e' W (by have := F.set W h0 (fits_nar_byte _); rwa [fnup_int] at this))
theorem Go.zastore (X : Stand p l e R s m args below meth c T locs cells slots) (hx : p.tables.exec = Jvm.exec) (hZ : Z.Warmed39 s.vm) (eT : T.heap = h) {y : Int32 → Int32} {x : Int32} (F : Fa Z h a .boolean n (fun i => .int (y i))) (h0 : ¬ j < 0) (h1 : j < n) (hg : g.method = m) (hs : g.stack = .int x :: .int j :: .ref a :: rest) (hd : decode c.code g.pc = .ok (.bastore, 1))
    (k : ∀ T' h', Stand p l e R s m args below meth c T' (locs ++ [⟨a, j.toNatClampNeg⟩]) cells slots → T'.heap = h' → Wr h h' a j.toNatClampNeg (.int (nar .boolean x)) → Fa Z h' a .boolean n (fun i => .int (fnup y j (nar .boolean x) i)) → Go p e below P T' { g with pc := g.pc + 1, stack := rest }) : Go p e below P T g := by
  obtain ⟨cl, A, S, M, H⟩ := id F
  obtain ⟨T', h', X', e', W, st⟩ := stZ X hx hZ eT A (inb_of S ⟨h0, h1⟩) hg hs hd
  exact Go.of _ st (k _ _ X' e' W (by have := F.set W h0 (fits_nar_bool _); rwa [fnup_int] at this))
theorem Go.lastore (X : Stand p l e R s m args below meth c T locs cells slots) (hx : p.tables.exec = Jvm.exec) (hZ : Z.Warmed39 s.vm) (eT : T.heap = h) {y : Int32 → Int64} {x : Int64} (F : Fa Z h a .long n (fun i => .long (y i))) (h0 : ¬ j < 0) (h1 : j < n) (hg : g.method = m) (hs : g.stack = .long x :: .int j :: .ref a :: rest) (hd : decode c.code g.pc = .ok (.lastore, 1))
    (k : ∀ T' h', Stand p l e R s m args below meth c T' (locs ++ [⟨a, j.toNatClampNeg⟩]) cells slots → T'.heap = h' → Wr h h' a j.toNatClampNeg (.long x) → Fa Z h' a .long n (fun i => .long (fnup y j x i)) → Go p e below P T' { g with pc := g.pc + 1, stack := rest }) : Go p e below P T g := by
  obtain ⟨cl, A, S, M, H⟩ := id F
  obtain ⟨T', h', X', e', W, st⟩ := stJ X hx hZ eT A (inb_of S ⟨h0, h1⟩) hg hs hd
  exact Go.of _ st (k _ _ X' e' W (by have := F.set W h0 rfl; rwa [fnup_long] at this))
theorem Go.aastore (X : Stand p l e R s m args below meth c T locs cells slots) (hx : p.tables.exec = Jvm.exec) (hZ : Z.Warmed39 s.vm) (eT : T.heap = h) (F : Fa Z h a ty n yv) (hty : ty.isReference = true) (hf : fits ty v = true) (O : Sto Z h a v) (h0 : ¬ j < 0) (h1 : j < n) (hg : g.method = m) (hs : g.stack = v :: .int j :: .ref a :: rest) (hd : decode c.code g.pc = .ok (.aastore, 1))
    (k : ∀ T' h', Stand p l e R s m args below meth c T' (locs ++ [⟨a, j.toNatClampNeg⟩]) cells slots → T'.heap = h' → Wr h h' a j.toNatClampNeg v → Fa Z h' a ty n (fnup yv j v) → Go p e below P T' { g with pc := g.pc + 1, stack := rest }) : Go p e below P T g := by
  obtain ⟨cl, A, S, M, H⟩ := id F
  obtain ⟨T', h', X', e', W, st⟩ := stR X hx hZ eT A (inb_of S ⟨h0, h1⟩) hty O hg hs hd
  exact Go.of _ st (k _ _ X' e' W (F.set W h0 hf))
/-- the array's class is that of the arrays over C -/
def Uty (Z : State) (h : Heap) (a : Addr) (C : String) : Prop := ∃ c : Cell, h[a]? = some c ∧ Ovr Z c.cls C
theorem Uty.ext {C : String} (F : Uty Z h a C) (E : Ext h h') : Uty Z h' a C := by obtain ⟨c, A, r⟩ := F; exact ⟨c, E.2 _ _ A, r⟩
theorem Uty.wr {C : String} (F : Uty Z h b C) (W : Wr h h' a sl v) : Uty Z h' b C := by
  obtain ⟨c, A, r⟩ := F
  obtain ⟨c', e1, e2, -⟩ := wr_at W A
  exact ⟨c', e1, by rw [e2]; exact r⟩
theorem Uty.keep {C : String} (F : Uty Z h a C) (K : Keep h h' hws) : Uty Z h' a C := by
  obtain ⟨c, A, r⟩ := F
  obtain ⟨c', e1, e2, -⟩ := K.2.2 _ _ A
  exact ⟨c', e1, by rw [e2]; exact r⟩
theorem Fa.sto {C : String} (F : Fa Z h a ty n yv) (U : Uty Z h a C) (I : Ins Z h b C true) : Sto Z h a (.ref b) := by
  obtain ⟨c, A, -⟩ := F
  obtain ⟨c', A', O⟩ := U
  cases A.1.symm.trans A'
  exact Sto.of A O I
theorem nat_back {i : Nat} (hi : i < 2 ^ 31) : i.toInt32.toNatClampNeg = i ∧ ¬ i.toInt32 < 0 := by
  have e : i.toInt32.toInt = i := len_toInt hi
  refine ⟨?_, ?_⟩
  · show i.toInt32.toInt.toNat = i
    rw [e]; rfl
  · rw [Int32.lt_iff_toInt_lt, e]
    have z : (0 : Int32).toInt = 0 := by decide
    omega
theorem lt_of_nat {i : Nat} {z : Int32} (hz : ¬ z < 0) (hi : i < z.toNatClampNeg) : i.toInt32 < z ∧ i < 2 ^ 31 := by
  have q := nat_of hz
  have b := rng32 z
  have hb : i < 2 ^ 31 := by omega
  refine ⟨?_, hb⟩
  rw [Int32.lt_iff_toInt_lt, len_toInt hb]
  omega
theorem Fa.fitC {cl : Cell} (A : Arr Z h a cl ty) (S : cl.slots.size = n.toNatClampNeg) (M : ¬ n < 0) (H : ∀ j : Int32, ¬ j < 0 → j < n → cl.slots[j.toNatClampNeg]? = some (yv j) ∧ fits ty (yv j) = true) : FitC Z cl :=
  fitC_of A fun i hi w hw => by
    have q := lt_of_nat M (S ▸ hi)
    have r := nat_back q.2
    have u := H i.toInt32 r.2 q.1
    rw [r.1] at u
    cases hw.symm.trans u.1
    exact u.2
theorem Go.clone (X : Stand p l e R s m args below meth c T locs cells slots) (hx : p.tables.exec = Jvm.exec) (hZ : Z.Warmed39 s.vm) {own ad : String} {index : Nat} (hown : s.vm.findClass own = some m.cls)
    (w1 : (Cond.methodLink own index ⟨ad, "clone", "()Ljava/lang/Object;"⟩).before a0 Z = true) (w2 : (Cond.sameMethod ad "java/lang/Object" "clone" "()Ljava/lang/Object;").before a0 Z = true) (w3 : (Cond.native ⟨"java/lang/Object", "clone", "()Ljava/lang/Object;"⟩).before a0 Z = true)
    (w4 : (Cond.instanceMethod ⟨"java/lang/Object", "clone", "()Ljava/lang/Object;"⟩).before a0 Z = true) (w5 : (Cond.selects ad ⟨ad, "clone", "()Ljava/lang/Object;"⟩ ⟨"java/lang/Object", "clone", "()Ljava/lang/Object;"⟩).before a0 Z = true) (w6 : (Cond.castable ad "java/lang/Cloneable").before a0 Z = true)
    (eT : T.heap = h) (F : Fa Z h a ty n yv) (E : Exa Z h a ad) (hg : g.method = m) (hsize : g.locals.size = c.maxLocals) (hs : g.stack = .ref a :: rest) (hd : decode c.code g.pc = .ok (.invokevirtual index, 3))
    (hf : 1 ≤ R.frames) {W cap : Nat} (hW : 2 * g.monitorRoom + (rest.map fun v => v.category).sum ≤ W) (hl : W + 14 ≤ R.locals) (hcap : n.toNatClampNeg ≤ cap) (hc : cells + 1 ≤ R.cells) (hsl : slots + cap ≤ R.slots)
    (k : ∀ T' h' b, b = h.size → Stand p l e R s m args below meth c T' locs (cells + 1) (slots + cap) → T'.heap = h' → Ext h h' → Fa Z h' b ty n yv → Exa Z h' b ad → Go p e below P T' { g with pc := g.pc + 3, stack := .ref b :: rest }) : Go p e below P T g := by
  obtain ⟨cl, A, S, M, H⟩ := id F
  obtain ⟨T', h', X', e', ex, A', E', st⟩ := cloneA X hx hZ hown w1 w2 w3 w4 w5 w6 eT A E (Fa.fitC A S M H) hg hsize hs hd hf hW hl (by rw [S]; exact hcap) hc hsl
  exact Go.of _ st (k _ _ _ rfl X' e' ex ⟨cloneOf cl, A', S, M, H⟩ E')
theorem exa_ns {C : String} (E : Exa Z h a C) : ∀ c : Cell, h[a]? = some c → c.vm.isStatics = false := fun c hc => by
  obtain ⟨c', k, h1, -, -, h4, -⟩ := E
  cases h1.symm.trans hc; exact h4
theorem Sta.keep {C nn d : String} (F : Sta Z h C nn d v) (K : Keep h h' hws) (q : ∀ x ∈ hws, ∀ c : Cell, h[x]? = some c → c.vm.isStatics = false) : Sta Z h' C nn d v := by
  obtain ⟨cf, i, k, f, st, cell, h1, h2, h3, h4, h5, h6, h7⟩ := F
  refine ⟨cf, i, k, f, st, cell, h1, h2, h3, h4, K.2.1 _ _ h5 fun z => ?_, h6, h7⟩
  rw [q _ z _ h5] at h6; cases h6
/-- an inherited instance method (the entry names it through the subclass) -/
theorem Go.virtUp (X : Stand p l e R s m args below meth c T locs cells slots) (hx : p.tables.exec = Jvm.exec) (hZ : Z.Warmed39 s.vm) {own C owner : String} {z : MethodName} {index W : Nat} {argsL : List Value} (hown : s.vm.findClass own = some m.cls)
    (w1 : (Cond.methodLink own index z).before a0 Z = true) (w2 : (Cond.sameMethod z.cls owner z.name z.desc).before a0 Z = true) (w8 : (Cond.declares ⟨owner, z.name, z.desc⟩).before a0 Z = true) (hy : owner ≠ "java/lang/invoke/MethodHandle" ∧ owner ≠ "java/lang/invoke/VarHandle") (w5 : (Cond.selects C z y).before a0 Z = true) (w6 : (Cond.instanceMethod y).before a0 Z = true) (w3 : (Cond.initialized y.cls).before a0 Z = true) (w4 : (Cond.code y bytes maxL ret).before a0 Z = true)
    (eT : T.heap = h) (E : Exa Z h a C) (hM : Met l Z y bytes maxL ret [] rm (.ref a :: argsL).toArray h Q)
    (hg : g.method = m) (hsize : g.locals.size = c.maxLocals) (hlen : ∀ sig, parseMethodDescriptor z.desc = some sig → argsL.length = sig.parameters.length) (hs : g.stack = argsL.reverse ++ .ref a :: rest)
    (hW : 2 * g.monitorRoom + (rest.map fun v => v.category).sum ≤ W) (hd : decode c.code g.pc = .ok (.invokevirtual index, 3)) (hf : rm.frames + 1 ≤ R.frames) (hl : W + (maxL + 11) + rm.locals ≤ R.locals) (hc : cells + rm.cells ≤ R.cells) (hsl : slots + rm.slots ≤ R.slots)
    (k : ∀ T' L v, Stand p l e R s m args below meth c T' (locs ++ L) (cells + rm.cells) (slots + rm.slots) → Q v T'.heap L → Go p e below P T' { g with pc := g.pc + 3, stack := v.toList ++ rest }) : Go p e below P T g := by
  obtain ⟨cq, kq, qa, qb, qc⟩ := isOf hZ eT E
  obtain ⟨v, _, ⟨U, L, q1, q2⟩, -, X', ⟨Lc, hQ, l1, l2, l3⟩, st⟩ := X.virtualBackUp hx (x := z) (y := y) hown (mvT hZ w1) (mvT hZ w2) (mvT hZ w8) hy (mvT hZ w5) (mvT hZ w6) (backOf (W := W) hM hZ w4 w3 hf hl) qa qc hg hsize (Steps.refl _) hlen hs hW hd (fun _ _ => ⟨rfl, eT, hc, hsl⟩)
  dsimp only [Pt.U, Pt.locs, Pt.cells, Pt.slots] at X' l1 l2 l3 st hQ
  subst l1 l2 l3
  exact Go.via _ st (k _ _ _ X' hQ)
/-- the two sides of a call as the pasted laws of String have them -/
abbrev BPre (R : Room) (as' : Array Value) (h : Heap) (kc ks : Nat) : Pt → Array Value → Prop := fun P a => a = as' ∧ P.U.heap = h ∧ P.cells + kc ≤ R.cells ∧ P.slots + ks ≤ R.slots
abbrev BPost (Q : Option Value → Heap → List Loc → Prop) (kc ks : Nat) : Pt → Array Value → Option Value → Pt → Prop := fun P _ v B => ∃ L, Q v B.U.heap L ∧ B.locs = P.locs ++ L ∧ B.cells = P.cells + kc ∧ B.slots = P.slots + ks
theorem Go.initB (X : Stand p l e R s m args below meth c T locs cells slots) (hx : p.tables.exec = Jvm.exec) (hZ : Z.Warmed39 s.vm) {own : String} {index W kc ks : Nat} {argsL : List Value} (hown : s.vm.findClass own = some m.cls) (hy1 : y.name = "<init>")
    (w1 : (Cond.methodLink own index y).before a0 Z = true) (w2 : (Cond.instanceMethod y).before a0 Z = true) (w4 : (Cond.code y bytes maxL none).before a0 Z = true)
    (hy : y.cls ≠ "java/lang/invoke/MethodHandle" ∧ y.cls ≠ "java/lang/invoke/VarHandle") (eT : T.heap = h) (hK : Back l R p e below s args y 3 W (BPre R (.ref a :: argsL).toArray h kc ks) (BPost Q kc ks))
    (hg : g.method = m) (hsize : g.locals.size = c.maxLocals) (hlen : ∀ sig, parseMethodDescriptor y.desc = some sig → argsL.length = sig.parameters.length) (hs : g.stack = argsL.reverse ++ .ref a :: rest)
    (hW : 2 * g.monitorRoom + (rest.map fun v => v.category).sum ≤ W) (hd : decode c.code g.pc = .ok (.invokespecial index, 3)) (hc : cells + kc ≤ R.cells) (hsl : slots + ks ≤ R.slots)
    (k : ∀ T' L v, Stand p l e R s m args below meth c T' (locs ++ L) (cells + kc) (slots + ks) → Q v T'.heap L → Go p e below P T' { g with pc := g.pc + 3, stack := v.toList ++ rest }) : Go p e below P T g := by
  obtain ⟨v, _, ⟨U, L, q1, q2⟩, -, X', ⟨Lc, hQ, l1, l2, l3⟩, st⟩ := X.specialBack hx (y := y) hy1 hown (mvT hZ w1) (mvT hZ w2) (mvT hZ w4) hy hK hg hsize (Steps.refl _) hlen hs hW hd (fun _ _ => ⟨rfl, eT, hc, hsl⟩)
  dsimp only [Pt.U, Pt.locs, Pt.cells, Pt.slots] at X' l1 l2 l3 st hQ
  subst l1 l2 l3
  exact Go.via _ st (k _ _ _ X' hQ)
theorem Go.virtB (X : Stand p l e R s m args below meth c T locs cells slots) (hx : p.tables.exec = Jvm.exec) (hZ : Z.Warmed39 s.vm) {own C : String} {z : MethodName} {index W kc ks : Nat} {argsL : List Value} (hown : s.vm.findClass own = some m.cls)
    (w1 : (Cond.methodLink own index z).before a0 Z = true) (w2 : (Cond.declares z).before a0 Z = true) (nf : NotFace s z) (w5 : (Cond.selects C z y).before a0 Z = true) (w6 : (Cond.instanceMethod y).before a0 Z = true)
    (hy : z.cls ≠ "java/lang/invoke/MethodHandle" ∧ z.cls ≠ "java/lang/invoke/VarHandle") (eT : T.heap = h) (E : Exa Z h a C) (hK : Back l R p e below s args y 3 W (BPre R (.ref a :: argsL).toArray h kc ks) (BPost Q kc ks))
    (hg : g.method = m) (hsize : g.locals.size = c.maxLocals) (hlen : ∀ sig, parseMethodDescriptor z.desc = some sig → argsL.length = sig.parameters.length) (hs : g.stack = argsL.reverse ++ .ref a :: rest)
    (hW : 2 * g.monitorRoom + (rest.map fun v => v.category).sum ≤ W) (hd : decode c.code g.pc = .ok (.invokevirtual index, 3)) (hc : cells + kc ≤ R.cells) (hsl : slots + ks ≤ R.slots)
    (k : ∀ T' L v, Stand p l e R s m args below meth c T' (locs ++ L) (cells + kc) (slots + ks) → Q v T'.heap L → Go p e below P T' { g with pc := g.pc + 3, stack := v.toList ++ rest }) : Go p e below P T g := by
  obtain ⟨cq, kq, qa, qb, qc⟩ := isOf hZ eT E
  obtain ⟨v, _, ⟨U, L, q1, q2⟩, -, X', ⟨Lc, hQ, l1, l2, l3⟩, st⟩ := X.virtualBack hx (y := z) (z := y) hown (mvT hZ w1) (mvT hZ w2) nf (mvT hZ w5) (mvT hZ w6) hy hK qa qc hg hsize (Steps.refl _) hlen hs hW hd (fun _ _ => ⟨rfl, eT, hc, hsl⟩)
  dsimp only [Pt.U, Pt.locs, Pt.cells, Pt.slots] at X' l1 l2 l3 st hQ
  subst l1 l2 l3
  exact Go.via _ st (k _ _ _ X' hQ)
theorem Fa.toArv {vs : List Value} {dv : Value} (F : Fa Z h a ty n yv) (q : ∀ i : Nat, i < n.toNatClampNeg → vs.getD i dv = yv i.toInt32) : ∃ k, Arv Z h a k ty n vs dv := by
  obtain ⟨cl, A, S, M, H⟩ := F
  refine ⟨cl.cls, cl, A, rfl, S, M, fun i hi => ?_, fun i hi => ?_⟩
  · rw [S] at hi
    have b := lt_of_nat M hi
    have r := nat_back b.2
    have u := (H _ r.2 b.1).1
    rw [r.1] at u; rw [q i hi]; exact u
  · rw [S] at hi
    have b := lt_of_nat M hi
    have r := nat_back b.2
    rw [q i hi]; exact (H _ r.2 b.1).2
/-- the array's class is that of the arrays over an array class C of components ty -/
def UtA (Z : State) (h : Heap) (a : Addr) (ty : FieldType) (C : String) : Prop := ∃ c : Cell, h[a]? = some c ∧ OvrA Z c.cls ty C
theorem UtA.ext {C : String} (F : UtA Z h a ty C) (E : Ext h h') : UtA Z h' a ty C := by obtain ⟨c, A, r⟩ := F; exact ⟨c, E.2 _ _ A, r⟩
theorem UtA.wr {C : String} (F : UtA Z h b ty C) (W : Wr h h' a sl v) : UtA Z h' b ty C := by
  obtain ⟨c, A, r⟩ := F
  obtain ⟨c', e1, e2, -⟩ := wr_at W A
  exact ⟨c', e1, by rw [e2]; exact r⟩
theorem UtA.keep {C : String} (F : UtA Z h a ty C) (K : Keep h h' hws) : UtA Z h' a ty C := by
  obtain ⟨c, A, r⟩ := F
  obtain ⟨c', e1, e2, -⟩ := K.2.2 _ _ A
  exact ⟨c', e1, by rw [e2]; exact r⟩
theorem Fa.stoA {C : String} {ty' : FieldType} (F : Fa Z h a ty n yv) (U : UtA Z h a ty' C) (I : Ins Z h b C true) : Sto Z h a (.ref b) := by
  obtain ⟨c, A, -⟩ := F
  obtain ⟨c', A', O⟩ := U
  cases A.1.symm.trans A'
  exact Sto.ofVA A rfl O I
theorem Go.daload (X : Stand p l e R s m args below meth c T locs cells slots) (hx : p.tables.exec = Jvm.exec) (hZ : Z.Warmed39 s.vm) (eT : T.heap = h) {y : Int32 → UInt64} (F : Fa Z h a .double n (fun i => .double (y i))) (h0 : ¬ j < 0) (h1 : j < n) (hg : g.method = m) (hs : g.stack = .int j :: .ref a :: rest) (hd : decode c.code g.pc = .ok (.daload, 1))
    (k : Go p e below P T { g with pc := g.pc + 1, stack := .double (y j) :: rest }) : Go p e below P T g := by
  obtain ⟨cl, A, S, M, H⟩ := F
  exact Go.of _ (fun t k => X.daload hx (by rw [eT]; exact A.1) (State.isArrayOf_alike hZ.alike A.2.1) A.2.2 (inb_of S ⟨h0, h1⟩) (H j h0 h1).1 hg hs hd _ k) k
theorem Go.dastore (X : Stand p l e R s m args below meth c T locs cells slots) (hx : p.tables.exec = Jvm.exec) (hZ : Z.Warmed39 s.vm) (eT : T.heap = h) {y : Int32 → UInt64} {x : UInt64} (F : Fa Z h a .double n (fun i => .double (y i))) (h0 : ¬ j < 0) (h1 : j < n) (hg : g.method = m) (hs : g.stack = .double x :: .int j :: .ref a :: rest) (hd : decode c.code g.pc = .ok (.dastore, 1))
    (k : ∀ T' h', Stand p l e R s m args below meth c T' (locs ++ [⟨a, j.toNatClampNeg⟩]) cells slots → T'.heap = h' → Wr h h' a j.toNatClampNeg (.double x) → Fa Z h' a .double n (fun i => .double (fnup y j x i)) → Go p e below P T' { g with pc := g.pc + 1, stack := rest }) : Go p e below P T g := by
  obtain ⟨cl, A, S, M, H⟩ := id F
  obtain ⟨T', h', X', e', W, st⟩ := stD X hx hZ eT A (inb_of S ⟨h0, h1⟩) hg hs hd
  exact Go.of _ st (k _ _ X' e' W (by have := F.set W h0 rfl; rwa [fnup_dbl] at this))
/-- an interface method -/
theorem Go.face (X : Stand p l e R s m args below meth c T locs cells slots) (hx : p.tables.exec = Jvm.exec) (hZ : Z.Warmed39 s.vm) {own C : String} {z : MethodName} {index count W : Nat} {a : Addr} {argsL rest : List Value} (hown : s.vm.findClass own = some m.cls)
    (w1 : (Cond.methodLink own index z).before a0 Z = true) (w2 : (Cond.declares z).before a0 Z = true) (w7 : (Cond.interfaceMethod z.cls z.cls z.name z.desc).before args s = true) (w5 : (Cond.selects C z y).before a0 Z = true) (w6 : (Cond.instanceMethod y).before a0 Z = true)
    (w8 : (Cond.publicMethod y).before a0 Z = true) (w9 : (Cond.unhidden C z.name z.desc).before a0 Z = true) (w10 : (Cond.castable C z.cls).before a0 Z = true) (w3 : (Cond.initialized y.cls).before a0 Z = true) (w4 : (Cond.code y bytes maxL ret).before a0 Z = true)
    (hy : z.cls ≠ "java/lang/invoke/MethodHandle" ∧ z.cls ≠ "java/lang/invoke/VarHandle") (eT : T.heap = h) (E : Exa Z h a C) (hM : Met l Z y bytes maxL ret [] rm (.ref a :: argsL).toArray h Q)
    (hg : g.method = m) (hsize : g.locals.size = c.maxLocals) (hlen : ∀ sig, parseMethodDescriptor z.desc = some sig → argsL.length = sig.parameters.length) (hs : g.stack = argsL.reverse ++ .ref a :: rest)
    (hW : 2 * g.monitorRoom + (rest.map fun v => v.category).sum ≤ W) (hd : decode c.code g.pc = .ok (.invokeinterface index count, 5)) (hf : rm.frames + 1 ≤ R.frames) (hl : W + (maxL + 11) + rm.locals ≤ R.locals) (hc : cells + rm.cells ≤ R.cells) (hsl : slots + rm.slots ≤ R.slots)
    (k : ∀ T' L v, Stand p l e R s m args below meth c T' (locs ++ L) (cells + rm.cells) (slots + rm.slots) → Q v T'.heap L → Go p e below P T' { g with pc := g.pc + 5, stack := v.toList ++ rest }) : Go p e below P T g := by
  obtain ⟨cq, kq, qa, qb, qc⟩ := isOf hZ eT E
  obtain ⟨v, _, ⟨U, L, q1, q2⟩, -, X', ⟨Lc, hQ, l1, l2, l3⟩, st⟩ := X.interfaceBack hx (xi := z) (y := y) hown (mvT hZ w1) (mvT hZ w2) w7 (mvT hZ w5) (mvT hZ w6) (mvT hZ w8) (mvT hZ w9) (mvT hZ w10) hy (backOf (W := W) hM hZ w4 w3 hf hl) qa qb qc hg hsize (Steps.refl _) hlen hs hW hd (fun _ _ => ⟨rfl, eT, hc, hsl⟩)
  dsimp only [Pt.U, Pt.locs, Pt.cells, Pt.slots] at X' l1 l2 l3 st hQ
  subst l1 l2 l3
  exact Go.via _ st (k _ _ _ X' hQ)
theorem nat_of_pos {j : Int32} (q : ¬ j < 0) : j.toNatClampNeg.toInt32 = j := by
  have e := nat_of q
  have b := rng32 j
  exact Int32.toInt_inj.mp (by rw [len_toInt (by omega)]; omega)
/-- System.arraycopy of nothing within one array -/
theorem Go.copy0 (X : Stand p l e R s m args below meth c T locs cells slots) (hx : p.tables.exec = Jvm.exec) (hZ : Z.Warmed39 s.vm) {own : String} {index : Nat} {a : Addr} (hown : s.vm.findClass own = some m.cls)
    (w1 : (Cond.methodLink own index Jvm.Stand.acN).before a0 Z = true) (w2 : (Cond.native Jvm.Stand.acN).before a0 Z = true) (w3 : (Cond.static Jvm.Stand.acN).before a0 Z = true) (w4 : (Cond.initialized "java/lang/System").before a0 Z = true) (eT : T.heap = h)
    {ty : FieldType} {n sp dp : Int32} {yv : Int32 → Value} (F : Fa Z h a ty n yv) (hty : refKind ty = false) (h1 : ¬ sp < 0) (h2 : ¬ dp < 0) (h4 : sp.toNatClampNeg ≤ n.toNatClampNeg) (h5 : dp.toNatClampNeg ≤ n.toNatClampNeg)
    {n0 : Nat} (N : Fr n0 locs) (ge : n0 ≤ a) (hg : g.method = m) (hsize : g.locals.size = c.maxLocals) {rest : List Value} (hs : g.stack = .int (0 : Int32) :: .int dp :: .ref a :: .int sp :: .ref a :: rest) (hd : decode c.code g.pc = .ok (.invokestatic index, 3))
    (hf : 1 ≤ R.frames) {W : Nat} (hW : 2 * g.monitorRoom + (rest.map fun v => v.category).sum ≤ W) (hlo : W + (nativeFrameWords "java/lang/System" "arraycopy" 5 + 11) ≤ R.locals)
    (k : ∀ T' h' L, Stand p l e R s m args below meth c T' L cells slots → T'.heap = h' → Fr n0 L → Keep h h' [a] → Fa Z h' a ty n yv → Go p e below P T' { g with pc := g.pc + 3, stack := rest }) : Go p e below P T g := by
  obtain ⟨kc, A⟩ := F.toArv (vs := (List.range n.toNatClampNeg).map fun i => yv i.toInt32) (dv := .null) (fun i hi => by simp [List.getD_eq_getElem?_getD, List.getElem?_range hi])
  have z0 : (0 : Int32).toNatClampNeg = 0 := rfl
  obtain ⟨T', h', L, X', e', N', K', A', st⟩ := cpA X hx hZ hown w1 w2 w3 w4 eT (us := []) A A (Or.inl ⟨rfl, hty⟩) h1 h2 (by decide) (by rw [z0]; exact h4) (by rw [z0]; exact h5) (by rw [z0]; rfl) (by rw [z0]; simpa using h5) N ge hg hsize hs hd hf hW hlo
  refine Go.of _ st (k _ _ _ X' e' N' K' ?_)
  refine (Fa.ofArv A').congr fun j q0 q1 => ?_
  have lj : j.toNatClampNeg < n.toNatClampNeg := by
    have e1 := nat_of q0
    have e2 := nat_of F.pos
    rw [Int32.lt_iff_toInt_lt] at q1
    omega
  rw [z0, Nat.add_zero, List.append_nil, List.take_append_drop, List.getD_eq_getElem?_getD, List.getElem?_map, List.getElem?_range lj]
  simp [nat_of_pos q0]
end Own
end Jvm.OwnGo
namespace Jvm.OwnGo
open Jvm Jvm.ClassFile Sem Op Lib Bundle Jvm.Free Jvm.Stand Jvm.LawKit Jvm.RoadKit Jvm.Free.SB Jvm.Free.SBG
section OwnCold
variable {p : Program} {l : Launch} {e : Env} {R : Room} {s : State} {m : MethodId} {args : Array Value} {below : List Frame} {meth : Method} {c : Code} {T T' : State} {locs : List Loc} {cells slots : Nat} {Z : State} {a0 : Array Value} {h h' : Heap} {g g' : JFrame} {P : Outcome → State → Prop}
variable {EL : List (String × Nat)} {vm0 : Vm} {y : MethodName} {bytes : ByteArray} {maxL : Nat} {ret : Option FieldType} {rm : Room} {as' : Array Value} {h0 : Heap} {Q : Option Value → Heap → List Loc → Prop}
/-- the contract of a method that may intern the constants of EL -/
def MetC (l : Launch) (Z : State) (EL : List (String × Nat)) (y : MethodName) (bytes : ByteArray) (maxL : Nat) (ret : Option FieldType) (ws : List Cond) (rm : Room) (as' : Array Value) (h0 : Heap) (Q : Option Value → Heap → List Loc → Prop) : Prop :=
  MetFree l y (head1 (Cond.code y bytes maxL ret :: ws) rm) (fun a U => a = as' ∧ Z.Warmed39 U.vm ∧ U.heap = h0 ∧ CHv Z EL U.vm h0) (fun _ _ _ _ _ => True)
    (fun _ U o U' => ∃ v L, o = .returned v ∧ Q v U'.heap L ∧ CHr Z EL U.vm U.heap U'.vm U'.heap ∧ ReturnedEndW U o U' L rm.cells rm.slots)
abbrev EndC (s : State) (Z : State) (EL : List (String × Nat)) (rm : Room) (Q : Option Value → Heap → List Loc → Prop) : Outcome → State → Prop :=
  fun o U' => ∃ v L, o = .returned v ∧ Q v U'.heap L ∧ CHr Z EL s.vm s.heap U'.vm U'.heap ∧ ReturnedEndW s o U' L rm.cells rm.slots
/-- what a walk that may have interned carries beside its Stand (over s.setVm vm0) -/
def Cld (Z : State) (EL : List (String × Nat)) (s : State) (vm0 : Vm) (h : Heap) : Prop := CHv Z EL vm0 h ∧ CHr Z EL s.vm s.heap vm0 h ∧ ∃ k0, s.Since vm0 k0 ∧ k0 ≤ h.size
theorem Cld.ext (C : Cld Z EL s vm0 h) (E : Ext h h') : Cld Z EL s vm0 h' := by
  obtain ⟨c1, c2, k, c3, c4⟩ := C; exact ⟨c1.ext E, c2.trans (CHr.ext E c1), k, c3, Nat.le_trans c4 E.1⟩
theorem Cld.wr {a : Addr} {sl : Nat} {v : Value} (C : Cld Z EL s vm0 h) (W : Wr h h' a sl v) (S : Safe Z EL vm0 h a) : Cld Z EL s vm0 h' := by
  obtain ⟨c1, c2, k, c3, c4⟩ := C; exact ⟨c1.wr W S, c2.trans (CHr.wr W S c1), k, c3, Nat.le_trans c4 (Nat.le_of_eq W.size.symm)⟩
theorem Cld.keep {ws : List Addr} (C : Cld Z EL s vm0 h) (K : Keep h h' ws) (hs : ∀ x ∈ ws, Safe Z EL vm0 h x) : Cld Z EL s vm0 h' := by
  obtain ⟨c1, c2, k, c3, c4⟩ := C; exact ⟨c1.keep K hs, c2.trans (CHr.keep K hs c1), k, c3, Nat.le_trans c4 K.1⟩
theorem Cld.new {x : Addr} (C : Cld Z EL s vm0 h) (q : h.size ≤ x) : Safe Z EL vm0 h x := Safe.new q
theorem Cld.since (C : Cld Z EL s vm0 h) : ∃ k0, s.Since vm0 k0 ∧ k0 ≤ h.size := C.2.2
theorem Fa.safe {x : Addr} {ty : FieldType} {n : Int32} {yv : Int32 → Value} (hZ : Z.Warmed39 vm0) (F : Fa Z h x ty n yv) (ht : ty ≠ .byte) : Safe Z EL vm0 h x := by
  obtain ⟨cl, A, -⟩ := F; exact Safe.arr hZ.alike A ht
theorem MetC.intro {ws : List Cond} (hpl : plainFor y = true)
    (body : ∀ p e s m below meth c s₁, Stand p l e rm (s.setVm s.vm) m as' below meth c s₁ [] 0 0 → p.tables.exec = Jvm.exec → Z.Warmed39 (s.setVm s.vm).vm → (s.setVm s.vm).vm.findClass y.cls = some m.cls → c.code = bytes → c.maxLocals = maxL →
      meth.sig.returnType = ret → meth.locks = false → meth.name = y.name → s₁.heap = h0 → Cld Z EL s s.vm h0 → Go p e below (EndC s Z EL rm Q) s₁ (entryFrame m as' maxL)) : MetC l Z EL y bytes maxL ret ws rm as' h0 Q := by
  refine MetFree.of_bodySF hpl hisR ?_
  intro p e s m args below meth c s₁ Bd hml0 hP hK
  obtain ⟨rfl, hZ, hh, hC⟩ := hP
  have X : Stand p l e rm s m args below meth c s₁ [] 0 0 := Stand.of_body Bd
  refine body p e s m below meth c s₁ X Bd.exec hZ (findClass_of_methodNamed Bd.named) Bd.bytes hml0 Bd.returns Bd.notSynchronized (name_of_methodNamed Bd.named Bd.method).1 (by rw [← hh, Bd.state]; rfl) ⟨hC, ?_, 0, (State.WarmedH.refl s).since 0, Nat.zero_le _⟩
  rw [hh]; exact CHr.refl hC
theorem Go.finC (X : Stand p l e R (s.setVm vm0) m args below meth c T locs cells slots) (hZ : Z.Warmed39 (s.setVm vm0).vm) (hEL : EW Z a0 EL) (eT : T.heap = h) (C : Cld Z EL s vm0 h) {v : Option Value} (hv : meth.sig.returnType = none → v = none) (hlk : meth.locks = false) (hc : cells ≤ rm.cells) (hs : slots ≤ rm.slots)
    (st : ∀ fs, (∀ (f : JFrame) (acts : List Action), f.method = m → f.locked = none → f.entered = [] → (doReturn e (T.setTop f) acts v).1 = T.setFrames fs) → Steps p.tables e below (T.setTop g) (T.setFrames fs)) (hQ : Q v T.heap locs) : Go p e below (EndC s Z EL rm Q) T g := by
  subst eT
  obtain ⟨c1, c2, k, c3, c4⟩ := C
  obtain ⟨fs, hr, hrun, hended, hW⟩ := X.leaveW c3 c4 (v := v) hv hlk
  exact ⟨_, _, st fs hr, hrun, hended, v, locs, rfl, hQ, c2.trans (show CHr Z EL vm0 T.heap T.vm T.heap from CHv.at X hZ hEL c1), hW.1, hW.2.1, hW.2.2.1, hW.2.2.2.mono hc hs⟩
theorem Go.retWC (X : Stand p l e R (s.setVm vm0) m args below meth c T locs cells slots) (hx : p.tables.exec = Jvm.exec) (hZ : Z.Warmed39 (s.setVm vm0).vm) (hEL : EW Z a0 EL) (eT : T.heap = h) (C : Cld Z EL s vm0 h) {pc : Nat} {Ls : Array Slot} {w : Value} {t : FieldType} {i : Instr} {rest : List Value} (hret : meth.sig.returnType = some t) (hlk : meth.locks = false) (hn : narrow t w = w)
    (hi : (i = .ireturn ∧ (t = .int ∨ t = .boolean ∨ t = .byte ∨ t = .char ∨ t = .short) ∧ ∃ z, w = .int z) ∨ (i = .lreturn ∧ t = .long ∧ ∃ z, w = .long z) ∨ (i = .dreturn ∧ t = .double ∧ ∃ z, w = .double z) ∨ (i = .freturn ∧ t = .float ∧ ∃ z, w = .float z) ∨ (i = .areturn ∧ t.isReference = true ∧ w.isRef = true))
    (hd : decode c.code pc = .ok (i, 1)) (hc : cells ≤ rm.cells) (hs : slots ≤ rm.slots) (hQ : Q (some w) T.heap locs) : Go p e below (EndC s Z EL rm Q) T (mkF m pc Ls (w :: rest)) :=
  Go.finC X hZ hEL eT C (fun q => by rw [hret] at q; cases q) hlk hc hs (fun fs hr => retOut X hx hret hn hi hd hr) hQ
theorem Go.retVC (X : Stand p l e R (s.setVm vm0) m args below meth c T locs cells slots) (hx : p.tables.exec = Jvm.exec) (hZ : Z.Warmed39 (s.setVm vm0).vm) (hEL : EW Z a0 EL) (eT : T.heap = h) (C : Cld Z EL s vm0 h) {pc : Nat} {Ls : Array Slot} (hret : meth.sig.returnType = none) (hlk : meth.locks = false)
    (hd : decode c.code pc = .ok (.return_, 1)) (hc : cells ≤ rm.cells) (hs : slots ≤ rm.slots) (hQ : Q none T.heap locs) : Go p e below (EndC s Z EL rm Q) T (mkF m pc Ls []) :=
  Go.finC X hZ hEL eT C (fun _ => rfl) hlk hc hs (fun fs hr => X.returnOut hx hret hd hr) hQ
/-- ldc of a String constant of EL -/
theorem Go.ldcC (X : Stand p l e R (s.setVm vm0) m args below meth c T locs cells slots) (hx : p.tables.exec = Jvm.exec) (hZ : Z.Warmed39 (s.setVm vm0).vm) {own text : String} {index : Nat} (hown : (s.setVm vm0).vm.findClass own = some m.cls) (w : (Cond.stringLink own index text).before a0 Z = true) (wS : ∀ a ∈ Bundle.stringAtoms, a.before a0 Z = true)
    (hEL : EW Z a0 EL) (hmem : (own, index) ∈ EL) (eT : T.heap = h) (C : Cld Z EL s vm0 h) {vs : List Value} {z : Int32} (ht : (∀ c ∈ text.toList, c.toNat < 256) ∧ text.toList.map (fun c => Value.int (Jvm.Lit.byteI c.toNat.toUInt16)) = vs) (hz : ¬ z < 0) (hl : z.toNatClampNeg = vs.length)
    (hg : g.method = m) (hd : decode c.code g.pc = .ok (.ldc index, 2)) {n : Nat} (hn : 4 * text.toList.length ≤ n) (hbig : n ≤ 536870912) (hc : cells + 2 ≤ R.cells) (hl' : slots + (n + 4) ≤ R.slots)
    (k : ∀ (a b : Addr) (T' : State) (h' : Heap), Stand p l e R (s.setVm T'.vm) m args below meth c T' locs (cells + 2) (slots + (n + 4)) → T'.heap = h' → Ext h h' → Z.Warmed39 (s.setVm T'.vm).vm → (s.setVm T'.vm).vm.findClass own = some m.cls → Cld Z EL s T'.vm h' → CHr Z EL vm0 h T'.vm h' →
      Exa Z h' a "java/lang/String" → Fld Z h' a "java/lang/String" "coder" "B" (.int 0) → Fld Z h' a "java/lang/String" "value" "[B" (.ref b) → Fa Z h' b .byte z (fun j => vs.getD j.toNatClampNeg (.int 0)) → (∀ x, Safe Z EL T'.vm h' x → x ≠ a ∧ x ≠ b) →
      Go p e below P T' { g with pc := g.pc + 2, stack := .ref a :: g.stack }) : Go p e below P T g := by
  obtain ⟨c1, c2, k0, c3, c4⟩ := C
  obtain ⟨a, T', h', k1, b, kk, X', e', E, S', hk', hZ', ho', x1, x2, x3, x4, -, -, r, -, sf, st⟩ := ldcCH X hx hZ hown w wS eT c3 c4 hEL hmem c1 ht hz hl hg hd hn hbig hc hl'
  exact Go.of _ st (k a b T' h' X' e' E hZ' ho' ⟨r.1, c2.trans r, k1, S', hk'⟩ r x1 x2 x3 (Fa.ofArv x4) sf)
/-- a static call of a method that may intern -/
theorem Go.callSC (X : Stand p l e R (s.setVm vm0) m args below meth c T locs cells slots) (hx : p.tables.exec = Jvm.exec) (hZ : Z.Warmed39 (s.setVm vm0).vm) {own : String} {index W : Nat} {argsL rest : List Value} (hown : (s.setVm vm0).vm.findClass own = some m.cls) (hEL : EW Z a0 EL) (C : Cld Z EL s vm0 h)
    (w1 : (Cond.methodLink own index y).before a0 Z = true) (w2 : (Cond.static y).before a0 Z = true) (w3 : (Cond.initialized y.cls).before a0 Z = true) (w4 : (Cond.code y bytes maxL ret).before a0 Z = true)
    (hy : y.cls ≠ "java/lang/invoke/MethodHandle" ∧ y.cls ≠ "java/lang/invoke/VarHandle") (eT : T.heap = h) (hM : MetC l Z EL y bytes maxL ret [] rm argsL.toArray h Q)
    (hg : g.method = m) (hsize : g.locals.size = c.maxLocals) (hlen : ∀ sig, parseMethodDescriptor y.desc = some sig → argsL.length = sig.parameters.length) (hs : g.stack = argsL.reverse ++ rest)
    (hW : 2 * g.monitorRoom + (rest.map fun v => v.category).sum ≤ W) (hd : decode c.code g.pc = .ok (.invokestatic index, 3)) (hf : rm.frames + 1 ≤ R.frames) (hl : W + (maxL + 11) + rm.locals ≤ R.locals) (hc : cells + rm.cells ≤ R.cells) (hsl : slots + rm.slots ≤ R.slots)
    (k : ∀ T' L v, Stand p l e R (s.setVm T'.vm) m args below meth c T' (locs ++ L) (cells + rm.cells) (slots + rm.slots) → Q v T'.heap L → Z.Warmed39 (s.setVm T'.vm).vm → (s.setVm T'.vm).vm.findClass own = some m.cls → Cld Z EL s T'.vm T'.heap → CHr Z EL vm0 h T'.vm T'.heap → Go p e below P T' { g with pc := g.pc + 3, stack := v.toList ++ rest }) : Go p e below P T g := by
  obtain ⟨c1, c2, k0, c3, c4⟩ := C
  obtain ⟨v, _, ⟨U, L, q1, q2⟩, -, X', hS, hgr, ⟨Lc, hQ, l1, l2, l3, hr⟩, st⟩ := callSS X hx (y := y) hown (mvT hZ w1) (mvT hZ w2) (mvT hZ w3) (mvT hZ w4) hy (backOfSH (W := W) hM hZ w4 w3 hf hl hEL c1) hg hsize hlen hs hW hd (fun _ _ => ⟨rfl, eT, hc, hsl⟩)
  dsimp only [Pt.U, Pt.locs, Pt.cells, Pt.slots] at X' l1 l2 l3 st hQ hS hgr hr
  subst l1 l2 l3
  refine Go.via _ st (k _ _ _ X' hQ (State.Warmed39.trans (t := s.setVm vm0) hZ hS.1) ?_ ⟨hr.1, c2.trans hr, _, c3.trans hS (Nat.le_trans c4 (Nat.le_trans (Nat.le_of_eq (by rw [eT])) hgr)), Nat.le_refl _⟩ hr)
  show U.vm.findClass own = some m.cls
  rw [hS.1.alike.findClass]; exact hown
/-- a constructor that may intern -/
theorem Go.initC (X : Stand p l e R (s.setVm vm0) m args below meth c T locs cells slots) (hx : p.tables.exec = Jvm.exec) (hZ : Z.Warmed39 (s.setVm vm0).vm) {own : String} {index W : Nat} {a : Addr} {argsL rest : List Value} (hown : (s.setVm vm0).vm.findClass own = some m.cls) (hEL : EW Z a0 EL) (C : Cld Z EL s vm0 h) (hy1 : y.name = "<init>")
    (w1 : (Cond.methodLink own index y).before a0 Z = true) (w2 : (Cond.instanceMethod y).before a0 Z = true) (w3 : (Cond.initialized y.cls).before a0 Z = true) (w4 : (Cond.code y bytes maxL none).before a0 Z = true)
    (hy : y.cls ≠ "java/lang/invoke/MethodHandle" ∧ y.cls ≠ "java/lang/invoke/VarHandle") (eT : T.heap = h) (hM : MetC l Z EL y bytes maxL none [] rm (.ref a :: argsL).toArray h Q)
    (hg : g.method = m) (hsize : g.locals.size = c.maxLocals) (hlen : ∀ sig, parseMethodDescriptor y.desc = some sig → argsL.length = sig.parameters.length) (hs : g.stack = argsL.reverse ++ .ref a :: rest)
    (hW : 2 * g.monitorRoom + (rest.map fun v => v.category).sum ≤ W) (hd : decode c.code g.pc = .ok (.invokespecial index, 3)) (hf : rm.frames + 1 ≤ R.frames) (hl : W + (maxL + 11) + rm.locals ≤ R.locals) (hc : cells + rm.cells ≤ R.cells) (hsl : slots + rm.slots ≤ R.slots)
    (k : ∀ T' L v, Stand p l e R (s.setVm T'.vm) m args below meth c T' (locs ++ L) (cells + rm.cells) (slots + rm.slots) → Q v T'.heap L → Z.Warmed39 (s.setVm T'.vm).vm → (s.setVm T'.vm).vm.findClass own = some m.cls → Cld Z EL s T'.vm T'.heap → CHr Z EL vm0 h T'.vm T'.heap → Go p e below P T' { g with pc := g.pc + 3, stack := v.toList ++ rest }) : Go p e below P T g := by
  obtain ⟨c1, c2, k0, c3, c4⟩ := C
  obtain ⟨v, _, ⟨U, L, q1, q2⟩, -, X', hS, hgr, ⟨Lc, hQ, l1, l2, l3, hr⟩, st⟩ := X.specialBackS hx (y := y) hy1 hown (mvT hZ w1) (mvT hZ w2) (mvT hZ w4) hy (backOfSH (W := W) hM hZ w4 w3 hf hl hEL c1) hg hsize (Steps.refl _) hlen hs hW hd (fun _ _ => ⟨rfl, eT, hc, hsl⟩)
  dsimp only [Pt.U, Pt.locs, Pt.cells, Pt.slots] at X' l1 l2 l3 st hQ hS hgr hr
  subst l1 l2 l3
  refine Go.via _ st (k _ _ _ X' hQ (State.Warmed39.trans (t := s.setVm vm0) hZ hS.1) ?_ ⟨hr.1, c2.trans hr, _, c3.trans hS (Nat.le_trans c4 (Nat.le_trans (Nat.le_of_eq (by rw [eT])) hgr)), Nat.le_refl _⟩ hr)
  show U.vm.findClass own = some m.cls
  rw [hS.1.alike.findClass]; exact hown
theorem safe_raw {x : Addr} (hal : Z.vm.Alike vm0) (E : Exa Z h x "java/lang/String") (F : Fld Z h x "java/lang/String" "value" "[B" .null) : Safe Z EL vm0 h x := fun B => by
  obtain ⟨p, -, u, a, -, q, -, G, rfl | rfl⟩ := B
  · obtain ⟨cell, cf, k, i, f, h1, h2, -, -, -, -, h7⟩ := F
    cases (show h[q.sa]? = some q.sC from G.ha).symm.trans h1
    obtain ⟨cS, ⟨⟨-, -, -, ⟨c1, k1, i1, f1, -⟩, -, -, -, v1, -⟩, -⟩, -⟩ := G
    obtain ⟨k3, e3, -⟩ := State.fieldFound?_setVm (s := Z) hal h2
    have e4 := (show (Wst Z vm0 h).fieldFound? _ _ _ = _ from e3).symm.trans f1
    simp only [Option.some.injEq, Prod.mk.injEq] at e4
    rw [← e4.2.2.2, h7] at v1
    simp at v1
  · obtain ⟨cell, k, e1, e2, e3, -, -⟩ := E
    cases (show h[q.sd]? = some q.SA from G.hd).symm.trans e1
    obtain ⟨cS, -, -, f, -⟩ := G
    have f' : vm0.findClass "[B" = some q.SA.cls := f
    rw [hal.findClass] at f'
    obtain ⟨k1, q1, q2⟩ := Vm.findClass_spec f'
    obtain ⟨k2, q3, q4⟩ := Vm.findClass_spec e2
    cases q1.symm.trans q3
    have := q2.symm.trans q4
    simp at this
end OwnCold
end Jvm.OwnGo
/- laws to paste: Road.backV (cut by pick.py; bodies as the Statement names them) -/
namespace Jvm.Pilot.@@N@@
namespace StrChars
open Jvm Sem ClassFile Op Lib Jvm.Stand Jvm.Free.XT Jvm.Free.ALB Jvm.Free.JM Jvm.Free
open Jvm.Lib.Cold (StaticIs)
/-- a char array whose places are chars -/
def Ch (a : Addr) (A : Cell) (U : State) : Prop := Arr .char a A U ∧ Typed .char A
theorem Ch.mv {a : Addr} {A : Cell} {U U' : State} (h : Ch a A U) (hal : U.vm.Alike U'.vm) (hh : U'.heap = U.heap) : Ch a A U' := ⟨h.1.mv hal hh, h.2⟩
theorem Ch.keep {a : Addr} {A : Cell} {U U' : State} (h : Ch a A U) (hal : U.vm.Alike U'.vm) (hk : U'.heap[a]? = some A) : Ch a A U' := ⟨h.1.keep hal hk, h.2⟩
/-- what place i of a char[]'s cell holds -/
def cv (A : Cell) (i : Nat) : Int32 := match A.slots[i]? with | some (.int x) => x | _ => 0
theorem Ch.get {a : Addr} {A : Cell} {U : State} (h : Ch a A U) {i : Nat} (hi : i < A.slots.size) : A.slots[i]? = some (.int (cv A i)) := by
  have e := Array.getElem?_eq_getElem hi
  have f := h.2 i _ e
  unfold cv; rw [e]
  generalize A.slots[i] = v at f
  cases v <;> simp [fits] at f ⊢
/-- the byte that i2b leaves of a char -/
def lo8 (x : Int32) : Int32 := x.toInt8.toInt32
theorem fits_lo8 (y : Int32) : fits .byte (.int (lo8 y)) = true := by
  have h1 := y.toInt8.le_toInt
  have h2 := y.toInt8.toInt_lt
  simp only [lo8, fits, Bool.and_eq_true, decide_eq_true_eq, Int32.le_iff_toInt_le, Int8.toInt_toInt32, show (-128 : Int32).toInt = -128 from by decide, show (127 : Int32).toInt = 127 from by decide]
  omega
/-- A' is A but that each place j of lo .. hi - 1 holds f j -/
def Laid (A A' : Cell) (lo hi : Nat) (f : Nat → Value) : Prop := A'.cls = A.cls ∧ A'.vm = A.vm ∧ A'.slots.size = A.slots.size ∧ ∀ i, A'.slots[i]? = if lo ≤ i ∧ i < hi then some (f i) else A.slots[i]?
theorem Laid.zero (A : Cell) (lo : Nat) (f : Nat → Value) : Laid A A lo (lo + 0) f := ⟨rfl, rfl, rfl, fun i => by rw [if_neg (by omega)]⟩
theorem Laid.step {A Ak : Cell} {lo k : Nat} {f : Nat → Value} {v : Value} (h : Laid A Ak lo k f) (hlo : lo ≤ k) (hk : k < Ak.slots.size) (hv : v = f k) : Laid A (Ak.setSlot k v) lo (k + 1) f := by
  refine ⟨h.1, h.2.1, by simpa [Cell.setSlot] using h.2.2.1, fun i => ?_⟩
  by_cases e : k = i
  · subst e; rw [Cell.slots_setSlot_self v hk, if_pos (by omega), hv]
  · rw [Cell.slots_setSlot_ne v e, h.2.2.2 i]
    by_cases q : lo ≤ i ∧ i < k
    · rw [if_pos q, if_pos (by omega)]
    · rw [if_neg q, if_neg (by omega)]
def U16 : String := "java/lang/StringUTF16"
namespace Cmp5
def yN : MethodName := ⟨"java/lang/StringUTF16", "compress", "([CI[BII)I"⟩
abbrev yB : ByteArray := jdk_52_method_21_code
theorem d0 : decode yB 0 = .ok (.iconst 0, 1) := by decide +kernel
theorem d1 : decode yB 1 = .ok (.istore 5, 2) := by decide +kernel
theorem d3 : decode yB 3 = .ok (.iload 5, 2) := by decide +kernel
theorem d5 : decode yB 5 = .ok (.iload 4, 2) := by decide +kernel
theorem d7 : decode yB 7 = .ok (.if_icmp (.ge) 37, 3) := by decide +kernel
theorem d10 : decode yB 10 = .ok (.aload_n 0, 1) := by decide +kernel
theorem d11 : decode yB 11 = .ok (.iload_n 1, 1) := by decide +kernel
theorem d12 : decode yB 12 = .ok (.caload, 1) := by decide +kernel
theorem d13 : decode yB 13 = .ok (.istore 6, 2) := by decide +kernel
theorem d15 : decode yB 15 = .ok (.iload 6, 2) := by decide +kernel
theorem d17 : decode yB 17 = .ok (.sipush 255, 3) := by decide +kernel
theorem d20 : decode yB 20 = .ok (.if_icmp (.le) 6, 3) := by decide +kernel
theorem d26 : decode yB 26 = .ok (.aload_n 2, 1) := by decide +kernel
theorem d27 : decode yB 27 = .ok (.iload_n 3, 1) := by decide +kernel
theorem d28 : decode yB 28 = .ok (.iload 6, 2) := by decide +kernel
theorem d30 : decode yB 30 = .ok (.i2b, 1) := by decide +kernel
theorem d31 : decode yB 31 = .ok (.bastore, 1) := by decide +kernel
theorem d32 : decode yB 32 = .ok (.iinc 1 1, 3) := by decide +kernel
theorem d35 : decode yB 35 = .ok (.iinc 3 1, 3) := by decide +kernel
theorem d38 : decode yB 38 = .ok (.iinc 5 1, 3) := by decide +kernel
theorem d41 : decode yB 41 = .ok (.goto (-38), 3) := by decide +kernel
theorem d44 : decode yB 44 = .ok (.iload 4, 2) := by decide +kernel
theorem d46 : decode yB 46 = .ok (.ireturn, 1) := by decide +kernel
def site : List Cond := []
def tab : Cond := tabOf yN yB 7 (some .int) site
def P (b : Addr) (A : Cell) (d : Addr) (B : Cell) (o q len : Nat) (args : Array Value) (s : State) : Prop := args = #[.ref b, .int (Int32.ofNat o), .ref d, .int (Int32.ofNat q), .int (Int32.ofNat len)] ∧ Ch b A s ∧ Arr .byte d B s ∧ b ≠ d ∧ o + len ≤ A.slots.size ∧ q + len ≤ B.slots.size ∧ ∀ i, i < len → ¬ 255 < cv A (o + i)
def E (b : Addr) (A : Cell) (d : Addr) (B : Cell) (o q len : Nat) (r : Option Value) (s u : State) : Prop := r = some (.int (Int32.ofNat len)) ∧ ∃ B', Put d B' s u ∧ Laid B B' q (q + len) (fun j => Value.int (lo8 (cv A (o + (j - q)))))
/-- no char of the range above 255: len; the places written hold each char's low byte -/
theorem law (l : Launch) (b : Addr) (A : Cell) (d : Addr) (B : Cell) (o q len : Nat) : Law l yN 5 5 0 0 yB 7 (some .int) site (P b A d B o q len) (E b A d B o q len) (copyLocs d q len) 0 0 := by
  refine Law.of_walk (plainFor_of_name (by decide +kernel)) (by decide +kernel) (by decide +kernel) (by decide) (fun _ _ h => by rw [h.1]; rfl) (fun _ U U' hal hh h => ⟨h.1, h.2.1.mv hal hh, h.2.2.1.mv hal hh, h.2.2.2⟩) (fun r U U' V V' h1 hal h2 h => ⟨h.1, h.2.elim fun B' q => ⟨B', q.1.mv h1 h2, q.2⟩⟩) ?_
  intro p e s m args below meth c s₁ X0 hexec hbytes hml hret hlk hnm hown hh0 W hP
  obtain ⟨rfl, hA, hB, hne, l1, l2, hp⟩ := hP
  have c1 : Steps p.tables e below (s₁.setTop (entryFrame m #[.ref b, .int (Int32.ofNat o), .ref d, .int (Int32.ofNat q), .int (Int32.ofNat len)] 7)) (s₁.setTop (mkF m 0 #[.val (.ref b), .val (.int (Int32.ofNat o)), .val (.ref d), .val (.int (Int32.ofNat q)), .val (.int (Int32.ofNat len)), .unset, .unset] [])) := entry rfl
  have hA0 := hA.1.mv X0.warmed.alike hh0
  have hB0 := hB.mv X0.warmed.alike hh0
  have a31 := hA.1.2.2.2
  have c2 : Steps p.tables e below (s₁.setTop (entryFrame m #[.ref b, .int (Int32.ofNat o), .ref d, .int (Int32.ofNat q), .int (Int32.ofNat len)] 7)) (s₁.setTop (mkF m 3 #[.val (.ref b), .val (.int (Int32.ofNat o)), .val (.ref d), .val (.int (Int32.ofNat q)), .val (.int (Int32.ofNat len)), .val (.int 0), .unset] [])) := c1.trans (by
    refine iconstV X0.here hexec rfl 0 (hb hbytes d0) (by decide) ?_
    refine XS.istore X0.here hexec rfl (hb hbytes d1) rfl rfl ?_
    exact Steps.refl _)
  have loop : ∀ (r i : Nat), i + r = len → ∀ (z : Slot), (z = .unset ∨ ∃ w, z = .val w ∧ w.category = 1) → ∀ (Tl : State) (Bk : Cell), Stand p l e { frames := 0, locals := 0, cells := 0, slots := 0 } s m #[.ref b, .int (Int32.ofNat o), .ref d, .int (Int32.ofNat q), .int (Int32.ofNat len)] below meth c Tl ([] ++ copyLocs d q i) 0 0 → Put d Bk s₁ Tl → Laid B Bk q (q + i) (fun j => Value.int (lo8 (cv A (o + (j - q))))) →
      Steps p.tables e below (s₁.setTop (entryFrame m #[.ref b, .int (Int32.ofNat o), .ref d, .int (Int32.ofNat q), .int (Int32.ofNat len)] 7)) (Tl.setTop (mkF m 3 #[.val (.ref b), .val (.int (Int32.ofNat (o + i))), .val (.ref d), .val (.int (Int32.ofNat (q + i))), .val (.int (Int32.ofNat len)), .val (.int (Int32.ofNat i)), z] [])) → ∃ (T' : State) (B' : Cell) (z' : Slot), Stand p l e { frames := 0, locals := 0, cells := 0, slots := 0 } s m #[.ref b, .int (Int32.ofNat o), .ref d, .int (Int32.ofNat q), .int (Int32.ofNat len)] below meth c T' ([] ++ copyLocs d q len) 0 0 ∧ Put d B' s₁ T' ∧ Laid B B' q (q + len) (fun j => Value.int (lo8 (cv A (o + (j - q))))) ∧
      Steps p.tables e below (s₁.setTop (entryFrame m #[.ref b, .int (Int32.ofNat o), .ref d, .int (Int32.ofNat q), .int (Int32.ofNat len)] 7)) (T'.setTop (mkF m 3 #[.val (.ref b), .val (.int (Int32.ofNat (o + len))), .val (.ref d), .val (.int (Int32.ofNat (q + len))), .val (.int (Int32.ofNat len)), .val (.int (Int32.ofNat len)), z'] [])) := by
    intro r
    induction r with
    | zero =>
      intro i hi z hz Tl Bk Xl pl fl cl
      have hil : i = len := by omega
      rw [hil] at Xl fl cl
      exact ⟨Tl, Bk, z, Xl, pl, fl, cl⟩
    | succ r ih =>
      intro i hi z hz Tl Bk Xl pl fl cl
      have all := X0.warmed.alike.symm.trans Xl.warmed.alike
      have hAl := hA0.keep all (pl.other hne hA0.1)
      have hBk := hB0.like all pl.1 fl.1 fl.2.1 fl.2.2.1
      have hlt : q + i < Bk.slots.size := by rw [fl.2.2.1]; omega
      have c3 : Steps p.tables e below (s₁.setTop (entryFrame m #[.ref b, .int (Int32.ofNat o), .ref d, .int (Int32.ofNat q), .int (Int32.ofNat len)] 7)) (Tl.setTop (mkF m 12 #[.val (.ref b), .val (.int (Int32.ofNat (o + i))), .val (.ref d), .val (.int (Int32.ofNat (q + i))), .val (.int (Int32.ofNat len)), .val (.int (Int32.ofNat i)), z] [.int (Int32.ofNat (o + i)), .ref b])) := cl.trans (by
        refine XS.iload Xl.here hexec rfl (hb hbytes d3) rfl ?_
        refine XS.iload Xl.here hexec rfl (hb hbytes d5) rfl ?_
        refine XS.icmpNo Xl.here hexec rfl (hb hbytes d7) rfl (ii_ge_f (lt32 (by omega) (by omega))) ?_
        refine XS.aloadN Xl.here hexec rfl (hb hbytes d10) rfl rfl ?_
        refine XS.iloadN Xl.here hexec rfl (hb hbytes d11) rfl ?_
        exact Steps.refl _)
      have c4 : Steps p.tables e below (s₁.setTop (entryFrame m #[.ref b, .int (Int32.ofNat o), .ref d, .int (Int32.ofNat q), .int (Int32.ofNat len)] 7)) (Tl.setTop (mkF m 13 #[.val (.ref b), .val (.int (Int32.ofNat (o + i))), .val (.ref d), .val (.int (Int32.ofNat (q + i))), .val (.int (Int32.ofNat len)), .val (.int (Int32.ofNat i)), z] [.int (cv A (o + i))])) := c3.trans (by
        refine Xl.aget hexec hAl rfl (hA.get (i := o + i) (by omega)) rfl rfl (hb hbytes d12) ?_
        exact Steps.refl _)
      have c5 : Steps p.tables e below (s₁.setTop (entryFrame m #[.ref b, .int (Int32.ofNat o), .ref d, .int (Int32.ofNat q), .int (Int32.ofNat len)] 7)) (Tl.setTop (mkF m 15 #[.val (.ref b), .val (.int (Int32.ofNat (o + i))), .val (.ref d), .val (.int (Int32.ofNat (q + i))), .val (.int (Int32.ofNat len)), .val (.int (Int32.ofNat i)), .val (.int (cv A (o + i)))] [])) := c4.trans (by
        refine XS.istoreS Xl.here hexec rfl (hb hbytes d13) rfl rfl hz ?_
        exact Steps.refl _)
      have c6 : Steps p.tables e below (s₁.setTop (entryFrame m #[.ref b, .int (Int32.ofNat o), .ref d, .int (Int32.ofNat q), .int (Int32.ofNat len)] 7)) (Tl.setTop (mkF m 31 #[.val (.ref b), .val (.int (Int32.ofNat (o + i))), .val (.ref d), .val (.int (Int32.ofNat (q + i))), .val (.int (Int32.ofNat len)), .val (.int (Int32.ofNat i)), .val (.int (cv A (o + i)))] [.int (lo8 (cv A (o + i))), .int (Int32.ofNat (q + i)), .ref d])) := c5.trans (by
        refine XS.iload Xl.here hexec rfl (hb hbytes d15) rfl ?_
        refine sipushV Xl.here hexec rfl 255 (hb hbytes d17) (by decide) ?_
        refine XS.icmpYes Xl.here hexec rfl (pc0 := 20) rfl (hb hbytes d20) rfl (ii_le_t (hp i (by omega))) (by decide) rfl ?_
        refine XS.aloadN Xl.here hexec rfl (hb hbytes d26) rfl rfl ?_
        refine XS.iloadN Xl.here hexec rfl (hb hbytes d27) rfl ?_
        refine XS.iload Xl.here hexec rfl (hb hbytes d28) rfl ?_
        refine i2b Xl.here hexec rfl (hb hbytes d30) rfl ?_
        exact Steps.refl _)
      obtain ⟨T7, X7, p7, st7⟩ := Xl.aput hexec hBk rfl hlt rfl (fits_lo8 (cv A (o + i))) (g := (mkF m 31 #[.val (.ref b), .val (.int (Int32.ofNat (o + i))), .val (.ref d), .val (.int (Int32.ofNat (q + i))), .val (.int (Int32.ofNat len)), .val (.int (Int32.ofNat i)), .val (.int (cv A (o + i)))] [.int (lo8 (cv A (o + i))), .int (Int32.ofNat (q + i)), .ref d])) rfl (rest := []) rfl (hb hbytes d31)
      have c8 : Steps p.tables e below (s₁.setTop (entryFrame m #[.ref b, .int (Int32.ofNat o), .ref d, .int (Int32.ofNat q), .int (Int32.ofNat len)] 7)) (T7.setTop (mkF m 32 #[.val (.ref b), .val (.int (Int32.ofNat (o + i))), .val (.ref d), .val (.int (Int32.ofNat (q + i))), .val (.int (Int32.ofNat len)), .val (.int (Int32.ofNat i)), .val (.int (cv A (o + i)))] [])) := c6.trans (st7 _ (Steps.refl _))
      have c9 : Steps p.tables e below (s₁.setTop (entryFrame m #[.ref b, .int (Int32.ofNat o), .ref d, .int (Int32.ofNat q), .int (Int32.ofNat len)] 7)) (T7.setTop (mkF m 3 #[.val (.ref b), .val (.int (Int32.ofNat (o + i) + 1)), .val (.ref d), .val (.int (Int32.ofNat (q + i) + 1)), .val (.int (Int32.ofNat len)), .val (.int (Int32.ofNat i + 1)), .val (.int (cv A (o + i)))] [])) := c8.trans (by
        refine iincV X7.here hexec rfl 1 (hb hbytes d32) (by decide) rfl rfl ?_
        refine iincV X7.here hexec rfl 1 (hb hbytes d35) (by decide) rfl rfl ?_
        refine iincV X7.here hexec rfl 1 (hb hbytes d38) (by decide) rfl rfl ?_
        refine XS.goto X7.here hexec rfl (pc0 := 41) rfl (hb hbytes d41) (by decide) rfl ?_
        exact Steps.refl _)
      have c10 : Steps p.tables e below (s₁.setTop (entryFrame m #[.ref b, .int (Int32.ofNat o), .ref d, .int (Int32.ofNat q), .int (Int32.ofNat len)] 7)) (T7.setTop (mkF m 3 #[.val (.ref b), .val (.int (Int32.ofNat (o + (i + 1)))), .val (.ref d), .val (.int (Int32.ofNat (q + (i + 1)))), .val (.int (Int32.ofNat len)), .val (.int (Int32.ofNat (i + 1))), .val (.int (cv A (o + i)))] [])) := by
        have := c9
        rw [succ32, succ32, succ32] at this
        exact this
      exact ih (i + 1) (by omega) _ (Or.inr ⟨_, rfl, rfl⟩) T7 _ (by rw [copyLocs_step, ← List.append_assoc]; exact X7) (pl.trans p7) (fl.step (by omega) hlt (by simp)) c10
  obtain ⟨T9, B9, z9, X9, p9, f9, g9⟩ := loop len 0 (by omega) .unset (Or.inl rfl) s₁ B (by simpa [copyLocs] using X0) ⟨hB0.1, fun _ _ => rfl, rfl⟩ (Laid.zero _ _ _) c2
  have c11 : Steps p.tables e below (s₁.setTop (entryFrame m #[.ref b, .int (Int32.ofNat o), .ref d, .int (Int32.ofNat q), .int (Int32.ofNat len)] 7)) (T9.setTop (mkF m 46 #[.val (.ref b), .val (.int (Int32.ofNat (o + len))), .val (.ref d), .val (.int (Int32.ofNat (q + len))), .val (.int (Int32.ofNat len)), .val (.int (Int32.ofNat len)), z9] [.int (Int32.ofNat len)])) := g9.trans (by
    refine XS.iload X9.here hexec rfl (hb hbytes d3) rfl ?_
    refine XS.iload X9.here hexec rfl (hb hbytes d5) rfl ?_
    refine XS.icmpYes X9.here hexec rfl (pc0 := 7) rfl (hb hbytes d7) rfl (ii_ge_t (nlt32 (by omega) (Nat.le_refl _))) (by decide) rfl ?_
    refine XS.iload X9.here hexec rfl (hb hbytes d44) rfl ?_
    exact Steps.refl _)
  exact ⟨T9, some (.int (Int32.ofNat len)), _, _, _, X9, by simp, rfl, rfl, (fun h => by cases h), ⟨rfl, B9, p9.from hh0, f9⟩, fun fs hl => c11.trans (X9.ireturnOut hexec hret rfl (Or.inl rfl) (hb hbytes d46) hl)⟩
end Cmp5
namespace Cmp3
def yN : MethodName := ⟨"java/lang/StringUTF16", "compress", "([CII)[B"⟩
abbrev yB : ByteArray := jdk_52_method_16_code
theorem d0 : decode yB 0 = .ok (.iload_n 2, 1) := by decide +kernel
theorem d1 : decode yB 1 = .ok (.newarray .byte, 2) := by decide +kernel
theorem d3 : decode yB 3 = .ok (.astore_n 3, 1) := by decide +kernel
theorem d4 : decode yB 4 = .ok (.aload_n 0, 1) := by decide +kernel
theorem d5 : decode yB 5 = .ok (.iload_n 1, 1) := by decide +kernel
theorem d6 : decode yB 6 = .ok (.aload_n 3, 1) := by decide +kernel
theorem d7 : decode yB 7 = .ok (.iconst 0, 1) := by decide +kernel
theorem d8 : decode yB 8 = .ok (.iload_n 2, 1) := by decide +kernel
theorem d9 : decode yB 9 = .ok (.invokestatic 115, 3) := by decide +kernel
theorem d12 : decode yB 12 = .ok (.istore 4, 2) := by decide +kernel
theorem d14 : decode yB 14 = .ok (.iload 4, 2) := by decide +kernel
theorem d16 : decode yB 16 = .ok (.iload_n 2, 1) := by decide +kernel
theorem d17 : decode yB 17 = .ok (.if_icmp (.eq) 40, 3) := by decide +kernel
theorem d57 : decode yB 57 = .ok (.aload_n 3, 1) := by decide +kernel
theorem d58 : decode yB 58 = .ok (.areturn, 1) := by decide +kernel
def site : List Cond := [.arrayClass .byte, Cmp5.tab] ++ staticW U16 115 Cmp5.yN
def tab : Cond := tabOf yN yB 6 (some (.array .byte)) site
def P (b : Addr) (A : Cell) (o len : Nat) (args : Array Value) (s : State) : Prop := args = #[.ref b, .int (Int32.ofNat o), .int (Int32.ofNat len)] ∧ Ch b A s ∧ o + len ≤ A.slots.size ∧ len ≤ 536870912 ∧ ∀ i, i < len → ¬ 255 < cv A (o + i)
def E (b : Addr) (A : Cell) (o len : Nat) (r : Option Value) (s u : State) : Prop := NewArr .byte "[B" len (fun j => .int (lo8 (cv A (o + j)))) r s u ∧ u.heap.size = s.heap.size + 1
/-- no char of the range above 255: a new byte[] of their low bytes -/
theorem law (l : Launch) (b : Addr) (A : Cell) (o len : Nat) : Law l yN 3 3 1 18 yB 6 (some (.array .byte)) site (P b A o len) (E b A o len) [] 1 len := by
  refine Law.of_walk (plainFor_of_name (by decide +kernel)) (by decide +kernel) (by decide +kernel) (by decide) (fun _ _ h => by rw [h.1]; rfl) (fun _ U U' hal hh h => ⟨h.1, h.2.1.mv hal hh, h.2.2⟩) (fun r U U' V V' h1 hal h2 h => ⟨NewArr.mv r U U' V V' h1 hal h2 h.1, by rw [h1, h2]; exact h.2⟩) ?_
  intro p e s m args below meth c s₁ X0 hexec hbytes hml hret hlk hnm hown hh0 W hP
  obtain ⟨rfl, hA, l1, l2, hp⟩ := hP
  have a31 := hA.1.2.2.2
  have c1 : Steps p.tables e below (s₁.setTop (entryFrame m #[.ref b, .int (Int32.ofNat o), .int (Int32.ofNat len)] 6)) (s₁.setTop (mkF m 0 #[.val (.ref b), .val (.int (Int32.ofNat o)), .val (.int (Int32.ofNat len)), .unset, .unset, .unset] [])) := entry rfl
  have c2 : Steps p.tables e below (s₁.setTop (entryFrame m #[.ref b, .int (Int32.ofNat o), .int (Int32.ofNat len)] 6)) (s₁.setTop (mkF m 1 #[.val (.ref b), .val (.int (Int32.ofNat o)), .val (.int (Int32.ofNat len)), .unset, .unset, .unset] [.int (Int32.ofNat len)])) := c1.trans (by
    refine XS.iloadN X0.here hexec rfl (hb hbytes d0) rfl ?_
    exact Steps.refl _)
  obtain ⟨T3, B3, X3, ba3, bs3, bv3, bh3, bf3, st3⟩ := X0.anew hexec (atype := .byte) (wk W (.arrayClass .byte)) rfl (by show len * 1 ≤ _; omega) (by omega) (g := (mkF m 1 #[.val (.ref b), .val (.int (Int32.ofNat o)), .val (.int (Int32.ofNat len)), .unset, .unset, .unset] [.int (Int32.ofNat len)])) rfl (hb hbytes d1) (rest := []) rfl (Nat.le_refl _) (by show 0 + len ≤ len; omega)
  rw [hh0] at ba3 st3
  have kp3 : XT.Kept s T3 := (XT.Kept.of_eq hh0).push bh3
  have hA3 := hA.keep X3.warmed.alike (kp3 _ _ hA.1.1)
  have hne : b ≠ s.heap.size := hA.1.ne
  have c4 : Steps p.tables e below (s₁.setTop (entryFrame m #[.ref b, .int (Int32.ofNat o), .int (Int32.ofNat len)] 6)) (T3.setTop (mkF m 3 #[.val (.ref b), .val (.int (Int32.ofNat o)), .val (.int (Int32.ofNat len)), .unset, .unset, .unset] [.ref s.heap.size])) := c2.trans (st3 _ (Steps.refl _))
  have c5 : Steps p.tables e below (s₁.setTop (entryFrame m #[.ref b, .int (Int32.ofNat o), .int (Int32.ofNat len)] 6)) (T3.setTop (mkF m 9 #[.val (.ref b), .val (.int (Int32.ofNat o)), .val (.int (Int32.ofNat len)), .val (.ref s.heap.size), .unset, .unset] [.int (Int32.ofNat len), .int 0, .ref s.heap.size, .int (Int32.ofNat o), .ref b])) := c4.trans (by
    refine XS.astoreN X3.here hexec rfl (hb hbytes d3) rfl rfl rfl ?_
    refine XS.aloadN X3.here hexec rfl (hb hbytes d4) rfl rfl ?_
    refine XS.iloadN X3.here hexec rfl (hb hbytes d5) rfl ?_
    refine XS.aloadN X3.here hexec rfl (hb hbytes d6) rfl rfl ?_
    refine iconstV X3.here hexec rfl 0 (hb hbytes d7) (by decide) ?_
    refine XS.iloadN X3.here hexec rfl (hb hbytes d8) rfl ?_
    exact Steps.refl _)
  obtain ⟨v6, T6, X6, E6, g6⟩ := X3.callS hexec (Cmp5.law l b A s.heap.size B3 o 0 len) hown (wks W (staticW U16 115 Cmp5.yN)) (wk W Cmp5.tab) (W := 0) (Nat.le_of_ble_eq_true rfl) (Nat.le_of_ble_eq_true rfl) (Nat.le_refl _) (by show 0 + len + 0 ≤ len; omega) (g := (mkF m 9 #[.val (.ref b), .val (.int (Int32.ofNat o)), .val (.int (Int32.ofNat len)), .val (.ref s.heap.size), .unset, .unset] [.int (Int32.ofNat len), .int (Int32.ofNat 0), .ref s.heap.size, .int (Int32.ofNat o), .ref b])) rfl (by rw [hml]; rfl) c5 (argsL := [.ref b, .int (Int32.ofNat o), .ref s.heap.size, .int (Int32.ofNat 0), .int (Int32.ofNat len)]) (rest := []) rfl rfl (by show 2 * 0 + 0 ≤ _; decide) (hb hbytes d9) (⟨rfl, hA3, ba3, hne, l1, by rw [bs3]; simp, hp⟩)
  obtain ⟨rfl, B6, p6, f6⟩ := E6
  have c7 : Steps p.tables e below (s₁.setTop (entryFrame m #[.ref b, .int (Int32.ofNat o), .int (Int32.ofNat len)] 6)) (T6.setTop (mkF m 12 #[.val (.ref b), .val (.int (Int32.ofNat o)), .val (.int (Int32.ofNat len)), .val (.ref s.heap.size), .unset, .unset] [.int (Int32.ofNat len)])) := g6
  have c8 : Steps p.tables e below (s₁.setTop (entryFrame m #[.ref b, .int (Int32.ofNat o), .int (Int32.ofNat len)] 6)) (T6.setTop (mkF m 58 #[.val (.ref b), .val (.int (Int32.ofNat o)), .val (.int (Int32.ofNat len)), .val (.ref s.heap.size), .val (.int (Int32.ofNat len)), .unset] [.ref s.heap.size])) := c7.trans (by
    refine XS.istore X6.here hexec rfl (hb hbytes d12) rfl rfl ?_
    refine XS.iload X6.here hexec rfl (hb hbytes d14) rfl ?_
    refine XS.iloadN X6.here hexec rfl (hb hbytes d16) rfl ?_
    refine XS.icmpYes X6.here hexec rfl (pc0 := 17) rfl (hb hbytes d17) rfl (ii_eq_t rfl) (by decide) rfl ?_
    refine XS.aloadN X6.here hexec rfl (hb hbytes d57) rfl rfl ?_
    exact Steps.refl _)
  have X8 := X6.wide (L' := []) (cells' := 1) (slots' := len) (fun x hx hlt => by
    simp only [List.nil_append, copyLocs, List.mem_map, List.mem_range] at hx
    obtain ⟨i, -, rfl⟩ := hx
    exact absurd hlt (Nat.lt_irrefl _)) (Nat.le_refl _) (by omega)
  exact ⟨T6, some (.ref s.heap.size), _, _, _, X8, rfl, rfl, rfl, (fun h => by cases h), ⟨⟨rfl, B6, ba3.like (X3.warmed.alike.symm.trans X6.warmed.alike) p6.1 f6.1 f6.2.1 f6.2.2.1, f6.2.1.trans bv3, by rw [X6.warmed.alike.findClass, f6.1]; exact bf3, by rw [f6.2.2.1, bs3]; simp, fun j hj => by rw [f6.2.2.2 j, if_pos (by omega)]; rfl, kp3.put p6 (Nat.le_refl _)⟩, by rw [p6.2.2, bh3, hh0]; simp⟩, fun fs hl => c8.trans (X8.areturnOut hexec rfl hret rfl (hb hbytes d58) hl)⟩
end Cmp3
namespace CodL
def yN : MethodName := ⟨"java/lang/StringUTF16", "coderFromArrayLen", "([BI)B"⟩
abbrev yB : ByteArray := jdk_52_method_15_code
theorem d0 : decode yB 0 = .ok (.iload_n 1, 1) := by decide +kernel
theorem d1 : decode yB 1 = .ok (.aload_n 0, 1) := by decide +kernel
theorem d2 : decode yB 2 = .ok (.arraylength, 1) := by decide +kernel
theorem d3 : decode yB 3 = .ok (.isub, 1) := by decide +kernel
theorem d4 : decode yB 4 = .ok (.bipush 31, 2) := by decide +kernel
theorem d6 : decode yB 6 = .ok (.iushr, 1) := by decide +kernel
theorem d7 : decode yB 7 = .ok (.i2b, 1) := by decide +kernel
theorem d8 : decode yB 8 = .ok (.ireturn, 1) := by decide +kernel
def site : List Cond := []
def tab : Cond := tabOf yN yB 2 (some .byte) site
def P (d : Addr) (B : Cell) (args : Array Value) (s : State) : Prop := args = #[.ref d, .int (Int32.ofNat B.slots.size)] ∧ Arr .byte d B s
def E (r : Option Value) (s u : State) : Prop := XT.PureE (some (.int 0)) r s u
/-- an array as long as the number of chars: LATIN1 -/
theorem law (l : Launch) (d : Addr) (B : Cell) : Law l yN 2 2 0 0 yB 2 (some .byte) site (P d B) E [] 0 0 := by
  refine Law.of_walk (plainFor_of_name (by decide +kernel)) (by decide +kernel) (by decide +kernel) (by decide) (fun _ _ h => by rw [h.1]; rfl) (fun _ U U' hal hh h => ⟨h.1, h.2.mv hal hh⟩) (fun r U U' V V' h1 hal h2 h => XT.PureE.mv r U U' V V' h1 hal h2 h) ?_
  intro p e s m args below meth c s₁ X0 hexec hbytes hml hret hlk hnm hown hh0 W hP
  obtain ⟨rfl, hB⟩ := hP
  have hB0 := hB.mv X0.warmed.alike hh0
  have c1 : Steps p.tables e below (s₁.setTop (entryFrame m #[.ref d, .int (Int32.ofNat B.slots.size)] 2)) (s₁.setTop (mkF m 0 #[.val (.ref d), .val (.int (Int32.ofNat B.slots.size))] [])) := entry rfl
  have c2 : Steps p.tables e below (s₁.setTop (entryFrame m #[.ref d, .int (Int32.ofNat B.slots.size)] 2)) (s₁.setTop (mkF m 2 #[.val (.ref d), .val (.int (Int32.ofNat B.slots.size))] [.ref d, .int (Int32.ofNat B.slots.size)])) := c1.trans (by
    refine XS.iloadN X0.here hexec rfl (hb hbytes d0) rfl ?_
    refine XS.aloadN X0.here hexec rfl (hb hbytes d1) rfl rfl ?_
    exact Steps.refl _)
  have c3 : Steps p.tables e below (s₁.setTop (entryFrame m #[.ref d, .int (Int32.ofNat B.slots.size)] 2)) (s₁.setTop (mkF m 8 #[.val (.ref d), .val (.int (Int32.ofNat B.slots.size))] [.int (lo8 (ushr (Int32.ofNat B.slots.size - Int32.ofNat B.slots.size) 31))])) := c2.trans (by
    refine X0.alen hexec hB0 rfl rfl (hb hbytes d2) ?_
    refine XS.isub X0.here hexec rfl (hb hbytes d3) rfl ?_
    refine bipushV X0.here hexec rfl 31 (hb hbytes d4) (by decide) ?_
    refine iushr X0.here hexec rfl (hb hbytes d6) rfl ?_
    refine i2b X0.here hexec rfl (hb hbytes d7) rfl ?_
    exact Steps.refl _)
  have e0 : lo8 (ushr (Int32.ofNat B.slots.size - Int32.ofNat B.slots.size) 31) = 0 := by rw [Int32.sub_self]; decide
  rw [e0] at c3
  exact ⟨s₁, some (.int 0), _, _, _, X0, rfl, rfl, rfl, (fun h => by cases h), ⟨rfl, hh0⟩, fun fs hl => c3.trans (X0.ireturnOut hexec hret rfl (Or.inr (Or.inr (Or.inl rfl))) (hb hbytes d8) hl)⟩
end CodL
/-- the String at a is Latin-1 over a new byte[] (the heap's one new cell): the low bytes of the len chars of A from o on; every cell but a is kept -/
def Got (a : Addr) (D : Cell) (fV fC : Field) (A : Cell) (o len : Nat) (r : Option Value) (s u : State) : Prop := r = none ∧ ∃ D' V : Cell, Blank "java/lang/String" a D' u ∧ Same D D' [fV.slot, fC.slot] ∧ D'.slots[fV.slot]? = some (.ref s.heap.size) ∧ D'.slots[fC.slot]? = some (.int 0) ∧ Arr .byte s.heap.size V u ∧ V.vm = .none ∧ u.vm.findClass "[B" = some V.cls ∧ V.slots.size = len ∧ (∀ j, j < len → V.slots[j]? = some (.int (lo8 (cv A (o + j))))) ∧ (∀ (y : Addr) (c : Cell), y ≠ a → s.heap[y]? = some c → u.heap[y]? = some c) ∧ u.heap.size = s.heap.size + 1
theorem Got.mv {a : Addr} {D A : Cell} {fV fC : Field} {o len : Nat} : ∀ r (U U' V V' : State), U'.heap = U.heap → V.vm.Alike V'.vm → V'.heap = V.heap → Got a D fV fC A o len r U V → Got a D fV fC A o len r U' V' :=
  fun r U U' V V' h1 hal h2 ⟨e0, D', X, a1, a2, a3, a4, a5, a6, a7, a8, a9, a10, a11⟩ => ⟨e0, D', X, a1.mv hal h2, a2, by rw [h1]; exact a3, a4, by rw [h1]; exact a5.mv hal h2, a6, by rw [hal.findClass]; exact a7, a8, a9, by rw [h1, h2]; exact a10, by rw [h1, h2]; exact a11⟩
namespace New4
def yN : MethodName := ⟨"java/lang/String", "<init>", "([CIILjava/lang/Void;)V"⟩
abbrev yB : ByteArray := jdk_42_method_149_code
theorem d0 : decode yB 0 = .ok (.aload_n 0, 1) := by decide +kernel
theorem d1 : decode yB 1 = .ok (.invokespecial 1, 3) := by decide +kernel
theorem d4 : decode yB 4 = .ok (.iload_n 3, 1) := by decide +kernel
theorem d5 : decode yB 5 = .ok (.ifCond (.ne) 22, 3) := by decide +kernel
theorem d27 : decode yB 27 = .ok (.getstatic 38, 3) := by decide +kernel
theorem d30 : decode yB 30 = .ok (.ifCond (.eq) 28, 3) := by decide +kernel
theorem d33 : decode yB 33 = .ok (.aload_n 1, 1) := by decide +kernel
theorem d34 : decode yB 34 = .ok (.iload_n 2, 1) := by decide +kernel
theorem d35 : decode yB 35 = .ok (.iload_n 3, 1) := by decide +kernel
theorem d36 : decode yB 36 = .ok (.invokestatic 177, 3) := by decide +kernel
theorem d39 : decode yB 39 = .ok (.astore 5, 2) := by decide +kernel
theorem d41 : decode yB 41 = .ok (.aload_n 0, 1) := by decide +kernel
theorem d42 : decode yB 42 = .ok (.aload 5, 2) := by decide +kernel
theorem d44 : decode yB 44 = .ok (.iload_n 3, 1) := by decide +kernel
theorem d45 : decode yB 45 = .ok (.invokestatic 47, 3) := by decide +kernel
theorem d48 : decode yB 48 = .ok (.putfield 15, 3) := by decide +kernel
theorem d51 : decode yB 51 = .ok (.aload_n 0, 1) := by decide +kernel
theorem d52 : decode yB 52 = .ok (.aload 5, 2) := by decide +kernel
theorem d54 : decode yB 54 = .ok (.putfield 9, 3) := by decide +kernel
theorem d57 : decode yB 57 = .ok (.return_, 1) := by decide +kernel
def site : List Cond := [.fieldLink "java/lang/String" 38 "java/lang/String" "COMPACT_STRINGS" "Z", Cmp3.tab, CodL.tab, .laysFinal "java/lang/String" "java/lang/String" "value" "[B", .fieldLink "java/lang/String" 9 "java/lang/String" "value" "[B", .laysFinal "java/lang/String" "java/lang/String" "coder" "B", .fieldLink "java/lang/String" 15 "java/lang/String" "coder" "B"] ++ objW "java/lang/String" 1 ++ staticW "java/lang/String" 177 Cmp3.yN ++ staticW "java/lang/String" 47 CodL.yN
def tab : Cond := tabOf yN yB 6 none site
def P (a : Addr) (D : Cell) (fV fC : Field) (b : Addr) (A : Cell) (z : Int32) (o len : Nat) (args : Array Value) (s : State) : Prop := args = #[.ref a, .ref b, .int (Int32.ofNat o), .int (Int32.ofNat len), .null] ∧ Blank "java/lang/String" a D s ∧ Found "java/lang/String" "value" "[B" fV s ∧ Found "java/lang/String" "coder" "B" fC s ∧ Ch b A s ∧ StaticIs s "java/lang/String" "COMPACT_STRINGS" "Z" (.int z) ∧ ¬ z = 0 ∧ 0 < len ∧ o + len ≤ A.slots.size ∧ len ≤ 536870912 ∧ ∀ i, i < len → ¬ 255 < cv A (o + i)
def E (a : Addr) (D : Cell) (fV fC : Field) (A : Cell) (o len : Nat) (r : Option Value) (s u : State) : Prop := Got a D fV fC A o len r s u
/-- len > 0, no char of the range above 255: a Latin-1 String of their low bytes -/
theorem law (l : Launch) (a : Addr) (D : Cell) (fV fC : Field) (b : Addr) (A : Cell) (z : Int32) (o len : Nat) : Law l yN 5 4 2 35 yB 6 none site (P a D fV fC b A z o len) (E a D fV fC A o len) [⟨a, fC.slot⟩, ⟨a, fV.slot⟩] 1 len := by
  refine Law.of_walk (plainFor_of_name (by decide +kernel)) (by decide +kernel) (by decide +kernel) (by decide) (fun _ _ h => by rw [h.1]; rfl) (fun _ U U' hal hh h => ⟨h.1, h.2.1.mv hal hh, h.2.2.1.al hal, h.2.2.2.1.al hal, h.2.2.2.2.1.mv hal hh, h.2.2.2.2.2.1.there hal hh, h.2.2.2.2.2.2⟩) (fun r U U' V V' h1 hal h2 h => Got.mv r U U' V V' h1 hal h2 h) ?_
  intro p e s m args below meth c s₁ X0 hexec hbytes hml hret hlk hnm hown hh0 W hP
  obtain ⟨rfl, hB, f1, f2, hA, s1, hz, l0, l1, l2, hp⟩ := hP
  have a31 := hA.1.2.2.2
  have c1 : Steps p.tables e below (s₁.setTop (entryFrame m #[.ref a, .ref b, .int (Int32.ofNat o), .int (Int32.ofNat len), .null] 6)) (s₁.setTop (mkF m 0 #[.val (.ref a), .val (.ref b), .val (.int (Int32.ofNat o)), .val (.int (Int32.ofNat len)), .val .null, .unset] [])) := entry rfl
  have c2 : Steps p.tables e below (s₁.setTop (entryFrame m #[.ref a, .ref b, .int (Int32.ofNat o), .int (Int32.ofNat len), .null] 6)) (s₁.setTop (mkF m 1 #[.val (.ref a), .val (.ref b), .val (.int (Int32.ofNat o)), .val (.int (Int32.ofNat len)), .val .null, .unset] [.ref a])) := c1.trans (by
    refine XS.aloadN X0.here hexec rfl (hb hbytes d0) rfl rfl ?_
    exact Steps.refl _)
  obtain ⟨T3, X3, q3, st3⟩ := X0.oinit hexec hown (wks W (objW "java/lang/String" 1)) (g := (mkF m 1 #[.val (.ref a), .val (.ref b), .val (.int (Int32.ofNat o)), .val (.int (Int32.ofNat len)), .val .null, .unset] [.ref a])) rfl (by rw [hml]; rfl) (rest := []) rfl (hb hbytes d1) (W := 0) (by show 2 * 0 + 0 ≤ _; decide) (Nat.le_of_ble_eq_true rfl) (Nat.le_of_ble_eq_true rfl)
  have hh3 := q3.trans hh0
  have c4 : Steps p.tables e below (s₁.setTop (entryFrame m #[.ref a, .ref b, .int (Int32.ofNat o), .int (Int32.ofNat len), .null] 6)) (T3.setTop (mkF m 27 #[.val (.ref a), .val (.ref b), .val (.int (Int32.ofNat o)), .val (.int (Int32.ofNat len)), .val .null, .unset] [])) := (c2.trans (st3 _ (Steps.refl _))).trans (by
    refine XS.iloadN X3.here hexec rfl (hb hbytes d4) rfl ?_
    refine XS.ifYes X3.here hexec rfl (pc0 := 5) rfl (hb hbytes d5) rfl (i0_ne_t (nz32 (by omega) l0)) (by decide) rfl ?_
    exact Steps.refl _)
  obtain ⟨T5, X5, q5, st5⟩ := X3.sget hexec hown (wk W (.fieldLink "java/lang/String" 38 "java/lang/String" "COMPACT_STRINGS" "Z")) s1 (fun _ _ h => by rw [hh3]; exact h) (g := (mkF m 27 #[.val (.ref a), .val (.ref b), .val (.int (Int32.ofNat o)), .val (.int (Int32.ofNat len)), .val .null, .unset] [])) rfl (hb hbytes d27)
  have hh5 := q5.trans hh3
  have c6 : Steps p.tables e below (s₁.setTop (entryFrame m #[.ref a, .ref b, .int (Int32.ofNat o), .int (Int32.ofNat len), .null] 6)) (T5.setTop (mkF m 30 #[.val (.ref a), .val (.ref b), .val (.int (Int32.ofNat o)), .val (.int (Int32.ofNat len)), .val .null, .unset] [.int z])) := c4.trans (st5 _ (Steps.refl _))
  have c7 : Steps p.tables e below (s₁.setTop (entryFrame m #[.ref a, .ref b, .int (Int32.ofNat o), .int (Int32.ofNat len), .null] 6)) (T5.setTop (mkF m 36 #[.val (.ref a), .val (.ref b), .val (.int (Int32.ofNat o)), .val (.int (Int32.ofNat len)), .val .null, .unset] [.int (Int32.ofNat len), .int (Int32.ofNat o), .ref b])) := c6.trans (by
    refine XS.ifNo X5.here hexec rfl (hb hbytes d30) rfl (i0_eq_f hz) ?_
    refine XS.aloadN X5.here hexec rfl (hb hbytes d33) rfl rfl ?_
    refine XS.iloadN X5.here hexec rfl (hb hbytes d34) rfl ?_
    refine XS.iloadN X5.here hexec rfl (hb hbytes d35) rfl ?_
    exact Steps.refl _)
  obtain ⟨v8, T8, X8, E8, g8⟩ := X5.callS hexec (Cmp3.law l b A o len) hown (wks W (staticW "java/lang/String" 177 Cmp3.yN)) (wk W Cmp3.tab) (W := 0) (Nat.le_of_ble_eq_true rfl) (Nat.le_of_ble_eq_true rfl) (Nat.le_refl _) (by show 0 + len ≤ len; omega) (g := (mkF m 36 #[.val (.ref a), .val (.ref b), .val (.int (Int32.ofNat o)), .val (.int (Int32.ofNat len)), .val .null, .unset] [.int (Int32.ofNat len), .int (Int32.ofNat o), .ref b])) rfl (by rw [hml]; rfl) c7 (argsL := [.ref b, .int (Int32.ofNat o), .int (Int32.ofNat len)]) (rest := []) rfl rfl (by show 2 * 0 + 0 ≤ _; decide) (hb hbytes d36) (⟨rfl, hA.mv X5.warmed.alike hh5, l1, l2, hp⟩)
  obtain ⟨e8, z8⟩ := E8
  obtain ⟨rfl, N, n1, n2, n3, n4, n5, n6⟩ := NewArr.mv _ T5 s _ _ hh5.symm (Vm.Alike.refl _) rfl e8
  rw [hh5] at z8
  have hB1 := hB.keep X8.warmed.alike (n6 _ _ hB.1)
  have hne : s.heap.size ≠ a := (Nat.ne_of_lt (Array.getElem?_eq_some_iff.mp hB.1).1).symm
  have c9 : Steps p.tables e below (s₁.setTop (entryFrame m #[.ref a, .ref b, .int (Int32.ofNat o), .int (Int32.ofNat len), .null] 6)) (T8.setTop (mkF m 39 #[.val (.ref a), .val (.ref b), .val (.int (Int32.ofNat o)), .val (.int (Int32.ofNat len)), .val .null, .unset] [.ref s.heap.size])) := g8
  have c10 : Steps p.tables e below (s₁.setTop (entryFrame m #[.ref a, .ref b, .int (Int32.ofNat o), .int (Int32.ofNat len), .null] 6)) (T8.setTop (mkF m 45 #[.val (.ref a), .val (.ref b), .val (.int (Int32.ofNat o)), .val (.int (Int32.ofNat len)), .val .null, .val (.ref s.heap.size)] [.int (Int32.ofNat N.slots.size), .ref s.heap.size, .ref a])) := by
    have hc : Steps p.tables e below (s₁.setTop (entryFrame m #[.ref a, .ref b, .int (Int32.ofNat o), .int (Int32.ofNat len), .null] 6)) (T8.setTop (mkF m 45 #[.val (.ref a), .val (.ref b), .val (.int (Int32.ofNat o)), .val (.int (Int32.ofNat len)), .val .null, .val (.ref s.heap.size)] [.int (Int32.ofNat len), .ref s.heap.size, .ref a])) := c9.trans (by
      refine XS.astore X8.here hexec rfl (hb hbytes d39) rfl rfl rfl ?_
      refine XS.aloadN X8.here hexec rfl (hb hbytes d41) rfl rfl ?_
      refine XS.aload X8.here hexec rfl (hb hbytes d42) rfl rfl ?_
      refine XS.iloadN X8.here hexec rfl (hb hbytes d44) rfl ?_
      exact Steps.refl _)
    rw [n4]; exact hc
  obtain ⟨v11, T11, X11, E11, g11⟩ := X8.callS hexec (CodL.law l s.heap.size N) hown (wks W (staticW "java/lang/String" 47 CodL.yN)) (wk W CodL.tab) (W := 1) (Nat.le_of_ble_eq_true rfl) (Nat.le_of_ble_eq_true rfl) (Nat.le_refl _) (by show 0 + len + 0 ≤ len; omega) (g := (mkF m 45 #[.val (.ref a), .val (.ref b), .val (.int (Int32.ofNat o)), .val (.int (Int32.ofNat len)), .val .null, .val (.ref s.heap.size)] [.int (Int32.ofNat N.slots.size), .ref s.heap.size, .ref a])) rfl (by rw [hml]; rfl) c10 (argsL := [.ref s.heap.size, .int (Int32.ofNat N.slots.size)]) (rest := [.ref a]) rfl rfl (by show 2 * 0 + (1 + 0) ≤ _; decide) (hb hbytes d45) (⟨rfl, n1⟩)
  obtain ⟨rfl, q11⟩ := E11
  have hB11 := hB1.mv (X8.warmed.alike.symm.trans X11.warmed.alike) q11
  have c12 : Steps p.tables e below (s₁.setTop (entryFrame m #[.ref a, .ref b, .int (Int32.ofNat o), .int (Int32.ofNat len), .null] 6)) (T11.setTop (mkF m 48 #[.val (.ref a), .val (.ref b), .val (.int (Int32.ofNat o)), .val (.int (Int32.ofNat len)), .val .null, .val (.ref s.heap.size)] [.int 0, .ref a])) := g11
  obtain ⟨T13, X13, p13, bl13, sl13, st13⟩ := X11.finit hexec hown (wk W (.fieldLink "java/lang/String" 15 "java/lang/String" "coder" "B")) (Or.inr ⟨_, (wk W (.laysFinal "java/lang/String" "java/lang/String" "coder" "B"))⟩) (Or.inl ⟨rfl, hnm⟩) f2 (Or.inl rfl) hB11 (t := .byte) (by decide +kernel) rfl (g := (mkF m 48 #[.val (.ref a), .val (.ref b), .val (.int (Int32.ofNat o)), .val (.int (Int32.ofNat len)), .val .null, .val (.ref s.heap.size)] [.int 0, .ref a])) rfl (rest := []) rfl (hb hbytes d48)
  have c14 : Steps p.tables e below (s₁.setTop (entryFrame m #[.ref a, .ref b, .int (Int32.ofNat o), .int (Int32.ofNat len), .null] 6)) (T13.setTop (mkF m 54 #[.val (.ref a), .val (.ref b), .val (.int (Int32.ofNat o)), .val (.int (Int32.ofNat len)), .val .null, .val (.ref s.heap.size)] [.ref s.heap.size, .ref a])) := (c12.trans (st13 _ (Steps.refl _))).trans (by
    refine XS.aloadN X13.here hexec rfl (hb hbytes d51) rfl rfl ?_
    refine XS.aload X13.here hexec rfl (hb hbytes d52) rfl rfl ?_
    exact Steps.refl _)
  obtain ⟨T15, X15, p15, bl15, sl15, st15⟩ := X13.finit hexec hown (wk W (.fieldLink "java/lang/String" 9 "java/lang/String" "value" "[B")) (Or.inr ⟨_, (wk W (.laysFinal "java/lang/String" "java/lang/String" "value" "[B"))⟩) (Or.inl ⟨rfl, hnm⟩) f1 (Or.inl rfl) bl13 (t := (.array .byte)) (by decide +kernel) rfl (g := (mkF m 54 #[.val (.ref a), .val (.ref b), .val (.int (Int32.ofNat o)), .val (.int (Int32.ofNat len)), .val .null, .val (.ref s.heap.size)] [.ref s.heap.size, .ref a])) rfl (rest := []) rfl (hb hbytes d54)
  have c16 : Steps p.tables e below (s₁.setTop (entryFrame m #[.ref a, .ref b, .int (Int32.ofNat o), .int (Int32.ofNat len), .null] 6)) (T15.setTop (mkF m 57 #[.val (.ref a), .val (.ref b), .val (.int (Int32.ofNat o)), .val (.int (Int32.ofNat len)), .val .null, .val (.ref s.heap.size)] [])) := c14.trans (st15 _ (Steps.refl _))
  have ap := apart (Or.inr ⟨_, (wk W (.laysFinal "java/lang/String" "java/lang/String" "value" "[B"))⟩) (Or.inr ⟨_, (wk W (.laysFinal "java/lang/String" "java/lang/String" "coder" "B"))⟩) f1 f2 (t₁ := .array .byte) (t₂ := .byte) (by decide +kernel) (by decide +kernel) (by decide)
  have al := X8.warmed.alike.symm.trans X15.warmed.alike
  have n7 : T11.heap[s.heap.size]? = some N := by rw [q11]; exact n1.1
  exact ⟨T15, none, _, _, _, X15, by simp, rfl, by omega, (fun _ => rfl), ⟨rfl, _, N, bl15, ((Same.refl D _).set _ (by simp)).set _ (by simp), sl15, (Cell.slots_setSlot_ne _ ap).trans sl13, n1.keep al (p15.other hne (p13.other hne n7)), n2, by rw [al.findClass]; exact n3, n4, n5, fun y c h1 h2 => p15.other h1 (p13.other h1 (by rw [q11]; exact n6 y c h2)), by rw [p15.2.2, p13.2.2, q11]; exact z8⟩, fun fs hl => c16.trans (X15.returnOut hexec hret (hb hbytes d57) hl)⟩
end New4
namespace New1
def yN : MethodName := ⟨"java/lang/String", "<init>", "([C)V"⟩
abbrev yB : ByteArray := jdk_42_method_3_code
theorem d0 : decode yB 0 = .ok (.aload_n 0, 1) := by decide +kernel
theorem d1 : decode yB 1 = .ok (.aload_n 1, 1) := by decide +kernel
theorem d2 : decode yB 2 = .ok (.iconst 0, 1) := by decide +kernel
theorem d3 : decode yB 3 = .ok (.aload_n 1, 1) := by decide +kernel
theorem d4 : decode yB 4 = .ok (.arraylength, 1) := by decide +kernel
theorem d5 : decode yB 5 = .ok (.aconst_null, 1) := by decide +kernel
theorem d6 : decode yB 6 = .ok (.invokespecial 27, 3) := by decide +kernel
theorem d9 : decode yB 9 = .ok (.return_, 1) := by decide +kernel
def site : List Cond := [New4.tab] ++ initW "java/lang/String" 27 New4.yN
def tab : Cond := tabOf yN yB 2 none site
def P (a : Addr) (D : Cell) (fV fC : Field) (b : Addr) (A : Cell) (z : Int32) (args : Array Value) (s : State) : Prop := args = #[.ref a, .ref b] ∧ Blank "java/lang/String" a D s ∧ Found "java/lang/String" "value" "[B" fV s ∧ Found "java/lang/String" "coder" "B" fC s ∧ Ch b A s ∧ StaticIs s "java/lang/String" "COMPACT_STRINGS" "Z" (.int z) ∧ ¬ z = 0 ∧ 0 < A.slots.size ∧ A.slots.size ≤ 536870912 ∧ ∀ i, i < A.slots.size → ¬ 255 < cv A i
def E (a : Addr) (D : Cell) (fV fC : Field) (A : Cell) (r : Option Value) (s u : State) : Prop := Got a D fV fC A 0 A.slots.size r s u
/-- new String(chars), not empty, no char above 255: a Latin-1 String of their low bytes -/
theorem law (l : Launch) (a : Addr) (D : Cell) (fV fC : Field) (b : Addr) (A : Cell) (z : Int32) : Law l yN 2 1 3 52 yB 2 none site (P a D fV fC b A z) (E a D fV fC A) [⟨a, fC.slot⟩, ⟨a, fV.slot⟩] 1 A.slots.size := by
  refine Law.of_walk (plainFor_of_name (by decide +kernel)) (by decide +kernel) (by decide +kernel) (by decide) (fun _ _ h => by rw [h.1]; rfl) (fun _ U U' hal hh h => ⟨h.1, h.2.1.mv hal hh, h.2.2.1.al hal, h.2.2.2.1.al hal, h.2.2.2.2.1.mv hal hh, h.2.2.2.2.2.1.there hal hh, h.2.2.2.2.2.2⟩) (fun r U U' V V' h1 hal h2 h => Got.mv r U U' V V' h1 hal h2 h) ?_
  intro p e s m args below meth c s₁ X0 hexec hbytes hml hret hlk hnm hown hh0 W hP
  obtain ⟨rfl, hB, f1, f2, hA, s1, hz, l0, l2, hp⟩ := hP
  have c1 : Steps p.tables e below (s₁.setTop (entryFrame m #[.ref a, .ref b] 2)) (s₁.setTop (mkF m 0 #[.val (.ref a), .val (.ref b)] [])) := entry rfl
  have c2 : Steps p.tables e below (s₁.setTop (entryFrame m #[.ref a, .ref b] 2)) (s₁.setTop (mkF m 6 #[.val (.ref a), .val (.ref b)] [.null, .int (Int32.ofNat A.slots.size), .int 0, .ref b, .ref a])) := c1.trans (by
    refine XS.aloadN X0.here hexec rfl (hb hbytes d0) rfl rfl ?_
    refine XS.aloadN X0.here hexec rfl (hb hbytes d1) rfl rfl ?_
    refine iconstV X0.here hexec rfl 0 (hb hbytes d2) (by decide) ?_
    refine XS.aloadN X0.here hexec rfl (hb hbytes d3) rfl rfl ?_
    refine X0.alen hexec (hA.1.mv X0.warmed.alike hh0) rfl rfl (hb hbytes d4) ?_
    refine XS.aconstNull X0.here hexec rfl (hb hbytes d5) ?_
    exact Steps.refl _)
  obtain ⟨v3, T3, X3, E3, g3⟩ := X0.callN hexec (New4.law l a D fV fC b A z 0 A.slots.size) rfl hown (wks W (initW "java/lang/String" 27 New4.yN)) (W New4.tab (by simp only [site, List.mem_cons, List.mem_append, true_or, or_true])) (W := 0) (Nat.le_of_ble_eq_true rfl) (Nat.le_of_ble_eq_true rfl) (Nat.le_refl _) (by show 0 + A.slots.size ≤ A.slots.size; omega) (g := (mkF m 6 #[.val (.ref a), .val (.ref b)] [.null, .int (Int32.ofNat A.slots.size), .int (Int32.ofNat 0), .ref b, .ref a])) rfl (by rw [hml]; rfl) c2 (argsL := [.ref b, .int (Int32.ofNat 0), .int (Int32.ofNat A.slots.size), .null]) (rest := []) rfl rfl (by show 2 * 0 + 0 ≤ _; decide) (hb hbytes d6) (⟨rfl, hB.mv X0.warmed.alike hh0, f1.al X0.warmed.alike, f2.al X0.warmed.alike, hA.mv X0.warmed.alike hh0, s1.there X0.warmed.alike hh0, hz, l0, by omega, l2, fun i hi => by rw [Nat.zero_add]; exact hp i hi⟩)
  have e0 := Got.mv _ s₁ s _ _ hh0.symm (Vm.Alike.refl _) rfl E3
  obtain rfl := e0.1
  have c4 : Steps p.tables e below (s₁.setTop (entryFrame m #[.ref a, .ref b] 2)) (T3.setTop (mkF m 9 #[.val (.ref a), .val (.ref b)] [])) := g3
  exact ⟨T3, none, _, _, _, X3, by simp, rfl, by omega, (fun _ => rfl), e0, fun fs hl => c4.trans (X3.returnOut hexec hret (hb hbytes d9) hl)⟩
theorem pays {l : Launch} {R : Room} {p : Program} {e : Env} {below : List Frame} {s : State} {sargs : Array Value} {len W : Nat} (a : Addr) (D : Cell) (fV fC : Field) (b : Addr) (A : Cell) (z : Int32) (htab : tab.before sargs s = true) (hfr : 4 ≤ R.frames) (hlo : W + 65 ≤ R.locals) :
    Back l R p e below s sargs yN len W (fun A₁ a₁ => A₁.cells + 1 ≤ R.cells ∧ A₁.slots + A.slots.size ≤ R.slots ∧ P a D fV fC b A z a₁ A₁.U) (fun A₁ _ v₁ B₁ => E a D fV fC A v₁ A₁.U B₁.U ∧ B₁.locs = A₁.locs ++ [⟨a, fC.slot⟩, ⟨a, fV.slot⟩] ∧ B₁.cells = A₁.cells + 1 ∧ B₁.slots = A₁.slots + A.slots.size) :=
  (law l a D fV fC b A z).pays htab hfr (by omega)
end New1
end StrChars
namespace StrChars.Road
open Jvm Sem ClassFile Op Lib Jvm.Stand Jvm.Free Jvm.Free.XT
open Jvm.Lib.Cold (StaticIs)
abbrev ST : String := "java/lang/String"
/-- every table word that New1's law asks, flat -/
abbrev words : List Jvm.Cond := [.code New1.yN New1.yB 2 none, .initialized ST, .methodLink ST 27 New4.yN, .instanceMethod New4.yN,
  .code New4.yN New4.yB 6 none, .fieldLink ST 38 ST "COMPACT_STRINGS" "Z", .laysFinal ST ST "value" "[B", .fieldLink ST 9 ST "value" "[B", .laysFinal ST ST "coder" "B", .fieldLink ST 15 ST "coder" "B",
  .methodLink ST 1 Lib.objectInit, .instanceMethod Lib.objectInit, .code Lib.objectInit ⟨#[0xb1]⟩ 1 none, .methodLink ST 177 Cmp3.yN, .static Cmp3.yN, .methodLink ST 47 CodL.yN, .static CodL.yN,
  .code Cmp3.yN Cmp3.yB 6 (some (.array .byte)), .initialized U16, .arrayClass .byte, .methodLink U16 115 Cmp5.yN, .static Cmp5.yN, .code Cmp5.yN Cmp5.yB 7 (some .int), .code CodL.yN CodL.yB 2 (some .byte)]
theorem tab_of {a : Array Value} {s : State} (h : ∀ w ∈ words, w.before a s = true) : New1.tab.before a s = true := by
  have h5 : Cmp5.tab.before a s = true := unparts (wk h (.code Cmp5.yN Cmp5.yB 7 (some .int))) (wks h (.initialized Cmp5.yN.cls :: Cmp5.site))
  have hc : CodL.tab.before a s = true := unparts (wk h (.code CodL.yN CodL.yB 2 (some .byte))) (wks h (.initialized CodL.yN.cls :: CodL.site))
  have q5 : ∀ w ∈ Cmp5.tab :: words, w.before a s = true := fun w hw => (List.mem_cons.mp hw).elim (fun e => e ▸ h5) (h w)
  have h3 : Cmp3.tab.before a s = true := unparts (wk q5 (.code Cmp3.yN Cmp3.yB 6 (some (.array .byte)))) (wks q5 (.initialized Cmp3.yN.cls :: Cmp3.site))
  have q3 : ∀ w ∈ Cmp3.tab :: CodL.tab :: words, w.before a s = true := fun w hw => (List.mem_cons.mp hw).elim (fun e => e ▸ h3) fun hw => (List.mem_cons.mp hw).elim (fun e => e ▸ hc) (h w)
  have h4 : New4.tab.before a s = true := unparts (wk q3 (.code New4.yN New4.yB 6 none)) (wks q3 (.initialized New4.yN.cls :: New4.site))
  have q4 : ∀ w ∈ New4.tab :: words, w.before a s = true := fun w hw => (List.mem_cons.mp hw).elim (fun e => e ▸ h4) (h w)
  exact unparts (wk q4 (.code New1.yN New1.yB 2 none)) (wks q4 (.initialized New1.yN.cls :: New1.site))
/-- the words ride from the start Z to the walk's own state -/
theorem moved {Z s : State} {a0 args : Array Value} (hZ : Z.Warmed39 s.vm) (hw : ∀ d ∈ words, d.before a0 Z = true) : ∀ d ∈ words, d.before args s = true := fun d hd => by
  have q := hw d hd
  have t : ∀ d ∈ words, d = .arrayClass .byte ∨ (d.onTables && d.keepsFace) = true := by decide +kernel
  rcases t d hd with rfl | t
  · exact RoadKit.mvA hZ q
  · exact RoadKit.mv hZ q t
/-- WHAT COMES BACK, over the tables of the start Z: h the heap at the call, h' behind it -/
def Q (Z : State) (x : Addr) (A : Cell) (h : Heap) (v : Option Value) (h' : Heap) (L : List Loc) : Prop := v = none ∧ (∀ y ∈ L, y.base = x) ∧ RoadKit.Keep h h' [x] ∧ h'.size = h.size + 1 ∧ RoadKit.Exa Z h' x ST ∧ RoadKit.Fld Z h' x ST "value" "[B" (.ref h.size) ∧ RoadKit.Fld Z h' x ST "coder" "B" (.int 0) ∧
  (∃ V : Cell, RoadKit.Arr Z h' h.size V .byte ∧ V.vm = .none ∧ Z.vm.findClass "[B" = some V.cls ∧ V.slots.size = A.slots.size ∧ ∀ j, j < A.slots.size → V.slots[j]? = some (.int (lo8 (cv A j)))) ∧
  ∀ (O n d : String) (w : Value), RoadKit.Fld Z h x O n d w → RoadKit.slotOf Z O n d ≠ RoadKit.slotOf Z ST "value" "[B" → RoadKit.slotOf Z O n d ≠ RoadKit.slotOf Z ST "coder" "B" → RoadKit.Fld Z h' x O n d w
/-- **new String(chars) AT A CALL, IN THE ROAD'S FORM**: for specialBack behind newO: x the fresh String, b the char[] with the cell A -/
theorem back {p : Program} {l : Launch} {e : Env} {R : Room} {s : State} {args : Array Value} {below : List Frame} {len W : Nat} {Z : State} {a0 : Array Value} {h : Heap} (hZ : Z.Warmed39 s.vm) (hw : ∀ d ∈ words, d.before a0 Z = true) {kI : Nat} (wi : (Jvm.Cond.instantiable ST kI).before a0 Z = true)
    {x b : Addr} {A : Cell} {z : Int32} {v0 c0 : Value} (E : RoadKit.Exa Z h x ST) (V : RoadKit.Fld Z h x ST "value" "[B" v0) (C : RoadKit.Fld Z h x ST "coder" "B" c0) (K : RoadKit.Arr Z h b A .char) (hty : Typed .char A) (S : RoadKit.Sta Z h ST "COMPACT_STRINGS" "Z" (.int z)) (hz : ¬ z = 0)
    (l0 : 0 < A.slots.size) (l2 : A.slots.size ≤ 536870912) (hp : ∀ i, i < A.slots.size → ¬ 255 < cv A i) (hfr : 4 ≤ R.frames) (hlo : W + 65 ≤ R.locals) :
    Back l R p e below s args New1.yN len W (fun P a => a = #[.ref x, .ref b] ∧ P.U.heap = h ∧ P.cells + 1 ≤ R.cells ∧ P.slots + A.slots.size ≤ R.slots)
      (fun P _ v B => ∃ L, Q Z x A h v B.U.heap L ∧ B.locs = P.locs ++ L ∧ B.cells = P.cells + 1 ∧ B.slots = P.slots + A.slots.size) := by
  intro m meth c P g ig mk a X hg hsize hdg hW hn hp'
  obtain ⟨rfl, rfl, r1, r2⟩ := hp'
  have al : Z.vm.Alike P.U.vm := hZ.alike.trans X.warmed.alike
  obtain ⟨D, cfV, kV, iV, fV, hD, gV, stV, knV, obV, asV, slV⟩ := id V
  obtain ⟨D', cfC, kC, iC, fC, hD', gC, stC, -, -, asC, slC⟩ := id C
  cases hD.symm.trans hD'
  obtain ⟨D2, kD, e1, e2, e3, e4, e5⟩ := id E
  cases hD.symm.trans e1
  obtain ⟨c2, k2, i1, i2, i3, -⟩ := Cond.instantiable_spec wi
  cases e2.symm.trans i1
  cases e3.symm.trans i2
  obtain ⟨kU, u1, u2⟩ := al.2.2 _ _ e3
  have hB : Blank ST x D P.U := ⟨hD, ⟨knV, fun q hq => by rw [hq] at obV; cases obV⟩, by rw [al.findClass]; exact e2, kU, u1, by rw [u2]; exact i3, by rw [u2]; exact e5 i3⟩
  have F1 : Found ST "value" "[B" fV P.U := ⟨SBG.found_only al ⟨cfV, kV, iV, gV⟩, stV⟩
  have F2 : Found ST "coder" "B" fC P.U := ⟨SBG.found_only al ⟨cfC, kC, iC, gC⟩, stC⟩
  have hA : Ch b A P.U := ⟨⟨K.1, State.isArrayOf_alike al K.2.1, K.2.2, by omega⟩, hty⟩
  have hS : StaticIs P.U ST "COMPACT_STRINGS" "Z" (.int z) := by
    obtain ⟨cfS, iS, kS, fS, st, cS, t1, t2, t3, t4, t5, t6, t7⟩ := S
    exact StaticIs.there (s := { Z with heap := P.U.heap }) ⟨cfS, iS, kS, fS, st, cS, t1, t2, t3, t4, t5, (fun q => by rw [q] at t6; cases t6), t7⟩ al rfl
  obtain ⟨v, B, X', ⟨⟨hv, E', V', q1, q2, q3, q4, q5, q6, q7, q8, q9, q10, q11⟩, hl, hc, hs⟩, st⟩ := New1.pays x D fV fC b A z (tab_of (moved hZ hw)) hfr hlo m meth c P g ig mk _ X hg hsize hdg hW hn ⟨r1, r2, rfl, hB, F1, F2, hA, hS, hz, l0, l2, hp⟩
  have al' : Z.vm.Alike B.U.vm := hZ.alike.trans X'.warmed.alike
  have hsz : E'.slots.size = D.slots.size := by
    obtain ⟨-, -, -, kB, w1, w2, w3⟩ := q1
    obtain ⟨kB', y1, y2⟩ := al'.2.2 _ _ e3
    rw [q2.2.1] at w1
    cases w1.symm.trans y1
    rw [w3, e5 i3, y2]
  refine ⟨v, B, X', ⟨_, ⟨hv, ?_, ⟨by omega, fun y cy hy hn' => q10 y cy (by simpa using hn') hy, fun y cy hy => ?_⟩, q11, ⟨E', _, q1.1, by rw [q2.2.1]; exact e2, by rw [q2.2.1]; exact e3, by rw [q2.1]; exact obV, fun _ => by rw [hsz]; exact e5 i3⟩,
    ⟨E', cfV, kV, iV, fV, q1.1, gV, stV, by rw [q2.1]; exact knV, by rw [q2.1]; exact obV, by rw [q2.2.1]; exact asV, q3⟩, ⟨E', cfC, kC, iC, fC, q1.1, gC, stC, by rw [q2.1]; exact knV, by rw [q2.1]; exact obV, by rw [q2.2.1]; exact asC, q4⟩,
    ⟨V', ⟨q5.1, State.isArrayOf_alike al'.symm q5.2.1, q5.2.2.1⟩, q6, by rw [← al'.findClass]; exact q7, q8, fun j hj => by have := q9 j hj; rwa [Nat.zero_add] at this⟩, fun O n d w F n1 n2 => ?_⟩, hl, hc, hs⟩, st⟩
  · intro y hy
    simp only [List.mem_cons, List.not_mem_nil, or_false] at hy
    rcases hy with rfl | rfl <;> rfl
  · by_cases q : y = x
    · subst q
      cases hD.symm.trans hy
      exact ⟨E', q1.1, q2.2.1, q2.1, hsz⟩
    · exact ⟨cy, q10 y cy q hy, rfl, rfl, rfl⟩
  · obtain ⟨D3, cf, k, i, f, g1, g2, g3, g4, g5, g6, g7⟩ := F
    cases hD.symm.trans g1
    simp only [RoadKit.slotOf, g2, gV, gC, Option.map_some, Option.getD_some] at n1 n2
    exact ⟨E', cf, k, i, f, q1.1, g2, g3, by rw [q2.1]; exact g4, by rw [q2.1]; exact g5, by rw [q2.2.1]; exact g6, by rw [q2.2.2 f.slot (by simp [n1, n2])]; exact g7⟩
end StrChars.Road
namespace StrChars.Road
open Jvm Sem ClassFile Op Lib Jvm.Stand Jvm.Free Jvm.Free.XT
/-- WHAT COMES BACK, the byte[] as a list of values -/
def QA (Z : State) (x : Addr) (zn : Int32) (cs : List Int32) (h : Heap) (v : Option Value) (h' : Heap) (L : List Loc) : Prop := v = none ∧ (∀ y ∈ L, y.base = x) ∧ RoadKit.Keep h h' [x] ∧ h'.size = h.size + 1 ∧ RoadKit.Exa Z h' x ST ∧ RoadKit.Fld Z h' x ST "value" "[B" (.ref h.size) ∧ RoadKit.Fld Z h' x ST "coder" "B" (.int 0) ∧
  (∃ kb, Z.vm.findClass "[B" = some kb ∧ RoadKit.Arv Z h' h.size kb .byte zn (cs.map fun c => .int (lo8 c)) (.int 0)) ∧
  ∀ (O n d : String) (w : Value), RoadKit.Fld Z h x O n d w → RoadKit.slotOf Z O n d ≠ RoadKit.slotOf Z ST "value" "[B" → RoadKit.slotOf Z O n d ≠ RoadKit.slotOf Z ST "coder" "B" → RoadKit.Fld Z h' x O n d w
/-- **new String(chars) AT A CALL, THE ARRAYS AS LISTS**: the char[] at b holds cs, not empty, no char above 255 -/
theorem backArv {p : Program} {l : Launch} {e : Env} {R : Room} {s : State} {args : Array Value} {below : List Frame} {len W : Nat} {Z : State} {a0 : Array Value} {h : Heap} (hZ : Z.Warmed39 s.vm) (hw : ∀ d ∈ words, d.before a0 Z = true) {kI : Nat} (wi : (Jvm.Cond.instantiable ST kI).before a0 Z = true)
    {x b : Addr} {k : ClassId} {zn z : Int32} {cs : List Int32} {dv v0 c0 : Value} (E : RoadKit.Exa Z h x ST) (V : RoadKit.Fld Z h x ST "value" "[B" v0) (C : RoadKit.Fld Z h x ST "coder" "B" c0) (K : RoadKit.Arv Z h b k .char zn (cs.map Value.int) dv) (S : RoadKit.Sta Z h ST "COMPACT_STRINGS" "Z" (.int z)) (hz : ¬ z = 0)
    (hlen : zn.toNatClampNeg = cs.length) (h0 : 0 < cs.length) (hbig : cs.length ≤ 536870912) (hall : ∀ c ∈ cs, ¬ 255 < c) (hfr : 4 ≤ R.frames) (hlo : W + 65 ≤ R.locals) :
    Back l R p e below s args New1.yN len W (fun P a => a = #[.ref x, .ref b] ∧ P.U.heap = h ∧ P.cells + 1 ≤ R.cells ∧ P.slots + cs.length ≤ R.slots)
      (fun P _ v B => ∃ L, QA Z x zn cs h v B.U.heap L ∧ B.locs = P.locs ++ L ∧ B.cells = P.cells + 1 ∧ B.slots = P.slots + cs.length) := by
  obtain ⟨A, K1, K2, K3, K4, K5, K6⟩ := K
  have e : A.slots.size = cs.length := K3.trans hlen
  have hat : ∀ (i : Nat) (hi : i < cs.length), A.slots[i]? = some (.int cs[i]) := fun i hi => by rw [K5 i (by omega)]; simp [List.getD_eq_getElem?_getD, hi]
  have hcv : ∀ (i : Nat) (hi : i < cs.length), cv A i = cs[i] := fun i hi => by unfold cv; rw [hat i hi]
  have hty : Typed .char A := fun i v hv => by
    have hi : i < A.slots.size := (Array.getElem?_eq_some_iff.mp hv).1
    have q := K5 i hi
    rw [hv] at q
    rw [Option.some.inj q]
    exact K6 i hi
  refine Back.mono (back hZ hw wi E V C K1 hty S hz (by omega) (by omega) (fun i hi => by rw [hcv i (by omega)]; exact hall _ (List.getElem_mem _)) hfr hlo) (fun P a hp => ⟨hp.1, hp.2.1, hp.2.2.1, by rw [e]; exact hp.2.2.2⟩) (fun P a v B hp hq => ?_)
  obtain ⟨L, ⟨q1, q2, q3, q4, q5, q6, q7, ⟨V', v1, v2, v3, v4, v5⟩, q9⟩, hl, hc, hs⟩ := hq
  refine ⟨L, ⟨q1, q2, q3, q4, q5, q6, q7, ⟨V'.cls, v3, V', v1, rfl, by rw [v4, e, hlen], K4, fun i hi => ?_, fun i hi => ?_⟩, q9⟩, hl, hc, by rw [hs, e]⟩
  · have hi' : i < cs.length := by omega
    rw [v5 i (by omega), hcv i hi']; simp [List.getD_eq_getElem?_getD, hi']
  · have hi' : i < cs.length := by omega
    simp only [List.getD_eq_getElem?_getD, List.getElem?_map, List.getElem?_eq_getElem hi', Option.map_some, Option.getD_some]
    exact fits_lo8 _
end StrChars.Road
namespace StrChars.Road
open Jvm Sem ClassFile Op Lib Jvm.Stand Jvm.Free Jvm.Free.XT
/-- WHAT COMES BACK, in the writer's own shape -/
def QV (Z : State) (x : Addr) (N : Int32) (bs : List Int32) (h : Heap) (n0 : Nat) (v : Option Value) (h' : Heap) (L : List Loc) : Prop := v = none ∧ RoadKit.Fr n0 L ∧ RoadKit.Keep h h' [x] ∧ RoadKit.Exa Z h' x ST ∧ RoadKit.Fld Z h' x ST "coder" "B" (.int 0) ∧
  ∃ (t : Addr) (kb : ClassId), n0 ≤ t ∧ h.size ≤ t ∧ ¬ t = x ∧ RoadKit.Fld Z h' x ST "value" "[B" (.ref t) ∧ RoadKit.Arv Z h' t kb .byte N (bs.map Value.int) (.int 0)
/-- **new String(chars) AT A CALL, FOR THE WRITER**: a char[] of n known ints, each 0 to 255 -/
theorem backV {p : Program} {l : Launch} {e : Env} {R : Room} {s : State} {args : Array Value} {below : List Frame} {len W : Nat} {Z : State} {a0 : Array Value} {h : Heap} (hZ : Z.Warmed39 s.vm) (hw : ∀ d ∈ words, d.before a0 Z = true) {kI : Nat} (wi : (Jvm.Cond.instantiable ST kI).before a0 Z = true)
    {x b : Addr} {kC : ClassId} {cs bs : List Int32} {d v0 c0 : Value} {z N : Int32} {n n0 : Nat} (hx0 : n0 ≤ x) (hh0 : n0 ≤ h.size) (E : RoadKit.Exa Z h x ST) (V : RoadKit.Fld Z h x ST "value" "[B" v0) (C : RoadKit.Fld Z h x ST "coder" "B" c0) (K : RoadKit.Arv Z h b kC .char N (cs.map Value.int) d) (S : RoadKit.Sta Z h ST "COMPACT_STRINGS" "Z" (.int z)) (hz : ¬ z = 0)
    (hn : cs.length = n) (hN : N = Int32.ofNat n) (l0 : 0 < n) (l2 : n ≤ 4000) (hp : ∀ c ∈ cs, ¬ c < 0 ∧ ¬ (255 : Int32) < c) (hb : bs = cs.map (fun c => c.toInt8.toInt32)) (hfr : 4 ≤ R.frames) (hlo : W + 65 ≤ R.locals) :
    Back l R p e below s args (⟨"java/lang/String", "<init>", "([C)V"⟩ : MethodName) len W (fun P a => a = #[.ref x, .ref b] ∧ P.U.heap = h ∧ P.cells + 1 ≤ R.cells ∧ P.slots + n ≤ R.slots)
      (fun P _ v B => ∃ L, QV Z x N bs h n0 v B.U.heap L ∧ B.locs = P.locs ++ L ∧ B.cells = P.cells + 1 ∧ B.slots = P.slots + n) := by
  subst hn hN hb
  refine Back.mono (backArv hZ hw wi E V C K S hz (n32 (by omega)) l0 (by omega) (fun c hc => (hp c hc).2) hfr hlo) (fun P a hp => hp) (fun P a v B hp hq => ?_)
  obtain ⟨L, ⟨q1, q2, q3, q4, q5, q6, q7, ⟨kb, v1, v2⟩, q9⟩, hl, hc, hs⟩ := hq
  exact ⟨L, ⟨q1, fun y hy => by rw [q2 y hy]; exact hx0, q3, q5, q7, h.size, kb, hh0, Nat.le_refl _, Nat.ne_of_gt E.lt, q6, by rw [List.map_map]; exact v2⟩, hl, hc, hs⟩
end StrChars.Road
end Jvm.Pilot.@@N@@
namespace Jvm.Pilot.@@N@@
open Jvm Jvm.ClassFile Sem Op Lib Jvm.Free Jvm.Stand Jvm.LawKit Jvm.RoadKit Bundle Jvm.OwnGo Jvm.Pilot.@@N@@.Jvm.D

def own_EL : List (String × Nat) := [("com/example/sealed_ledger/sealedledger/http/RoleNamedPinLaw", 32), ("com/example/sealed_ledger/sealedledger/http/RoleNamedPinLaw", 34), ("java/lang/String", 7)]
def own_lit (l : List Int32) (i : Int32) : Int32 := l.getD i.toNatClampNeg 0
theorem own_lit_ok (l : List Int32) (j : Int32) : Value.int (own_lit l j) = (l.map Value.int).getD j.toNatClampNeg (Value.int 0) := by
  unfold own_lit
  rw [List.getD_eq_getElem?_getD, List.getD_eq_getElem?_getD, List.getElem?_map]
  cases l[j.toNatClampNeg]? <;> rfl
def own_base (w i : Int32) : Int32 := if w = 0 then own_lit [114, 101, 97, 100, 101, 114] i else own_lit [119, 114, 105, 116, 101, 114] i
theorem own_cases6 {j : Int32} (h0 : ¬ j < 0) (h1 : j < 6) : j = 0 ∨ j = 1 ∨ j = 2 ∨ j = 3 ∨ j = 4 ∨ j = 5 := by
  rw [Int32.lt_iff_toInt_lt] at h0 h1
  have z : (0 : Int32).toInt = 0 := by decide
  have z6 : (6 : Int32).toInt = 6 := by decide
  rcases (by omega : j.toInt = 0 ∨ j.toInt = 1 ∨ j.toInt = 2 ∨ j.toInt = 3 ∨ j.toInt = 4 ∨ j.toInt = 5) with h | h | h | h | h | h
  · left; exact Int32.toInt_inj.mp (h.trans (by decide))
  · right; left; exact Int32.toInt_inj.mp (h.trans (by decide))
  · right; right; left; exact Int32.toInt_inj.mp (h.trans (by decide))
  · right; right; right; left; exact Int32.toInt_inj.mp (h.trans (by decide))
  · right; right; right; right; left; exact Int32.toInt_inj.mp (h.trans (by decide))
  · right; right; right; right; right; exact Int32.toInt_inj.mp (h.trans (by decide))
def own_u (x : Int32) : Int32 := (x &&& 255).toUInt32.toUInt16.toUInt32.toInt32
theorem own_u_nar (x : Int32) : narrow .char (.int (own_u x)) = .int (own_u x) := by unfold own_u; simp only [narrow, i2c_mask]; try rfl
theorem own_bR {j : Int32} (h0 : ¬ j < 0) (h1 : j < 6) : own_u (own_lit [114, 101, 97, 100, 101, 114] j) = own_lit [114, 101, 97, 100, 101, 114] j := by
  rcases own_cases6 h0 h1 with rfl | rfl | rfl | rfl | rfl | rfl <;> decide
theorem own_bW {j : Int32} (h0 : ¬ j < 0) (h1 : j < 6) : own_u (own_lit [119, 114, 105, 116, 101, 114] j) = own_lit [119, 114, 105, 116, 101, 114] j := by
  rcases own_cases6 h0 h1 with rfl | rfl | rfl | rfl | rfl | rfl <;> decide

def own_eq6 (y1 y2 : Int32 → Int32) : Int32 := if y1 0 = y2 0 ∧ y1 1 = y2 1 ∧ y1 2 = y2 2 ∧ y1 3 = y2 3 ∧ y1 4 = y2 4 ∧ y1 5 = y2 5 then 1 else 0

def own_named (rd wr : Nat) (yR yW y2 : Int32 → Int32) : Value := if own_eq6 yR y2 = 0 then (if own_eq6 yW y2 = 0 then .null else .ref wr) else .ref rd

theorem own_s_and255 (x : Int32) : ¬ (x &&& 255) < 0 ∧ ¬ (255 : Int32) < (x &&& 255) := by
  have e : (x &&& 255).toInt = x.toInt % (2 ^ 8 : Nat) := c_mask x 255 8 (by decide) (by decide)
  have z : (0 : Int32).toInt = 0 := by decide
  have f : (255 : Int32).toInt = 255 := by decide
  constructor
  · rw [Int32.lt_iff_toInt_lt, e, z]; omega
  · rw [Int32.lt_iff_toInt_lt, e, f]; omega
theorem own_s_nar255 (x : Int32) : nar .char ((x &&& 255).toUInt32.toUInt16.toUInt32.toInt32) = x &&& 255 := by simp only [nar, i2c_mask]
theorem own_ch1 (c0 : Int32) : ∀ i : Nat, i < (1 : Int32).toNatClampNeg → (List.map Value.int [c0]).getD i (.int (0 : Int32)) = (fun i => Value.int ((fnup (fun _ => (0 : Int32)) (0 : Int32) c0) i)) i.toInt32 := by
  intro i hi
  have hi' : i < 1 := Nat.lt_of_lt_of_le hi (by decide)
  rcases Nat.eq_or_lt_of_le (Nat.le_of_lt_succ hi') with rfl | hi'
  · simp [fnup, show Nat.toInt32 0 = 0 from rfl]
  · exact absurd hi' (Nat.not_lt_zero _)
theorem own_ch5 (c0 c1 c2 c3 c4 : Int32) : ∀ i : Nat, i < (5 : Int32).toNatClampNeg → (List.map Value.int [c0, c1, c2, c3, c4]).getD i (.int (0 : Int32)) = (fun i => Value.int ((fnup (fnup (fnup (fnup (fnup (fun _ => (0 : Int32)) (0 : Int32) c0) (1 : Int32) c1) (2 : Int32) c2) (3 : Int32) c3) (4 : Int32) c4) i)) i.toInt32 := by
  intro i hi
  have hi' : i < 5 := Nat.lt_of_lt_of_le hi (by decide)
  rcases Nat.eq_or_lt_of_le (Nat.le_of_lt_succ hi') with rfl | hi'
  · simp [fnup, show Nat.toInt32 4 = 4 from rfl]
  rcases Nat.eq_or_lt_of_le (Nat.le_of_lt_succ hi') with rfl | hi'
  · simp [fnup, show Nat.toInt32 3 = 3 from rfl]
  rcases Nat.eq_or_lt_of_le (Nat.le_of_lt_succ hi') with rfl | hi'
  · simp [fnup, show Nat.toInt32 2 = 2 from rfl]
  rcases Nat.eq_or_lt_of_le (Nat.le_of_lt_succ hi') with rfl | hi'
  · simp [fnup, show Nat.toInt32 1 = 1 from rfl]
  rcases Nat.eq_or_lt_of_le (Nat.le_of_lt_succ hi') with rfl | hi'
  · simp [fnup, show Nat.toInt32 0 = 0 from rfl]
  · exact absurd hi' (Nat.not_lt_zero _)
theorem own_ch6 (c0 c1 c2 c3 c4 c5 : Int32) : ∀ i : Nat, i < (6 : Int32).toNatClampNeg → (List.map Value.int [c0, c1, c2, c3, c4, c5]).getD i (.int (0 : Int32)) = (fun i => Value.int ((fnup (fnup (fnup (fnup (fnup (fnup (fun _ => (0 : Int32)) (0 : Int32) c0) (1 : Int32) c1) (2 : Int32) c2) (3 : Int32) c3) (4 : Int32) c4) (5 : Int32) c5) i)) i.toInt32 := by
  intro i hi
  have hi' : i < 6 := Nat.lt_of_lt_of_le hi (by decide)
  rcases Nat.eq_or_lt_of_le (Nat.le_of_lt_succ hi') with rfl | hi'
  · simp [fnup, show Nat.toInt32 5 = 5 from rfl]
  rcases Nat.eq_or_lt_of_le (Nat.le_of_lt_succ hi') with rfl | hi'
  · simp [fnup, show Nat.toInt32 4 = 4 from rfl]
  rcases Nat.eq_or_lt_of_le (Nat.le_of_lt_succ hi') with rfl | hi'
  · simp [fnup, show Nat.toInt32 3 = 3 from rfl]
  rcases Nat.eq_or_lt_of_le (Nat.le_of_lt_succ hi') with rfl | hi'
  · simp [fnup, show Nat.toInt32 2 = 2 from rfl]
  rcases Nat.eq_or_lt_of_le (Nat.le_of_lt_succ hi') with rfl | hi'
  · simp [fnup, show Nat.toInt32 1 = 1 from rfl]
  rcases Nat.eq_or_lt_of_le (Nat.le_of_lt_succ hi') with rfl | hi'
  · simp [fnup, show Nat.toInt32 0 = 0 from rfl]
  · exact absurd hi' (Nat.not_lt_zero _)
theorem own_ch7 (c0 c1 c2 c3 c4 c5 c6 : Int32) : ∀ i : Nat, i < (7 : Int32).toNatClampNeg → (List.map Value.int [c0, c1, c2, c3, c4, c5, c6]).getD i (.int (0 : Int32)) = (fun i => Value.int ((fnup (fnup (fnup (fnup (fnup (fnup (fnup (fun _ => (0 : Int32)) (0 : Int32) c0) (1 : Int32) c1) (2 : Int32) c2) (3 : Int32) c3) (4 : Int32) c4) (5 : Int32) c5) (6 : Int32) c6) i)) i.toInt32 := by
  intro i hi
  have hi' : i < 7 := Nat.lt_of_lt_of_le hi (by decide)
  rcases Nat.eq_or_lt_of_le (Nat.le_of_lt_succ hi') with rfl | hi'
  · simp [fnup, show Nat.toInt32 6 = 6 from rfl]
  rcases Nat.eq_or_lt_of_le (Nat.le_of_lt_succ hi') with rfl | hi'
  · simp [fnup, show Nat.toInt32 5 = 5 from rfl]
  rcases Nat.eq_or_lt_of_le (Nat.le_of_lt_succ hi') with rfl | hi'
  · simp [fnup, show Nat.toInt32 4 = 4 from rfl]
  rcases Nat.eq_or_lt_of_le (Nat.le_of_lt_succ hi') with rfl | hi'
  · simp [fnup, show Nat.toInt32 3 = 3 from rfl]
  rcases Nat.eq_or_lt_of_le (Nat.le_of_lt_succ hi') with rfl | hi'
  · simp [fnup, show Nat.toInt32 2 = 2 from rfl]
  rcases Nat.eq_or_lt_of_le (Nat.le_of_lt_succ hi') with rfl | hi'
  · simp [fnup, show Nat.toInt32 1 = 1 from rfl]
  rcases Nat.eq_or_lt_of_le (Nat.le_of_lt_succ hi') with rfl | hi'
  · simp [fnup, show Nat.toInt32 0 = 0 from rfl]
  · exact absurd hi' (Nat.not_lt_zero _)

theorem own_and_self {x : Int32} (h : ¬ x < 0 ∧ ¬ (255 : Int32) < x) : x &&& 255 = x := by
  have e : (x &&& 255).toInt = x.toInt % (2 ^ 8 : Nat) := c_mask x 255 8 (by decide) (by decide)
  have z : (0 : Int32).toInt = 0 := by decide
  have f : (255 : Int32).toInt = 255 := by decide
  obtain ⟨h0, h1⟩ := h
  rw [Int32.lt_iff_toInt_lt] at h0 h1
  refine Int32.toInt_inj.mp ?_
  rw [e]; omega
theorem own_nar8 {x : Int32} (h : ¬ x < 0 ∧ ¬ (255 : Int32) < x) : nar .char x = x := by
  have q := own_s_nar255 x
  have m : ((x &&& 255).toUInt32.toUInt16.toUInt32.toInt32) = x &&& 255 := by simp only [i2c_mask]
  rw [m, own_and_self h] at q
  exact q
theorem own_base_rng (w i : Int32) : ¬ own_base w i < 0 ∧ ¬ (255 : Int32) < own_base w i := by
  have key : ∀ (l : List Int32), (∀ x ∈ l, ¬ x < 0 ∧ ¬ (255 : Int32) < x) → ¬ own_lit l i < 0 ∧ ¬ (255 : Int32) < own_lit l i := by
    intro l hl
    unfold own_lit
    rw [List.getD_eq_getElem?_getD]
    rcases e : l[i.toNatClampNeg]? with _ | x
    · exact ⟨by decide, by decide⟩
    · exact hl x (List.mem_of_getElem? e)
  unfold own_base
  split
  · exact key _ (by decide)
  · exact key _ (by decide)
theorem own_rem6 (x : Int32) : ¬ (x &&& 2147483647) % 6 < 0 ∧ (x &&& 2147483647) % 6 < 6 := by
  have e : (x &&& 2147483647).toInt = x.toInt % (2 ^ 31 : Nat) := c_mask x 2147483647 31 (by decide) (by decide)
  have m : ((x &&& 2147483647) % 6).toInt = (x &&& 2147483647).toInt.tmod 6 := by rw [Int32.toInt_mod]; rfl
  have n0 : 0 ≤ (x &&& 2147483647).toInt := by rw [e]; omega
  have q := Int.tmod_nonneg 6 n0
  have r := Int.tmod_lt_of_pos (x &&& 2147483647).toInt (show (0 : Int) < 6 by decide)
  have z : (0 : Int32).toInt = 0 := by decide
  have f : (6 : Int32).toInt = 6 := by decide
  constructor
  · rw [Int32.lt_iff_toInt_lt, m, z]; omega
  · rw [Int32.lt_iff_toInt_lt, m, f]; omega
theorem own_lt7 {x : Int32} (h : x < 6) : x < 7 := by
  rw [Int32.lt_iff_toInt_lt] at h ⊢
  have f : (6 : Int32).toInt = 6 := by decide
  have g : (7 : Int32).toInt = 7 := by decide
  omega
theorem own_named_ref (rd wr : Nat) (yR yW y2 : Int32 → Int32) : (own_named rd wr yR yW y2).isRef = true := by
  unfold own_named; split
  · split <;> rfl
  · rfl

def own_full (wW eE : Int32) : Int32 → Int32 := (fnup (fnup (fnup (fnup (fnup (fnup (fnup (fun _ => (0 : Int32)) (0 : Int32) (own_base wW (0 : Int32))) (1 : Int32) (own_base wW (1 : Int32))) (2 : Int32) (own_base wW (2 : Int32))) (3 : Int32) (own_base wW (3 : Int32))) (4 : Int32) (own_base wW (4 : Int32))) (5 : Int32) (own_base wW (5 : Int32))) (6 : Int32) (eE &&& (255 : Int32)))
def own_fm (wW mU p6 mc eE : Int32) : Int32 → Int32 := if mU = 0 then own_full wW eE else fnup (own_full wW eE) p6 mc
theorem own_fm_lat {wW mU p6 mc eE : Int32} (hmc : ¬ mc < 0 ∧ ¬ (255 : Int32) < mc) (i : Int32) : ¬ own_fm wW mU p6 mc eE i < 0 ∧ ¬ (255 : Int32) < own_fm wW mU p6 mc eE i := by
  have hf : ∀ i, ¬ own_full wW eE i < 0 ∧ ¬ (255 : Int32) < own_full wW eE i := by
    intro i
    have step : ∀ (y : Int32 → Int32) (k v : Int32), (∀ i, ¬ y i < 0 ∧ ¬ (255 : Int32) < y i) → (¬ v < 0 ∧ ¬ (255 : Int32) < v) → ∀ i, ¬ fnup y k v i < 0 ∧ ¬ (255 : Int32) < fnup y k v i := by
      intro y k v hy hv i; unfold fnup; split
      · exact hv
      · exact hy i
    unfold own_full
    exact step _ _ _ (step _ _ _ (step _ _ _ (step _ _ _ (step _ _ _ (step _ _ _ (step _ _ _ (fun _ => ⟨by decide, by decide⟩) (own_base_rng _ _)) (own_base_rng _ _)) (own_base_rng _ _)) (own_base_rng _ _)) (own_base_rng _ _)) (own_base_rng _ _)) (own_s_and255 _) i
  unfold own_fm
  split
  · exact hf i
  · unfold fnup; split
    · exact hmc
    · exact hf i
theorem own_i8 {mc c : Int32} (hmc : ¬ mc < 0 ∧ ¬ (255 : Int32) < mc) (hc : c ∈ [(114 : Int32), 101, 97, 100, 119, 105, 116]) : (mc.toInt8.toInt32 = c) ↔ (mc = c) := by
  have key : ∀ k : Fin 256, ∀ c ∈ [(114 : Int32), 101, 97, 100, 119, 105, 116], ((Int32.ofNat k.1).toInt8.toInt32 = c) ↔ (Int32.ofNat k.1 = c) := by decide +kernel
  have z : (0 : Int32).toInt = 0 := by decide
  have f : (255 : Int32).toInt = 255 := by decide
  obtain ⟨h0, h1⟩ := hmc
  rw [Int32.lt_iff_toInt_lt] at h0 h1
  have q : mc = Int32.ofNat mc.toInt.toNat := by
    refine Int32.toInt_inj.mp ?_
    rw [Int32.toInt_ofNat_small (by omega)]
    omega
  have := key ⟨mc.toInt.toNat, by omega⟩ c hc
  rw [← q] at this
  exact this
theorem own_named_lit (rd wr : Nat) {yR yW : Int32 → Int32} (eR : yR 0 = 114 ∧ yR 1 = 101 ∧ yR 2 = 97 ∧ yR 3 = 100 ∧ yR 4 = 101 ∧ yR 5 = 114) (eW : yW 0 = 119 ∧ yW 1 = 114 ∧ yW 2 = 105 ∧ yW 3 = 116 ∧ yW 4 = 101 ∧ yW 5 = 114) (b0 b1 b2 b3 b4 b5 : Int32) :
    own_named rd wr yR yW (own_lit [b0, b1, b2, b3, b4, b5]) = if (114 = b0 ∧ 101 = b1 ∧ 97 = b2 ∧ 100 = b3 ∧ 101 = b4 ∧ 114 = b5) then .ref rd else if (119 = b0 ∧ 114 = b1 ∧ 105 = b2 ∧ 116 = b3 ∧ 101 = b4 ∧ 114 = b5) then .ref wr else .null := by
  obtain ⟨r0, r1, r2, r3, r4, r5⟩ := eR
  obtain ⟨w0, w1, w2, w3, w4, w5⟩ := eW
  have a : own_eq6 yR (own_lit [b0, b1, b2, b3, b4, b5]) = if (114 = b0 ∧ 101 = b1 ∧ 97 = b2 ∧ 100 = b3 ∧ 101 = b4 ∧ 114 = b5) then 1 else 0 := by
    unfold own_eq6; rw [r0, r1, r2, r3, r4, r5]; rfl
  have b : own_eq6 yW (own_lit [b0, b1, b2, b3, b4, b5]) = if (119 = b0 ∧ 114 = b1 ∧ 105 = b2 ∧ 116 = b3 ∧ 101 = b4 ∧ 114 = b5) then 1 else 0 := by
    unfold own_eq6; rw [w0, w1, w2, w3, w4, w5]; rfl
  unfold own_named
  rw [a, b]
  have o : ¬ (1 : Int32) = 0 := by decide
  by_cases hA : (114 = b0 ∧ 101 = b1 ∧ 97 = b2 ∧ 100 = b3 ∧ 101 = b4 ∧ 114 = b5)
  · rw [if_pos hA, if_pos hA, if_neg o]
  · rw [if_neg hA, if_neg hA, if_pos rfl]
    by_cases hB : (119 = b0 ∧ 114 = b1 ∧ 105 = b2 ∧ 116 = b3 ∧ 101 = b4 ∧ 114 = b5)
    · rw [if_pos hB, if_pos hB, if_neg o]
    · rw [if_neg hB, if_neg hB, if_pos rfl]
theorem own_full_0 (wW eE : Int32) : own_full wW eE 0 = if wW = 0 then 114 else 119 := by
  have e : own_full wW eE 0 = own_base wW 0 := by simp [own_full, fnup]
  rw [e]; unfold own_base; split <;> rfl
theorem own_full_1 (wW eE : Int32) : own_full wW eE 1 = if wW = 0 then 101 else 114 := by
  have e : own_full wW eE 1 = own_base wW 1 := by simp [own_full, fnup]
  rw [e]; unfold own_base; split <;> rfl
theorem own_full_2 (wW eE : Int32) : own_full wW eE 2 = if wW = 0 then 97 else 105 := by
  have e : own_full wW eE 2 = own_base wW 2 := by simp [own_full, fnup]
  rw [e]; unfold own_base; split <;> rfl
theorem own_full_3 (wW eE : Int32) : own_full wW eE 3 = if wW = 0 then 100 else 116 := by
  have e : own_full wW eE 3 = own_base wW 3 := by simp [own_full, fnup]
  rw [e]; unfold own_base; split <;> rfl
theorem own_full_4 (wW eE : Int32) : own_full wW eE 4 = if wW = 0 then 101 else 101 := by
  have e : own_full wW eE 4 = own_base wW 4 := by simp [own_full, fnup]
  rw [e]; unfold own_base; split <;> rfl
theorem own_full_5 (wW eE : Int32) : own_full wW eE 5 = if wW = 0 then 114 else 114 := by
  have e : own_full wW eE 5 = own_base wW 5 := by simp [own_full, fnup]
  rw [e]; unfold own_base; split <;> rfl
theorem own_finR {p6 : Int32} (rd wr : Nat) {yR yW : Int32 → Int32} {wW mU mc eE : Int32} (eR : yR 0 = 114 ∧ yR 1 = 101 ∧ yR 2 = 97 ∧ yR 3 = 100 ∧ yR 4 = 101 ∧ yR 5 = 114) (eW : yW 0 = 119 ∧ yW 1 = 114 ∧ yW 2 = 105 ∧ yW 3 = 116 ∧ yW 4 = 101 ∧ yW 5 = 114) (hmc : ¬ mc < 0 ∧ ¬ (255 : Int32) < mc) (hw : wW = 0) (hm : mU = 0) : own_named rd wr yR yW (own_lit [(own_fm wW mU p6 mc eE 0).toInt8.toInt32, (own_fm wW mU p6 mc eE 1).toInt8.toInt32, (own_fm wW mU p6 mc eE 2).toInt8.toInt32, (own_fm wW mU p6 mc eE 3).toInt8.toInt32, (own_fm wW mU p6 mc eE 4).toInt8.toInt32, (own_fm wW mU p6 mc eE 5).toInt8.toInt32]) = .ref rd := by
  rw [own_named_lit rd wr eR eW, show own_fm wW mU p6 mc eE 0 = 114 from by rw [own_fm, if_pos hm, own_full_0, if_pos hw], show own_fm wW mU p6 mc eE 1 = 101 from by rw [own_fm, if_pos hm, own_full_1, if_pos hw], show own_fm wW mU p6 mc eE 2 = 97 from by rw [own_fm, if_pos hm, own_full_2, if_pos hw], show own_fm wW mU p6 mc eE 3 = 100 from by rw [own_fm, if_pos hm, own_full_3, if_pos hw], show own_fm wW mU p6 mc eE 4 = 101 from by rw [own_fm, if_pos hm, own_full_4, if_pos hw], show own_fm wW mU p6 mc eE 5 = 114 from by rw [own_fm, if_pos hm, own_full_5, if_pos hw]]
  simp only [show (97 : Int32).toInt8.toInt32 = 97 from by decide, show (100 : Int32).toInt8.toInt32 = 100 from by decide, show (101 : Int32).toInt8.toInt32 = 101 from by decide, show (114 : Int32).toInt8.toInt32 = 114 from by decide]
  rfl
theorem own_finR0 (rd wr : Nat) {yR yW : Int32 → Int32} {wW mU mc eE : Int32} (eR : yR 0 = 114 ∧ yR 1 = 101 ∧ yR 2 = 97 ∧ yR 3 = 100 ∧ yR 4 = 101 ∧ yR 5 = 114) (eW : yW 0 = 119 ∧ yW 1 = 114 ∧ yW 2 = 105 ∧ yW 3 = 116 ∧ yW 4 = 101 ∧ yW 5 = 114) (hmc : ¬ mc < 0 ∧ ¬ (255 : Int32) < mc) (hw : wW = 0) (hm : ¬ mU = 0) : own_named rd wr yR yW (own_lit [(own_fm wW mU 0 mc eE 0).toInt8.toInt32, (own_fm wW mU 0 mc eE 1).toInt8.toInt32, (own_fm wW mU 0 mc eE 2).toInt8.toInt32, (own_fm wW mU 0 mc eE 3).toInt8.toInt32, (own_fm wW mU 0 mc eE 4).toInt8.toInt32, (own_fm wW mU 0 mc eE 5).toInt8.toInt32]) = if mc = own_base wW 0 then .ref rd else .null := by
  have e : own_base wW 0 = 114 := by rw [own_base, if_pos hw]; rfl
  rw [e, own_named_lit rd wr eR eW, show own_fm wW mU 0 mc eE 0 = mc from by rw [own_fm, if_neg hm, fnup_same], show own_fm wW mU 0 mc eE 1 = 101 from by rw [own_fm, if_neg hm, fnup_ne (by decide), own_full_1, if_pos hw], show own_fm wW mU 0 mc eE 2 = 97 from by rw [own_fm, if_neg hm, fnup_ne (by decide), own_full_2, if_pos hw], show own_fm wW mU 0 mc eE 3 = 100 from by rw [own_fm, if_neg hm, fnup_ne (by decide), own_full_3, if_pos hw], show own_fm wW mU 0 mc eE 4 = 101 from by rw [own_fm, if_neg hm, fnup_ne (by decide), own_full_4, if_pos hw], show own_fm wW mU 0 mc eE 5 = 114 from by rw [own_fm, if_neg hm, fnup_ne (by decide), own_full_5, if_pos hw]]
  have q := own_i8 hmc (c := 114) (by decide)
  by_cases hq : mc = 114
  · subst hq; rfl
  · have n : ¬ 114 = mc.toInt8.toInt32 := fun z => hq (q.mp z.symm)
    rw [if_neg hq]
    simp only [show (97 : Int32).toInt8.toInt32 = 97 from by decide, show (100 : Int32).toInt8.toInt32 = 100 from by decide, show (101 : Int32).toInt8.toInt32 = 101 from by decide, show (114 : Int32).toInt8.toInt32 = 114 from by decide, n, false_and, and_false, if_false]
    first | done | (simp (decide := true) only [and_false, false_and, if_false])
theorem own_finR1 (rd wr : Nat) {yR yW : Int32 → Int32} {wW mU mc eE : Int32} (eR : yR 0 = 114 ∧ yR 1 = 101 ∧ yR 2 = 97 ∧ yR 3 = 100 ∧ yR 4 = 101 ∧ yR 5 = 114) (eW : yW 0 = 119 ∧ yW 1 = 114 ∧ yW 2 = 105 ∧ yW 3 = 116 ∧ yW 4 = 101 ∧ yW 5 = 114) (hmc : ¬ mc < 0 ∧ ¬ (255 : Int32) < mc) (hw : wW = 0) (hm : ¬ mU = 0) : own_named rd wr yR yW (own_lit [(own_fm wW mU 1 mc eE 0).toInt8.toInt32, (own_fm wW mU 1 mc eE 1).toInt8.toInt32, (own_fm wW mU 1 mc eE 2).toInt8.toInt32, (own_fm wW mU 1 mc eE 3).toInt8.toInt32, (own_fm wW mU 1 mc eE 4).toInt8.toInt32, (own_fm wW mU 1 mc eE 5).toInt8.toInt32]) = if mc = own_base wW 1 then .ref rd else .null := by
  have e : own_base wW 1 = 101 := by rw [own_base, if_pos hw]; rfl
  rw [e, own_named_lit rd wr eR eW, show own_fm wW mU 1 mc eE 0 = 114 from by rw [own_fm, if_neg hm, fnup_ne (by decide), own_full_0, if_pos hw], show own_fm wW mU 1 mc eE 1 = mc from by rw [own_fm, if_neg hm, fnup_same], show own_fm wW mU 1 mc eE 2 = 97 from by rw [own_fm, if_neg hm, fnup_ne (by decide), own_full_2, if_pos hw], show own_fm wW mU 1 mc eE 3 = 100 from by rw [own_fm, if_neg hm, fnup_ne (by decide), own_full_3, if_pos hw], show own_fm wW mU 1 mc eE 4 = 101 from by rw [own_fm, if_neg hm, fnup_ne (by decide), own_full_4, if_pos hw], show own_fm wW mU 1 mc eE 5 = 114 from by rw [own_fm, if_neg hm, fnup_ne (by decide), own_full_5, if_pos hw]]
  have q := own_i8 hmc (c := 101) (by decide)
  by_cases hq : mc = 101
  · subst hq; rfl
  · have n : ¬ 101 = mc.toInt8.toInt32 := fun z => hq (q.mp z.symm)
    rw [if_neg hq]
    simp only [show (97 : Int32).toInt8.toInt32 = 97 from by decide, show (100 : Int32).toInt8.toInt32 = 100 from by decide, show (101 : Int32).toInt8.toInt32 = 101 from by decide, show (114 : Int32).toInt8.toInt32 = 114 from by decide, n, false_and, and_false, if_false]
    first | done | (simp (decide := true) only [and_false, false_and, if_false])
theorem own_finR2 (rd wr : Nat) {yR yW : Int32 → Int32} {wW mU mc eE : Int32} (eR : yR 0 = 114 ∧ yR 1 = 101 ∧ yR 2 = 97 ∧ yR 3 = 100 ∧ yR 4 = 101 ∧ yR 5 = 114) (eW : yW 0 = 119 ∧ yW 1 = 114 ∧ yW 2 = 105 ∧ yW 3 = 116 ∧ yW 4 = 101 ∧ yW 5 = 114) (hmc : ¬ mc < 0 ∧ ¬ (255 : Int32) < mc) (hw : wW = 0) (hm : ¬ mU = 0) : own_named rd wr yR yW (own_lit [(own_fm wW mU 2 mc eE 0).toInt8.toInt32, (own_fm wW mU 2 mc eE 1).toInt8.toInt32, (own_fm wW mU 2 mc eE 2).toInt8.toInt32, (own_fm wW mU 2 mc eE 3).toInt8.toInt32, (own_fm wW mU 2 mc eE 4).toInt8.toInt32, (own_fm wW mU 2 mc eE 5).toInt8.toInt32]) = if mc = own_base wW 2 then .ref rd else .null := by
  have e : own_base wW 2 = 97 := by rw [own_base, if_pos hw]; rfl
  rw [e, own_named_lit rd wr eR eW, show own_fm wW mU 2 mc eE 0 = 114 from by rw [own_fm, if_neg hm, fnup_ne (by decide), own_full_0, if_pos hw], show own_fm wW mU 2 mc eE 1 = 101 from by rw [own_fm, if_neg hm, fnup_ne (by decide), own_full_1, if_pos hw], show own_fm wW mU 2 mc eE 2 = mc from by rw [own_fm, if_neg hm, fnup_same], show own_fm wW mU 2 mc eE 3 = 100 from by rw [own_fm, if_neg hm, fnup_ne (by decide), own_full_3, if_pos hw], show own_fm wW mU 2 mc eE 4 = 101 from by rw [own_fm, if_neg hm, fnup_ne (by decide), own_full_4, if_pos hw], show own_fm wW mU 2 mc eE 5 = 114 from by rw [own_fm, if_neg hm, fnup_ne (by decide), own_full_5, if_pos hw]]
  have q := own_i8 hmc (c := 97) (by decide)
  by_cases hq : mc = 97
  · subst hq; rfl
  · have n : ¬ 97 = mc.toInt8.toInt32 := fun z => hq (q.mp z.symm)
    rw [if_neg hq]
    simp only [show (97 : Int32).toInt8.toInt32 = 97 from by decide, show (100 : Int32).toInt8.toInt32 = 100 from by decide, show (101 : Int32).toInt8.toInt32 = 101 from by decide, show (114 : Int32).toInt8.toInt32 = 114 from by decide, n, false_and, and_false, if_false]
    first | done | (simp (decide := true) only [and_false, false_and, if_false])
theorem own_finR3 (rd wr : Nat) {yR yW : Int32 → Int32} {wW mU mc eE : Int32} (eR : yR 0 = 114 ∧ yR 1 = 101 ∧ yR 2 = 97 ∧ yR 3 = 100 ∧ yR 4 = 101 ∧ yR 5 = 114) (eW : yW 0 = 119 ∧ yW 1 = 114 ∧ yW 2 = 105 ∧ yW 3 = 116 ∧ yW 4 = 101 ∧ yW 5 = 114) (hmc : ¬ mc < 0 ∧ ¬ (255 : Int32) < mc) (hw : wW = 0) (hm : ¬ mU = 0) : own_named rd wr yR yW (own_lit [(own_fm wW mU 3 mc eE 0).toInt8.toInt32, (own_fm wW mU 3 mc eE 1).toInt8.toInt32, (own_fm wW mU 3 mc eE 2).toInt8.toInt32, (own_fm wW mU 3 mc eE 3).toInt8.toInt32, (own_fm wW mU 3 mc eE 4).toInt8.toInt32, (own_fm wW mU 3 mc eE 5).toInt8.toInt32]) = if mc = own_base wW 3 then .ref rd else .null := by
  have e : own_base wW 3 = 100 := by rw [own_base, if_pos hw]; rfl
  rw [e, own_named_lit rd wr eR eW, show own_fm wW mU 3 mc eE 0 = 114 from by rw [own_fm, if_neg hm, fnup_ne (by decide), own_full_0, if_pos hw], show own_fm wW mU 3 mc eE 1 = 101 from by rw [own_fm, if_neg hm, fnup_ne (by decide), own_full_1, if_pos hw], show own_fm wW mU 3 mc eE 2 = 97 from by rw [own_fm, if_neg hm, fnup_ne (by decide), own_full_2, if_pos hw], show own_fm wW mU 3 mc eE 3 = mc from by rw [own_fm, if_neg hm, fnup_same], show own_fm wW mU 3 mc eE 4 = 101 from by rw [own_fm, if_neg hm, fnup_ne (by decide), own_full_4, if_pos hw], show own_fm wW mU 3 mc eE 5 = 114 from by rw [own_fm, if_neg hm, fnup_ne (by decide), own_full_5, if_pos hw]]
  have q := own_i8 hmc (c := 100) (by decide)
  by_cases hq : mc = 100
  · subst hq; rfl
  · have n : ¬ 100 = mc.toInt8.toInt32 := fun z => hq (q.mp z.symm)
    rw [if_neg hq]
    simp only [show (97 : Int32).toInt8.toInt32 = 97 from by decide, show (100 : Int32).toInt8.toInt32 = 100 from by decide, show (101 : Int32).toInt8.toInt32 = 101 from by decide, show (114 : Int32).toInt8.toInt32 = 114 from by decide, n, false_and, and_false, if_false]
    first | done | (simp (decide := true) only [and_false, false_and, if_false])
theorem own_finR4 (rd wr : Nat) {yR yW : Int32 → Int32} {wW mU mc eE : Int32} (eR : yR 0 = 114 ∧ yR 1 = 101 ∧ yR 2 = 97 ∧ yR 3 = 100 ∧ yR 4 = 101 ∧ yR 5 = 114) (eW : yW 0 = 119 ∧ yW 1 = 114 ∧ yW 2 = 105 ∧ yW 3 = 116 ∧ yW 4 = 101 ∧ yW 5 = 114) (hmc : ¬ mc < 0 ∧ ¬ (255 : Int32) < mc) (hw : wW = 0) (hm : ¬ mU = 0) : own_named rd wr yR yW (own_lit [(own_fm wW mU 4 mc eE 0).toInt8.toInt32, (own_fm wW mU 4 mc eE 1).toInt8.toInt32, (own_fm wW mU 4 mc eE 2).toInt8.toInt32, (own_fm wW mU 4 mc eE 3).toInt8.toInt32, (own_fm wW mU 4 mc eE 4).toInt8.toInt32, (own_fm wW mU 4 mc eE 5).toInt8.toInt32]) = if mc = own_base wW 4 then .ref rd else .null := by
  have e : own_base wW 4 = 101 := by rw [own_base, if_pos hw]; rfl
  rw [e, own_named_lit rd wr eR eW, show own_fm wW mU 4 mc eE 0 = 114 from by rw [own_fm, if_neg hm, fnup_ne (by decide), own_full_0, if_pos hw], show own_fm wW mU 4 mc eE 1 = 101 from by rw [own_fm, if_neg hm, fnup_ne (by decide), own_full_1, if_pos hw], show own_fm wW mU 4 mc eE 2 = 97 from by rw [own_fm, if_neg hm, fnup_ne (by decide), own_full_2, if_pos hw], show own_fm wW mU 4 mc eE 3 = 100 from by rw [own_fm, if_neg hm, fnup_ne (by decide), own_full_3, if_pos hw], show own_fm wW mU 4 mc eE 4 = mc from by rw [own_fm, if_neg hm, fnup_same], show own_fm wW mU 4 mc eE 5 = 114 from by rw [own_fm, if_neg hm, fnup_ne (by decide), own_full_5, if_pos hw]]
  have q := own_i8 hmc (c := 101) (by decide)
  by_cases hq : mc = 101
  · subst hq; rfl
  · have n : ¬ 101 = mc.toInt8.toInt32 := fun z => hq (q.mp z.symm)
    rw [if_neg hq]
    simp only [show (97 : Int32).toInt8.toInt32 = 97 from by decide, show (100 : Int32).toInt8.toInt32 = 100 from by decide, show (101 : Int32).toInt8.toInt32 = 101 from by decide, show (114 : Int32).toInt8.toInt32 = 114 from by decide, n, false_and, and_false, if_false]
    first | done | (simp (decide := true) only [and_false, false_and, if_false])
theorem own_finR5 (rd wr : Nat) {yR yW : Int32 → Int32} {wW mU mc eE : Int32} (eR : yR 0 = 114 ∧ yR 1 = 101 ∧ yR 2 = 97 ∧ yR 3 = 100 ∧ yR 4 = 101 ∧ yR 5 = 114) (eW : yW 0 = 119 ∧ yW 1 = 114 ∧ yW 2 = 105 ∧ yW 3 = 116 ∧ yW 4 = 101 ∧ yW 5 = 114) (hmc : ¬ mc < 0 ∧ ¬ (255 : Int32) < mc) (hw : wW = 0) (hm : ¬ mU = 0) : own_named rd wr yR yW (own_lit [(own_fm wW mU 5 mc eE 0).toInt8.toInt32, (own_fm wW mU 5 mc eE 1).toInt8.toInt32, (own_fm wW mU 5 mc eE 2).toInt8.toInt32, (own_fm wW mU 5 mc eE 3).toInt8.toInt32, (own_fm wW mU 5 mc eE 4).toInt8.toInt32, (own_fm wW mU 5 mc eE 5).toInt8.toInt32]) = if mc = own_base wW 5 then .ref rd else .null := by
  have e : own_base wW 5 = 114 := by rw [own_base, if_pos hw]; rfl
  rw [e, own_named_lit rd wr eR eW, show own_fm wW mU 5 mc eE 0 = 114 from by rw [own_fm, if_neg hm, fnup_ne (by decide), own_full_0, if_pos hw], show own_fm wW mU 5 mc eE 1 = 101 from by rw [own_fm, if_neg hm, fnup_ne (by decide), own_full_1, if_pos hw], show own_fm wW mU 5 mc eE 2 = 97 from by rw [own_fm, if_neg hm, fnup_ne (by decide), own_full_2, if_pos hw], show own_fm wW mU 5 mc eE 3 = 100 from by rw [own_fm, if_neg hm, fnup_ne (by decide), own_full_3, if_pos hw], show own_fm wW mU 5 mc eE 4 = 101 from by rw [own_fm, if_neg hm, fnup_ne (by decide), own_full_4, if_pos hw], show own_fm wW mU 5 mc eE 5 = mc from by rw [own_fm, if_neg hm, fnup_same]]
  have q := own_i8 hmc (c := 114) (by decide)
  by_cases hq : mc = 114
  · subst hq; rfl
  · have n : ¬ 114 = mc.toInt8.toInt32 := fun z => hq (q.mp z.symm)
    rw [if_neg hq]
    simp only [show (97 : Int32).toInt8.toInt32 = 97 from by decide, show (100 : Int32).toInt8.toInt32 = 100 from by decide, show (101 : Int32).toInt8.toInt32 = 101 from by decide, show (114 : Int32).toInt8.toInt32 = 114 from by decide, n, false_and, and_false, if_false]
    first | done | (simp (decide := true) only [and_false, false_and, if_false])
theorem own_finW {p6 : Int32} (rd wr : Nat) {yR yW : Int32 → Int32} {wW mU mc eE : Int32} (eR : yR 0 = 114 ∧ yR 1 = 101 ∧ yR 2 = 97 ∧ yR 3 = 100 ∧ yR 4 = 101 ∧ yR 5 = 114) (eW : yW 0 = 119 ∧ yW 1 = 114 ∧ yW 2 = 105 ∧ yW 3 = 116 ∧ yW 4 = 101 ∧ yW 5 = 114) (hmc : ¬ mc < 0 ∧ ¬ (255 : Int32) < mc) (hw : ¬ wW = 0) (hm : mU = 0) : own_named rd wr yR yW (own_lit [(own_fm wW mU p6 mc eE 0).toInt8.toInt32, (own_fm wW mU p6 mc eE 1).toInt8.toInt32, (own_fm wW mU p6 mc eE 2).toInt8.toInt32, (own_fm wW mU p6 mc eE 3).toInt8.toInt32, (own_fm wW mU p6 mc eE 4).toInt8.toInt32, (own_fm wW mU p6 mc eE 5).toInt8.toInt32]) = .ref wr := by
  rw [own_named_lit rd wr eR eW, show own_fm wW mU p6 mc eE 0 = 119 from by rw [own_fm, if_pos hm, own_full_0, if_neg hw], show own_fm wW mU p6 mc eE 1 = 114 from by rw [own_fm, if_pos hm, own_full_1, if_neg hw], show own_fm wW mU p6 mc eE 2 = 105 from by rw [own_fm, if_pos hm, own_full_2, if_neg hw], show own_fm wW mU p6 mc eE 3 = 116 from by rw [own_fm, if_pos hm, own_full_3, if_neg hw], show own_fm wW mU p6 mc eE 4 = 101 from by rw [own_fm, if_pos hm, own_full_4, if_neg hw], show own_fm wW mU p6 mc eE 5 = 114 from by rw [own_fm, if_pos hm, own_full_5, if_neg hw]]
  simp only [show (101 : Int32).toInt8.toInt32 = 101 from by decide, show (105 : Int32).toInt8.toInt32 = 105 from by decide, show (114 : Int32).toInt8.toInt32 = 114 from by decide, show (116 : Int32).toInt8.toInt32 = 116 from by decide, show (119 : Int32).toInt8.toInt32 = 119 from by decide]
  rfl
theorem own_finW0 (rd wr : Nat) {yR yW : Int32 → Int32} {wW mU mc eE : Int32} (eR : yR 0 = 114 ∧ yR 1 = 101 ∧ yR 2 = 97 ∧ yR 3 = 100 ∧ yR 4 = 101 ∧ yR 5 = 114) (eW : yW 0 = 119 ∧ yW 1 = 114 ∧ yW 2 = 105 ∧ yW 3 = 116 ∧ yW 4 = 101 ∧ yW 5 = 114) (hmc : ¬ mc < 0 ∧ ¬ (255 : Int32) < mc) (hw : ¬ wW = 0) (hm : ¬ mU = 0) : own_named rd wr yR yW (own_lit [(own_fm wW mU 0 mc eE 0).toInt8.toInt32, (own_fm wW mU 0 mc eE 1).toInt8.toInt32, (own_fm wW mU 0 mc eE 2).toInt8.toInt32, (own_fm wW mU 0 mc eE 3).toInt8.toInt32, (own_fm wW mU 0 mc eE 4).toInt8.toInt32, (own_fm wW mU 0 mc eE 5).toInt8.toInt32]) = if mc = own_base wW 0 then .ref wr else .null := by
  have e : own_base wW 0 = 119 := by rw [own_base, if_neg hw]; rfl
  rw [e, own_named_lit rd wr eR eW, show own_fm wW mU 0 mc eE 0 = mc from by rw [own_fm, if_neg hm, fnup_same], show own_fm wW mU 0 mc eE 1 = 114 from by rw [own_fm, if_neg hm, fnup_ne (by decide), own_full_1, if_neg hw], show own_fm wW mU 0 mc eE 2 = 105 from by rw [own_fm, if_neg hm, fnup_ne (by decide), own_full_2, if_neg hw], show own_fm wW mU 0 mc eE 3 = 116 from by rw [own_fm, if_neg hm, fnup_ne (by decide), own_full_3, if_neg hw], show own_fm wW mU 0 mc eE 4 = 101 from by rw [own_fm, if_neg hm, fnup_ne (by decide), own_full_4, if_neg hw], show own_fm wW mU 0 mc eE 5 = 114 from by rw [own_fm, if_neg hm, fnup_ne (by decide), own_full_5, if_neg hw]]
  have q := own_i8 hmc (c := 119) (by decide)
  by_cases hq : mc = 119
  · subst hq; rfl
  · have n : ¬ 119 = mc.toInt8.toInt32 := fun z => hq (q.mp z.symm)
    rw [if_neg hq]
    simp only [show (101 : Int32).toInt8.toInt32 = 101 from by decide, show (105 : Int32).toInt8.toInt32 = 105 from by decide, show (114 : Int32).toInt8.toInt32 = 114 from by decide, show (116 : Int32).toInt8.toInt32 = 116 from by decide, show (119 : Int32).toInt8.toInt32 = 119 from by decide, n, false_and, and_false, if_false]
    first | done | (simp (decide := true) only [and_false, false_and, if_false])
theorem own_finW1 (rd wr : Nat) {yR yW : Int32 → Int32} {wW mU mc eE : Int32} (eR : yR 0 = 114 ∧ yR 1 = 101 ∧ yR 2 = 97 ∧ yR 3 = 100 ∧ yR 4 = 101 ∧ yR 5 = 114) (eW : yW 0 = 119 ∧ yW 1 = 114 ∧ yW 2 = 105 ∧ yW 3 = 116 ∧ yW 4 = 101 ∧ yW 5 = 114) (hmc : ¬ mc < 0 ∧ ¬ (255 : Int32) < mc) (hw : ¬ wW = 0) (hm : ¬ mU = 0) : own_named rd wr yR yW (own_lit [(own_fm wW mU 1 mc eE 0).toInt8.toInt32, (own_fm wW mU 1 mc eE 1).toInt8.toInt32, (own_fm wW mU 1 mc eE 2).toInt8.toInt32, (own_fm wW mU 1 mc eE 3).toInt8.toInt32, (own_fm wW mU 1 mc eE 4).toInt8.toInt32, (own_fm wW mU 1 mc eE 5).toInt8.toInt32]) = if mc = own_base wW 1 then .ref wr else .null := by
  have e : own_base wW 1 = 114 := by rw [own_base, if_neg hw]; rfl
  rw [e, own_named_lit rd wr eR eW, show own_fm wW mU 1 mc eE 0 = 119 from by rw [own_fm, if_neg hm, fnup_ne (by decide), own_full_0, if_neg hw], show own_fm wW mU 1 mc eE 1 = mc from by rw [own_fm, if_neg hm, fnup_same], show own_fm wW mU 1 mc eE 2 = 105 from by rw [own_fm, if_neg hm, fnup_ne (by decide), own_full_2, if_neg hw], show own_fm wW mU 1 mc eE 3 = 116 from by rw [own_fm, if_neg hm, fnup_ne (by decide), own_full_3, if_neg hw], show own_fm wW mU 1 mc eE 4 = 101 from by rw [own_fm, if_neg hm, fnup_ne (by decide), own_full_4, if_neg hw], show own_fm wW mU 1 mc eE 5 = 114 from by rw [own_fm, if_neg hm, fnup_ne (by decide), own_full_5, if_neg hw]]
  have q := own_i8 hmc (c := 114) (by decide)
  by_cases hq : mc = 114
  · subst hq; rfl
  · have n : ¬ 114 = mc.toInt8.toInt32 := fun z => hq (q.mp z.symm)
    rw [if_neg hq]
    simp only [show (101 : Int32).toInt8.toInt32 = 101 from by decide, show (105 : Int32).toInt8.toInt32 = 105 from by decide, show (114 : Int32).toInt8.toInt32 = 114 from by decide, show (116 : Int32).toInt8.toInt32 = 116 from by decide, show (119 : Int32).toInt8.toInt32 = 119 from by decide, n, false_and, and_false, if_false]
    first | done | (simp (decide := true) only [and_false, false_and, if_false])
theorem own_finW2 (rd wr : Nat) {yR yW : Int32 → Int32} {wW mU mc eE : Int32} (eR : yR 0 = 114 ∧ yR 1 = 101 ∧ yR 2 = 97 ∧ yR 3 = 100 ∧ yR 4 = 101 ∧ yR 5 = 114) (eW : yW 0 = 119 ∧ yW 1 = 114 ∧ yW 2 = 105 ∧ yW 3 = 116 ∧ yW 4 = 101 ∧ yW 5 = 114) (hmc : ¬ mc < 0 ∧ ¬ (255 : Int32) < mc) (hw : ¬ wW = 0) (hm : ¬ mU = 0) : own_named rd wr yR yW (own_lit [(own_fm wW mU 2 mc eE 0).toInt8.toInt32, (own_fm wW mU 2 mc eE 1).toInt8.toInt32, (own_fm wW mU 2 mc eE 2).toInt8.toInt32, (own_fm wW mU 2 mc eE 3).toInt8.toInt32, (own_fm wW mU 2 mc eE 4).toInt8.toInt32, (own_fm wW mU 2 mc eE 5).toInt8.toInt32]) = if mc = own_base wW 2 then .ref wr else .null := by
  have e : own_base wW 2 = 105 := by rw [own_base, if_neg hw]; rfl
  rw [e, own_named_lit rd wr eR eW, show own_fm wW mU 2 mc eE 0 = 119 from by rw [own_fm, if_neg hm, fnup_ne (by decide), own_full_0, if_neg hw], show own_fm wW mU 2 mc eE 1 = 114 from by rw [own_fm, if_neg hm, fnup_ne (by decide), own_full_1, if_neg hw], show own_fm wW mU 2 mc eE 2 = mc from by rw [own_fm, if_neg hm, fnup_same], show own_fm wW mU 2 mc eE 3 = 116 from by rw [own_fm, if_neg hm, fnup_ne (by decide), own_full_3, if_neg hw], show own_fm wW mU 2 mc eE 4 = 101 from by rw [own_fm, if_neg hm, fnup_ne (by decide), own_full_4, if_neg hw], show own_fm wW mU 2 mc eE 5 = 114 from by rw [own_fm, if_neg hm, fnup_ne (by decide), own_full_5, if_neg hw]]
  have q := own_i8 hmc (c := 105) (by decide)
  by_cases hq : mc = 105
  · subst hq; rfl
  · have n : ¬ 105 = mc.toInt8.toInt32 := fun z => hq (q.mp z.symm)
    rw [if_neg hq]
    simp only [show (101 : Int32).toInt8.toInt32 = 101 from by decide, show (105 : Int32).toInt8.toInt32 = 105 from by decide, show (114 : Int32).toInt8.toInt32 = 114 from by decide, show (116 : Int32).toInt8.toInt32 = 116 from by decide, show (119 : Int32).toInt8.toInt32 = 119 from by decide, n, false_and, and_false, if_false]
    first | done | (simp (decide := true) only [and_false, false_and, if_false])
theorem own_finW3 (rd wr : Nat) {yR yW : Int32 → Int32} {wW mU mc eE : Int32} (eR : yR 0 = 114 ∧ yR 1 = 101 ∧ yR 2 = 97 ∧ yR 3 = 100 ∧ yR 4 = 101 ∧ yR 5 = 114) (eW : yW 0 = 119 ∧ yW 1 = 114 ∧ yW 2 = 105 ∧ yW 3 = 116 ∧ yW 4 = 101 ∧ yW 5 = 114) (hmc : ¬ mc < 0 ∧ ¬ (255 : Int32) < mc) (hw : ¬ wW = 0) (hm : ¬ mU = 0) : own_named rd wr yR yW (own_lit [(own_fm wW mU 3 mc eE 0).toInt8.toInt32, (own_fm wW mU 3 mc eE 1).toInt8.toInt32, (own_fm wW mU 3 mc eE 2).toInt8.toInt32, (own_fm wW mU 3 mc eE 3).toInt8.toInt32, (own_fm wW mU 3 mc eE 4).toInt8.toInt32, (own_fm wW mU 3 mc eE 5).toInt8.toInt32]) = if mc = own_base wW 3 then .ref wr else .null := by
  have e : own_base wW 3 = 116 := by rw [own_base, if_neg hw]; rfl
  rw [e, own_named_lit rd wr eR eW, show own_fm wW mU 3 mc eE 0 = 119 from by rw [own_fm, if_neg hm, fnup_ne (by decide), own_full_0, if_neg hw], show own_fm wW mU 3 mc eE 1 = 114 from by rw [own_fm, if_neg hm, fnup_ne (by decide), own_full_1, if_neg hw], show own_fm wW mU 3 mc eE 2 = 105 from by rw [own_fm, if_neg hm, fnup_ne (by decide), own_full_2, if_neg hw], show own_fm wW mU 3 mc eE 3 = mc from by rw [own_fm, if_neg hm, fnup_same], show own_fm wW mU 3 mc eE 4 = 101 from by rw [own_fm, if_neg hm, fnup_ne (by decide), own_full_4, if_neg hw], show own_fm wW mU 3 mc eE 5 = 114 from by rw [own_fm, if_neg hm, fnup_ne (by decide), own_full_5, if_neg hw]]
  have q := own_i8 hmc (c := 116) (by decide)
  by_cases hq : mc = 116
  · subst hq; rfl
  · have n : ¬ 116 = mc.toInt8.toInt32 := fun z => hq (q.mp z.symm)
    rw [if_neg hq]
    simp only [show (101 : Int32).toInt8.toInt32 = 101 from by decide, show (105 : Int32).toInt8.toInt32 = 105 from by decide, show (114 : Int32).toInt8.toInt32 = 114 from by decide, show (116 : Int32).toInt8.toInt32 = 116 from by decide, show (119 : Int32).toInt8.toInt32 = 119 from by decide, n, false_and, and_false, if_false]
    first | done | (simp (decide := true) only [and_false, false_and, if_false])
theorem own_finW4 (rd wr : Nat) {yR yW : Int32 → Int32} {wW mU mc eE : Int32} (eR : yR 0 = 114 ∧ yR 1 = 101 ∧ yR 2 = 97 ∧ yR 3 = 100 ∧ yR 4 = 101 ∧ yR 5 = 114) (eW : yW 0 = 119 ∧ yW 1 = 114 ∧ yW 2 = 105 ∧ yW 3 = 116 ∧ yW 4 = 101 ∧ yW 5 = 114) (hmc : ¬ mc < 0 ∧ ¬ (255 : Int32) < mc) (hw : ¬ wW = 0) (hm : ¬ mU = 0) : own_named rd wr yR yW (own_lit [(own_fm wW mU 4 mc eE 0).toInt8.toInt32, (own_fm wW mU 4 mc eE 1).toInt8.toInt32, (own_fm wW mU 4 mc eE 2).toInt8.toInt32, (own_fm wW mU 4 mc eE 3).toInt8.toInt32, (own_fm wW mU 4 mc eE 4).toInt8.toInt32, (own_fm wW mU 4 mc eE 5).toInt8.toInt32]) = if mc = own_base wW 4 then .ref wr else .null := by
  have e : own_base wW 4 = 101 := by rw [own_base, if_neg hw]; rfl
  rw [e, own_named_lit rd wr eR eW, show own_fm wW mU 4 mc eE 0 = 119 from by rw [own_fm, if_neg hm, fnup_ne (by decide), own_full_0, if_neg hw], show own_fm wW mU 4 mc eE 1 = 114 from by rw [own_fm, if_neg hm, fnup_ne (by decide), own_full_1, if_neg hw], show own_fm wW mU 4 mc eE 2 = 105 from by rw [own_fm, if_neg hm, fnup_ne (by decide), own_full_2, if_neg hw], show own_fm wW mU 4 mc eE 3 = 116 from by rw [own_fm, if_neg hm, fnup_ne (by decide), own_full_3, if_neg hw], show own_fm wW mU 4 mc eE 4 = mc from by rw [own_fm, if_neg hm, fnup_same], show own_fm wW mU 4 mc eE 5 = 114 from by rw [own_fm, if_neg hm, fnup_ne (by decide), own_full_5, if_neg hw]]
  have q := own_i8 hmc (c := 101) (by decide)
  by_cases hq : mc = 101
  · subst hq; rfl
  · have n : ¬ 101 = mc.toInt8.toInt32 := fun z => hq (q.mp z.symm)
    rw [if_neg hq]
    simp only [show (101 : Int32).toInt8.toInt32 = 101 from by decide, show (105 : Int32).toInt8.toInt32 = 105 from by decide, show (114 : Int32).toInt8.toInt32 = 114 from by decide, show (116 : Int32).toInt8.toInt32 = 116 from by decide, show (119 : Int32).toInt8.toInt32 = 119 from by decide, n, false_and, and_false, if_false]
    first | done | (simp (decide := true) only [and_false, false_and, if_false])
theorem own_finW5 (rd wr : Nat) {yR yW : Int32 → Int32} {wW mU mc eE : Int32} (eR : yR 0 = 114 ∧ yR 1 = 101 ∧ yR 2 = 97 ∧ yR 3 = 100 ∧ yR 4 = 101 ∧ yR 5 = 114) (eW : yW 0 = 119 ∧ yW 1 = 114 ∧ yW 2 = 105 ∧ yW 3 = 116 ∧ yW 4 = 101 ∧ yW 5 = 114) (hmc : ¬ mc < 0 ∧ ¬ (255 : Int32) < mc) (hw : ¬ wW = 0) (hm : ¬ mU = 0) : own_named rd wr yR yW (own_lit [(own_fm wW mU 5 mc eE 0).toInt8.toInt32, (own_fm wW mU 5 mc eE 1).toInt8.toInt32, (own_fm wW mU 5 mc eE 2).toInt8.toInt32, (own_fm wW mU 5 mc eE 3).toInt8.toInt32, (own_fm wW mU 5 mc eE 4).toInt8.toInt32, (own_fm wW mU 5 mc eE 5).toInt8.toInt32]) = if mc = own_base wW 5 then .ref wr else .null := by
  have e : own_base wW 5 = 114 := by rw [own_base, if_neg hw]; rfl
  rw [e, own_named_lit rd wr eR eW, show own_fm wW mU 5 mc eE 0 = 119 from by rw [own_fm, if_neg hm, fnup_ne (by decide), own_full_0, if_neg hw], show own_fm wW mU 5 mc eE 1 = 114 from by rw [own_fm, if_neg hm, fnup_ne (by decide), own_full_1, if_neg hw], show own_fm wW mU 5 mc eE 2 = 105 from by rw [own_fm, if_neg hm, fnup_ne (by decide), own_full_2, if_neg hw], show own_fm wW mU 5 mc eE 3 = 116 from by rw [own_fm, if_neg hm, fnup_ne (by decide), own_full_3, if_neg hw], show own_fm wW mU 5 mc eE 4 = 101 from by rw [own_fm, if_neg hm, fnup_ne (by decide), own_full_4, if_neg hw], show own_fm wW mU 5 mc eE 5 = mc from by rw [own_fm, if_neg hm, fnup_same]]
  have q := own_i8 hmc (c := 114) (by decide)
  by_cases hq : mc = 114
  · subst hq; rfl
  · have n : ¬ 114 = mc.toInt8.toInt32 := fun z => hq (q.mp z.symm)
    rw [if_neg hq]
    simp only [show (101 : Int32).toInt8.toInt32 = 101 from by decide, show (105 : Int32).toInt8.toInt32 = 105 from by decide, show (114 : Int32).toInt8.toInt32 = 114 from by decide, show (116 : Int32).toInt8.toInt32 = 116 from by decide, show (119 : Int32).toInt8.toInt32 = 119 from by decide, n, false_and, and_false, if_false]
    first | done | (simp (decide := true) only [and_false, false_and, if_false])
theorem own_fin (rd wr : Nat) {yR yW : Int32 → Int32} {wW mU p6 mc eE : Int32} (eR : yR 0 = 114 ∧ yR 1 = 101 ∧ yR 2 = 97 ∧ yR 3 = 100 ∧ yR 4 = 101 ∧ yR 5 = 114) (eW : yW 0 = 119 ∧ yW 1 = 114 ∧ yW 2 = 105 ∧ yW 3 = 116 ∧ yW 4 = 101 ∧ yW 5 = 114) (hmc : ¬ mc < 0 ∧ ¬ (255 : Int32) < mc) (hp : ¬ p6 < 0 ∧ p6 < 6) {yF : Int32 → Int32} (hyF : yF = own_fm wW mU p6 mc eE) : own_named rd wr yR yW (own_lit [(yF 0).toInt8.toInt32, (yF 1).toInt8.toInt32, (yF 2).toInt8.toInt32, (yF 3).toInt8.toInt32, (yF 4).toInt8.toInt32, (yF 5).toInt8.toInt32]) = if mU = 0 ∨ mc = own_base wW p6 then (if wW = 0 then .ref rd else .ref wr) else .null := by
  subst hyF
  by_cases hm : mU = 0
  · rw [if_pos (Or.inl hm)]
    by_cases hw : wW = 0
    · rw [if_pos hw]; exact own_finR rd wr eR eW hmc hw hm
    · rw [if_neg hw]; exact own_finW rd wr eR eW hmc hw hm
  · have o : ∀ z : Prop, (mU = 0 ∨ z) = z := fun z => propext ⟨fun u => u.resolve_left hm, Or.inr⟩
    simp only [o]
    by_cases hw : wW = 0
    · rw [if_pos hw]; rcases own_cases6 hp.1 hp.2 with rfl | rfl | rfl | rfl | rfl | rfl
      · exact own_finR0 rd wr eR eW hmc hw hm
      · exact own_finR1 rd wr eR eW hmc hw hm
      · exact own_finR2 rd wr eR eW hmc hw hm
      · exact own_finR3 rd wr eR eW hmc hw hm
      · exact own_finR4 rd wr eR eW hmc hw hm
      · exact own_finR5 rd wr eR eW hmc hw hm
    · rw [if_neg hw]; rcases own_cases6 hp.1 hp.2 with rfl | rfl | rfl | rfl | rfl | rfl
      · exact own_finW0 rd wr eR eW hmc hw hm
      · exact own_finW1 rd wr eR eW hmc hw hm
      · exact own_finW2 rd wr eR eW hmc hw hm
      · exact own_finW3 rd wr eR eW hmc hw hm
      · exact own_finW4 rd wr eR eW hmc hw hm
      · exact own_finW5 rd wr eR eW hmc hw hm

theorem own_eqr {Z : State} {args : Array Value} {X F : Term} {idx : List Nat} {y : Addr} (hF : F.eval args Z none idx Z = some (.ref y)) (h : (Cond.eq X F).value args Z none Z idx = some true) : X.eval args Z none idx Z = some (.ref y) := by
  obtain ⟨x, y', e1, e2, k1, k2⟩ := cmp_v (Or.inl h)
  cases hF.symm.trans e2
  cases x <;> simp [Cond.value, e1, hF] at h
  rw [e1, h]
theorem own_len {s : State} {args : Array Value} {t : Term} {ty : FieldType} {n : Int32} {a : Addr} (qt : t.eval args s none [] s = some (.ref a)) (h1 : (Jvm.Cond.arrayOf t ty).value args s none s [] = some true) (h2 : (Jvm.Cond.eq (Jvm.Term.length t) (Jvm.Term.int n)).value args s none s [] = some true) :
    ∃ cl, Arr s s.heap a cl ty ∧ cl.slots.size < 2 ^ 31 ∧ cl.slots.size.toInt32 = n := by
  obtain ⟨cl, A⟩ := Arr.start qt h1
  have e4 := eqv_i (Term.int_eval n) h2
  obtain ⟨x, cx, e5, e6, e7⟩ := Term.length_spec e4
  have hA := A.fin (Vm.Alike.refl s.vm)
  cases qt.symm.trans e5
  cases hA.symm.trans e6
  refine ⟨cl, A, ?_, (Value.int.inj e7).symm⟩
  by_cases hl : cl.slots.size < 2 ^ 31
  · exact hl
  · exfalso; simp [Term.eval] at e4 qt; simp [qt, hA] at e4; omega
theorem own_six {s : State} {args : Array Value} {t : Term} {a : Addr} {c0 c1 c2 c3 c4 c5 : Int32} (hf : Fit s) (qt : t.eval args s none [] s = some (.ref a)) (h1 : (Jvm.Cond.arrayOf t .byte).value args s none s [] = some true) (h2 : (Jvm.Cond.eq (Jvm.Term.length t) (Jvm.Term.int 6)).value args s none s [] = some true)
    (g0 : (Jvm.Cond.eq (Jvm.Term.elem t (Jvm.Term.int 0)) (Jvm.Term.int c0)).value args s none s [] = some true) (g1 : (Jvm.Cond.eq (Jvm.Term.elem t (Jvm.Term.int 1)) (Jvm.Term.int c1)).value args s none s [] = some true) (g2 : (Jvm.Cond.eq (Jvm.Term.elem t (Jvm.Term.int 2)) (Jvm.Term.int c2)).value args s none s [] = some true)
    (g3 : (Jvm.Cond.eq (Jvm.Term.elem t (Jvm.Term.int 3)) (Jvm.Term.int c3)).value args s none s [] = some true) (g4 : (Jvm.Cond.eq (Jvm.Term.elem t (Jvm.Term.int 4)) (Jvm.Term.int c4)).value args s none s [] = some true) (g5 : (Jvm.Cond.eq (Jvm.Term.elem t (Jvm.Term.int 5)) (Jvm.Term.int c5)).value args s none s [] = some true) :
    Fa s s.heap a .byte 6 (fun i => .int (own_lit [c0, c1, c2, c3, c4, c5] i)) := by
  obtain ⟨cl, A, q, e⟩ := own_len qt h1 h2
  have el : ∀ (j c : Int32), (Jvm.Cond.eq (Jvm.Term.elem t (Jvm.Term.int j)) (Jvm.Term.int c)).value args s none s [] = some true → cl.slots[j.toNatClampNeg]? = some (.int c) := fun j c g => (elem_in (eqv_i (Term.int_eval c) g) qt (Term.int_eval j) A.1).2
  refine (Fa.ofArv (Arv.start (dv := .int 0) hf A q e (by decide) (vs := [c0, c1, c2, c3, c4, c5].map Value.int) rfl ⟨el 0 c0 g0, el 1 c1 g1, el 2 c2 g2, el 3 c3 g3, el 4 c4 g4, el 5 c5 g5, trivial⟩)).congr fun j _ _ => own_lit_ok _ j
theorem own_two {s : State} {args : Array Value} {t f0 f1 : Term} {a b0 b1 : Addr} {ty : FieldType} (hf : Fit s) (qt : t.eval args s none [] s = some (.ref a)) (h1 : (Jvm.Cond.arrayOf t ty).value args s none s [] = some true) (h2 : (Jvm.Cond.eq (Jvm.Term.length t) (Jvm.Term.int 2)).value args s none s [] = some true)
    (q0 : f0.eval args s none [] s = some (.ref b0)) (q1 : f1.eval args s none [] s = some (.ref b1)) (g0 : (Jvm.Cond.eq (Jvm.Term.elem t (Jvm.Term.int 0)) f0).value args s none s [] = some true) (g1 : (Jvm.Cond.eq (Jvm.Term.elem t (Jvm.Term.int 1)) f1).value args s none s [] = some true) :
    Fa s s.heap a ty 2 (fun j => [Value.ref b0, Value.ref b1].getD j.toNatClampNeg .null) := by
  obtain ⟨cl, A, q, e⟩ := own_len qt h1 h2
  exact Fa.ofArv (Arv.start (dv := .null) hf A q e (by decide) (vs := [Value.ref b0, Value.ref b1]) rfl ⟨(elem_in (own_eqr q0 g0) qt (Term.int_eval 0) A.1).2, (elem_in (own_eqr q1 g1) qt (Term.int_eval 1) A.1).2, trivial⟩)
theorem own_fi {args : Array Value} {s : State} {t : Term} {C n d : String} {k : Int32} {a : Addr} (h : (Jvm.Cond.eq (Jvm.Term.field t C n d) (Jvm.Term.int k)).value args s none s [] = some true) (ht : t.eval args s none [] s = some (.ref a)) : Fld s s.heap a C n d (.int k) :=
  Fld.start (by rw [← fld_at ht]; exact eqv_i (Term.int_eval k) h)
theorem tw0 {Z : State} {a0 : Array Value} (hw : ∀ d ∈ tables_1, d.before a0 Z = true) : (Jvm.Cond.constant "com/example/sealed_ledger/sealedledger/http/RoleNamedPinLaw" (7 : Nat) (2147483647 : Int32)).before a0 Z = true := hw _ (List.mem_of_getElem? (i := 0) rfl)
theorem tw1 {Z : State} {a0 : Array Value} (hw : ∀ d ∈ tables_1, d.before a0 Z = true) : (Jvm.Cond.arrayClass Jvm.ClassFile.FieldType.char).before a0 Z = true := hw _ (List.mem_of_getElem? (i := 1) rfl)
theorem tw2 {Z : State} {a0 : Array Value} (hw : ∀ d ∈ tables_1, d.before a0 Z = true) : (Jvm.Cond.methodLink "com/example/sealed_ledger/sealedledger/http/RoleNamedPinLaw" (8 : Nat) ({ cls := "com/example/sealed_ledger/sealedledger/http/RoleNamedPinLaw", name := "base", desc := "(ZI)C" } : Jvm.MethodName)).before a0 Z = true := hw _ (List.mem_of_getElem? (i := 2) rfl)
theorem tw3 {Z : State} {a0 : Array Value} (hw : ∀ d ∈ tables_1, d.before a0 Z = true) : (Jvm.Cond.static ({ cls := "com/example/sealed_ledger/sealedledger/http/RoleNamedPinLaw", name := "base", desc := "(ZI)C" } : Jvm.MethodName)).before a0 Z = true := hw _ (List.mem_of_getElem? (i := 3) rfl)
theorem tw4 {Z : State} {a0 : Array Value} (hw : ∀ d ∈ tables_1, d.before a0 Z = true) : (Jvm.Cond.initialized "com/example/sealed_ledger/sealedledger/http/RoleNamedPinLaw").before a0 Z = true := hw _ (List.mem_of_getElem? (i := 4) rfl)
theorem tw5 {Z : State} {a0 : Array Value} (hw : ∀ d ∈ tables_1, d.before a0 Z = true) : (Jvm.Cond.code ({ cls := "com/example/sealed_ledger/sealedledger/http/RoleNamedPinLaw", name := "base", desc := "(ZI)C" } : Jvm.MethodName) method_3_code (3 : Nat) (Option.some Jvm.ClassFile.FieldType.char)).before a0 Z = true := hw _ (List.mem_of_getElem? (i := 5) rfl)
theorem tw6 {Z : State} {a0 : Array Value} (hw : ∀ d ∈ tables_1, d.before a0 Z = true) : (Jvm.Cond.stringLink "com/example/sealed_ledger/sealedledger/http/RoleNamedPinLaw" (34 : Nat) "reader").before a0 Z = true := hw _ (List.mem_of_getElem? (i := 6) rfl)
theorem tw7 {Z : State} {a0 : Array Value} (hw : ∀ d ∈ tables_1, d.before a0 Z = true) : (Jvm.Cond.initialized "java/lang/String").before a0 Z = true := hw _ (List.mem_of_getElem? (i := 7) rfl)
theorem tw8 {Z : State} {a0 : Array Value} (hw : ∀ d ∈ tables_1, d.before a0 Z = true) : (Jvm.Cond.instantiable "java/lang/String" (4 : Nat)).before a0 Z = true := hw _ (List.mem_of_getElem? (i := 8) rfl)
theorem tw9 {Z : State} {a0 : Array Value} (hw : ∀ d ∈ tables_1, d.before a0 Z = true) : (Jvm.Cond.arrayClass Jvm.ClassFile.FieldType.byte).before a0 Z = true := hw _ (List.mem_of_getElem? (i := 9) rfl)
theorem tw10 {Z : State} {a0 : Array Value} (hw : ∀ d ∈ tables_1, d.before a0 Z = true) : (Jvm.Cond.laysFinal "java/lang/String" "java/lang/String" "value" "[B").before a0 Z = true := hw _ (List.mem_of_getElem? (i := 10) rfl)
theorem tw11 {Z : State} {a0 : Array Value} (hw : ∀ d ∈ tables_1, d.before a0 Z = true) : (Jvm.Cond.laysFinal "java/lang/String" "java/lang/String" "coder" "B").before a0 Z = true := hw _ (List.mem_of_getElem? (i := 11) rfl)
theorem tw14 {Z : State} {a0 : Array Value} (hw : ∀ d ∈ tables_1, d.before a0 Z = true) : (Jvm.Cond.methodLink "com/example/sealed_ledger/sealedledger/http/RoleNamedPinLaw" (36 : Nat) ({ cls := "java/lang/String", name := "charAt", desc := "(I)C" } : Jvm.MethodName)).before a0 Z = true := hw _ (List.mem_of_getElem? (i := 14) rfl)
theorem tw15 {Z : State} {a0 : Array Value} (hw : ∀ d ∈ tables_1, d.before a0 Z = true) : (Jvm.Cond.declares ({ cls := "java/lang/String", name := "charAt", desc := "(I)C" } : Jvm.MethodName)).before a0 Z = true := hw _ (List.mem_of_getElem? (i := 15) rfl)
theorem tw16 {Z : State} {a0 : Array Value} (hw : ∀ d ∈ tables_1, d.before a0 Z = true) : (Jvm.Cond.instanceMethod ({ cls := "java/lang/String", name := "charAt", desc := "(I)C" } : Jvm.MethodName)).before a0 Z = true := hw _ (List.mem_of_getElem? (i := 16) rfl)
theorem tw17 {Z : State} {a0 : Array Value} (hw : ∀ d ∈ tables_1, d.before a0 Z = true) : (Jvm.Cond.selects "java/lang/String" ({ cls := "java/lang/String", name := "charAt", desc := "(I)C" } : Jvm.MethodName) ({ cls := "java/lang/String", name := "charAt", desc := "(I)C" } : Jvm.MethodName)).before a0 Z = true := hw _ (List.mem_of_getElem? (i := 17) rfl)
theorem tw18 {Z : State} {a0 : Array Value} (hw : ∀ d ∈ tables_1, d.before a0 Z = true) : (Jvm.Cond.code ({ cls := "java/lang/String", name := "charAt", desc := "(I)C" } : Jvm.MethodName) jdk_42_method_56_code (2 : Nat) (Option.some Jvm.ClassFile.FieldType.char)).before a0 Z = true := hw _ (List.mem_of_getElem? (i := 18) rfl)
theorem tw19 {Z : State} {a0 : Array Value} (hw : ∀ d ∈ tables_1, d.before a0 Z = true) : (Jvm.Cond.methodLink "java/lang/String" (492 : Nat) ({ cls := "java/lang/String", name := "isLatin1", desc := "()Z" } : Jvm.MethodName)).before a0 Z = true := hw _ (List.mem_of_getElem? (i := 19) rfl)
theorem tw20 {Z : State} {a0 : Array Value} (hw : ∀ d ∈ tables_1, d.before a0 Z = true) : (Jvm.Cond.declares ({ cls := "java/lang/String", name := "isLatin1", desc := "()Z" } : Jvm.MethodName)).before a0 Z = true := hw _ (List.mem_of_getElem? (i := 20) rfl)
theorem tw21 {Z : State} {a0 : Array Value} (hw : ∀ d ∈ tables_1, d.before a0 Z = true) : (Jvm.Cond.instanceMethod ({ cls := "java/lang/String", name := "isLatin1", desc := "()Z" } : Jvm.MethodName)).before a0 Z = true := hw _ (List.mem_of_getElem? (i := 21) rfl)
theorem tw22 {Z : State} {a0 : Array Value} (hw : ∀ d ∈ tables_1, d.before a0 Z = true) : (Jvm.Cond.selects "java/lang/String" ({ cls := "java/lang/String", name := "isLatin1", desc := "()Z" } : Jvm.MethodName) ({ cls := "java/lang/String", name := "isLatin1", desc := "()Z" } : Jvm.MethodName)).before a0 Z = true := hw _ (List.mem_of_getElem? (i := 22) rfl)
theorem tw23 {Z : State} {a0 : Array Value} (hw : ∀ d ∈ tables_1, d.before a0 Z = true) : (Jvm.Cond.code ({ cls := "java/lang/String", name := "isLatin1", desc := "()Z" } : Jvm.MethodName) jdk_42_method_154_code (1 : Nat) (Option.some Jvm.ClassFile.FieldType.boolean)).before a0 Z = true := hw _ (List.mem_of_getElem? (i := 23) rfl)
theorem tw24 {Z : State} {a0 : Array Value} (hw : ∀ d ∈ tables_1, d.before a0 Z = true) : (Jvm.Cond.fieldLink "java/lang/String" (38 : Nat) "java/lang/String" "COMPACT_STRINGS" "Z").before a0 Z = true := hw _ (List.mem_of_getElem? (i := 24) rfl)
theorem tw25 {Z : State} {a0 : Array Value} (hw : ∀ d ∈ tables_1, d.before a0 Z = true) : (Jvm.Cond.fieldLink "java/lang/String" (15 : Nat) "java/lang/String" "coder" "B").before a0 Z = true := hw _ (List.mem_of_getElem? (i := 25) rfl)
theorem tw26 {Z : State} {a0 : Array Value} (hw : ∀ d ∈ tables_1, d.before a0 Z = true) : (Jvm.Cond.fieldLink "java/lang/String" (9 : Nat) "java/lang/String" "value" "[B").before a0 Z = true := hw _ (List.mem_of_getElem? (i := 26) rfl)
theorem tw27 {Z : State} {a0 : Array Value} (hw : ∀ d ∈ tables_1, d.before a0 Z = true) : (Jvm.Cond.methodLink "java/lang/String" (495 : Nat) ({ cls := "java/lang/StringLatin1", name := "charAt", desc := "([BI)C" } : Jvm.MethodName)).before a0 Z = true := hw _ (List.mem_of_getElem? (i := 27) rfl)
theorem tw28 {Z : State} {a0 : Array Value} (hw : ∀ d ∈ tables_1, d.before a0 Z = true) : (Jvm.Cond.static ({ cls := "java/lang/StringLatin1", name := "charAt", desc := "([BI)C" } : Jvm.MethodName)).before a0 Z = true := hw _ (List.mem_of_getElem? (i := 28) rfl)
theorem tw29 {Z : State} {a0 : Array Value} (hw : ∀ d ∈ tables_1, d.before a0 Z = true) : (Jvm.Cond.initialized "java/lang/StringLatin1").before a0 Z = true := hw _ (List.mem_of_getElem? (i := 29) rfl)
theorem tw30 {Z : State} {a0 : Array Value} (hw : ∀ d ∈ tables_1, d.before a0 Z = true) : (Jvm.Cond.code ({ cls := "java/lang/StringLatin1", name := "charAt", desc := "([BI)C" } : Jvm.MethodName) jdk_43_method_2_code (2 : Nat) (Option.some Jvm.ClassFile.FieldType.char)).before a0 Z = true := hw _ (List.mem_of_getElem? (i := 30) rfl)
theorem tw31 {Z : State} {a0 : Array Value} (hw : ∀ d ∈ tables_1, d.before a0 Z = true) : (Jvm.Cond.methodLink "java/lang/StringLatin1" (9 : Nat) ({ cls := "java/lang/String", name := "checkIndex", desc := "(II)V" } : Jvm.MethodName)).before a0 Z = true := hw _ (List.mem_of_getElem? (i := 31) rfl)
theorem tw32 {Z : State} {a0 : Array Value} (hw : ∀ d ∈ tables_1, d.before a0 Z = true) : (Jvm.Cond.static ({ cls := "java/lang/String", name := "checkIndex", desc := "(II)V" } : Jvm.MethodName)).before a0 Z = true := hw _ (List.mem_of_getElem? (i := 32) rfl)
theorem tw33 {Z : State} {a0 : Array Value} (hw : ∀ d ∈ tables_1, d.before a0 Z = true) : (Jvm.Cond.code ({ cls := "java/lang/String", name := "checkIndex", desc := "(II)V" } : Jvm.MethodName) jdk_42_method_155_code (2 : Nat) (Option.none : Option Jvm.ClassFile.FieldType)).before a0 Z = true := hw _ (List.mem_of_getElem? (i := 33) rfl)
theorem tw34 {Z : State} {a0 : Array Value} (hw : ∀ d ∈ tables_1, d.before a0 Z = true) : (Jvm.Cond.fieldLink "java/lang/String" (1053 : Nat) "jdk/internal/util/Preconditions" "SIOOBE_FORMATTER" "Ljava/util/function/BiFunction;").before a0 Z = true := hw _ (List.mem_of_getElem? (i := 34) rfl)
theorem tw35 {Z : State} {a0 : Array Value} (hw : ∀ d ∈ tables_1, d.before a0 Z = true) : (Jvm.Cond.initialized "jdk/internal/util/Preconditions").before a0 Z = true := hw _ (List.mem_of_getElem? (i := 35) rfl)
theorem tw36 {Z : State} {a0 : Array Value} (hw : ∀ d ∈ tables_1, d.before a0 Z = true) : (Jvm.Cond.methodLink "java/lang/String" (1059 : Nat) ({ cls := "jdk/internal/util/Preconditions", name := "checkIndex", desc := "(IILjava/util/function/BiFunction;)I" } : Jvm.MethodName)).before a0 Z = true := hw _ (List.mem_of_getElem? (i := 36) rfl)
theorem tw37 {Z : State} {a0 : Array Value} (hw : ∀ d ∈ tables_1, d.before a0 Z = true) : (Jvm.Cond.static ({ cls := "jdk/internal/util/Preconditions", name := "checkIndex", desc := "(IILjava/util/function/BiFunction;)I" } : Jvm.MethodName)).before a0 Z = true := hw _ (List.mem_of_getElem? (i := 37) rfl)
theorem tw38 {Z : State} {a0 : Array Value} (hw : ∀ d ∈ tables_1, d.before a0 Z = true) : (Jvm.Cond.code ({ cls := "jdk/internal/util/Preconditions", name := "checkIndex", desc := "(IILjava/util/function/BiFunction;)I" } : Jvm.MethodName) jdk_41_method_11_code (3 : Nat) (Option.some Jvm.ClassFile.FieldType.int)).before a0 Z = true := hw _ (List.mem_of_getElem? (i := 38) rfl)
theorem tw39 {Z : State} {a0 : Array Value} (hw : ∀ d ∈ tables_1, d.before a0 Z = true) : (Jvm.Cond.classLink "com/example/sealed_ledger/sealedledger/http/RoleNamedPinLaw" (14 : Nat) "java/lang/String").before a0 Z = true := hw _ (List.mem_of_getElem? (i := 39) rfl)
theorem tw40 {Z : State} {a0 : Array Value} (hw : ∀ d ∈ tables_1, d.before a0 Z = true) : (Jvm.Cond.methodLink "com/example/sealed_ledger/sealedledger/http/RoleNamedPinLaw" (16 : Nat) ({ cls := "java/lang/String", name := "<init>", desc := "([C)V" } : Jvm.MethodName)).before a0 Z = true := hw _ (List.mem_of_getElem? (i := 40) rfl)
theorem tw41 {Z : State} {a0 : Array Value} (hw : ∀ d ∈ tables_1, d.before a0 Z = true) : (Jvm.Cond.instanceMethod ({ cls := "java/lang/String", name := "<init>", desc := "([C)V" } : Jvm.MethodName)).before a0 Z = true := hw _ (List.mem_of_getElem? (i := 41) rfl)
theorem tw42 {Z : State} {a0 : Array Value} (hw : ∀ d ∈ tables_1, d.before a0 Z = true) : (Jvm.Cond.code ({ cls := "java/lang/String", name := "<init>", desc := "([C)V" } : Jvm.MethodName) jdk_42_method_3_code (2 : Nat) (Option.none : Option Jvm.ClassFile.FieldType)).before a0 Z = true := hw _ (List.mem_of_getElem? (i := 42) rfl)
theorem tw43 {Z : State} {a0 : Array Value} (hw : ∀ d ∈ tables_1, d.before a0 Z = true) : (Jvm.Cond.methodLink "java/lang/String" (27 : Nat) ({ cls := "java/lang/String", name := "<init>", desc := "([CIILjava/lang/Void;)V" } : Jvm.MethodName)).before a0 Z = true := hw _ (List.mem_of_getElem? (i := 43) rfl)
theorem tw44 {Z : State} {a0 : Array Value} (hw : ∀ d ∈ tables_1, d.before a0 Z = true) : (Jvm.Cond.instanceMethod ({ cls := "java/lang/String", name := "<init>", desc := "([CIILjava/lang/Void;)V" } : Jvm.MethodName)).before a0 Z = true := hw _ (List.mem_of_getElem? (i := 44) rfl)
theorem tw46 {Z : State} {a0 : Array Value} (hw : ∀ d ∈ tables_1, d.before a0 Z = true) : (Jvm.Cond.code ({ cls := "java/lang/String", name := "<init>", desc := "([CIILjava/lang/Void;)V" } : Jvm.MethodName) jdk_42_method_149_code (6 : Nat) (Option.none : Option Jvm.ClassFile.FieldType)).before a0 Z = true := hw _ (List.mem_of_getElem? (i := 46) rfl)
theorem tw47 {Z : State} {a0 : Array Value} (hw : ∀ d ∈ tables_1, d.before a0 Z = true) : (Jvm.Cond.methodLink "java/lang/String" (1 : Nat) ({ cls := "java/lang/Object", name := "<init>", desc := "()V" } : Jvm.MethodName)).before a0 Z = true := hw _ (List.mem_of_getElem? (i := 47) rfl)
theorem tw48 {Z : State} {a0 : Array Value} (hw : ∀ d ∈ tables_1, d.before a0 Z = true) : (Jvm.Cond.instanceMethod ({ cls := "java/lang/Object", name := "<init>", desc := "()V" } : Jvm.MethodName)).before a0 Z = true := hw _ (List.mem_of_getElem? (i := 48) rfl)
theorem tw49 {Z : State} {a0 : Array Value} (hw : ∀ d ∈ tables_1, d.before a0 Z = true) : (Jvm.Cond.code ({ cls := "java/lang/Object", name := "<init>", desc := "()V" } : Jvm.MethodName) object_method_1_code (1 : Nat) (Option.none : Option Jvm.ClassFile.FieldType)).before a0 Z = true := hw _ (List.mem_of_getElem? (i := 49) rfl)
theorem tw60 {Z : State} {a0 : Array Value} (hw : ∀ d ∈ tables_1, d.before a0 Z = true) : (Jvm.Cond.fieldLink "com/example/sealed_ledger/sealedledger/http/RoleNamedPinLaw" (25 : Nat) "com/example/sealed_ledger/sealedledger/http/Access$Role" "READER" "Lcom/example/sealed_ledger/sealedledger/http/Access$Role;").before a0 Z = true := hw _ (List.mem_of_getElem? (i := 60) rfl)
theorem tw61 {Z : State} {a0 : Array Value} (hw : ∀ d ∈ tables_1, d.before a0 Z = true) : (Jvm.Cond.initialized "com/example/sealed_ledger/sealedledger/http/Access$Role").before a0 Z = true := hw _ (List.mem_of_getElem? (i := 61) rfl)
theorem tw62 {Z : State} {a0 : Array Value} (hw : ∀ d ∈ tables_1, d.before a0 Z = true) : (Jvm.Cond.laysStatic "com/example/sealed_ledger/sealedledger/http/Access$Role" "READER" "Lcom/example/sealed_ledger/sealedledger/http/Access$Role;").before a0 Z = true := hw _ (List.mem_of_getElem? (i := 62) rfl)
theorem tw63 {Z : State} {a0 : Array Value} (hw : ∀ d ∈ tables_1, d.before a0 Z = true) : (Jvm.Cond.methodLink "com/example/sealed_ledger/sealedledger/http/RoleNamedPinLaw" (28 : Nat) ({ cls := "com/example/sealed_ledger/sealedledger/http/Access$Role", name := "named", desc := "(Ljava/lang/String;)Lcom/example/sealed_ledger/sealedledger/http/Access$Role;" } : Jvm.MethodName)).before a0 Z = true := hw _ (List.mem_of_getElem? (i := 63) rfl)
theorem tw64 {Z : State} {a0 : Array Value} (hw : ∀ d ∈ tables_1, d.before a0 Z = true) : (Jvm.Cond.static ({ cls := "com/example/sealed_ledger/sealedledger/http/Access$Role", name := "named", desc := "(Ljava/lang/String;)Lcom/example/sealed_ledger/sealedledger/http/Access$Role;" } : Jvm.MethodName)).before a0 Z = true := hw _ (List.mem_of_getElem? (i := 64) rfl)
theorem tw65 {Z : State} {a0 : Array Value} (hw : ∀ d ∈ tables_1, d.before a0 Z = true) : (Jvm.Cond.code ({ cls := "com/example/sealed_ledger/sealedledger/http/Access$Role", name := "named", desc := "(Ljava/lang/String;)Lcom/example/sealed_ledger/sealedledger/http/Access$Role;" } : Jvm.MethodName) prog_3_method_4_code (5 : Nat) (Option.some (Jvm.ClassFile.FieldType.object "com/example/sealed_ledger/sealedledger/http/Access$Role"))).before a0 Z = true := hw _ (List.mem_of_getElem? (i := 65) rfl)
theorem tw66 {Z : State} {a0 : Array Value} (hw : ∀ d ∈ tables_1, d.before a0 Z = true) : (Jvm.Cond.methodLink "com/example/sealed_ledger/sealedledger/http/Access$Role" (33 : Nat) ({ cls := "com/example/sealed_ledger/sealedledger/http/Access$Role", name := "values", desc := "()[Lcom/example/sealed_ledger/sealedledger/http/Access$Role;" } : Jvm.MethodName)).before a0 Z = true := hw _ (List.mem_of_getElem? (i := 66) rfl)
theorem tw67 {Z : State} {a0 : Array Value} (hw : ∀ d ∈ tables_1, d.before a0 Z = true) : (Jvm.Cond.static ({ cls := "com/example/sealed_ledger/sealedledger/http/Access$Role", name := "values", desc := "()[Lcom/example/sealed_ledger/sealedledger/http/Access$Role;" } : Jvm.MethodName)).before a0 Z = true := hw _ (List.mem_of_getElem? (i := 67) rfl)
theorem tw68 {Z : State} {a0 : Array Value} (hw : ∀ d ∈ tables_1, d.before a0 Z = true) : (Jvm.Cond.code ({ cls := "com/example/sealed_ledger/sealedledger/http/Access$Role", name := "values", desc := "()[Lcom/example/sealed_ledger/sealedledger/http/Access$Role;" } : Jvm.MethodName) prog_3_method_1_code (0 : Nat) (Option.some (Jvm.ClassFile.FieldType.array (Jvm.ClassFile.FieldType.object "com/example/sealed_ledger/sealedledger/http/Access$Role")))).before a0 Z = true := hw _ (List.mem_of_getElem? (i := 68) rfl)
theorem tw69 {Z : State} {a0 : Array Value} (hw : ∀ d ∈ tables_1, d.before a0 Z = true) : (Jvm.Cond.fieldLink "com/example/sealed_ledger/sealedledger/http/Access$Role" (10 : Nat) "com/example/sealed_ledger/sealedledger/http/Access$Role" "$VALUES" "[Lcom/example/sealed_ledger/sealedledger/http/Access$Role;").before a0 Z = true := hw _ (List.mem_of_getElem? (i := 69) rfl)
theorem tw70 {Z : State} {a0 : Array Value} (hw : ∀ d ∈ tables_1, d.before a0 Z = true) : (Jvm.Cond.laysStatic "com/example/sealed_ledger/sealedledger/http/Access$Role" "$VALUES" "[Lcom/example/sealed_ledger/sealedledger/http/Access$Role;").before a0 Z = true := hw _ (List.mem_of_getElem? (i := 70) rfl)
theorem tw71 {Z : State} {a0 : Array Value} (hw : ∀ d ∈ tables_1, d.before a0 Z = true) : (Jvm.Cond.methodLink "com/example/sealed_ledger/sealedledger/http/Access$Role" (14 : Nat) ({ cls := "[Lcom/example/sealed_ledger/sealedledger/http/Access$Role;", name := "clone", desc := "()Ljava/lang/Object;" } : Jvm.MethodName)).before a0 Z = true := hw _ (List.mem_of_getElem? (i := 71) rfl)
theorem tw72 {Z : State} {a0 : Array Value} (hw : ∀ d ∈ tables_1, d.before a0 Z = true) : (Jvm.Cond.sameMethod "[Lcom/example/sealed_ledger/sealedledger/http/Access$Role;" "java/lang/Object" "clone" "()Ljava/lang/Object;").before a0 Z = true := hw _ (List.mem_of_getElem? (i := 72) rfl)
theorem tw74 {Z : State} {a0 : Array Value} (hw : ∀ d ∈ tables_1, d.before a0 Z = true) : (Jvm.Cond.instanceMethod ({ cls := "java/lang/Object", name := "clone", desc := "()Ljava/lang/Object;" } : Jvm.MethodName)).before a0 Z = true := hw _ (List.mem_of_getElem? (i := 74) rfl)
theorem tw75 {Z : State} {a0 : Array Value} (hw : ∀ d ∈ tables_1, d.before a0 Z = true) : (Jvm.Cond.selects "[Lcom/example/sealed_ledger/sealedledger/http/Access$Role;" ({ cls := "[Lcom/example/sealed_ledger/sealedledger/http/Access$Role;", name := "clone", desc := "()Ljava/lang/Object;" } : Jvm.MethodName) ({ cls := "java/lang/Object", name := "clone", desc := "()Ljava/lang/Object;" } : Jvm.MethodName)).before a0 Z = true := hw _ (List.mem_of_getElem? (i := 75) rfl)
theorem tw76 {Z : State} {a0 : Array Value} (hw : ∀ d ∈ tables_1, d.before a0 Z = true) : (Jvm.Cond.native ({ cls := "java/lang/Object", name := "clone", desc := "()Ljava/lang/Object;" } : Jvm.MethodName)).before a0 Z = true := hw _ (List.mem_of_getElem? (i := 76) rfl)
theorem tw77 {Z : State} {a0 : Array Value} (hw : ∀ d ∈ tables_1, d.before a0 Z = true) : (Jvm.Cond.castable "[Lcom/example/sealed_ledger/sealedledger/http/Access$Role;" "java/lang/Cloneable").before a0 Z = true := hw _ (List.mem_of_getElem? (i := 77) rfl)
theorem tw78 {Z : State} {a0 : Array Value} (hw : ∀ d ∈ tables_1, d.before a0 Z = true) : (Jvm.Cond.laysStatic "com/example/sealed_ledger/sealedledger/http/Access$Role" "WRITER" "Lcom/example/sealed_ledger/sealedledger/http/Access$Role;").before a0 Z = true := hw _ (List.mem_of_getElem? (i := 78) rfl)
theorem tw80 {Z : State} {a0 : Array Value} (hw : ∀ d ∈ tables_1, d.before a0 Z = true) : (Jvm.Cond.classLink "com/example/sealed_ledger/sealedledger/http/Access$Role" (15 : Nat) "[Lcom/example/sealed_ledger/sealedledger/http/Access$Role;").before a0 Z = true := hw _ (List.mem_of_getElem? (i := 80) rfl)
theorem tw82 {Z : State} {a0 : Array Value} (hw : ∀ d ∈ tables_1, d.before a0 Z = true) : (Jvm.Cond.fieldLink "com/example/sealed_ledger/sealedledger/http/Access$Role" (29 : Nat) "com/example/sealed_ledger/sealedledger/http/Access$Role" "text" "Ljava/lang/String;").before a0 Z = true := hw _ (List.mem_of_getElem? (i := 82) rfl)
theorem tw84 {Z : State} {a0 : Array Value} (hw : ∀ d ∈ tables_1, d.before a0 Z = true) : (Jvm.Cond.methodLink "com/example/sealed_ledger/sealedledger/http/Access$Role" (37 : Nat) ({ cls := "java/lang/String", name := "equals", desc := "(Ljava/lang/Object;)Z" } : Jvm.MethodName)).before a0 Z = true := hw _ (List.mem_of_getElem? (i := 84) rfl)
theorem tw85 {Z : State} {a0 : Array Value} (hw : ∀ d ∈ tables_1, d.before a0 Z = true) : (Jvm.Cond.declares ({ cls := "java/lang/String", name := "equals", desc := "(Ljava/lang/Object;)Z" } : Jvm.MethodName)).before a0 Z = true := hw _ (List.mem_of_getElem? (i := 85) rfl)
theorem tw86 {Z : State} {a0 : Array Value} (hw : ∀ d ∈ tables_1, d.before a0 Z = true) : (Jvm.Cond.instanceMethod ({ cls := "java/lang/String", name := "equals", desc := "(Ljava/lang/Object;)Z" } : Jvm.MethodName)).before a0 Z = true := hw _ (List.mem_of_getElem? (i := 86) rfl)
theorem tw87 {Z : State} {a0 : Array Value} (hw : ∀ d ∈ tables_1, d.before a0 Z = true) : (Jvm.Cond.selects "java/lang/String" ({ cls := "java/lang/String", name := "equals", desc := "(Ljava/lang/Object;)Z" } : Jvm.MethodName) ({ cls := "java/lang/String", name := "equals", desc := "(Ljava/lang/Object;)Z" } : Jvm.MethodName)).before a0 Z = true := hw _ (List.mem_of_getElem? (i := 87) rfl)
theorem tw88 {Z : State} {a0 : Array Value} (hw : ∀ d ∈ tables_1, d.before a0 Z = true) : (Jvm.Cond.code ({ cls := "java/lang/String", name := "equals", desc := "(Ljava/lang/Object;)Z" } : Jvm.MethodName) jdk_42_method_66_code (3 : Nat) (Option.some Jvm.ClassFile.FieldType.boolean)).before a0 Z = true := hw _ (List.mem_of_getElem? (i := 88) rfl)
theorem tw89 {Z : State} {a0 : Array Value} (hw : ∀ d ∈ tables_1, d.before a0 Z = true) : (Jvm.Cond.classLink "java/lang/String" (10 : Nat) "java/lang/String").before a0 Z = true := hw _ (List.mem_of_getElem? (i := 89) rfl)
theorem tw90 {Z : State} {a0 : Array Value} (hw : ∀ d ∈ tables_1, d.before a0 Z = true) : (Jvm.Cond.methodLink "java/lang/String" (541 : Nat) ({ cls := "java/lang/StringLatin1", name := "equals", desc := "([B[B)Z" } : Jvm.MethodName)).before a0 Z = true := hw _ (List.mem_of_getElem? (i := 90) rfl)
theorem tw91 {Z : State} {a0 : Array Value} (hw : ∀ d ∈ tables_1, d.before a0 Z = true) : (Jvm.Cond.static ({ cls := "java/lang/StringLatin1", name := "equals", desc := "([B[B)Z" } : Jvm.MethodName)).before a0 Z = true := hw _ (List.mem_of_getElem? (i := 91) rfl)
theorem tw92 {Z : State} {a0 : Array Value} (hw : ∀ d ∈ tables_1, d.before a0 Z = true) : (Jvm.Cond.code ({ cls := "java/lang/StringLatin1", name := "equals", desc := "([B[B)Z" } : Jvm.MethodName) jdk_43_method_13_code (3 : Nat) (Option.some Jvm.ClassFile.FieldType.boolean)).before a0 Z = true := hw _ (List.mem_of_getElem? (i := 92) rfl)
theorem tw93 {Z : State} {a0 : Array Value} (hw : ∀ d ∈ tables_1, d.before a0 Z = true) : (Jvm.Cond.stringLink "com/example/sealed_ledger/sealedledger/http/RoleNamedPinLaw" (32 : Nat) "writer").before a0 Z = true := hw _ (List.mem_of_getElem? (i := 93) rfl)
theorem tw94 {Z : State} {a0 : Array Value} (hw : ∀ d ∈ tables_1, d.before a0 Z = true) : (Jvm.Cond.fieldLink "com/example/sealed_ledger/sealedledger/http/RoleNamedPinLaw" (19 : Nat) "com/example/sealed_ledger/sealedledger/http/Access$Role" "WRITER" "Lcom/example/sealed_ledger/sealedledger/http/Access$Role;").before a0 Z = true := hw _ (List.mem_of_getElem? (i := 94) rfl)
theorem tw95 {Z : State} {a0 : Array Value} (hw : ∀ d ∈ tables_1, d.before a0 Z = true) : (Jvm.Cond.stringLink "java/lang/String" (7 : Nat) "").before a0 Z = true := hw _ (List.mem_of_getElem? (i := 95) rfl)
theorem pn0 : plainFor (⟨"jdk/internal/util/Preconditions", "checkIndex", "(IILjava/util/function/BiFunction;)I"⟩ : MethodName) = true := plainFor_of_name (by first | (simp [plainName, overriddenIn]; done) | decide +kernel)
theorem d6_0 : decode jdk_41_method_11_code 0 = .ok (.iload_n 0, 1) := by decide +kernel
theorem d6_1 : decode jdk_41_method_11_code 1 = .ok (.ifCond .lt 8, 3) := by decide +kernel
theorem d6_4 : decode jdk_41_method_11_code 4 = .ok (.iload_n 0, 1) := by decide +kernel
theorem d6_5 : decode jdk_41_method_11_code 5 = .ok (.iload_n 1, 1) := by decide +kernel
theorem d6_6 : decode jdk_41_method_11_code 6 = .ok (.if_icmp .lt 10, 3) := by decide +kernel
theorem d6_16 : decode jdk_41_method_11_code 16 = .ok (.iload_n 0, 1) := by decide +kernel
theorem d6_17 : decode jdk_41_method_11_code 17 = .ok (.ireturn, 1) := by decide +kernel
theorem pn1 : plainFor (⟨"java/lang/String", "checkIndex", "(II)V"⟩ : MethodName) = true := plainFor_of_name (by first | (simp [plainName, overriddenIn]; done) | decide +kernel)
theorem d5_0 : decode jdk_42_method_155_code 0 = .ok (.iload_n 0, 1) := by decide +kernel
theorem d5_1 : decode jdk_42_method_155_code 1 = .ok (.iload_n 1, 1) := by decide +kernel
theorem d5_2 : decode jdk_42_method_155_code 2 = .ok (.getstatic 1053, 3) := by decide +kernel
theorem d5_5 : decode jdk_42_method_155_code 5 = .ok (.invokestatic 1059, 3) := by decide +kernel
theorem pd2 : parseMethodDescriptor "(IILjava/util/function/BiFunction;)I" = some ⟨[.int, .int, (.object "java/util/function/BiFunction")], some .int⟩ := by decide +kernel
theorem d5_8 : decode jdk_42_method_155_code 8 = .ok (.pop, 1) := by decide +kernel
theorem d5_9 : decode jdk_42_method_155_code 9 = .ok (.return_, 1) := by decide +kernel
theorem pn3 : plainFor (⟨"java/lang/StringLatin1", "charAt", "([BI)C"⟩ : MethodName) = true := plainFor_of_name (by first | (simp [plainName, overriddenIn]; done) | decide +kernel)
theorem d4_0 : decode jdk_43_method_2_code 0 = .ok (.iload_n 1, 1) := by decide +kernel
theorem d4_1 : decode jdk_43_method_2_code 1 = .ok (.aload_n 0, 1) := by decide +kernel
theorem d4_2 : decode jdk_43_method_2_code 2 = .ok (.arraylength, 1) := by decide +kernel
theorem d4_3 : decode jdk_43_method_2_code 3 = .ok (.invokestatic 9, 3) := by decide +kernel
theorem pd4 : parseMethodDescriptor "(II)V" = some ⟨[.int, .int], none⟩ := by decide +kernel
theorem d4_6 : decode jdk_43_method_2_code 6 = .ok (.aload_n 0, 1) := by decide +kernel
theorem d4_7 : decode jdk_43_method_2_code 7 = .ok (.iload_n 1, 1) := by decide +kernel
theorem d4_8 : decode jdk_43_method_2_code 8 = .ok (.baload, 1) := by decide +kernel
theorem d4_9 : decode jdk_43_method_2_code 9 = .ok (.sipush 255, 3) := by decide +kernel
theorem d4_12 : decode jdk_43_method_2_code 12 = .ok (.iand, 1) := by decide +kernel
theorem d4_13 : decode jdk_43_method_2_code 13 = .ok (.i2c, 1) := by decide +kernel
theorem d4_14 : decode jdk_43_method_2_code 14 = .ok (.ireturn, 1) := by decide +kernel
theorem pn5 : plainFor (⟨"java/lang/String", "isLatin1", "()Z"⟩ : MethodName) = true := plainFor_of_name (by first | (simp [plainName, overriddenIn]; done) | decide +kernel)
theorem d3_0 : decode jdk_42_method_154_code 0 = .ok (.getstatic 38, 3) := by decide +kernel
theorem d3_3 : decode jdk_42_method_154_code 3 = .ok (.ifCond .eq 14, 3) := by decide +kernel
theorem d3_6 : decode jdk_42_method_154_code 6 = .ok (.aload_n 0, 1) := by decide +kernel
theorem d3_7 : decode jdk_42_method_154_code 7 = .ok (.getfield 15, 3) := by decide +kernel
theorem d3_10 : decode jdk_42_method_154_code 10 = .ok (.ifCond .ne 7, 3) := by decide +kernel
theorem d3_13 : decode jdk_42_method_154_code 13 = .ok (.iconst 1, 1) := by decide +kernel
theorem d3_14 : decode jdk_42_method_154_code 14 = .ok (.goto 4, 3) := by decide +kernel
theorem d3_18 : decode jdk_42_method_154_code 18 = .ok (.ireturn, 1) := by decide +kernel
theorem pn6 : plainFor (⟨"java/lang/String", "charAt", "(I)C"⟩ : MethodName) = true := plainFor_of_name (by first | (simp [plainName, overriddenIn]; done) | decide +kernel)
theorem d2_0 : decode jdk_42_method_56_code 0 = .ok (.aload_n 0, 1) := by decide +kernel
theorem d2_1 : decode jdk_42_method_56_code 1 = .ok (.invokevirtual 492, 3) := by decide +kernel
theorem pd7 : parseMethodDescriptor "()Z" = some ⟨[], some .boolean⟩ := by decide +kernel
theorem d2_4 : decode jdk_42_method_56_code 4 = .ok (.ifCond .eq 12, 3) := by decide +kernel
theorem d2_7 : decode jdk_42_method_56_code 7 = .ok (.aload_n 0, 1) := by decide +kernel
theorem d2_8 : decode jdk_42_method_56_code 8 = .ok (.getfield 9, 3) := by decide +kernel
theorem d2_11 : decode jdk_42_method_56_code 11 = .ok (.iload_n 1, 1) := by decide +kernel
theorem d2_12 : decode jdk_42_method_56_code 12 = .ok (.invokestatic 495, 3) := by decide +kernel
theorem pd8 : parseMethodDescriptor "([BI)C" = some ⟨[(.array .byte), .int], some .char⟩ := by decide +kernel
theorem d2_15 : decode jdk_42_method_56_code 15 = .ok (.ireturn, 1) := by decide +kernel
theorem pn9 : plainFor (⟨"com/example/sealed_ledger/sealedledger/http/RoleNamedPinLaw", "base", "(ZI)C"⟩ : MethodName) = true := plainFor_of_name (by first | (simp [plainName, overriddenIn]; done) | decide +kernel)
theorem d1_0 : decode method_3_code 0 = .ok (.iload_n 0, 1) := by decide +kernel
theorem d1_1 : decode method_3_code 1 = .ok (.ifCond .eq 8, 3) := by decide +kernel
theorem d1_9 : decode method_3_code 9 = .ok (.ldc 34, 2) := by decide +kernel
theorem d1_11 : decode method_3_code 11 = .ok (.astore_n 2, 1) := by decide +kernel
theorem d1_12 : decode method_3_code 12 = .ok (.aload_n 2, 1) := by decide +kernel
theorem d1_13 : decode method_3_code 13 = .ok (.iload_n 1, 1) := by decide +kernel
theorem d1_14 : decode method_3_code 14 = .ok (.invokevirtual 36, 3) := by decide +kernel
theorem pd10 : parseMethodDescriptor "(I)C" = some ⟨[.int], some .char⟩ := by decide +kernel
theorem d1_17 : decode method_3_code 17 = .ok (.ireturn, 1) := by decide +kernel
theorem d1_4 : decode method_3_code 4 = .ok (.ldc 32, 2) := by decide +kernel
theorem d1_6 : decode method_3_code 6 = .ok (.goto 5, 3) := by decide +kernel
theorem pn11 : plainFor (⟨"java/lang/StringLatin1", "equals", "([B[B)Z"⟩ : MethodName) = true := plainFor_of_name (by first | (simp [plainName, overriddenIn]; done) | decide +kernel)
theorem d16_0 : decode jdk_43_method_13_code 0 = .ok (.aload_n 0, 1) := by decide +kernel
theorem d16_1 : decode jdk_43_method_13_code 1 = .ok (.arraylength, 1) := by decide +kernel
theorem d16_2 : decode jdk_43_method_13_code 2 = .ok (.aload_n 1, 1) := by decide +kernel
theorem d16_3 : decode jdk_43_method_13_code 3 = .ok (.arraylength, 1) := by decide +kernel
theorem d16_4 : decode jdk_43_method_13_code 4 = .ok (.if_icmp .ne 30, 3) := by decide +kernel
theorem d16_7 : decode jdk_43_method_13_code 7 = .ok (.iconst 0, 1) := by decide +kernel
theorem d16_8 : decode jdk_43_method_13_code 8 = .ok (.istore_n 2, 1) := by decide +kernel
theorem d16_9 : decode jdk_43_method_13_code 9 = .ok (.iload_n 2, 1) := by decide +kernel
theorem d16_10 : decode jdk_43_method_13_code 10 = .ok (.aload_n 0, 1) := by decide +kernel
theorem d16_11 : decode jdk_43_method_13_code 11 = .ok (.arraylength, 1) := by decide +kernel
theorem d16_12 : decode jdk_43_method_13_code 12 = .ok (.if_icmp .ge 20, 3) := by decide +kernel
theorem d16_15 : decode jdk_43_method_13_code 15 = .ok (.aload_n 0, 1) := by decide +kernel
theorem d16_16 : decode jdk_43_method_13_code 16 = .ok (.iload_n 2, 1) := by decide +kernel
theorem d16_17 : decode jdk_43_method_13_code 17 = .ok (.baload, 1) := by decide +kernel
theorem d16_18 : decode jdk_43_method_13_code 18 = .ok (.aload_n 1, 1) := by decide +kernel
theorem d16_19 : decode jdk_43_method_13_code 19 = .ok (.iload_n 2, 1) := by decide +kernel
theorem d16_20 : decode jdk_43_method_13_code 20 = .ok (.baload, 1) := by decide +kernel
theorem d16_21 : decode jdk_43_method_13_code 21 = .ok (.if_icmp .eq 5, 3) := by decide +kernel
theorem d16_26 : decode jdk_43_method_13_code 26 = .ok (.iinc 2 1, 3) := by decide +kernel
theorem d16_29 : decode jdk_43_method_13_code 29 = .ok (.goto (-20), 3) := by decide +kernel
theorem d16_32 : decode jdk_43_method_13_code 32 = .ok (.iconst 1, 1) := by decide +kernel
theorem d16_33 : decode jdk_43_method_13_code 33 = .ok (.ireturn, 1) := by decide +kernel
theorem d16_24 : decode jdk_43_method_13_code 24 = .ok (.iconst 0, 1) := by decide +kernel
theorem d16_25 : decode jdk_43_method_13_code 25 = .ok (.ireturn, 1) := by decide +kernel
theorem d16_34 : decode jdk_43_method_13_code 34 = .ok (.iconst 0, 1) := by decide +kernel
theorem d16_35 : decode jdk_43_method_13_code 35 = .ok (.ireturn, 1) := by decide +kernel
theorem pn12 : plainFor (⟨"java/lang/String", "equals", "(Ljava/lang/Object;)Z"⟩ : MethodName) = true := plainFor_of_name (by first | (simp [plainName, overriddenIn]; done) | decide +kernel)
theorem d15_0 : decode jdk_42_method_66_code 0 = .ok (.aload_n 0, 1) := by decide +kernel
theorem d15_1 : decode jdk_42_method_66_code 1 = .ok (.aload_n 1, 1) := by decide +kernel
theorem d15_2 : decode jdk_42_method_66_code 2 = .ok (.if_acmp .ne 5, 3) := by decide +kernel
theorem d15_7 : decode jdk_42_method_66_code 7 = .ok (.aload_n 1, 1) := by decide +kernel
theorem d15_8 : decode jdk_42_method_66_code 8 = .ok (.instanceof 10, 3) := by decide +kernel
theorem d15_11 : decode jdk_42_method_66_code 11 = .ok (.ifCond .eq 43, 3) := by decide +kernel
theorem d15_14 : decode jdk_42_method_66_code 14 = .ok (.aload_n 1, 1) := by decide +kernel
theorem d15_15 : decode jdk_42_method_66_code 15 = .ok (.checkcast 10, 3) := by decide +kernel
theorem d15_18 : decode jdk_42_method_66_code 18 = .ok (.astore_n 2, 1) := by decide +kernel
theorem d15_19 : decode jdk_42_method_66_code 19 = .ok (.getstatic 38, 3) := by decide +kernel
theorem d15_22 : decode jdk_42_method_66_code 22 = .ok (.ifCond .eq 14, 3) := by decide +kernel
theorem d15_25 : decode jdk_42_method_66_code 25 = .ok (.aload_n 0, 1) := by decide +kernel
theorem d15_26 : decode jdk_42_method_66_code 26 = .ok (.getfield 15, 3) := by decide +kernel
theorem d15_29 : decode jdk_42_method_66_code 29 = .ok (.aload_n 2, 1) := by decide +kernel
theorem d15_30 : decode jdk_42_method_66_code 30 = .ok (.getfield 15, 3) := by decide +kernel
theorem d15_33 : decode jdk_42_method_66_code 33 = .ok (.if_icmp .ne 21, 3) := by decide +kernel
theorem d15_36 : decode jdk_42_method_66_code 36 = .ok (.aload_n 0, 1) := by decide +kernel
theorem d15_37 : decode jdk_42_method_66_code 37 = .ok (.getfield 9, 3) := by decide +kernel
theorem d15_40 : decode jdk_42_method_66_code 40 = .ok (.aload_n 2, 1) := by decide +kernel
theorem d15_41 : decode jdk_42_method_66_code 41 = .ok (.getfield 9, 3) := by decide +kernel
theorem d15_44 : decode jdk_42_method_66_code 44 = .ok (.invokestatic 541, 3) := by decide +kernel
theorem pd13 : parseMethodDescriptor "([B[B)Z" = some ⟨[(.array .byte), (.array .byte)], some .boolean⟩ := by decide +kernel
theorem d15_47 : decode jdk_42_method_66_code 47 = .ok (.ifCond .eq 7, 3) := by decide +kernel
theorem d15_54 : decode jdk_42_method_66_code 54 = .ok (.iconst 0, 1) := by decide +kernel
theorem d15_55 : decode jdk_42_method_66_code 55 = .ok (.ireturn, 1) := by decide +kernel
theorem d15_50 : decode jdk_42_method_66_code 50 = .ok (.iconst 1, 1) := by decide +kernel
theorem d15_51 : decode jdk_42_method_66_code 51 = .ok (.goto 4, 3) := by decide +kernel
theorem pn14 : plainFor (⟨"com/example/sealed_ledger/sealedledger/http/Access$Role", "values", "()[Lcom/example/sealed_ledger/sealedledger/http/Access$Role;"⟩ : MethodName) = true := plainFor_of_name (by first | (simp [plainName, overriddenIn]; done) | decide +kernel)
theorem d14_0 : decode prog_3_method_1_code 0 = .ok (.getstatic 10, 3) := by decide +kernel
theorem d14_3 : decode prog_3_method_1_code 3 = .ok (.invokevirtual 14, 3) := by decide +kernel
theorem d14_6 : decode prog_3_method_1_code 6 = .ok (.checkcast 15, 3) := by decide +kernel
theorem d14_9 : decode prog_3_method_1_code 9 = .ok (.areturn, 1) := by decide +kernel
theorem pn15 : plainFor (⟨"com/example/sealed_ledger/sealedledger/http/Access$Role", "named", "(Ljava/lang/String;)Lcom/example/sealed_ledger/sealedledger/http/Access$Role;"⟩ : MethodName) = true := plainFor_of_name (by first | (simp [plainName, overriddenIn]; done) | decide +kernel)
theorem d13_0 : decode prog_3_method_4_code 0 = .ok (.invokestatic 33, 3) := by decide +kernel
theorem pd16 : parseMethodDescriptor "()[Lcom/example/sealed_ledger/sealedledger/http/Access$Role;" = some ⟨[], some (.array (.object "com/example/sealed_ledger/sealedledger/http/Access$Role"))⟩ := by decide +kernel
theorem d13_3 : decode prog_3_method_4_code 3 = .ok (.astore_n 1, 1) := by decide +kernel
theorem d13_4 : decode prog_3_method_4_code 4 = .ok (.aload_n 1, 1) := by decide +kernel
theorem d13_5 : decode prog_3_method_4_code 5 = .ok (.arraylength, 1) := by decide +kernel
theorem d13_6 : decode prog_3_method_4_code 6 = .ok (.istore_n 2, 1) := by decide +kernel
theorem d13_7 : decode prog_3_method_4_code 7 = .ok (.iconst 0, 1) := by decide +kernel
theorem d13_8 : decode prog_3_method_4_code 8 = .ok (.istore_n 3, 1) := by decide +kernel
theorem d13_9 : decode prog_3_method_4_code 9 = .ok (.iload_n 3, 1) := by decide +kernel
theorem d13_10 : decode prog_3_method_4_code 10 = .ok (.iload_n 2, 1) := by decide +kernel
theorem d13_11 : decode prog_3_method_4_code 11 = .ok (.if_icmp .ge 29, 3) := by decide +kernel
theorem d13_14 : decode prog_3_method_4_code 14 = .ok (.aload_n 1, 1) := by decide +kernel
theorem d13_15 : decode prog_3_method_4_code 15 = .ok (.iload_n 3, 1) := by decide +kernel
theorem d13_16 : decode prog_3_method_4_code 16 = .ok (.aaload, 1) := by decide +kernel
theorem d13_17 : decode prog_3_method_4_code 17 = .ok (.astore 4, 2) := by decide +kernel
theorem d13_19 : decode prog_3_method_4_code 19 = .ok (.aload 4, 2) := by decide +kernel
theorem d13_21 : decode prog_3_method_4_code 21 = .ok (.getfield 29, 3) := by decide +kernel
theorem d13_24 : decode prog_3_method_4_code 24 = .ok (.aload_n 0, 1) := by decide +kernel
theorem d13_25 : decode prog_3_method_4_code 25 = .ok (.invokevirtual 37, 3) := by decide +kernel
theorem pd17 : parseMethodDescriptor "(Ljava/lang/Object;)Z" = some ⟨[(.object "java/lang/Object")], some .boolean⟩ := by decide +kernel
theorem d13_28 : decode prog_3_method_4_code 28 = .ok (.ifCond .eq 6, 3) := by decide +kernel
theorem d13_34 : decode prog_3_method_4_code 34 = .ok (.iinc 3 1, 3) := by decide +kernel
theorem d13_37 : decode prog_3_method_4_code 37 = .ok (.goto (-28), 3) := by decide +kernel
theorem d13_40 : decode prog_3_method_4_code 40 = .ok (.aconst_null, 1) := by decide +kernel
theorem d13_41 : decode prog_3_method_4_code 41 = .ok (.areturn, 1) := by decide +kernel
theorem d13_31 : decode prog_3_method_4_code 31 = .ok (.aload 4, 2) := by decide +kernel
theorem d13_33 : decode prog_3_method_4_code 33 = .ok (.areturn, 1) := by decide +kernel
theorem pn18 : plainFor (⟨"java/lang/String", "<init>", "([CIILjava/lang/Void;)V"⟩ : MethodName) = true := plainFor_of_name (by first | (simp [plainName, overriddenIn]; done) | decide +kernel)
theorem d8_0 : decode jdk_42_method_149_code 0 = .ok (.aload_n 0, 1) := by decide +kernel
theorem d8_1 : decode jdk_42_method_149_code 1 = .ok (.invokespecial 1, 3) := by decide +kernel
theorem d8_4 : decode jdk_42_method_149_code 4 = .ok (.iload_n 3, 1) := by decide +kernel
theorem d8_5 : decode jdk_42_method_149_code 5 = .ok (.ifCond .ne 22, 3) := by decide +kernel
theorem d8_8 : decode jdk_42_method_149_code 8 = .ok (.aload_n 0, 1) := by decide +kernel
theorem d8_9 : decode jdk_42_method_149_code 9 = .ok (.ldc 7, 2) := by decide +kernel
theorem d8_11 : decode jdk_42_method_149_code 11 = .ok (.getfield 9, 3) := by decide +kernel
theorem d8_14 : decode jdk_42_method_149_code 14 = .ok (.putfield 9, 3) := by decide +kernel
theorem d8_17 : decode jdk_42_method_149_code 17 = .ok (.aload_n 0, 1) := by decide +kernel
theorem d8_18 : decode jdk_42_method_149_code 18 = .ok (.ldc 7, 2) := by decide +kernel
theorem d8_20 : decode jdk_42_method_149_code 20 = .ok (.getfield 15, 3) := by decide +kernel
theorem d8_23 : decode jdk_42_method_149_code 23 = .ok (.putfield 15, 3) := by decide +kernel
theorem d8_26 : decode jdk_42_method_149_code 26 = .ok (.return_, 1) := by decide +kernel
theorem pn19 : plainFor (⟨"java/lang/String", "<init>", "([C)V"⟩ : MethodName) = true := plainFor_of_name (by first | (simp [plainName, overriddenIn]; done) | decide +kernel)
theorem d7_0 : decode jdk_42_method_3_code 0 = .ok (.aload_n 0, 1) := by decide +kernel
theorem d7_1 : decode jdk_42_method_3_code 1 = .ok (.aload_n 1, 1) := by decide +kernel
theorem d7_2 : decode jdk_42_method_3_code 2 = .ok (.iconst 0, 1) := by decide +kernel
theorem d7_3 : decode jdk_42_method_3_code 3 = .ok (.aload_n 1, 1) := by decide +kernel
theorem d7_4 : decode jdk_42_method_3_code 4 = .ok (.arraylength, 1) := by decide +kernel
theorem d7_5 : decode jdk_42_method_3_code 5 = .ok (.aconst_null, 1) := by decide +kernel
theorem d7_6 : decode jdk_42_method_3_code 6 = .ok (.invokespecial 27, 3) := by decide +kernel
theorem pd20 : parseMethodDescriptor "([CIILjava/lang/Void;)V" = some ⟨[(.array .char), .int, .int, (.object "java/lang/Void")], none⟩ := by decide +kernel
theorem d7_9 : decode jdk_42_method_3_code 9 = .ok (.return_, 1) := by decide +kernel
theorem pn21 : plainFor (⟨"com/example/sealed_ledger/sealedledger/http/RoleNamedPinLaw", "law", "(IIII)Z"⟩ : MethodName) = true := plainFor_of_name (by first | (simp [plainName, overriddenIn]; done) | decide +kernel)
theorem pd22 : parseMethodDescriptor "(ZI)C" = some ⟨[.boolean, .int], some .char⟩ := by decide +kernel
theorem pd23 : parseMethodDescriptor "([C)V" = some ⟨[(.array .char)], none⟩ := by decide +kernel
theorem pd24 : parseMethodDescriptor "(Ljava/lang/String;)Lcom/example/sealed_ledger/sealedledger/http/Access$Role;" = some ⟨[(.object "java/lang/String")], some (.object "com/example/sealed_ledger/sealedledger/http/Access$Role")⟩ := by decide +kernel
theorem ef_rmCI (m : MethodId) (x0 : Int32) (x1 : Int32) (x2 : Value) (hr2 : x2.isRef = true) : entryFrame m #[(.int x0), (.int x1), x2] 3 = mkF m 0 #[.val (.int x0), .val (.int x1), .val x2] [] := by rcases ref_cases hr2 with rfl | ⟨_, rfl⟩ <;> first | (simp [entryFrame, mkF, argsToLocals, Value.category]; done) | rfl
set_option maxRecDepth 65536 in
set_option maxHeartbeats 40000000 in
theorem rmCI (l : Launch) (Z : State) (a0 : Array Value) (hw : ∀ d ∈ tables_1, d.before a0 Z = true) (ws : List Jvm.Cond) (p q : Int32) (fv : Value) (hfv : fv.isRef = true) (h0 : Heap) (hp : ¬ p < 0) (hq : p < q) :
    Met l Z (⟨"jdk/internal/util/Preconditions", "checkIndex", "(IILjava/util/function/BiFunction;)I"⟩ : MethodName) jdk_41_method_11_code 3 (some .int) ws ({ frames := 0, cells := 0, slots := 0, locals := 0 } : Room) #[(.int p), (.int q), fv] h0 (fun v h L => v = some (.int p) ∧ L = [] ∧ h = h0) := by
  refine Met.intro pn0 ?_
  intro pr ev s m below meth c T0 X0 hx hZ hown hby hml hret hlk hnm e0
  refine Go.cast (ef_rmCI m p q fv hfv) ?_
  refine Go.of (mkF m 1 #[.val (.int p), .val (.int q), .val fv] [(.int p)]) (fun tt0 kk0 => XS.iloadN X0.here hx rfl (hb hby d6_0) rfl kk0) ?_
  refine Go.of (mkF m 4 #[.val (.int p), .val (.int q), .val fv] []) (fun tt0 kk0 => XS.ifNo X0.here hx rfl (hb hby d6_1) rfl ((if0 _ _).trans (flt hp).1) kk0) ?_
  refine Go.of (mkF m 5 #[.val (.int p), .val (.int q), .val fv] [(.int p)]) (fun tt0 kk0 => XS.iloadN X0.here hx rfl (hb hby d6_4) rfl kk0) ?_
  refine Go.of (mkF m 6 #[.val (.int p), .val (.int q), .val fv] [(.int q), (.int p)]) (fun tt0 kk0 => XS.iloadN X0.here hx rfl (hb hby d6_5) rfl kk0) ?_
  refine Go.of (mkF m 16 #[.val (.int p), .val (.int q), .val fv] []) (fun tt0 kk0 => XS.icmpYes X0.here hx rfl (pc0 := 6) (pc' := 16) rfl (hb hby d6_6) rfl (tlt hq).1 (by decide) (by decide) kk0) ?_
  refine Go.of (mkF m 17 #[.val (.int p), .val (.int q), .val fv] [(.int p)]) (fun tt0 kk0 => XS.iloadN X0.here hx rfl (hb hby d6_16) rfl kk0) ?_
  exact Go.retW X0 hx (t := .int) hret hlk rfl (Or.inl ⟨rfl, by simp, _, rfl⟩) (hb hby d6_17) (by decide) (by decide) ⟨rfl, rfl, e0⟩
theorem ef_rmCk (m : MethodId) (x0 : Int32) (x1 : Int32) : entryFrame m #[(.int x0), (.int x1)] 2 = mkF m 0 #[.val (.int x0), .val (.int x1)] [] := by first | (simp [entryFrame, mkF, argsToLocals, Value.category]; done) | rfl
set_option maxRecDepth 65536 in
set_option maxHeartbeats 40000000 in
theorem rmCk (l : Launch) (Z : State) (a0 : Array Value) (hw : ∀ d ∈ tables_1, d.before a0 Z = true) (ws : List Jvm.Cond) (p q : Int32) (h0 : Heap) (fv : Value) (hfv : fv.isRef = true) (O4 : Sta Z h0 "jdk/internal/util/Preconditions" "SIOOBE_FORMATTER" "Ljava/util/function/BiFunction;" fv) (hp : ¬ p < 0) (hq : p < q) :
    Met l Z (⟨"java/lang/String", "checkIndex", "(II)V"⟩ : MethodName) jdk_42_method_155_code 2 none ws ({ frames := 1, cells := 0, slots := 0, locals := 14 } : Room) #[(.int p), (.int q)] h0 (fun v h L => v = none ∧ L = [] ∧ h = h0) := by
  refine Met.intro pn1 ?_
  intro pr ev s m below meth c T0 X0 hx hZ hown hby hml hret hlk hnm e0
  refine Go.cast (ef_rmCk m p q) ?_
  refine Go.of (mkF m 1 #[.val (.int p), .val (.int q)] [(.int p)]) (fun tt0 kk0 => XS.iloadN X0.here hx rfl (hb hby d5_0) rfl kk0) ?_
  refine Go.of (mkF m 2 #[.val (.int p), .val (.int q)] [(.int q), (.int p)]) (fun tt0 kk0 => XS.iloadN X0.here hx rfl (hb hby d5_1) rfl kk0) ?_
  obtain ⟨T1, X1, e1, st1⟩ := getS2 X0 hx hZ hown (host := "") (Or.inl (tw34 hw)) Via.refl e0 O4 (g := (mkF m 2 #[.val (.int p), .val (.int q)] [(.int q), (.int p)])) rfl (hb hby d5_2)
  refine Go.of (mkF m 5 #[.val (.int p), .val (.int q)] [fv, (.int q), (.int p)]) (st1) ?_
  refine Go.callS X1 hx hZ (y := (⟨"jdk/internal/util/Preconditions", "checkIndex", "(IILjava/util/function/BiFunction;)I"⟩ : MethodName)) (argsL := [(.int p), (.int q), fv]) (rest := []) hown (tw36 hw) (tw37 hw) (tw35 hw) (tw38 hw) (by decide) e1 (rmCI l Z a0 hw [] p q fv hfv h0 hp hq) (g := (mkF m 5 #[.val (.int p), .val (.int q)] [fv, (.int q), (.int p)])) rfl (by rw [hml]; rfl) (lenOf pd2 rfl) rfl (W := 0) (by show 2 * 0 + _ ≤ _; exact Nat.le_of_eq rfl) (hb hby d5_5) (by decide) (by decide) (by decide) (by decide) ?_
  rintro T2 L2 v2 X2 ⟨rfl, rfl, hh2⟩
  show Go pr ev below _ T2 (mkF m 8 #[.val (.int p), .val (.int q)] [(.int p)])
  refine Go.of (mkF m 9 #[.val (.int p), .val (.int q)] []) (fun tt0 kk0 => XS.pop X2.here hx rfl (hb hby d5_8) rfl rfl kk0) ?_
  exact Go.retV X2 hx hret hlk (hb hby d5_9) (by decide) (by decide) ⟨rfl, rfl, hh2⟩
theorem ef_rmLc (m : MethodId) (x0 : Addr) (x1 : Int32) : entryFrame m #[(.ref x0), (.int x1)] 2 = mkF m 0 #[.val (.ref x0), .val (.int x1)] [] := by first | (simp [entryFrame, mkF, argsToLocals, Value.category]; done) | rfl
set_option maxRecDepth 65536 in
set_option maxHeartbeats 40000000 in
theorem rmLc (l : Launch) (Z : State) (a0 : Array Value) (hw : ∀ d ∈ tables_1, d.before a0 Z = true) (ws : List Jvm.Cond) (d : Nat) (p q : Int32) (y : Int32 → Int32) (h0 : Heap) (fv : Value) (hfv : fv.isRef = true) (O4 : Sta Z h0 "jdk/internal/util/Preconditions" "SIOOBE_FORMATTER" "Ljava/util/function/BiFunction;" fv) (V : Fa Z h0 d .byte q (fun i => .int (y i))) (hp : ¬ p < 0) (hq : p < q) :
    Met l Z (⟨"java/lang/StringLatin1", "charAt", "([BI)C"⟩ : MethodName) jdk_43_method_2_code 2 (some .char) ws ({ frames := 2, cells := 0, slots := 0, locals := 27 } : Room) #[(.ref d), (.int p)] h0 (fun v h L => v = some (.int (own_u (y p))) ∧ L = [] ∧ h = h0) := by
  refine Met.intro pn3 ?_
  intro pr ev s m below meth c T0 X0 hx hZ hown hby hml hret hlk hnm e0
  refine Go.cast (ef_rmLc m d p) ?_
  refine Go.of (mkF m 1 #[.val (.ref d), .val (.int p)] [(.int p)]) (fun tt0 kk0 => XS.iloadN X0.here hx rfl (hb hby d4_0) rfl kk0) ?_
  refine Go.of (mkF m 2 #[.val (.ref d), .val (.int p)] [(.ref d), (.int p)]) (fun tt0 kk0 => XS.aloadN X0.here hx rfl (hb hby d4_1) rfl rfl kk0) ?_
  refine Go.arraylength X0 hx hZ e0 V (g := (mkF m 2 #[.val (.ref d), .val (.int p)] [(.ref d), (.int p)])) rfl rfl (hb hby d4_2) ?_
  show Go pr ev below _ T0 (mkF m 3 #[.val (.ref d), .val (.int p)] [(.int q), (.int p)])
  refine Go.callS X0 hx hZ (y := (⟨"java/lang/String", "checkIndex", "(II)V"⟩ : MethodName)) (argsL := [(.int p), (.int q)]) (rest := []) hown (tw31 hw) (tw32 hw) (tw7 hw) (tw33 hw) (by decide) e0 (rmCk l Z a0 hw [] p q h0 fv hfv O4 hp hq) (g := (mkF m 3 #[.val (.ref d), .val (.int p)] [(.int q), (.int p)])) rfl (by rw [hml]; rfl) (lenOf pd4 rfl) rfl (W := 0) (by show 2 * 0 + _ ≤ _; exact Nat.le_of_eq rfl) (hb hby d4_3) (by decide) (by decide) (by decide) (by decide) ?_
  rintro T1 L1 v1 X1 ⟨rfl, rfl, hh1⟩
  show Go pr ev below _ T1 (mkF m 6 #[.val (.ref d), .val (.int p)] [])
  refine Go.of (mkF m 7 #[.val (.ref d), .val (.int p)] [(.ref d)]) (fun tt0 kk0 => XS.aloadN X1.here hx rfl (hb hby d4_6) rfl rfl kk0) ?_
  refine Go.of (mkF m 8 #[.val (.ref d), .val (.int p)] [(.int p), (.ref d)]) (fun tt0 kk0 => XS.iloadN X1.here hx rfl (hb hby d4_7) rfl kk0) ?_
  refine Go.baload X1 hx hZ hh1 V hp hq (g := (mkF m 8 #[.val (.ref d), .val (.int p)] [(.int p), (.ref d)])) rfl rfl (hb hby d4_8) ?_
  show Go pr ev below _ T1 (mkF m 9 #[.val (.ref d), .val (.int p)] [(.int (y p))])
  refine Go.of (mkF m 12 #[.val (.ref d), .val (.int p)] [(.int (255 : Int32)), (.int (y p))]) (fun tt0 kk0 => XS.sipush X1.here hx rfl (hb hby d4_9) kk0) ?_
  refine Go.of (mkF m 13 #[.val (.ref d), .val (.int p)] [(.int ((y p) &&& (255 : Int32)))]) (fun tt0 kk0 => XS.iand X1.here hx rfl (hb hby d4_12) rfl kk0) ?_
  refine Go.of (mkF m 14 #[.val (.ref d), .val (.int p)] [(.int (((y p) &&& (255 : Int32)).toUInt32.toUInt16.toUInt32.toInt32))]) (fun tt0 kk0 => XS.i2c X1.here hx rfl (hb hby d4_13) rfl kk0) ?_
  exact Go.retW X1 hx (t := .char) hret hlk (own_u_nar _) (Or.inl ⟨rfl, by simp, _, rfl⟩) (hb hby d4_14) (by decide) (by decide) ⟨rfl, rfl, hh1⟩
theorem ef_rmIL (m : MethodId) (x0 : Addr) : entryFrame m #[(.ref x0)] 1 = mkF m 0 #[.val (.ref x0)] [] := by first | (simp [entryFrame, mkF, argsToLocals, Value.category]; done) | rfl
set_option maxRecDepth 65536 in
set_option maxHeartbeats 40000000 in
theorem rmIL (l : Launch) (Z : State) (a0 : Array Value) (hw : ∀ d ∈ tables_1, d.before a0 Z = true) (ws : List Jvm.Cond) (a : Nat) (h0 : Heap) (G1 : Int32) (O2 : Sta Z h0 "java/lang/String" "COMPACT_STRINGS" "Z" (.int G1)) (P3 : ¬ G1 = 0) (Fc : Fld Z h0 a "java/lang/String" "coder" "B" (.int 0)) :
    Met l Z (⟨"java/lang/String", "isLatin1", "()Z"⟩ : MethodName) jdk_42_method_154_code 1 (some .boolean) ws ({ frames := 0, cells := 0, slots := 0, locals := 0 } : Room) #[(.ref a)] h0 (fun v h L => v = some (.int 1) ∧ L = [] ∧ h = h0) := by
  refine Met.intro pn5 ?_
  intro pr ev s m below meth c T0 X0 hx hZ hown hby hml hret hlk hnm e0
  refine Go.cast (ef_rmIL m a) ?_
  obtain ⟨T1, X1, e1, st1⟩ := getS2 X0 hx hZ hown (host := "") (Or.inl (tw24 hw)) Via.refl e0 O2 (g := (mkF m 0 #[.val (.ref a)] [])) rfl (hb hby d3_0)
  refine Go.of (mkF m 3 #[.val (.ref a)] [(.int G1)]) (st1) ?_
  refine Go.of (mkF m 6 #[.val (.ref a)] []) (fun tt0 kk0 => XS.ifNo X1.here hx rfl (hb hby d3_3) rfl ((if0 _ _).trans (feq P3).1) kk0) ?_
  refine Go.of (mkF m 7 #[.val (.ref a)] [(.ref a)]) (fun tt0 kk0 => XS.aloadN X1.here hx rfl (hb hby d3_6) rfl rfl kk0) ?_
  obtain ⟨T2, X2, e2, st2⟩ := getF X1 hx hZ hown (host := "") (Or.inl (tw25 hw)) Via.refl e1 Fc (g := (mkF m 7 #[.val (.ref a)] [(.ref a)])) rfl rfl (hb hby d3_7)
  refine Go.of (mkF m 10 #[.val (.ref a)] [(.int (0 : Int32))]) (st2) ?_
  refine Go.of (mkF m 13 #[.val (.ref a)] []) (fun tt0 kk0 => XS.ifNo X2.here hx rfl (hb hby d3_10) rfl ((if0 _ _).trans (teq (by decide)).2) kk0) ?_
  refine Go.of (mkF m 14 #[.val (.ref a)] [(.int (1 : Int32))]) (fun tt0 kk0 => XS.iconst X2.here hx rfl (hb hby d3_13) kk0) ?_
  refine Go.of (mkF m 18 #[.val (.ref a)] [(.int (1 : Int32))]) (fun tt0 kk0 => XS.goto X2.here hx rfl (pc0 := 14) (pc' := 18) rfl (hb hby d3_14) (by decide) (by decide) kk0) ?_
  exact Go.retW X2 hx (t := .boolean) hret hlk rfl (Or.inl ⟨rfl, by simp, _, rfl⟩) (hb hby d3_18) (by decide) (by decide) ⟨rfl, rfl, e2⟩
theorem ef_rmCh (m : MethodId) (x0 : Addr) (x1 : Int32) : entryFrame m #[(.ref x0), (.int x1)] 2 = mkF m 0 #[.val (.ref x0), .val (.int x1)] [] := by first | (simp [entryFrame, mkF, argsToLocals, Value.category]; done) | rfl
set_option maxRecDepth 65536 in
set_option maxHeartbeats 40000000 in
theorem rmCh (l : Launch) (Z : State) (a0 : Array Value) (hw : ∀ d ∈ tables_1, d.before a0 Z = true) (ws : List Jvm.Cond) (a d : Nat) (p q : Int32) (y : Int32 → Int32) (h0 : Heap) (G1 : Int32) (O2 : Sta Z h0 "java/lang/String" "COMPACT_STRINGS" "Z" (.int G1)) (P3 : ¬ G1 = 0) (fv : Value) (hfv : fv.isRef = true) (O4 : Sta Z h0 "jdk/internal/util/Preconditions" "SIOOBE_FORMATTER" "Ljava/util/function/BiFunction;" fv) (E : Exa Z h0 a "java/lang/String") (Fc : Fld Z h0 a "java/lang/String" "coder" "B" (.int 0)) (Fv : Fld Z h0 a "java/lang/String" "value" "[B" (.ref d)) (V : Fa Z h0 d .byte q (fun i => .int (y i))) (hp : ¬ p < 0) (hq : p < q) :
    Met l Z (⟨"java/lang/String", "charAt", "(I)C"⟩ : MethodName) jdk_42_method_56_code 2 (some .char) ws ({ frames := 3, cells := 0, slots := 0, locals := 40 } : Room) #[(.ref a), (.int p)] h0 (fun v h L => v = some (.int (own_u (y p))) ∧ L = [] ∧ h = h0) := by
  refine Met.intro pn6 ?_
  intro pr ev s m below meth c T0 X0 hx hZ hown hby hml hret hlk hnm e0
  refine Go.cast (ef_rmCh m a p) ?_
  refine Go.of (mkF m 1 #[.val (.ref a), .val (.int p)] [(.ref a)]) (fun tt0 kk0 => XS.aloadN X0.here hx rfl (hb hby d2_0) rfl rfl kk0) ?_
  refine Go.virt X0 hx hZ (y := (⟨"java/lang/String", "isLatin1", "()Z"⟩ : MethodName)) (z := (⟨"java/lang/String", "isLatin1", "()Z"⟩ : MethodName)) (a := a) (argsL := []) (rest := []) hown (tw19 hw) (tw20 hw) (notFace_of_selects (args := #[]) (mvT hZ (tw22 hw))) (tw22 hw) (tw21 hw) (tw7 hw) (tw23 hw) (by decide) e0 E (rmIL l Z a0 hw [] a h0 G1 O2 P3 Fc) (g := (mkF m 1 #[.val (.ref a), .val (.int p)] [(.ref a)])) rfl (by rw [hml]; rfl) (lenOf pd7 rfl) rfl (W := 0) (by show 2 * 0 + _ ≤ _; exact Nat.le_of_eq rfl) (hb hby d2_1) (by decide) (by decide) (by decide) (by decide) ?_
  rintro T1 L1 v1 X1 ⟨rfl, rfl, hh1⟩
  show Go pr ev below _ T1 (mkF m 4 #[.val (.ref a), .val (.int p)] [(.int (1 : Int32))])
  refine Go.of (mkF m 7 #[.val (.ref a), .val (.int p)] []) (fun tt0 kk0 => XS.ifNo X1.here hx rfl (hb hby d2_4) rfl ((if0 _ _).trans (feq (by decide)).1) kk0) ?_
  refine Go.of (mkF m 8 #[.val (.ref a), .val (.int p)] [(.ref a)]) (fun tt0 kk0 => XS.aloadN X1.here hx rfl (hb hby d2_7) rfl rfl kk0) ?_
  obtain ⟨T2, X2, e2, st2⟩ := getF X1 hx hZ hown (host := "") (Or.inl (tw26 hw)) Via.refl hh1 Fv (g := (mkF m 8 #[.val (.ref a), .val (.int p)] [(.ref a)])) rfl rfl (hb hby d2_8)
  refine Go.of (mkF m 11 #[.val (.ref a), .val (.int p)] [(.ref d)]) (st2) ?_
  refine Go.of (mkF m 12 #[.val (.ref a), .val (.int p)] [(.int p), (.ref d)]) (fun tt0 kk0 => XS.iloadN X2.here hx rfl (hb hby d2_11) rfl kk0) ?_
  refine Go.callS X2 hx hZ (y := (⟨"java/lang/StringLatin1", "charAt", "([BI)C"⟩ : MethodName)) (argsL := [(.ref d), (.int p)]) (rest := []) hown (tw27 hw) (tw28 hw) (tw29 hw) (tw30 hw) (by decide) e2 (rmLc l Z a0 hw [] d p q y h0 fv hfv O4 V hp hq) (g := (mkF m 12 #[.val (.ref a), .val (.int p)] [(.int p), (.ref d)])) rfl (by rw [hml]; rfl) (lenOf pd8 rfl) rfl (W := 0) (by show 2 * 0 + _ ≤ _; exact Nat.le_of_eq rfl) (hb hby d2_12) (by decide) (by decide) (by decide) (by decide) ?_
  rintro T3 L3 v3 X3 ⟨rfl, rfl, hh3⟩
  show Go pr ev below _ T3 (mkF m 15 #[.val (.ref a), .val (.int p)] [(.int (own_u (y p)))])
  exact Go.retW X3 hx (t := .char) hret hlk (own_u_nar _) (Or.inl ⟨rfl, by simp, _, rfl⟩) (hb hby d2_15) (by decide) (by decide) ⟨rfl, rfl, hh3⟩
theorem ef_rmBa (m : MethodId) (x0 : Int32) (x1 : Int32) : entryFrame m #[(.int x0), (.int x1)] 3 = mkF m 0 #[.val (.int x0), .val (.int x1), .unset] [] := by first | (simp [entryFrame, mkF, argsToLocals, Value.category]; done) | rfl
set_option maxRecDepth 65536 in
set_option maxHeartbeats 40000000 in
theorem rmBa (l : Launch) (Z : State) (a0 : Array Value) (hw : ∀ d ∈ tables_1, d.before a0 Z = true) (ws : List Jvm.Cond) (wW p : Int32) (h0 : Heap) (n0 : Nat) (hz0 : n0 ≤ h0.size) (G1 : Int32) (O2 : Sta Z h0 "java/lang/String" "COMPACT_STRINGS" "Z" (.int G1)) (P3 : ¬ G1 = 0) (fv : Value) (hfv : fv.isRef = true) (O4 : Sta Z h0 "jdk/internal/util/Preconditions" "SIOOBE_FORMATTER" "Ljava/util/function/BiFunction;" fv) (hEL : EW Z a0 own_EL) (wS : ∀ a ∈ Bundle.stringAtoms, a.before a0 Z = true) (hp : ¬ p < 0) (hq : p < 6) :
    MetC l Z own_EL (⟨"com/example/sealed_ledger/sealedledger/http/RoleNamedPinLaw", "base", "(ZI)C"⟩ : MethodName) method_3_code 3 (some .char) ws ({ frames := 4, cells := 2, slots := 28, locals := 53 } : Room) #[(.int wW), (.int p)] h0 (fun v h L => v = some (.int (own_base wW p)) ∧ Fr n0 L ∧ Keep h0 h []) := by
  refine MetC.intro pn9 ?_
  intro pr ev s m below meth c T0 X0 hx hZ hown hby hml hret hlk hnm e0 CL0
  refine Go.cast (ef_rmBa m wW p) ?_
  have N0 := Fr.nil n0
  have hz := hz0
  have K0 : Keep h0 h0 [] := Keep.refl h0 _
  refine Go.of (mkF m 1 #[.val (.int wW), .val (.int p), .unset] [(.int wW)]) (fun tt0 kk0 => XS.iloadN X0.here hx rfl (hb hby d1_0) rfl kk0) ?_
  by_cases hc1 : wW = (0 : Int32)
  ·
    refine Go.of (mkF m 9 #[.val (.int wW), .val (.int p), .unset] []) (fun tt0 kk0 => XS.ifYes X0.here hx rfl (pc0 := 1) (pc' := 9) rfl (hb hby d1_1) rfl ((if0 _ _).trans (teq hc1).1) (by decide) (by decide) kk0) ?_
    refine Go.ldcC X0 hx hZ hown (tw6 hw) wS hEL (by simp [own_EL]) e0 CL0 (vs := [Value.int 114, Value.int 101, Value.int 97, Value.int 100, Value.int 101, Value.int 114]) (z := 6) ⟨by decide, by rfl⟩ (by decide) (by rfl) (g := (mkF m 9 #[.val (.int wW), .val (.int p), .unset] [])) rfl (hb hby d1_9) (n := 24) (by decide) (by decide) (by decide) (by decide) ?_
    rintro a1 d1 T1 h1 X1 e1 E1 hZ hown CL1 rc1 x1 c1 y1 f1 sf1
    replace O2 := O2.ext E1
    replace O4 := O4.ext E1
    replace hz := Nat.le_trans hz E1.1
    replace K0 := K0.ext E1
    have V_d1 : Fa Z h1 d1 .byte 6 (fun i => .int (own_lit [114, 101, 97, 100, 101, 114] i)) := f1.congr fun j q0 q1 => own_lit_ok [114, 101, 97, 100, 101, 114] j
    show Go pr ev below _ T1 (mkF m 11 #[.val (.int wW), .val (.int p), .unset] [(.ref a1)])
    refine Go.of (mkF m 12 #[.val (.int wW), .val (.int p), .val (.ref a1)] []) (fun tt0 kk0 => XS.astoreN X1.here hx rfl (hb hby d1_11) rfl rfl (l' := #[.val (.int wW), .val (.int p), .val (.ref a1)]) rfl kk0) ?_
    refine Go.of (mkF m 13 #[.val (.int wW), .val (.int p), .val (.ref a1)] [(.ref a1)]) (fun tt0 kk0 => XS.aloadN X1.here hx rfl (hb hby d1_12) rfl rfl kk0) ?_
    refine Go.of (mkF m 14 #[.val (.int wW), .val (.int p), .val (.ref a1)] [(.int p), (.ref a1)]) (fun tt0 kk0 => XS.iloadN X1.here hx rfl (hb hby d1_13) rfl kk0) ?_
    refine Go.virt X1 hx hZ (y := (⟨"java/lang/String", "charAt", "(I)C"⟩ : MethodName)) (z := (⟨"java/lang/String", "charAt", "(I)C"⟩ : MethodName)) (a := a1) (argsL := [(.int p)]) (rest := []) hown (tw14 hw) (tw15 hw) (notFace_of_selects (args := #[]) (mvT hZ (tw17 hw))) (tw17 hw) (tw16 hw) (tw7 hw) (tw18 hw) (by decide) e1 x1 (rmCh l Z a0 hw [] a1 d1 p 6 (own_lit [114, 101, 97, 100, 101, 114]) h1 G1 O2 P3 fv hfv O4 x1 c1 y1 V_d1 hp hq) (g := (mkF m 14 #[.val (.int wW), .val (.int p), .val (.ref a1)] [(.int p), (.ref a1)])) rfl (by rw [hml]; rfl) (lenOf pd10 rfl) rfl (W := 0) (by show 2 * 0 + _ ≤ _; exact Nat.le_of_eq rfl) (hb hby d1_14) (by decide) (by decide) (by decide) (by decide) ?_
    rintro T2 L2 v2 X2 ⟨rfl, rfl, hh2⟩
    have N2 := Fr.app N0 (Fr.nil n0)
    show Go pr ev below _ T2 (mkF m 17 #[.val (.int wW), .val (.int p), .val (.ref a1)] [(.int (own_u ((own_lit [114, 101, 97, 100, 101, 114]) p)))])
    exact Go.retWC X2 hx hZ hEL hh2 CL1 (t := .char) hret hlk (own_u_nar _) (Or.inl ⟨rfl, by simp, _, rfl⟩) (hb hby d1_17) (by decide) (by decide) ⟨by simp only [own_base, hc1, if_true, if_false, reduceIte]; rw [own_bR hp hq], N2, (by rw [hh2]; exact K0)⟩
  ·
    refine Go.of (mkF m 4 #[.val (.int wW), .val (.int p), .unset] []) (fun tt0 kk0 => XS.ifNo X0.here hx rfl (hb hby d1_1) rfl ((if0 _ _).trans (feq hc1).1) kk0) ?_
    refine Go.ldcC X0 hx hZ hown (tw93 hw) wS hEL (by simp [own_EL]) e0 CL0 (vs := [Value.int 119, Value.int 114, Value.int 105, Value.int 116, Value.int 101, Value.int 114]) (z := 6) ⟨by decide, by rfl⟩ (by decide) (by rfl) (g := (mkF m 4 #[.val (.int wW), .val (.int p), .unset] [])) rfl (hb hby d1_4) (n := 24) (by decide) (by decide) (by decide) (by decide) ?_
    rintro a3 d3 T3 h3 X3 e3 E3 hZ hown CL3 rc3 x3 c3 y3 f3 sf3
    replace O2 := O2.ext E3
    replace O4 := O4.ext E3
    replace hz := Nat.le_trans hz E3.1
    replace K0 := K0.ext E3
    have V_d3 : Fa Z h3 d3 .byte 6 (fun i => .int (own_lit [119, 114, 105, 116, 101, 114] i)) := f3.congr fun j q0 q1 => own_lit_ok [119, 114, 105, 116, 101, 114] j
    show Go pr ev below _ T3 (mkF m 6 #[.val (.int wW), .val (.int p), .unset] [(.ref a3)])
    refine Go.of (mkF m 11 #[.val (.int wW), .val (.int p), .unset] [(.ref a3)]) (fun tt0 kk0 => XS.goto X3.here hx rfl (pc0 := 6) (pc' := 11) rfl (hb hby d1_6) (by decide) (by decide) kk0) ?_
    refine Go.of (mkF m 12 #[.val (.int wW), .val (.int p), .val (.ref a3)] []) (fun tt0 kk0 => XS.astoreN X3.here hx rfl (hb hby d1_11) rfl rfl (l' := #[.val (.int wW), .val (.int p), .val (.ref a3)]) rfl kk0) ?_
    refine Go.of (mkF m 13 #[.val (.int wW), .val (.int p), .val (.ref a3)] [(.ref a3)]) (fun tt0 kk0 => XS.aloadN X3.here hx rfl (hb hby d1_12) rfl rfl kk0) ?_
    refine Go.of (mkF m 14 #[.val (.int wW), .val (.int p), .val (.ref a3)] [(.int p), (.ref a3)]) (fun tt0 kk0 => XS.iloadN X3.here hx rfl (hb hby d1_13) rfl kk0) ?_
    refine Go.virt X3 hx hZ (y := (⟨"java/lang/String", "charAt", "(I)C"⟩ : MethodName)) (z := (⟨"java/lang/String", "charAt", "(I)C"⟩ : MethodName)) (a := a3) (argsL := [(.int p)]) (rest := []) hown (tw14 hw) (tw15 hw) (notFace_of_selects (args := #[]) (mvT hZ (tw17 hw))) (tw17 hw) (tw16 hw) (tw7 hw) (tw18 hw) (by decide) e3 x3 (rmCh l Z a0 hw [] a3 d3 p 6 (own_lit [119, 114, 105, 116, 101, 114]) h3 G1 O2 P3 fv hfv O4 x3 c3 y3 V_d3 hp hq) (g := (mkF m 14 #[.val (.int wW), .val (.int p), .val (.ref a3)] [(.int p), (.ref a3)])) rfl (by rw [hml]; rfl) (lenOf pd10 rfl) rfl (W := 0) (by show 2 * 0 + _ ≤ _; exact Nat.le_of_eq rfl) (hb hby d1_14) (by decide) (by decide) (by decide) (by decide) ?_
    rintro T4 L4 v4 X4 ⟨rfl, rfl, hh4⟩
    have N4 := Fr.app N0 (Fr.nil n0)
    show Go pr ev below _ T4 (mkF m 17 #[.val (.int wW), .val (.int p), .val (.ref a3)] [(.int (own_u ((own_lit [119, 114, 105, 116, 101, 114]) p)))])
    exact Go.retWC X4 hx hZ hEL hh4 CL3 (t := .char) hret hlk (own_u_nar _) (Or.inl ⟨rfl, by simp, _, rfl⟩) (hb hby d1_17) (by decide) (by decide) ⟨by simp only [own_base, hc1, if_true, if_false, reduceIte]; rw [own_bW hp hq], N4, (by rw [hh4]; exact K0)⟩
theorem ef_rmLq6 (m : MethodId) (x0 : Addr) (x1 : Addr) : entryFrame m #[(.ref x0), (.ref x1)] 3 = mkF m 0 #[.val (.ref x0), .val (.ref x1), .unset] [] := by first | (simp [entryFrame, mkF, argsToLocals, Value.category]; done) | rfl
set_option maxRecDepth 65536 in
set_option maxHeartbeats 40000000 in
theorem rmLq6 (l : Launch) (Z : State) (a0 : Array Value) (hw : ∀ d ∈ tables_1, d.before a0 Z = true) (ws : List Jvm.Cond) (d b : Nat) (q : Int32) (y1 y2 : Int32 → Int32) (h0 : Heap) (V1' : Fa Z h0 d .byte 6 (fun i => .int (y1 i))) (V2' : Fa Z h0 b .byte q (fun i => .int (y2 i))) (hq : q = 6) :
    Met l Z (⟨"java/lang/StringLatin1", "equals", "([B[B)Z"⟩ : MethodName) jdk_43_method_13_code 3 (some .boolean) ws ({ frames := 0, cells := 0, slots := 0, locals := 0 } : Room) #[(.ref d), (.ref b)] h0 (fun v h L => v = some (.int (own_eq6 y1 y2)) ∧ L = [] ∧ h = h0) := by
  refine Met.intro pn11 ?_
  intro pr ev s m below meth c T0 X0 hx hZ hown hby hml hret hlk hnm e0
  refine Go.cast (ef_rmLq6 m d b) ?_
  subst hq
  refine Go.of (mkF m 1 #[.val (.ref d), .val (.ref b), .unset] [(.ref d)]) (fun tt0 kk0 => XS.aloadN X0.here hx rfl (hb hby d16_0) rfl rfl kk0) ?_
  refine Go.arraylength X0 hx hZ e0 V1' (g := (mkF m 1 #[.val (.ref d), .val (.ref b), .unset] [(.ref d)])) rfl rfl (hb hby d16_1) ?_
  show Go pr ev below _ T0 (mkF m 2 #[.val (.ref d), .val (.ref b), .unset] [(.int (6 : Int32))])
  refine Go.of (mkF m 3 #[.val (.ref d), .val (.ref b), .unset] [(.ref b), (.int (6 : Int32))]) (fun tt0 kk0 => XS.aloadN X0.here hx rfl (hb hby d16_2) rfl rfl kk0) ?_
  refine Go.arraylength X0 hx hZ e0 V2' (g := (mkF m 3 #[.val (.ref d), .val (.ref b), .unset] [(.ref b), (.int (6 : Int32))])) rfl rfl (hb hby d16_3) ?_
  show Go pr ev below _ T0 (mkF m 4 #[.val (.ref d), .val (.ref b), .unset] [(.int (6 : Int32)), (.int (6 : Int32))])
  refine Go.of (mkF m 7 #[.val (.ref d), .val (.ref b), .unset] []) (fun tt0 kk0 => XS.icmpNo X0.here hx rfl (hb hby d16_4) rfl (teq (by decide)).2 kk0) ?_
  refine Go.of (mkF m 8 #[.val (.ref d), .val (.ref b), .unset] [(.int (0 : Int32))]) (fun tt0 kk0 => XS.iconst X0.here hx rfl (hb hby d16_7) kk0) ?_
  refine Go.of (mkF m 9 #[.val (.ref d), .val (.ref b), .val (.int (0 : Int32))] []) (fun tt0 kk0 => XS.istoreN X0.here hx rfl (hb hby d16_8) rfl (l' := #[.val (.ref d), .val (.ref b), .val (.int (0 : Int32))]) rfl kk0) ?_
  refine Go.of (mkF m 10 #[.val (.ref d), .val (.ref b), .val (.int (0 : Int32))] [(.int (0 : Int32))]) (fun tt0 kk0 => XS.iloadN X0.here hx rfl (hb hby d16_9) rfl kk0) ?_
  refine Go.of (mkF m 11 #[.val (.ref d), .val (.ref b), .val (.int (0 : Int32))] [(.ref d), (.int (0 : Int32))]) (fun tt0 kk0 => XS.aloadN X0.here hx rfl (hb hby d16_10) rfl rfl kk0) ?_
  refine Go.arraylength X0 hx hZ e0 V1' (g := (mkF m 11 #[.val (.ref d), .val (.ref b), .val (.int (0 : Int32))] [(.ref d), (.int (0 : Int32))])) rfl rfl (hb hby d16_11) ?_
  show Go pr ev below _ T0 (mkF m 12 #[.val (.ref d), .val (.ref b), .val (.int (0 : Int32))] [(.int (6 : Int32)), (.int (0 : Int32))])
  refine Go.of (mkF m 15 #[.val (.ref d), .val (.ref b), .val (.int (0 : Int32))] []) (fun tt0 kk0 => XS.icmpNo X0.here hx rfl (hb hby d16_12) rfl (tlt (by decide)).2.1 kk0) ?_
  refine Go.of (mkF m 16 #[.val (.ref d), .val (.ref b), .val (.int (0 : Int32))] [(.ref d)]) (fun tt0 kk0 => XS.aloadN X0.here hx rfl (hb hby d16_15) rfl rfl kk0) ?_
  refine Go.of (mkF m 17 #[.val (.ref d), .val (.ref b), .val (.int (0 : Int32))] [(.int (0 : Int32)), (.ref d)]) (fun tt0 kk0 => XS.iloadN X0.here hx rfl (hb hby d16_16) rfl kk0) ?_
  refine Go.baload X0 hx hZ e0 V1' (by decide) (by decide) (g := (mkF m 17 #[.val (.ref d), .val (.ref b), .val (.int (0 : Int32))] [(.int (0 : Int32)), (.ref d)])) rfl rfl (hb hby d16_17) ?_
  show Go pr ev below _ T0 (mkF m 18 #[.val (.ref d), .val (.ref b), .val (.int (0 : Int32))] [(.int (y1 (0 : Int32)))])
  show Go pr ev below _ T0 (mkF m 18 #[.val (.ref d), .val (.ref b), .val (.int (0 : Int32))] [(.int (y1 (0 : Int32)))])
  refine Go.of (mkF m 19 #[.val (.ref d), .val (.ref b), .val (.int (0 : Int32))] [(.ref b), (.int (y1 (0 : Int32)))]) (fun tt0 kk0 => XS.aloadN X0.here hx rfl (hb hby d16_18) rfl rfl kk0) ?_
  refine Go.of (mkF m 20 #[.val (.ref d), .val (.ref b), .val (.int (0 : Int32))] [(.int (0 : Int32)), (.ref b), (.int (y1 (0 : Int32)))]) (fun tt0 kk0 => XS.iloadN X0.here hx rfl (hb hby d16_19) rfl kk0) ?_
  refine Go.baload X0 hx hZ e0 V2' (by decide) (by decide) (g := (mkF m 20 #[.val (.ref d), .val (.ref b), .val (.int (0 : Int32))] [(.int (0 : Int32)), (.ref b), (.int (y1 (0 : Int32)))])) rfl rfl (hb hby d16_20) ?_
  show Go pr ev below _ T0 (mkF m 21 #[.val (.ref d), .val (.ref b), .val (.int (0 : Int32))] [(.int (y2 (0 : Int32))), (.int (y1 (0 : Int32)))])
  show Go pr ev below _ T0 (mkF m 21 #[.val (.ref d), .val (.ref b), .val (.int (0 : Int32))] [(.int (y2 (0 : Int32))), (.int (y1 (0 : Int32)))])
  by_cases hc21 : (y1 (0 : Int32)) = (y2 (0 : Int32))
  ·
    refine Go.of (mkF m 26 #[.val (.ref d), .val (.ref b), .val (.int (0 : Int32))] []) (fun tt0 kk0 => XS.icmpYes X0.here hx rfl (pc0 := 21) (pc' := 26) rfl (hb hby d16_21) rfl (teq hc21).1 (by decide) (by decide) kk0) ?_
    refine Go.of (mkF m 29 #[.val (.ref d), .val (.ref b), .val (.int ((0 : Int32) + (1 : Int32)))] []) (fun tt0 kk0 => XS.iinc X0.here hx rfl (hb hby d16_26) rfl (l' := #[.val (.ref d), .val (.ref b), .val (.int ((0 : Int32) + (1 : Int32)))]) rfl kk0) ?_
    rw [show ((0 : Int32) + (1 : Int32)) = (1 : Int32) from by decide]
    refine Go.of (mkF m 9 #[.val (.ref d), .val (.ref b), .val (.int (1 : Int32))] []) (fun tt0 kk0 => XS.goto X0.here hx rfl (pc0 := 29) (pc' := 9) rfl (hb hby d16_29) (by decide) (by decide) kk0) ?_
    refine Go.of (mkF m 10 #[.val (.ref d), .val (.ref b), .val (.int (1 : Int32))] [(.int (1 : Int32))]) (fun tt0 kk0 => XS.iloadN X0.here hx rfl (hb hby d16_9) rfl kk0) ?_
    refine Go.of (mkF m 11 #[.val (.ref d), .val (.ref b), .val (.int (1 : Int32))] [(.ref d), (.int (1 : Int32))]) (fun tt0 kk0 => XS.aloadN X0.here hx rfl (hb hby d16_10) rfl rfl kk0) ?_
    refine Go.arraylength X0 hx hZ e0 V1' (g := (mkF m 11 #[.val (.ref d), .val (.ref b), .val (.int (1 : Int32))] [(.ref d), (.int (1 : Int32))])) rfl rfl (hb hby d16_11) ?_
    show Go pr ev below _ T0 (mkF m 12 #[.val (.ref d), .val (.ref b), .val (.int (1 : Int32))] [(.int (6 : Int32)), (.int (1 : Int32))])
    refine Go.of (mkF m 15 #[.val (.ref d), .val (.ref b), .val (.int (1 : Int32))] []) (fun tt0 kk0 => XS.icmpNo X0.here hx rfl (hb hby d16_12) rfl (tlt (by decide)).2.1 kk0) ?_
    refine Go.of (mkF m 16 #[.val (.ref d), .val (.ref b), .val (.int (1 : Int32))] [(.ref d)]) (fun tt0 kk0 => XS.aloadN X0.here hx rfl (hb hby d16_15) rfl rfl kk0) ?_
    refine Go.of (mkF m 17 #[.val (.ref d), .val (.ref b), .val (.int (1 : Int32))] [(.int (1 : Int32)), (.ref d)]) (fun tt0 kk0 => XS.iloadN X0.here hx rfl (hb hby d16_16) rfl kk0) ?_
    refine Go.baload X0 hx hZ e0 V1' (by decide) (by decide) (g := (mkF m 17 #[.val (.ref d), .val (.ref b), .val (.int (1 : Int32))] [(.int (1 : Int32)), (.ref d)])) rfl rfl (hb hby d16_17) ?_
    show Go pr ev below _ T0 (mkF m 18 #[.val (.ref d), .val (.ref b), .val (.int (1 : Int32))] [(.int (y1 (1 : Int32)))])
    show Go pr ev below _ T0 (mkF m 18 #[.val (.ref d), .val (.ref b), .val (.int (1 : Int32))] [(.int (y1 (1 : Int32)))])
    refine Go.of (mkF m 19 #[.val (.ref d), .val (.ref b), .val (.int (1 : Int32))] [(.ref b), (.int (y1 (1 : Int32)))]) (fun tt0 kk0 => XS.aloadN X0.here hx rfl (hb hby d16_18) rfl rfl kk0) ?_
    refine Go.of (mkF m 20 #[.val (.ref d), .val (.ref b), .val (.int (1 : Int32))] [(.int (1 : Int32)), (.ref b), (.int (y1 (1 : Int32)))]) (fun tt0 kk0 => XS.iloadN X0.here hx rfl (hb hby d16_19) rfl kk0) ?_
    refine Go.baload X0 hx hZ e0 V2' (by decide) (by decide) (g := (mkF m 20 #[.val (.ref d), .val (.ref b), .val (.int (1 : Int32))] [(.int (1 : Int32)), (.ref b), (.int (y1 (1 : Int32)))])) rfl rfl (hb hby d16_20) ?_
    show Go pr ev below _ T0 (mkF m 21 #[.val (.ref d), .val (.ref b), .val (.int (1 : Int32))] [(.int (y2 (1 : Int32))), (.int (y1 (1 : Int32)))])
    show Go pr ev below _ T0 (mkF m 21 #[.val (.ref d), .val (.ref b), .val (.int (1 : Int32))] [(.int (y2 (1 : Int32))), (.int (y1 (1 : Int32)))])
    by_cases hc21b : (y1 (1 : Int32)) = (y2 (1 : Int32))
    ·
      refine Go.of (mkF m 26 #[.val (.ref d), .val (.ref b), .val (.int (1 : Int32))] []) (fun tt0 kk0 => XS.icmpYes X0.here hx rfl (pc0 := 21) (pc' := 26) rfl (hb hby d16_21) rfl (teq hc21b).1 (by decide) (by decide) kk0) ?_
      refine Go.of (mkF m 29 #[.val (.ref d), .val (.ref b), .val (.int ((1 : Int32) + (1 : Int32)))] []) (fun tt0 kk0 => XS.iinc X0.here hx rfl (hb hby d16_26) rfl (l' := #[.val (.ref d), .val (.ref b), .val (.int ((1 : Int32) + (1 : Int32)))]) rfl kk0) ?_
      rw [show ((1 : Int32) + (1 : Int32)) = (2 : Int32) from by decide]
      refine Go.of (mkF m 9 #[.val (.ref d), .val (.ref b), .val (.int (2 : Int32))] []) (fun tt0 kk0 => XS.goto X0.here hx rfl (pc0 := 29) (pc' := 9) rfl (hb hby d16_29) (by decide) (by decide) kk0) ?_
      refine Go.of (mkF m 10 #[.val (.ref d), .val (.ref b), .val (.int (2 : Int32))] [(.int (2 : Int32))]) (fun tt0 kk0 => XS.iloadN X0.here hx rfl (hb hby d16_9) rfl kk0) ?_
      refine Go.of (mkF m 11 #[.val (.ref d), .val (.ref b), .val (.int (2 : Int32))] [(.ref d), (.int (2 : Int32))]) (fun tt0 kk0 => XS.aloadN X0.here hx rfl (hb hby d16_10) rfl rfl kk0) ?_
      refine Go.arraylength X0 hx hZ e0 V1' (g := (mkF m 11 #[.val (.ref d), .val (.ref b), .val (.int (2 : Int32))] [(.ref d), (.int (2 : Int32))])) rfl rfl (hb hby d16_11) ?_
      show Go pr ev below _ T0 (mkF m 12 #[.val (.ref d), .val (.ref b), .val (.int (2 : Int32))] [(.int (6 : Int32)), (.int (2 : Int32))])
      refine Go.of (mkF m 15 #[.val (.ref d), .val (.ref b), .val (.int (2 : Int32))] []) (fun tt0 kk0 => XS.icmpNo X0.here hx rfl (hb hby d16_12) rfl (tlt (by decide)).2.1 kk0) ?_
      refine Go.of (mkF m 16 #[.val (.ref d), .val (.ref b), .val (.int (2 : Int32))] [(.ref d)]) (fun tt0 kk0 => XS.aloadN X0.here hx rfl (hb hby d16_15) rfl rfl kk0) ?_
      refine Go.of (mkF m 17 #[.val (.ref d), .val (.ref b), .val (.int (2 : Int32))] [(.int (2 : Int32)), (.ref d)]) (fun tt0 kk0 => XS.iloadN X0.here hx rfl (hb hby d16_16) rfl kk0) ?_
      refine Go.baload X0 hx hZ e0 V1' (by decide) (by decide) (g := (mkF m 17 #[.val (.ref d), .val (.ref b), .val (.int (2 : Int32))] [(.int (2 : Int32)), (.ref d)])) rfl rfl (hb hby d16_17) ?_
      show Go pr ev below _ T0 (mkF m 18 #[.val (.ref d), .val (.ref b), .val (.int (2 : Int32))] [(.int (y1 (2 : Int32)))])
      show Go pr ev below _ T0 (mkF m 18 #[.val (.ref d), .val (.ref b), .val (.int (2 : Int32))] [(.int (y1 (2 : Int32)))])
      refine Go.of (mkF m 19 #[.val (.ref d), .val (.ref b), .val (.int (2 : Int32))] [(.ref b), (.int (y1 (2 : Int32)))]) (fun tt0 kk0 => XS.aloadN X0.here hx rfl (hb hby d16_18) rfl rfl kk0) ?_
      refine Go.of (mkF m 20 #[.val (.ref d), .val (.ref b), .val (.int (2 : Int32))] [(.int (2 : Int32)), (.ref b), (.int (y1 (2 : Int32)))]) (fun tt0 kk0 => XS.iloadN X0.here hx rfl (hb hby d16_19) rfl kk0) ?_
      refine Go.baload X0 hx hZ e0 V2' (by decide) (by decide) (g := (mkF m 20 #[.val (.ref d), .val (.ref b), .val (.int (2 : Int32))] [(.int (2 : Int32)), (.ref b), (.int (y1 (2 : Int32)))])) rfl rfl (hb hby d16_20) ?_
      show Go pr ev below _ T0 (mkF m 21 #[.val (.ref d), .val (.ref b), .val (.int (2 : Int32))] [(.int (y2 (2 : Int32))), (.int (y1 (2 : Int32)))])
      show Go pr ev below _ T0 (mkF m 21 #[.val (.ref d), .val (.ref b), .val (.int (2 : Int32))] [(.int (y2 (2 : Int32))), (.int (y1 (2 : Int32)))])
      by_cases hc21bb : (y1 (2 : Int32)) = (y2 (2 : Int32))
      ·
        refine Go.of (mkF m 26 #[.val (.ref d), .val (.ref b), .val (.int (2 : Int32))] []) (fun tt0 kk0 => XS.icmpYes X0.here hx rfl (pc0 := 21) (pc' := 26) rfl (hb hby d16_21) rfl (teq hc21bb).1 (by decide) (by decide) kk0) ?_
        refine Go.of (mkF m 29 #[.val (.ref d), .val (.ref b), .val (.int ((2 : Int32) + (1 : Int32)))] []) (fun tt0 kk0 => XS.iinc X0.here hx rfl (hb hby d16_26) rfl (l' := #[.val (.ref d), .val (.ref b), .val (.int ((2 : Int32) + (1 : Int32)))]) rfl kk0) ?_
        rw [show ((2 : Int32) + (1 : Int32)) = (3 : Int32) from by decide]
        refine Go.of (mkF m 9 #[.val (.ref d), .val (.ref b), .val (.int (3 : Int32))] []) (fun tt0 kk0 => XS.goto X0.here hx rfl (pc0 := 29) (pc' := 9) rfl (hb hby d16_29) (by decide) (by decide) kk0) ?_
        refine Go.of (mkF m 10 #[.val (.ref d), .val (.ref b), .val (.int (3 : Int32))] [(.int (3 : Int32))]) (fun tt0 kk0 => XS.iloadN X0.here hx rfl (hb hby d16_9) rfl kk0) ?_
        refine Go.of (mkF m 11 #[.val (.ref d), .val (.ref b), .val (.int (3 : Int32))] [(.ref d), (.int (3 : Int32))]) (fun tt0 kk0 => XS.aloadN X0.here hx rfl (hb hby d16_10) rfl rfl kk0) ?_
        refine Go.arraylength X0 hx hZ e0 V1' (g := (mkF m 11 #[.val (.ref d), .val (.ref b), .val (.int (3 : Int32))] [(.ref d), (.int (3 : Int32))])) rfl rfl (hb hby d16_11) ?_
        show Go pr ev below _ T0 (mkF m 12 #[.val (.ref d), .val (.ref b), .val (.int (3 : Int32))] [(.int (6 : Int32)), (.int (3 : Int32))])
        refine Go.of (mkF m 15 #[.val (.ref d), .val (.ref b), .val (.int (3 : Int32))] []) (fun tt0 kk0 => XS.icmpNo X0.here hx rfl (hb hby d16_12) rfl (tlt (by decide)).2.1 kk0) ?_
        refine Go.of (mkF m 16 #[.val (.ref d), .val (.ref b), .val (.int (3 : Int32))] [(.ref d)]) (fun tt0 kk0 => XS.aloadN X0.here hx rfl (hb hby d16_15) rfl rfl kk0) ?_
        refine Go.of (mkF m 17 #[.val (.ref d), .val (.ref b), .val (.int (3 : Int32))] [(.int (3 : Int32)), (.ref d)]) (fun tt0 kk0 => XS.iloadN X0.here hx rfl (hb hby d16_16) rfl kk0) ?_
        refine Go.baload X0 hx hZ e0 V1' (by decide) (by decide) (g := (mkF m 17 #[.val (.ref d), .val (.ref b), .val (.int (3 : Int32))] [(.int (3 : Int32)), (.ref d)])) rfl rfl (hb hby d16_17) ?_
        show Go pr ev below _ T0 (mkF m 18 #[.val (.ref d), .val (.ref b), .val (.int (3 : Int32))] [(.int (y1 (3 : Int32)))])
        show Go pr ev below _ T0 (mkF m 18 #[.val (.ref d), .val (.ref b), .val (.int (3 : Int32))] [(.int (y1 (3 : Int32)))])
        refine Go.of (mkF m 19 #[.val (.ref d), .val (.ref b), .val (.int (3 : Int32))] [(.ref b), (.int (y1 (3 : Int32)))]) (fun tt0 kk0 => XS.aloadN X0.here hx rfl (hb hby d16_18) rfl rfl kk0) ?_
        refine Go.of (mkF m 20 #[.val (.ref d), .val (.ref b), .val (.int (3 : Int32))] [(.int (3 : Int32)), (.ref b), (.int (y1 (3 : Int32)))]) (fun tt0 kk0 => XS.iloadN X0.here hx rfl (hb hby d16_19) rfl kk0) ?_
        refine Go.baload X0 hx hZ e0 V2' (by decide) (by decide) (g := (mkF m 20 #[.val (.ref d), .val (.ref b), .val (.int (3 : Int32))] [(.int (3 : Int32)), (.ref b), (.int (y1 (3 : Int32)))])) rfl rfl (hb hby d16_20) ?_
        show Go pr ev below _ T0 (mkF m 21 #[.val (.ref d), .val (.ref b), .val (.int (3 : Int32))] [(.int (y2 (3 : Int32))), (.int (y1 (3 : Int32)))])
        show Go pr ev below _ T0 (mkF m 21 #[.val (.ref d), .val (.ref b), .val (.int (3 : Int32))] [(.int (y2 (3 : Int32))), (.int (y1 (3 : Int32)))])
        by_cases hc21bbb : (y1 (3 : Int32)) = (y2 (3 : Int32))
        ·
          refine Go.of (mkF m 26 #[.val (.ref d), .val (.ref b), .val (.int (3 : Int32))] []) (fun tt0 kk0 => XS.icmpYes X0.here hx rfl (pc0 := 21) (pc' := 26) rfl (hb hby d16_21) rfl (teq hc21bbb).1 (by decide) (by decide) kk0) ?_
          refine Go.of (mkF m 29 #[.val (.ref d), .val (.ref b), .val (.int ((3 : Int32) + (1 : Int32)))] []) (fun tt0 kk0 => XS.iinc X0.here hx rfl (hb hby d16_26) rfl (l' := #[.val (.ref d), .val (.ref b), .val (.int ((3 : Int32) + (1 : Int32)))]) rfl kk0) ?_
          rw [show ((3 : Int32) + (1 : Int32)) = (4 : Int32) from by decide]
          refine Go.of (mkF m 9 #[.val (.ref d), .val (.ref b), .val (.int (4 : Int32))] []) (fun tt0 kk0 => XS.goto X0.here hx rfl (pc0 := 29) (pc' := 9) rfl (hb hby d16_29) (by decide) (by decide) kk0) ?_
          refine Go.of (mkF m 10 #[.val (.ref d), .val (.ref b), .val (.int (4 : Int32))] [(.int (4 : Int32))]) (fun tt0 kk0 => XS.iloadN X0.here hx rfl (hb hby d16_9) rfl kk0) ?_
          refine Go.of (mkF m 11 #[.val (.ref d), .val (.ref b), .val (.int (4 : Int32))] [(.ref d), (.int (4 : Int32))]) (fun tt0 kk0 => XS.aloadN X0.here hx rfl (hb hby d16_10) rfl rfl kk0) ?_
          refine Go.arraylength X0 hx hZ e0 V1' (g := (mkF m 11 #[.val (.ref d), .val (.ref b), .val (.int (4 : Int32))] [(.ref d), (.int (4 : Int32))])) rfl rfl (hb hby d16_11) ?_
          show Go pr ev below _ T0 (mkF m 12 #[.val (.ref d), .val (.ref b), .val (.int (4 : Int32))] [(.int (6 : Int32)), (.int (4 : Int32))])
          refine Go.of (mkF m 15 #[.val (.ref d), .val (.ref b), .val (.int (4 : Int32))] []) (fun tt0 kk0 => XS.icmpNo X0.here hx rfl (hb hby d16_12) rfl (tlt (by decide)).2.1 kk0) ?_
          refine Go.of (mkF m 16 #[.val (.ref d), .val (.ref b), .val (.int (4 : Int32))] [(.ref d)]) (fun tt0 kk0 => XS.aloadN X0.here hx rfl (hb hby d16_15) rfl rfl kk0) ?_
          refine Go.of (mkF m 17 #[.val (.ref d), .val (.ref b), .val (.int (4 : Int32))] [(.int (4 : Int32)), (.ref d)]) (fun tt0 kk0 => XS.iloadN X0.here hx rfl (hb hby d16_16) rfl kk0) ?_
          refine Go.baload X0 hx hZ e0 V1' (by decide) (by decide) (g := (mkF m 17 #[.val (.ref d), .val (.ref b), .val (.int (4 : Int32))] [(.int (4 : Int32)), (.ref d)])) rfl rfl (hb hby d16_17) ?_
          show Go pr ev below _ T0 (mkF m 18 #[.val (.ref d), .val (.ref b), .val (.int (4 : Int32))] [(.int (y1 (4 : Int32)))])
          show Go pr ev below _ T0 (mkF m 18 #[.val (.ref d), .val (.ref b), .val (.int (4 : Int32))] [(.int (y1 (4 : Int32)))])
          refine Go.of (mkF m 19 #[.val (.ref d), .val (.ref b), .val (.int (4 : Int32))] [(.ref b), (.int (y1 (4 : Int32)))]) (fun tt0 kk0 => XS.aloadN X0.here hx rfl (hb hby d16_18) rfl rfl kk0) ?_
          refine Go.of (mkF m 20 #[.val (.ref d), .val (.ref b), .val (.int (4 : Int32))] [(.int (4 : Int32)), (.ref b), (.int (y1 (4 : Int32)))]) (fun tt0 kk0 => XS.iloadN X0.here hx rfl (hb hby d16_19) rfl kk0) ?_
          refine Go.baload X0 hx hZ e0 V2' (by decide) (by decide) (g := (mkF m 20 #[.val (.ref d), .val (.ref b), .val (.int (4 : Int32))] [(.int (4 : Int32)), (.ref b), (.int (y1 (4 : Int32)))])) rfl rfl (hb hby d16_20) ?_
          show Go pr ev below _ T0 (mkF m 21 #[.val (.ref d), .val (.ref b), .val (.int (4 : Int32))] [(.int (y2 (4 : Int32))), (.int (y1 (4 : Int32)))])
          show Go pr ev below _ T0 (mkF m 21 #[.val (.ref d), .val (.ref b), .val (.int (4 : Int32))] [(.int (y2 (4 : Int32))), (.int (y1 (4 : Int32)))])
          by_cases hc21bbbb : (y1 (4 : Int32)) = (y2 (4 : Int32))
          ·
            refine Go.of (mkF m 26 #[.val (.ref d), .val (.ref b), .val (.int (4 : Int32))] []) (fun tt0 kk0 => XS.icmpYes X0.here hx rfl (pc0 := 21) (pc' := 26) rfl (hb hby d16_21) rfl (teq hc21bbbb).1 (by decide) (by decide) kk0) ?_
            refine Go.of (mkF m 29 #[.val (.ref d), .val (.ref b), .val (.int ((4 : Int32) + (1 : Int32)))] []) (fun tt0 kk0 => XS.iinc X0.here hx rfl (hb hby d16_26) rfl (l' := #[.val (.ref d), .val (.ref b), .val (.int ((4 : Int32) + (1 : Int32)))]) rfl kk0) ?_
            rw [show ((4 : Int32) + (1 : Int32)) = (5 : Int32) from by decide]
            refine Go.of (mkF m 9 #[.val (.ref d), .val (.ref b), .val (.int (5 : Int32))] []) (fun tt0 kk0 => XS.goto X0.here hx rfl (pc0 := 29) (pc' := 9) rfl (hb hby d16_29) (by decide) (by decide) kk0) ?_
            refine Go.of (mkF m 10 #[.val (.ref d), .val (.ref b), .val (.int (5 : Int32))] [(.int (5 : Int32))]) (fun tt0 kk0 => XS.iloadN X0.here hx rfl (hb hby d16_9) rfl kk0) ?_
            refine Go.of (mkF m 11 #[.val (.ref d), .val (.ref b), .val (.int (5 : Int32))] [(.ref d), (.int (5 : Int32))]) (fun tt0 kk0 => XS.aloadN X0.here hx rfl (hb hby d16_10) rfl rfl kk0) ?_
            refine Go.arraylength X0 hx hZ e0 V1' (g := (mkF m 11 #[.val (.ref d), .val (.ref b), .val (.int (5 : Int32))] [(.ref d), (.int (5 : Int32))])) rfl rfl (hb hby d16_11) ?_
            show Go pr ev below _ T0 (mkF m 12 #[.val (.ref d), .val (.ref b), .val (.int (5 : Int32))] [(.int (6 : Int32)), (.int (5 : Int32))])
            refine Go.of (mkF m 15 #[.val (.ref d), .val (.ref b), .val (.int (5 : Int32))] []) (fun tt0 kk0 => XS.icmpNo X0.here hx rfl (hb hby d16_12) rfl (tlt (by decide)).2.1 kk0) ?_
            refine Go.of (mkF m 16 #[.val (.ref d), .val (.ref b), .val (.int (5 : Int32))] [(.ref d)]) (fun tt0 kk0 => XS.aloadN X0.here hx rfl (hb hby d16_15) rfl rfl kk0) ?_
            refine Go.of (mkF m 17 #[.val (.ref d), .val (.ref b), .val (.int (5 : Int32))] [(.int (5 : Int32)), (.ref d)]) (fun tt0 kk0 => XS.iloadN X0.here hx rfl (hb hby d16_16) rfl kk0) ?_
            refine Go.baload X0 hx hZ e0 V1' (by decide) (by decide) (g := (mkF m 17 #[.val (.ref d), .val (.ref b), .val (.int (5 : Int32))] [(.int (5 : Int32)), (.ref d)])) rfl rfl (hb hby d16_17) ?_
            show Go pr ev below _ T0 (mkF m 18 #[.val (.ref d), .val (.ref b), .val (.int (5 : Int32))] [(.int (y1 (5 : Int32)))])
            show Go pr ev below _ T0 (mkF m 18 #[.val (.ref d), .val (.ref b), .val (.int (5 : Int32))] [(.int (y1 (5 : Int32)))])
            refine Go.of (mkF m 19 #[.val (.ref d), .val (.ref b), .val (.int (5 : Int32))] [(.ref b), (.int (y1 (5 : Int32)))]) (fun tt0 kk0 => XS.aloadN X0.here hx rfl (hb hby d16_18) rfl rfl kk0) ?_
            refine Go.of (mkF m 20 #[.val (.ref d), .val (.ref b), .val (.int (5 : Int32))] [(.int (5 : Int32)), (.ref b), (.int (y1 (5 : Int32)))]) (fun tt0 kk0 => XS.iloadN X0.here hx rfl (hb hby d16_19) rfl kk0) ?_
            refine Go.baload X0 hx hZ e0 V2' (by decide) (by decide) (g := (mkF m 20 #[.val (.ref d), .val (.ref b), .val (.int (5 : Int32))] [(.int (5 : Int32)), (.ref b), (.int (y1 (5 : Int32)))])) rfl rfl (hb hby d16_20) ?_
            show Go pr ev below _ T0 (mkF m 21 #[.val (.ref d), .val (.ref b), .val (.int (5 : Int32))] [(.int (y2 (5 : Int32))), (.int (y1 (5 : Int32)))])
            show Go pr ev below _ T0 (mkF m 21 #[.val (.ref d), .val (.ref b), .val (.int (5 : Int32))] [(.int (y2 (5 : Int32))), (.int (y1 (5 : Int32)))])
            by_cases hc21bbbbb : (y1 (5 : Int32)) = (y2 (5 : Int32))
            ·
              refine Go.of (mkF m 26 #[.val (.ref d), .val (.ref b), .val (.int (5 : Int32))] []) (fun tt0 kk0 => XS.icmpYes X0.here hx rfl (pc0 := 21) (pc' := 26) rfl (hb hby d16_21) rfl (teq hc21bbbbb).1 (by decide) (by decide) kk0) ?_
              refine Go.of (mkF m 29 #[.val (.ref d), .val (.ref b), .val (.int ((5 : Int32) + (1 : Int32)))] []) (fun tt0 kk0 => XS.iinc X0.here hx rfl (hb hby d16_26) rfl (l' := #[.val (.ref d), .val (.ref b), .val (.int ((5 : Int32) + (1 : Int32)))]) rfl kk0) ?_
              rw [show ((5 : Int32) + (1 : Int32)) = (6 : Int32) from by decide]
              refine Go.of (mkF m 9 #[.val (.ref d), .val (.ref b), .val (.int (6 : Int32))] []) (fun tt0 kk0 => XS.goto X0.here hx rfl (pc0 := 29) (pc' := 9) rfl (hb hby d16_29) (by decide) (by decide) kk0) ?_
              refine Go.of (mkF m 10 #[.val (.ref d), .val (.ref b), .val (.int (6 : Int32))] [(.int (6 : Int32))]) (fun tt0 kk0 => XS.iloadN X0.here hx rfl (hb hby d16_9) rfl kk0) ?_
              refine Go.of (mkF m 11 #[.val (.ref d), .val (.ref b), .val (.int (6 : Int32))] [(.ref d), (.int (6 : Int32))]) (fun tt0 kk0 => XS.aloadN X0.here hx rfl (hb hby d16_10) rfl rfl kk0) ?_
              refine Go.arraylength X0 hx hZ e0 V1' (g := (mkF m 11 #[.val (.ref d), .val (.ref b), .val (.int (6 : Int32))] [(.ref d), (.int (6 : Int32))])) rfl rfl (hb hby d16_11) ?_
              show Go pr ev below _ T0 (mkF m 12 #[.val (.ref d), .val (.ref b), .val (.int (6 : Int32))] [(.int (6 : Int32)), (.int (6 : Int32))])
              refine Go.of (mkF m 32 #[.val (.ref d), .val (.ref b), .val (.int (6 : Int32))] []) (fun tt0 kk0 => XS.icmpYes X0.here hx rfl (pc0 := 12) (pc' := 32) rfl (hb hby d16_12) rfl (flt (by decide)).2.1 (by decide) (by decide) kk0) ?_
              refine Go.of (mkF m 33 #[.val (.ref d), .val (.ref b), .val (.int (6 : Int32))] [(.int (1 : Int32))]) (fun tt0 kk0 => XS.iconst X0.here hx rfl (hb hby d16_32) kk0) ?_
              exact Go.retW X0 hx (t := .boolean) hret hlk rfl (Or.inl ⟨rfl, by simp, _, rfl⟩) (hb hby d16_33) (by decide) (by decide) ⟨by simp [own_eq6, hc21, hc21b, hc21bb, hc21bbb, hc21bbbb, hc21bbbbb], rfl, e0⟩
            ·
              refine Go.of (mkF m 24 #[.val (.ref d), .val (.ref b), .val (.int (5 : Int32))] []) (fun tt0 kk0 => XS.icmpNo X0.here hx rfl (hb hby d16_21) rfl (feq hc21bbbbb).1 kk0) ?_
              refine Go.of (mkF m 25 #[.val (.ref d), .val (.ref b), .val (.int (5 : Int32))] [(.int (0 : Int32))]) (fun tt0 kk0 => XS.iconst X0.here hx rfl (hb hby d16_24) kk0) ?_
              exact Go.retW X0 hx (t := .boolean) hret hlk rfl (Or.inl ⟨rfl, by simp, _, rfl⟩) (hb hby d16_25) (by decide) (by decide) ⟨by simp [own_eq6, hc21, hc21b, hc21bb, hc21bbb, hc21bbbb, hc21bbbbb], rfl, e0⟩
          ·
            refine Go.of (mkF m 24 #[.val (.ref d), .val (.ref b), .val (.int (4 : Int32))] []) (fun tt0 kk0 => XS.icmpNo X0.here hx rfl (hb hby d16_21) rfl (feq hc21bbbb).1 kk0) ?_
            refine Go.of (mkF m 25 #[.val (.ref d), .val (.ref b), .val (.int (4 : Int32))] [(.int (0 : Int32))]) (fun tt0 kk0 => XS.iconst X0.here hx rfl (hb hby d16_24) kk0) ?_
            exact Go.retW X0 hx (t := .boolean) hret hlk rfl (Or.inl ⟨rfl, by simp, _, rfl⟩) (hb hby d16_25) (by decide) (by decide) ⟨by simp [own_eq6, hc21, hc21b, hc21bb, hc21bbb, hc21bbbb], rfl, e0⟩
        ·
          refine Go.of (mkF m 24 #[.val (.ref d), .val (.ref b), .val (.int (3 : Int32))] []) (fun tt0 kk0 => XS.icmpNo X0.here hx rfl (hb hby d16_21) rfl (feq hc21bbb).1 kk0) ?_
          refine Go.of (mkF m 25 #[.val (.ref d), .val (.ref b), .val (.int (3 : Int32))] [(.int (0 : Int32))]) (fun tt0 kk0 => XS.iconst X0.here hx rfl (hb hby d16_24) kk0) ?_
          exact Go.retW X0 hx (t := .boolean) hret hlk rfl (Or.inl ⟨rfl, by simp, _, rfl⟩) (hb hby d16_25) (by decide) (by decide) ⟨by simp [own_eq6, hc21, hc21b, hc21bb, hc21bbb], rfl, e0⟩
      ·
        refine Go.of (mkF m 24 #[.val (.ref d), .val (.ref b), .val (.int (2 : Int32))] []) (fun tt0 kk0 => XS.icmpNo X0.here hx rfl (hb hby d16_21) rfl (feq hc21bb).1 kk0) ?_
        refine Go.of (mkF m 25 #[.val (.ref d), .val (.ref b), .val (.int (2 : Int32))] [(.int (0 : Int32))]) (fun tt0 kk0 => XS.iconst X0.here hx rfl (hb hby d16_24) kk0) ?_
        exact Go.retW X0 hx (t := .boolean) hret hlk rfl (Or.inl ⟨rfl, by simp, _, rfl⟩) (hb hby d16_25) (by decide) (by decide) ⟨by simp [own_eq6, hc21, hc21b, hc21bb], rfl, e0⟩
    ·
      refine Go.of (mkF m 24 #[.val (.ref d), .val (.ref b), .val (.int (1 : Int32))] []) (fun tt0 kk0 => XS.icmpNo X0.here hx rfl (hb hby d16_21) rfl (feq hc21b).1 kk0) ?_
      refine Go.of (mkF m 25 #[.val (.ref d), .val (.ref b), .val (.int (1 : Int32))] [(.int (0 : Int32))]) (fun tt0 kk0 => XS.iconst X0.here hx rfl (hb hby d16_24) kk0) ?_
      exact Go.retW X0 hx (t := .boolean) hret hlk rfl (Or.inl ⟨rfl, by simp, _, rfl⟩) (hb hby d16_25) (by decide) (by decide) ⟨by simp [own_eq6, hc21, hc21b], rfl, e0⟩
  ·
    refine Go.of (mkF m 24 #[.val (.ref d), .val (.ref b), .val (.int (0 : Int32))] []) (fun tt0 kk0 => XS.icmpNo X0.here hx rfl (hb hby d16_21) rfl (feq hc21).1 kk0) ?_
    refine Go.of (mkF m 25 #[.val (.ref d), .val (.ref b), .val (.int (0 : Int32))] [(.int (0 : Int32))]) (fun tt0 kk0 => XS.iconst X0.here hx rfl (hb hby d16_24) kk0) ?_
    exact Go.retW X0 hx (t := .boolean) hret hlk rfl (Or.inl ⟨rfl, by simp, _, rfl⟩) (hb hby d16_25) (by decide) (by decide) ⟨by simp [own_eq6, hc21], rfl, e0⟩
theorem ef_rmLqD (m : MethodId) (x0 : Addr) (x1 : Addr) : entryFrame m #[(.ref x0), (.ref x1)] 3 = mkF m 0 #[.val (.ref x0), .val (.ref x1), .unset] [] := by first | (simp [entryFrame, mkF, argsToLocals, Value.category]; done) | rfl
set_option maxRecDepth 65536 in
set_option maxHeartbeats 40000000 in
theorem rmLqD (l : Launch) (Z : State) (a0 : Array Value) (hw : ∀ d ∈ tables_1, d.before a0 Z = true) (ws : List Jvm.Cond) (d b : Nat) (q : Int32) (y1 y2 : Int32 → Int32) (h0 : Heap) (V1' : Fa Z h0 d .byte 6 (fun i => .int (y1 i))) (V2' : Fa Z h0 b .byte q (fun i => .int (y2 i))) (hq : ¬ q = 6) :
    Met l Z (⟨"java/lang/StringLatin1", "equals", "([B[B)Z"⟩ : MethodName) jdk_43_method_13_code 3 (some .boolean) ws ({ frames := 0, cells := 0, slots := 0, locals := 0 } : Room) #[(.ref d), (.ref b)] h0 (fun v h L => v = some (.int 0) ∧ L = [] ∧ h = h0) := by
  refine Met.intro pn11 ?_
  intro pr ev s m below meth c T0 X0 hx hZ hown hby hml hret hlk hnm e0
  refine Go.cast (ef_rmLqD m d b) ?_
  refine Go.of (mkF m 1 #[.val (.ref d), .val (.ref b), .unset] [(.ref d)]) (fun tt0 kk0 => XS.aloadN X0.here hx rfl (hb hby d16_0) rfl rfl kk0) ?_
  refine Go.arraylength X0 hx hZ e0 V1' (g := (mkF m 1 #[.val (.ref d), .val (.ref b), .unset] [(.ref d)])) rfl rfl (hb hby d16_1) ?_
  show Go pr ev below _ T0 (mkF m 2 #[.val (.ref d), .val (.ref b), .unset] [(.int (6 : Int32))])
  refine Go.of (mkF m 3 #[.val (.ref d), .val (.ref b), .unset] [(.ref b), (.int (6 : Int32))]) (fun tt0 kk0 => XS.aloadN X0.here hx rfl (hb hby d16_2) rfl rfl kk0) ?_
  refine Go.arraylength X0 hx hZ e0 V2' (g := (mkF m 3 #[.val (.ref d), .val (.ref b), .unset] [(.ref b), (.int (6 : Int32))])) rfl rfl (hb hby d16_3) ?_
  show Go pr ev below _ T0 (mkF m 4 #[.val (.ref d), .val (.ref b), .unset] [(.int q), (.int (6 : Int32))])
  refine Go.of (mkF m 34 #[.val (.ref d), .val (.ref b), .unset] []) (fun tt0 kk0 => XS.icmpYes X0.here hx rfl (pc0 := 4) (pc' := 34) rfl (hb hby d16_4) rfl (feq (fun z => hq z.symm)).2 (by decide) (by decide) kk0) ?_
  refine Go.of (mkF m 35 #[.val (.ref d), .val (.ref b), .unset] [(.int (0 : Int32))]) (fun tt0 kk0 => XS.iconst X0.here hx rfl (hb hby d16_34) kk0) ?_
  exact Go.retW X0 hx (t := .boolean) hret hlk rfl (Or.inl ⟨rfl, by simp, _, rfl⟩) (hb hby d16_35) (by decide) (by decide) ⟨rfl, rfl, e0⟩
theorem ef_rmEq6 (m : MethodId) (x0 : Addr) (x1 : Addr) : entryFrame m #[(.ref x0), (.ref x1)] 3 = mkF m 0 #[.val (.ref x0), .val (.ref x1), .unset] [] := by first | (simp [entryFrame, mkF, argsToLocals, Value.category]; done) | rfl
set_option maxRecDepth 65536 in
set_option maxHeartbeats 40000000 in
theorem rmEq6 (l : Launch) (Z : State) (a0 : Array Value) (hw : ∀ d ∈ tables_1, d.before a0 Z = true) (ws : List Jvm.Cond) (a d : Nat) (y1 : Int32 → Int32) (h0 : Heap) (G1 : Int32) (O2 : Sta Z h0 "java/lang/String" "COMPACT_STRINGS" "Z" (.int G1)) (P3 : ¬ G1 = 0) (E_a : Exa Z h0 a "java/lang/String") (C_a : Fld Z h0 a "java/lang/String" "coder" "B" (.int 0)) (V_a : Fld Z h0 a "java/lang/String" "value" "[B" (.ref d)) (A_a : Fa Z h0 d .byte 6 (fun i => .int (y1 i))) (b f : Nat) (q : Int32) (y2 : Int32 → Int32) (E_b : Exa Z h0 b "java/lang/String") (C_b : Fld Z h0 b "java/lang/String" "coder" "B" (.int 0)) (V_b : Fld Z h0 b "java/lang/String" "value" "[B" (.ref f)) (A_b : Fa Z h0 f .byte q (fun i => .int (y2 i))) (nab : a ≠ b) (hq : q = 6) :
    Met l Z (⟨"java/lang/String", "equals", "(Ljava/lang/Object;)Z"⟩ : MethodName) jdk_42_method_66_code 3 (some .boolean) ws ({ frames := 1, cells := 0, slots := 0, locals := 14 } : Room) #[(.ref a), (.ref b)] h0 (fun v h L => v = some (.int (own_eq6 y1 y2)) ∧ L = [] ∧ h = h0) := by
  refine Met.intro pn12 ?_
  intro pr ev s m below meth c T0 X0 hx hZ hown hby hml hret hlk hnm e0
  refine Go.cast (ef_rmEq6 m a b) ?_
  refine Go.of (mkF m 1 #[.val (.ref a), .val (.ref b), .unset] [(.ref a)]) (fun tt0 kk0 => XS.aloadN X0.here hx rfl (hb hby d15_0) rfl rfl kk0) ?_
  refine Go.of (mkF m 2 #[.val (.ref a), .val (.ref b), .unset] [(.ref b), (.ref a)]) (fun tt0 kk0 => XS.aloadN X0.here hx rfl (hb hby d15_1) rfl rfl kk0) ?_
  refine Go.of (mkF m 7 #[.val (.ref a), .val (.ref b), .unset] []) (fun tt0 kk0 => Jvm.RoadKit.acmp (g := (mkF m 2 #[.val (.ref a), .val (.ref b), .unset] [(.ref b), (.ref a)])) X0 hx rfl (x := (.ref a)) (y := (.ref b)) rfl rfl (pc0 := 2) (pc' := 7) (same := false) rfl (hb hby d15_2) rfl (decide_eq_false fun q => nab (Value.ref.inj q)) (by decide) (by decide) kk0) ?_
  refine Go.of (mkF m 8 #[.val (.ref a), .val (.ref b), .unset] [(.ref b)]) (fun tt0 kk0 => XS.aloadN X0.here hx rfl (hb hby d15_7) rfl rfl kk0) ?_
  obtain ⟨T1, X1, e1, st1⟩ := instY X0 hx hZ hown (tw89 hw) e0 (Ins.self E_b) (g := (mkF m 8 #[.val (.ref a), .val (.ref b), .unset] [(.ref b)])) rfl rfl (hb hby d15_8)
  refine Go.of (mkF m 11 #[.val (.ref a), .val (.ref b), .unset] [(.int (1 : Int32))]) (st1) ?_
  refine Go.of (mkF m 14 #[.val (.ref a), .val (.ref b), .unset] []) (fun tt0 kk0 => XS.ifNo X1.here hx rfl (hb hby d15_11) rfl ((if0 _ _).trans (feq (by decide)).1) kk0) ?_
  refine Go.of (mkF m 15 #[.val (.ref a), .val (.ref b), .unset] [(.ref b)]) (fun tt0 kk0 => XS.aloadN X1.here hx rfl (hb hby d15_14) rfl rfl kk0) ?_
  obtain ⟨T2, X2, e2, st2⟩ := castY X1 hx hZ hown (tw89 hw) e1 (Ins.self E_b) (g := (mkF m 15 #[.val (.ref a), .val (.ref b), .unset] [(.ref b)])) rfl rfl (hb hby d15_15)
  refine Go.of (mkF m 18 #[.val (.ref a), .val (.ref b), .unset] [(.ref b)]) (st2) ?_
  refine Go.of (mkF m 19 #[.val (.ref a), .val (.ref b), .val (.ref b)] []) (fun tt0 kk0 => XS.astoreN X2.here hx rfl (hb hby d15_18) rfl rfl (l' := #[.val (.ref a), .val (.ref b), .val (.ref b)]) rfl kk0) ?_
  obtain ⟨T3, X3, e3, st3⟩ := getS2 X2 hx hZ hown (host := "") (Or.inl (tw24 hw)) Via.refl e2 O2 (g := (mkF m 19 #[.val (.ref a), .val (.ref b), .val (.ref b)] [])) rfl (hb hby d15_19)
  refine Go.of (mkF m 22 #[.val (.ref a), .val (.ref b), .val (.ref b)] [(.int G1)]) (st3) ?_
  refine Go.of (mkF m 25 #[.val (.ref a), .val (.ref b), .val (.ref b)] []) (fun tt0 kk0 => XS.ifNo X3.here hx rfl (hb hby d15_22) rfl ((if0 _ _).trans (feq P3).1) kk0) ?_
  refine Go.of (mkF m 26 #[.val (.ref a), .val (.ref b), .val (.ref b)] [(.ref a)]) (fun tt0 kk0 => XS.aloadN X3.here hx rfl (hb hby d15_25) rfl rfl kk0) ?_
  obtain ⟨T4, X4, e4, st4⟩ := getF X3 hx hZ hown (host := "") (Or.inl (tw25 hw)) Via.refl e3 C_a (g := (mkF m 26 #[.val (.ref a), .val (.ref b), .val (.ref b)] [(.ref a)])) rfl rfl (hb hby d15_26)
  refine Go.of (mkF m 29 #[.val (.ref a), .val (.ref b), .val (.ref b)] [(.int (0 : Int32))]) (st4) ?_
  refine Go.of (mkF m 30 #[.val (.ref a), .val (.ref b), .val (.ref b)] [(.ref b), (.int (0 : Int32))]) (fun tt0 kk0 => XS.aloadN X4.here hx rfl (hb hby d15_29) rfl rfl kk0) ?_
  obtain ⟨T5, X5, e5, st5⟩ := getF X4 hx hZ hown (host := "") (Or.inl (tw25 hw)) Via.refl e4 C_b (g := (mkF m 30 #[.val (.ref a), .val (.ref b), .val (.ref b)] [(.ref b), (.int (0 : Int32))])) rfl rfl (hb hby d15_30)
  refine Go.of (mkF m 33 #[.val (.ref a), .val (.ref b), .val (.ref b)] [(.int (0 : Int32)), (.int (0 : Int32))]) (st5) ?_
  refine Go.of (mkF m 36 #[.val (.ref a), .val (.ref b), .val (.ref b)] []) (fun tt0 kk0 => XS.icmpNo X5.here hx rfl (hb hby d15_33) rfl (teq (by decide)).2 kk0) ?_
  refine Go.of (mkF m 37 #[.val (.ref a), .val (.ref b), .val (.ref b)] [(.ref a)]) (fun tt0 kk0 => XS.aloadN X5.here hx rfl (hb hby d15_36) rfl rfl kk0) ?_
  obtain ⟨T6, X6, e6, st6⟩ := getF X5 hx hZ hown (host := "") (Or.inl (tw26 hw)) Via.refl e5 V_a (g := (mkF m 37 #[.val (.ref a), .val (.ref b), .val (.ref b)] [(.ref a)])) rfl rfl (hb hby d15_37)
  refine Go.of (mkF m 40 #[.val (.ref a), .val (.ref b), .val (.ref b)] [(.ref d)]) (st6) ?_
  refine Go.of (mkF m 41 #[.val (.ref a), .val (.ref b), .val (.ref b)] [(.ref b), (.ref d)]) (fun tt0 kk0 => XS.aloadN X6.here hx rfl (hb hby d15_40) rfl rfl kk0) ?_
  obtain ⟨T7, X7, e7, st7⟩ := getF X6 hx hZ hown (host := "") (Or.inl (tw26 hw)) Via.refl e6 V_b (g := (mkF m 41 #[.val (.ref a), .val (.ref b), .val (.ref b)] [(.ref b), (.ref d)])) rfl rfl (hb hby d15_41)
  refine Go.of (mkF m 44 #[.val (.ref a), .val (.ref b), .val (.ref b)] [(.ref f), (.ref d)]) (st7) ?_
  refine Go.callS X7 hx hZ (y := (⟨"java/lang/StringLatin1", "equals", "([B[B)Z"⟩ : MethodName)) (argsL := [(.ref d), (.ref f)]) (rest := []) hown (tw90 hw) (tw91 hw) (tw29 hw) (tw92 hw) (by decide) e7 (rmLq6 l Z a0 hw [] d f q y1 y2 h0 A_a A_b hq) (g := (mkF m 44 #[.val (.ref a), .val (.ref b), .val (.ref b)] [(.ref f), (.ref d)])) rfl (by rw [hml]; rfl) (lenOf pd13 rfl) rfl (W := 0) (by show 2 * 0 + _ ≤ _; exact Nat.le_of_eq rfl) (hb hby d15_44) (by decide) (by decide) (by decide) (by decide) ?_
  rintro T8 L8 v8 X8 ⟨rfl, rfl, hh8⟩
  show Go pr ev below _ T8 (mkF m 47 #[.val (.ref a), .val (.ref b), .val (.ref b)] [(.int (own_eq6 y1 y2))])
  by_cases hc47 : (own_eq6 y1 y2) = (0 : Int32)
  ·
    refine Go.of (mkF m 54 #[.val (.ref a), .val (.ref b), .val (.ref b)] []) (fun tt0 kk0 => XS.ifYes X8.here hx rfl (pc0 := 47) (pc' := 54) rfl (hb hby d15_47) rfl ((if0 _ _).trans (teq hc47).1) (by decide) (by decide) kk0) ?_
    refine Go.of (mkF m 55 #[.val (.ref a), .val (.ref b), .val (.ref b)] [(.int (0 : Int32))]) (fun tt0 kk0 => XS.iconst X8.here hx rfl (hb hby d15_54) kk0) ?_
    exact Go.retW X8 hx (t := .boolean) hret hlk rfl (Or.inl ⟨rfl, by simp, _, rfl⟩) (hb hby d15_55) (by decide) (by decide) ⟨by unfold own_eq6 at *; split <;> simp_all, rfl, hh8⟩
  ·
    refine Go.of (mkF m 50 #[.val (.ref a), .val (.ref b), .val (.ref b)] []) (fun tt0 kk0 => XS.ifNo X8.here hx rfl (hb hby d15_47) rfl ((if0 _ _).trans (feq hc47).1) kk0) ?_
    refine Go.of (mkF m 51 #[.val (.ref a), .val (.ref b), .val (.ref b)] [(.int (1 : Int32))]) (fun tt0 kk0 => XS.iconst X8.here hx rfl (hb hby d15_50) kk0) ?_
    refine Go.of (mkF m 55 #[.val (.ref a), .val (.ref b), .val (.ref b)] [(.int (1 : Int32))]) (fun tt0 kk0 => XS.goto X8.here hx rfl (pc0 := 51) (pc' := 55) rfl (hb hby d15_51) (by decide) (by decide) kk0) ?_
    exact Go.retW X8 hx (t := .boolean) hret hlk rfl (Or.inl ⟨rfl, by simp, _, rfl⟩) (hb hby d15_55) (by decide) (by decide) ⟨by unfold own_eq6 at *; split <;> simp_all, rfl, hh8⟩
theorem ef_rmEqD (m : MethodId) (x0 : Addr) (x1 : Addr) : entryFrame m #[(.ref x0), (.ref x1)] 3 = mkF m 0 #[.val (.ref x0), .val (.ref x1), .unset] [] := by first | (simp [entryFrame, mkF, argsToLocals, Value.category]; done) | rfl
set_option maxRecDepth 65536 in
set_option maxHeartbeats 40000000 in
theorem rmEqD (l : Launch) (Z : State) (a0 : Array Value) (hw : ∀ d ∈ tables_1, d.before a0 Z = true) (ws : List Jvm.Cond) (a d : Nat) (y1 : Int32 → Int32) (h0 : Heap) (G1 : Int32) (O2 : Sta Z h0 "java/lang/String" "COMPACT_STRINGS" "Z" (.int G1)) (P3 : ¬ G1 = 0) (E_a : Exa Z h0 a "java/lang/String") (C_a : Fld Z h0 a "java/lang/String" "coder" "B" (.int 0)) (V_a : Fld Z h0 a "java/lang/String" "value" "[B" (.ref d)) (A_a : Fa Z h0 d .byte 6 (fun i => .int (y1 i))) (b f : Nat) (q : Int32) (y2 : Int32 → Int32) (E_b : Exa Z h0 b "java/lang/String") (C_b : Fld Z h0 b "java/lang/String" "coder" "B" (.int 0)) (V_b : Fld Z h0 b "java/lang/String" "value" "[B" (.ref f)) (A_b : Fa Z h0 f .byte q (fun i => .int (y2 i))) (nab : a ≠ b) (hq : ¬ q = 6) :
    Met l Z (⟨"java/lang/String", "equals", "(Ljava/lang/Object;)Z"⟩ : MethodName) jdk_42_method_66_code 3 (some .boolean) ws ({ frames := 1, cells := 0, slots := 0, locals := 14 } : Room) #[(.ref a), (.ref b)] h0 (fun v h L => v = some (.int 0) ∧ L = [] ∧ h = h0) := by
  refine Met.intro pn12 ?_
  intro pr ev s m below meth c T0 X0 hx hZ hown hby hml hret hlk hnm e0
  refine Go.cast (ef_rmEqD m a b) ?_
  refine Go.of (mkF m 1 #[.val (.ref a), .val (.ref b), .unset] [(.ref a)]) (fun tt0 kk0 => XS.aloadN X0.here hx rfl (hb hby d15_0) rfl rfl kk0) ?_
  refine Go.of (mkF m 2 #[.val (.ref a), .val (.ref b), .unset] [(.ref b), (.ref a)]) (fun tt0 kk0 => XS.aloadN X0.here hx rfl (hb hby d15_1) rfl rfl kk0) ?_
  refine Go.of (mkF m 7 #[.val (.ref a), .val (.ref b), .unset] []) (fun tt0 kk0 => Jvm.RoadKit.acmp (g := (mkF m 2 #[.val (.ref a), .val (.ref b), .unset] [(.ref b), (.ref a)])) X0 hx rfl (x := (.ref a)) (y := (.ref b)) rfl rfl (pc0 := 2) (pc' := 7) (same := false) rfl (hb hby d15_2) rfl (decide_eq_false fun q => nab (Value.ref.inj q)) (by decide) (by decide) kk0) ?_
  refine Go.of (mkF m 8 #[.val (.ref a), .val (.ref b), .unset] [(.ref b)]) (fun tt0 kk0 => XS.aloadN X0.here hx rfl (hb hby d15_7) rfl rfl kk0) ?_
  obtain ⟨T1, X1, e1, st1⟩ := instY X0 hx hZ hown (tw89 hw) e0 (Ins.self E_b) (g := (mkF m 8 #[.val (.ref a), .val (.ref b), .unset] [(.ref b)])) rfl rfl (hb hby d15_8)
  refine Go.of (mkF m 11 #[.val (.ref a), .val (.ref b), .unset] [(.int (1 : Int32))]) (st1) ?_
  refine Go.of (mkF m 14 #[.val (.ref a), .val (.ref b), .unset] []) (fun tt0 kk0 => XS.ifNo X1.here hx rfl (hb hby d15_11) rfl ((if0 _ _).trans (feq (by decide)).1) kk0) ?_
  refine Go.of (mkF m 15 #[.val (.ref a), .val (.ref b), .unset] [(.ref b)]) (fun tt0 kk0 => XS.aloadN X1.here hx rfl (hb hby d15_14) rfl rfl kk0) ?_
  obtain ⟨T2, X2, e2, st2⟩ := castY X1 hx hZ hown (tw89 hw) e1 (Ins.self E_b) (g := (mkF m 15 #[.val (.ref a), .val (.ref b), .unset] [(.ref b)])) rfl rfl (hb hby d15_15)
  refine Go.of (mkF m 18 #[.val (.ref a), .val (.ref b), .unset] [(.ref b)]) (st2) ?_
  refine Go.of (mkF m 19 #[.val (.ref a), .val (.ref b), .val (.ref b)] []) (fun tt0 kk0 => XS.astoreN X2.here hx rfl (hb hby d15_18) rfl rfl (l' := #[.val (.ref a), .val (.ref b), .val (.ref b)]) rfl kk0) ?_
  obtain ⟨T3, X3, e3, st3⟩ := getS2 X2 hx hZ hown (host := "") (Or.inl (tw24 hw)) Via.refl e2 O2 (g := (mkF m 19 #[.val (.ref a), .val (.ref b), .val (.ref b)] [])) rfl (hb hby d15_19)
  refine Go.of (mkF m 22 #[.val (.ref a), .val (.ref b), .val (.ref b)] [(.int G1)]) (st3) ?_
  refine Go.of (mkF m 25 #[.val (.ref a), .val (.ref b), .val (.ref b)] []) (fun tt0 kk0 => XS.ifNo X3.here hx rfl (hb hby d15_22) rfl ((if0 _ _).trans (feq P3).1) kk0) ?_
  refine Go.of (mkF m 26 #[.val (.ref a), .val (.ref b), .val (.ref b)] [(.ref a)]) (fun tt0 kk0 => XS.aloadN X3.here hx rfl (hb hby d15_25) rfl rfl kk0) ?_
  obtain ⟨T4, X4, e4, st4⟩ := getF X3 hx hZ hown (host := "") (Or.inl (tw25 hw)) Via.refl e3 C_a (g := (mkF m 26 #[.val (.ref a), .val (.ref b), .val (.ref b)] [(.ref a)])) rfl rfl (hb hby d15_26)
  refine Go.of (mkF m 29 #[.val (.ref a), .val (.ref b), .val (.ref b)] [(.int (0 : Int32))]) (st4) ?_
  refine Go.of (mkF m 30 #[.val (.ref a), .val (.ref b), .val (.ref b)] [(.ref b), (.int (0 : Int32))]) (fun tt0 kk0 => XS.aloadN X4.here hx rfl (hb hby d15_29) rfl rfl kk0) ?_
  obtain ⟨T5, X5, e5, st5⟩ := getF X4 hx hZ hown (host := "") (Or.inl (tw25 hw)) Via.refl e4 C_b (g := (mkF m 30 #[.val (.ref a), .val (.ref b), .val (.ref b)] [(.ref b), (.int (0 : Int32))])) rfl rfl (hb hby d15_30)
  refine Go.of (mkF m 33 #[.val (.ref a), .val (.ref b), .val (.ref b)] [(.int (0 : Int32)), (.int (0 : Int32))]) (st5) ?_
  refine Go.of (mkF m 36 #[.val (.ref a), .val (.ref b), .val (.ref b)] []) (fun tt0 kk0 => XS.icmpNo X5.here hx rfl (hb hby d15_33) rfl (teq (by decide)).2 kk0) ?_
  refine Go.of (mkF m 37 #[.val (.ref a), .val (.ref b), .val (.ref b)] [(.ref a)]) (fun tt0 kk0 => XS.aloadN X5.here hx rfl (hb hby d15_36) rfl rfl kk0) ?_
  obtain ⟨T6, X6, e6, st6⟩ := getF X5 hx hZ hown (host := "") (Or.inl (tw26 hw)) Via.refl e5 V_a (g := (mkF m 37 #[.val (.ref a), .val (.ref b), .val (.ref b)] [(.ref a)])) rfl rfl (hb hby d15_37)
  refine Go.of (mkF m 40 #[.val (.ref a), .val (.ref b), .val (.ref b)] [(.ref d)]) (st6) ?_
  refine Go.of (mkF m 41 #[.val (.ref a), .val (.ref b), .val (.ref b)] [(.ref b), (.ref d)]) (fun tt0 kk0 => XS.aloadN X6.here hx rfl (hb hby d15_40) rfl rfl kk0) ?_
  obtain ⟨T7, X7, e7, st7⟩ := getF X6 hx hZ hown (host := "") (Or.inl (tw26 hw)) Via.refl e6 V_b (g := (mkF m 41 #[.val (.ref a), .val (.ref b), .val (.ref b)] [(.ref b), (.ref d)])) rfl rfl (hb hby d15_41)
  refine Go.of (mkF m 44 #[.val (.ref a), .val (.ref b), .val (.ref b)] [(.ref f), (.ref d)]) (st7) ?_
  refine Go.callS X7 hx hZ (y := (⟨"java/lang/StringLatin1", "equals", "([B[B)Z"⟩ : MethodName)) (argsL := [(.ref d), (.ref f)]) (rest := []) hown (tw90 hw) (tw91 hw) (tw29 hw) (tw92 hw) (by decide) e7 (rmLqD l Z a0 hw [] d f q y1 y2 h0 A_a A_b hq) (g := (mkF m 44 #[.val (.ref a), .val (.ref b), .val (.ref b)] [(.ref f), (.ref d)])) rfl (by rw [hml]; rfl) (lenOf pd13 rfl) rfl (W := 0) (by show 2 * 0 + _ ≤ _; exact Nat.le_of_eq rfl) (hb hby d15_44) (by decide) (by decide) (by decide) (by decide) ?_
  rintro T8 L8 v8 X8 ⟨rfl, rfl, hh8⟩
  show Go pr ev below _ T8 (mkF m 47 #[.val (.ref a), .val (.ref b), .val (.ref b)] [(.int (0 : Int32))])
  refine Go.of (mkF m 54 #[.val (.ref a), .val (.ref b), .val (.ref b)] []) (fun tt0 kk0 => XS.ifYes X8.here hx rfl (pc0 := 47) (pc' := 54) rfl (hb hby d15_47) rfl ((if0 _ _).trans (teq (by decide)).1) (by decide) (by decide) kk0) ?_
  refine Go.of (mkF m 55 #[.val (.ref a), .val (.ref b), .val (.ref b)] [(.int (0 : Int32))]) (fun tt0 kk0 => XS.iconst X8.here hx rfl (hb hby d15_54) kk0) ?_
  exact Go.retW X8 hx (t := .boolean) hret hlk rfl (Or.inl ⟨rfl, by simp, _, rfl⟩) (hb hby d15_55) (by decide) (by decide) ⟨rfl, rfl, hh8⟩
theorem ef_rmEqN (m : MethodId) (x0 : Addr) : entryFrame m #[(.ref x0), .null] 3 = mkF m 0 #[.val (.ref x0), .val .null, .unset] [] := by first | (simp [entryFrame, mkF, argsToLocals, Value.category]; done) | rfl
set_option maxRecDepth 65536 in
set_option maxHeartbeats 40000000 in
theorem rmEqN (l : Launch) (Z : State) (a0 : Array Value) (hw : ∀ d ∈ tables_1, d.before a0 Z = true) (ws : List Jvm.Cond) (a d : Nat) (y1 : Int32 → Int32) (h0 : Heap) (G1 : Int32) (O2 : Sta Z h0 "java/lang/String" "COMPACT_STRINGS" "Z" (.int G1)) (P3 : ¬ G1 = 0) (E_a : Exa Z h0 a "java/lang/String") (C_a : Fld Z h0 a "java/lang/String" "coder" "B" (.int 0)) (V_a : Fld Z h0 a "java/lang/String" "value" "[B" (.ref d)) (A_a : Fa Z h0 d .byte 6 (fun i => .int (y1 i))) :
    Met l Z (⟨"java/lang/String", "equals", "(Ljava/lang/Object;)Z"⟩ : MethodName) jdk_42_method_66_code 3 (some .boolean) ws ({ frames := 1, cells := 0, slots := 0, locals := 14 } : Room) #[(.ref a), .null] h0 (fun v h L => v = some (.int 0) ∧ L = [] ∧ h = h0) := by
  refine Met.intro pn12 ?_
  intro pr ev s m below meth c T0 X0 hx hZ hown hby hml hret hlk hnm e0
  refine Go.cast (ef_rmEqN m a) ?_
  refine Go.of (mkF m 1 #[.val (.ref a), .val .null, .unset] [(.ref a)]) (fun tt0 kk0 => XS.aloadN X0.here hx rfl (hb hby d15_0) rfl rfl kk0) ?_
  refine Go.of (mkF m 2 #[.val (.ref a), .val .null, .unset] [.null, (.ref a)]) (fun tt0 kk0 => XS.aloadN X0.here hx rfl (hb hby d15_1) rfl rfl kk0) ?_
  refine Go.of (mkF m 7 #[.val (.ref a), .val .null, .unset] []) (fun tt0 kk0 => Jvm.RoadKit.acmp (g := (mkF m 2 #[.val (.ref a), .val .null, .unset] [.null, (.ref a)])) X0 hx rfl (x := (.ref a)) (y := .null) rfl rfl (pc0 := 2) (pc' := 7) (same := false) rfl (hb hby d15_2) rfl (decide_eq_false nofun) (by decide) (by decide) kk0) ?_
  refine Go.of (mkF m 8 #[.val (.ref a), .val .null, .unset] [.null]) (fun tt0 kk0 => XS.aloadN X0.here hx rfl (hb hby d15_7) rfl rfl kk0) ?_
  refine Go.of (mkF m 11 #[.val (.ref a), .val .null, .unset] [(.int (0 : Int32))]) (X0.instanceofNull hx (g := (mkF m 8 #[.val (.ref a), .val .null, .unset] [.null])) rfl rfl (hb hby d15_8)) ?_
  refine Go.of (mkF m 54 #[.val (.ref a), .val .null, .unset] []) (fun tt0 kk0 => XS.ifYes X0.here hx rfl (pc0 := 11) (pc' := 54) rfl (hb hby d15_11) rfl ((if0 _ _).trans (teq (by decide)).1) (by decide) (by decide) kk0) ?_
  refine Go.of (mkF m 55 #[.val (.ref a), .val .null, .unset] [(.int (0 : Int32))]) (fun tt0 kk0 => XS.iconst X0.here hx rfl (hb hby d15_54) kk0) ?_
  exact Go.retW X0 hx (t := .boolean) hret hlk rfl (Or.inl ⟨rfl, by simp, _, rfl⟩) (hb hby d15_55) (by decide) (by decide) ⟨rfl, rfl, e0⟩
theorem ef_rmVa (m : MethodId)  : entryFrame m #[] 0 = mkF m 0 #[] [] := by first | (simp [entryFrame, mkF, argsToLocals, Value.category]; done) | rfl
set_option maxRecDepth 65536 in
set_option maxHeartbeats 40000000 in
theorem rmVa (l : Launch) (Z : State) (a0 : Array Value) (hw : ∀ d ∈ tables_1, d.before a0 Z = true) (ws : List Jvm.Cond) (h0 : Heap) (n0 : Nat) (hz0 : n0 ≤ h0.size) (va rd wr : Nat) (yv : Int32 → Value) (Sv : Sta Z h0 "com/example/sealed_ledger/sealedledger/http/Access$Role" "$VALUES" "[Lcom/example/sealed_ledger/sealedledger/http/Access$Role;" (.ref va)) (Vv : Fa Z h0 va (.object "com/example/sealed_ledger/sealedledger/http/Access$Role") 2 yv) (Ev : Exa Z h0 va "[Lcom/example/sealed_ledger/sealedledger/http/Access$Role;") (hy0 : yv 0 = .ref rd) (hy1 : yv 1 = .ref wr) :
    Met l Z (⟨"com/example/sealed_ledger/sealedledger/http/Access$Role", "values", "()[Lcom/example/sealed_ledger/sealedledger/http/Access$Role;"⟩ : MethodName) prog_3_method_1_code 0 (some (.array (.object "com/example/sealed_ledger/sealedledger/http/Access$Role"))) ws ({ frames := 1, cells := 1, slots := 2, locals := 14 } : Room) #[] h0 (fun v h L => ∃ t : Nat, v = some (.ref t) ∧ Fr n0 L ∧ Keep h0 h [] ∧ h0.size ≤ t ∧ Fa Z h t (.object "com/example/sealed_ledger/sealedledger/http/Access$Role") 2 yv) := by
  refine Met.intro pn14 ?_
  intro pr ev s m below meth c T0 X0 hx hZ hown hby hml hret hlk hnm e0
  refine Go.cast (ef_rmVa m ) ?_
  have N0 := Fr.nil n0
  have hz := hz0
  have K0 : Keep h0 h0 [] := Keep.refl h0 _
  obtain ⟨T1, X1, e1, st1⟩ := getS2 X0 hx hZ hown (host := "") (Or.inl (tw69 hw)) Via.refl e0 Sv (g := (mkF m 0 #[] [])) rfl (hb hby d14_0)
  refine Go.of (mkF m 3 #[] [(.ref va)]) (st1) ?_
  refine Go.clone X1 hx hZ hown (tw71 hw) (tw72 hw) (tw76 hw) (tw74 hw) (tw75 hw) (tw77 hw) e1 Vv Ev (g := (mkF m 3 #[] [(.ref va)])) rfl (by rw [hml]; rfl) rfl (hb hby d14_3) (by decide) (W := 0) (cap := 2) (by show 2 * 0 + _ ≤ _; exact Nat.le_of_eq rfl) (by decide) (by decide) (by decide) (by decide) ?_
  rintro T2 h2 b2 g2 X2 e2 E2 V2 Q2
  have ne_va_b2 : va ≠ b2 := Nat.ne_of_lt (Nat.lt_of_lt_of_le Ev.lt (Nat.le_of_eq g2.symm))
  have gb_b2 : n0 ≤ b2 := Nat.le_trans hz (Nat.le_of_eq g2.symm)
  have sz_b2 : h0.size ≤ b2 := Nat.le_trans K0.1 (Nat.le_of_eq g2.symm)
  replace Ev := Ev.ext E2
  replace Vv := Vv.ext E2
  replace Sv := Sv.ext E2
  replace hz := Nat.le_trans hz E2.1
  replace K0 := K0.ext E2
  show Go pr ev below _ T2 (mkF m 6 #[] [(.ref b2)])
  obtain ⟨T3, X3, e3, st3⟩ := castY X2 hx hZ hown (tw80 hw) e2 (Ins.self Q2) (g := (mkF m 6 #[] [(.ref b2)])) rfl rfl (hb hby d14_6)
  refine Go.of (mkF m 9 #[] [(.ref b2)]) (st3) ?_
  exact Go.retW X3 hx (t := (.array (.object "com/example/sealed_ledger/sealedledger/http/Access$Role"))) hret hlk rfl (Or.inr (Or.inr (Or.inr (Or.inr ⟨rfl, rfl, rfl⟩)))) (hb hby d14_9) (by decide) (by decide) (by rw [e3]; exact ⟨b2, rfl, N0, K0, sz_b2, V2⟩)
theorem ef_rmNa6 (m : MethodId) (x0 : Addr) : entryFrame m #[(.ref x0)] 5 = mkF m 0 #[.val (.ref x0), .unset, .unset, .unset, .unset] [] := by first | (simp [entryFrame, mkF, argsToLocals, Value.category]; done) | rfl
set_option maxRecDepth 65536 in
set_option maxHeartbeats 40000000 in
theorem rmNa6 (l : Launch) (Z : State) (a0 : Array Value) (hw : ∀ d ∈ tables_1, d.before a0 Z = true) (ws : List Jvm.Cond) (h0 : Heap) (n0 : Nat) (hz0 : n0 ≤ h0.size) (G1 : Int32) (O2 : Sta Z h0 "java/lang/String" "COMPACT_STRINGS" "Z" (.int G1)) (P3 : ¬ G1 = 0) (va rd wr : Nat) (yv : Int32 → Value) (Sv : Sta Z h0 "com/example/sealed_ledger/sealedledger/http/Access$Role" "$VALUES" "[Lcom/example/sealed_ledger/sealedledger/http/Access$Role;" (.ref va)) (Vv : Fa Z h0 va (.object "com/example/sealed_ledger/sealedledger/http/Access$Role") 2 yv) (Ev : Exa Z h0 va "[Lcom/example/sealed_ledger/sealedledger/http/Access$Role;") (hy0 : yv 0 = .ref rd) (hy1 : yv 1 = .ref wr) (t1 d1 t2 d2 : Nat) (yR yW : Int32 → Int32) (Er : Exa Z h0 rd "com/example/sealed_ledger/sealedledger/http/Access$Role") (Fr1 : Fld Z h0 rd "com/example/sealed_ledger/sealedledger/http/Access$Role" "text" "Ljava/lang/String;" (.ref t1)) (E_t1 : Exa Z h0 t1 "java/lang/String") (C_t1 : Fld Z h0 t1 "java/lang/String" "coder" "B" (.int 0)) (V_t1 : Fld Z h0 t1 "java/lang/String" "value" "[B" (.ref d1)) (A_t1 : Fa Z h0 d1 .byte 6 (fun i => .int (yR i))) (Ew : Exa Z h0 wr "com/example/sealed_ledger/sealedledger/http/Access$Role") (Fw1 : Fld Z h0 wr "com/example/sealed_ledger/sealedledger/http/Access$Role" "text" "Ljava/lang/String;" (.ref t2)) (E_t2 : Exa Z h0 t2 "java/lang/String") (C_t2 : Fld Z h0 t2 "java/lang/String" "coder" "B" (.int 0)) (V_t2 : Fld Z h0 t2 "java/lang/String" "value" "[B" (.ref d2)) (A_t2 : Fa Z h0 d2 .byte 6 (fun i => .int (yW i))) (b f : Nat) (q : Int32) (y2 : Int32 → Int32) (E_b : Exa Z h0 b "java/lang/String") (C_b : Fld Z h0 b "java/lang/String" "coder" "B" (.int 0)) (V_b : Fld Z h0 b "java/lang/String" "value" "[B" (.ref f)) (A_b : Fa Z h0 f .byte q (fun i => .int (y2 i))) (n1 : t1 ≠ b) (n2 : t2 ≠ b) (hq : q = 6) :
    Met l Z (⟨"com/example/sealed_ledger/sealedledger/http/Access$Role", "named", "(Ljava/lang/String;)Lcom/example/sealed_ledger/sealedledger/http/Access$Role;"⟩ : MethodName) prog_3_method_4_code 5 (some (.object "com/example/sealed_ledger/sealedledger/http/Access$Role")) ws ({ frames := 2, cells := 1, slots := 2, locals := 28 } : Room) #[(.ref b)] h0 (fun v h L => v = some (own_named rd wr yR yW y2) ∧ Fr n0 L ∧ Keep h0 h []) := by
  refine Met.intro pn15 ?_
  intro pr ev s m below meth c T0 X0 hx hZ hown hby hml hret hlk hnm e0
  refine Go.cast (ef_rmNa6 m b) ?_
  have N0 := Fr.nil n0
  have hz := hz0
  have K0 : Keep h0 h0 [] := Keep.refl h0 _
  refine Go.callS X0 hx hZ (y := (⟨"com/example/sealed_ledger/sealedledger/http/Access$Role", "values", "()[Lcom/example/sealed_ledger/sealedledger/http/Access$Role;"⟩ : MethodName)) (argsL := []) (rest := []) hown (tw66 hw) (tw67 hw) (tw61 hw) (tw68 hw) (by decide) e0 (rmVa l Z a0 hw [] h0 n0 hz va rd wr yv Sv Vv Ev hy0 hy1) (g := (mkF m 0 #[.val (.ref b), .unset, .unset, .unset, .unset] [])) rfl (by rw [hml]; rfl) (lenOf pd16 rfl) rfl (W := 0) (by show 2 * 0 + _ ≤ _; exact Nat.le_of_eq rfl) (hb hby d13_0) (by decide) (by decide) (by decide) (by decide) ?_
  rintro T1 L1 v1 X1 ⟨tv, rfl, NL1, K1, szv, Vt⟩
  have N1 := Fr.app N0 NL1
  have ne_va_tv : va ≠ tv := Nat.ne_of_lt (Nat.lt_of_lt_of_le Ev.lt szv)
  have ne_rd_tv : rd ≠ tv := Nat.ne_of_lt (Nat.lt_of_lt_of_le Er.lt szv)
  have ne_wr_tv : wr ≠ tv := Nat.ne_of_lt (Nat.lt_of_lt_of_le Ew.lt szv)
  have ne_t1_tv : t1 ≠ tv := Nat.ne_of_lt (Nat.lt_of_lt_of_le E_t1.lt szv)
  have ne_t2_tv : t2 ≠ tv := Nat.ne_of_lt (Nat.lt_of_lt_of_le E_t2.lt szv)
  have ne_b_tv : b ≠ tv := Nat.ne_of_lt (Nat.lt_of_lt_of_le E_b.lt szv)
  have ne_d1_tv : d1 ≠ tv := Nat.ne_of_lt (Nat.lt_of_lt_of_le A_t1.lt szv)
  have ne_d2_tv : d2 ≠ tv := Nat.ne_of_lt (Nat.lt_of_lt_of_le A_t2.lt szv)
  have ne_f_tv : f ≠ tv := Nat.ne_of_lt (Nat.lt_of_lt_of_le A_b.lt szv)
  have gb_tv : n0 ≤ tv := Nat.le_trans hz szv
  have sz_tv : h0.size ≤ tv := Nat.le_trans K0.1 szv
  replace O2 := Sta.keep O2 K1 (all0)
  replace Sv := Sta.keep Sv K1 (all0)
  replace Fr1 := Fr1.keep K1 nin0
  replace Fw1 := Fw1.keep K1 nin0
  replace C_t1 := C_t1.keep K1 nin0
  replace V_t1 := V_t1.keep K1 nin0
  replace C_t2 := C_t2.keep K1 nin0
  replace V_t2 := V_t2.keep K1 nin0
  replace C_b := C_b.keep K1 nin0
  replace V_b := V_b.keep K1 nin0
  replace Ev := Ev.keep K1
  replace Er := Er.keep K1
  replace Ew := Ew.keep K1
  replace E_t1 := E_t1.keep K1
  replace E_t2 := E_t2.keep K1
  replace E_b := E_b.keep K1
  replace Vv := Vv.keep K1 nin0
  replace A_t1 := A_t1.keep K1 nin0
  replace A_t2 := A_t2.keep K1 nin0
  replace A_b := A_b.keep K1 nin0
  replace hz := Nat.le_trans hz K1.1
  replace K0 := K0.trans K1 (fun x hx => nomatch hx)
  show Go pr ev below _ T1 (mkF m 3 #[.val (.ref b), .unset, .unset, .unset, .unset] [(.ref tv)])
  refine Go.of (mkF m 4 #[.val (.ref b), .val (.ref tv), .unset, .unset, .unset] []) (fun tt0 kk0 => XS.astoreN X1.here hx rfl (hb hby d13_3) rfl rfl (l' := #[.val (.ref b), .val (.ref tv), .unset, .unset, .unset]) rfl kk0) ?_
  refine Go.of (mkF m 5 #[.val (.ref b), .val (.ref tv), .unset, .unset, .unset] [(.ref tv)]) (fun tt0 kk0 => XS.aloadN X1.here hx rfl (hb hby d13_4) rfl rfl kk0) ?_
  refine Go.arraylength X1 hx hZ rfl Vt (g := (mkF m 5 #[.val (.ref b), .val (.ref tv), .unset, .unset, .unset] [(.ref tv)])) rfl rfl (hb hby d13_5) ?_
  show Go pr ev below _ T1 (mkF m 6 #[.val (.ref b), .val (.ref tv), .unset, .unset, .unset] [(.int (2 : Int32))])
  refine Go.of (mkF m 7 #[.val (.ref b), .val (.ref tv), .val (.int (2 : Int32)), .unset, .unset] []) (fun tt0 kk0 => XS.istoreN X1.here hx rfl (hb hby d13_6) rfl (l' := #[.val (.ref b), .val (.ref tv), .val (.int (2 : Int32)), .unset, .unset]) rfl kk0) ?_
  refine Go.of (mkF m 8 #[.val (.ref b), .val (.ref tv), .val (.int (2 : Int32)), .unset, .unset] [(.int (0 : Int32))]) (fun tt0 kk0 => XS.iconst X1.here hx rfl (hb hby d13_7) kk0) ?_
  refine Go.of (mkF m 9 #[.val (.ref b), .val (.ref tv), .val (.int (2 : Int32)), .val (.int (0 : Int32)), .unset] []) (fun tt0 kk0 => XS.istoreN X1.here hx rfl (hb hby d13_8) rfl (l' := #[.val (.ref b), .val (.ref tv), .val (.int (2 : Int32)), .val (.int (0 : Int32)), .unset]) rfl kk0) ?_
  refine Go.of (mkF m 10 #[.val (.ref b), .val (.ref tv), .val (.int (2 : Int32)), .val (.int (0 : Int32)), .unset] [(.int (0 : Int32))]) (fun tt0 kk0 => XS.iloadN X1.here hx rfl (hb hby d13_9) rfl kk0) ?_
  refine Go.of (mkF m 11 #[.val (.ref b), .val (.ref tv), .val (.int (2 : Int32)), .val (.int (0 : Int32)), .unset] [(.int (2 : Int32)), (.int (0 : Int32))]) (fun tt0 kk0 => XS.iloadN X1.here hx rfl (hb hby d13_10) rfl kk0) ?_
  refine Go.of (mkF m 14 #[.val (.ref b), .val (.ref tv), .val (.int (2 : Int32)), .val (.int (0 : Int32)), .unset] []) (fun tt0 kk0 => XS.icmpNo X1.here hx rfl (hb hby d13_11) rfl (tlt (by decide)).2.1 kk0) ?_
  refine Go.of (mkF m 15 #[.val (.ref b), .val (.ref tv), .val (.int (2 : Int32)), .val (.int (0 : Int32)), .unset] [(.ref tv)]) (fun tt0 kk0 => XS.aloadN X1.here hx rfl (hb hby d13_14) rfl rfl kk0) ?_
  refine Go.of (mkF m 16 #[.val (.ref b), .val (.ref tv), .val (.int (2 : Int32)), .val (.int (0 : Int32)), .unset] [(.int (0 : Int32)), (.ref tv)]) (fun tt0 kk0 => XS.iloadN X1.here hx rfl (hb hby d13_15) rfl kk0) ?_
  refine Go.aaload X1 hx hZ rfl Vt rfl (by decide) (by decide) (g := (mkF m 16 #[.val (.ref b), .val (.ref tv), .val (.int (2 : Int32)), .val (.int (0 : Int32)), .unset] [(.int (0 : Int32)), (.ref tv)])) rfl rfl (hb hby d13_16) ?_
  show Go pr ev below _ T1 (mkF m 17 #[.val (.ref b), .val (.ref tv), .val (.int (2 : Int32)), .val (.int (0 : Int32)), .unset] [(yv (0 : Int32))])
  rw [show (yv (0 : Int32)) = (.ref rd) from hy0]
  show Go pr ev below _ T1 (mkF m 17 #[.val (.ref b), .val (.ref tv), .val (.int (2 : Int32)), .val (.int (0 : Int32)), .unset] [(.ref rd)])
  refine Go.of (mkF m 19 #[.val (.ref b), .val (.ref tv), .val (.int (2 : Int32)), .val (.int (0 : Int32)), .val (.ref rd)] []) (fun tt0 kk0 => XS.astore X1.here hx rfl (hb hby d13_17) rfl rfl (l' := #[.val (.ref b), .val (.ref tv), .val (.int (2 : Int32)), .val (.int (0 : Int32)), .val (.ref rd)]) rfl kk0) ?_
  refine Go.of (mkF m 21 #[.val (.ref b), .val (.ref tv), .val (.int (2 : Int32)), .val (.int (0 : Int32)), .val (.ref rd)] [(.ref rd)]) (fun tt0 kk0 => XS.aload X1.here hx rfl (hb hby d13_19) rfl rfl kk0) ?_
  obtain ⟨T2, X2, e2, st2⟩ := getF X1 hx hZ hown (host := "") (Or.inl (tw82 hw)) Via.refl rfl Fr1 (g := (mkF m 21 #[.val (.ref b), .val (.ref tv), .val (.int (2 : Int32)), .val (.int (0 : Int32)), .val (.ref rd)] [(.ref rd)])) rfl rfl (hb hby d13_21)
  refine Go.of (mkF m 24 #[.val (.ref b), .val (.ref tv), .val (.int (2 : Int32)), .val (.int (0 : Int32)), .val (.ref rd)] [(.ref t1)]) (st2) ?_
  refine Go.of (mkF m 25 #[.val (.ref b), .val (.ref tv), .val (.int (2 : Int32)), .val (.int (0 : Int32)), .val (.ref rd)] [(.ref b), (.ref t1)]) (fun tt0 kk0 => XS.aloadN X2.here hx rfl (hb hby d13_24) rfl rfl kk0) ?_
  refine Go.virt X2 hx hZ (y := (⟨"java/lang/String", "equals", "(Ljava/lang/Object;)Z"⟩ : MethodName)) (z := (⟨"java/lang/String", "equals", "(Ljava/lang/Object;)Z"⟩ : MethodName)) (a := t1) (argsL := [(.ref b)]) (rest := []) hown (tw84 hw) (tw85 hw) (notFace_of_selects (args := #[]) (mvT hZ (tw87 hw))) (tw87 hw) (tw86 hw) (tw7 hw) (tw88 hw) (by decide) e2 E_t1 (rmEq6 l Z a0 hw [] t1 d1 yR T1.heap G1 O2 P3 E_t1 C_t1 V_t1 A_t1 b f q y2 E_b C_b V_b A_b n1 hq) (g := (mkF m 25 #[.val (.ref b), .val (.ref tv), .val (.int (2 : Int32)), .val (.int (0 : Int32)), .val (.ref rd)] [(.ref b), (.ref t1)])) rfl (by rw [hml]; rfl) (lenOf pd17 rfl) rfl (W := 0) (by show 2 * 0 + _ ≤ _; exact Nat.le_of_eq rfl) (hb hby d13_25) (by decide) (by decide) (by decide) (by decide) ?_
  rintro T3 L3 v3 X3 ⟨rfl, rfl, hh3⟩
  have N3 := Fr.app N1 (Fr.nil n0)
  show Go pr ev below _ T3 (mkF m 28 #[.val (.ref b), .val (.ref tv), .val (.int (2 : Int32)), .val (.int (0 : Int32)), .val (.ref rd)] [(.int (own_eq6 yR y2))])
  by_cases hc28 : (own_eq6 yR y2) = (0 : Int32)
  ·
    refine Go.of (mkF m 34 #[.val (.ref b), .val (.ref tv), .val (.int (2 : Int32)), .val (.int (0 : Int32)), .val (.ref rd)] []) (fun tt0 kk0 => XS.ifYes X3.here hx rfl (pc0 := 28) (pc' := 34) rfl (hb hby d13_28) rfl ((if0 _ _).trans (teq hc28).1) (by decide) (by decide) kk0) ?_
    refine Go.of (mkF m 37 #[.val (.ref b), .val (.ref tv), .val (.int (2 : Int32)), .val (.int ((0 : Int32) + (1 : Int32))), .val (.ref rd)] []) (fun tt0 kk0 => XS.iinc X3.here hx rfl (hb hby d13_34) rfl (l' := #[.val (.ref b), .val (.ref tv), .val (.int (2 : Int32)), .val (.int ((0 : Int32) + (1 : Int32))), .val (.ref rd)]) rfl kk0) ?_
    rw [show ((0 : Int32) + (1 : Int32)) = (1 : Int32) from by decide]
    refine Go.of (mkF m 9 #[.val (.ref b), .val (.ref tv), .val (.int (2 : Int32)), .val (.int (1 : Int32)), .val (.ref rd)] []) (fun tt0 kk0 => XS.goto X3.here hx rfl (pc0 := 37) (pc' := 9) rfl (hb hby d13_37) (by decide) (by decide) kk0) ?_
    refine Go.of (mkF m 10 #[.val (.ref b), .val (.ref tv), .val (.int (2 : Int32)), .val (.int (1 : Int32)), .val (.ref rd)] [(.int (1 : Int32))]) (fun tt0 kk0 => XS.iloadN X3.here hx rfl (hb hby d13_9) rfl kk0) ?_
    refine Go.of (mkF m 11 #[.val (.ref b), .val (.ref tv), .val (.int (2 : Int32)), .val (.int (1 : Int32)), .val (.ref rd)] [(.int (2 : Int32)), (.int (1 : Int32))]) (fun tt0 kk0 => XS.iloadN X3.here hx rfl (hb hby d13_10) rfl kk0) ?_
    refine Go.of (mkF m 14 #[.val (.ref b), .val (.ref tv), .val (.int (2 : Int32)), .val (.int (1 : Int32)), .val (.ref rd)] []) (fun tt0 kk0 => XS.icmpNo X3.here hx rfl (hb hby d13_11) rfl (tlt (by decide)).2.1 kk0) ?_
    refine Go.of (mkF m 15 #[.val (.ref b), .val (.ref tv), .val (.int (2 : Int32)), .val (.int (1 : Int32)), .val (.ref rd)] [(.ref tv)]) (fun tt0 kk0 => XS.aloadN X3.here hx rfl (hb hby d13_14) rfl rfl kk0) ?_
    refine Go.of (mkF m 16 #[.val (.ref b), .val (.ref tv), .val (.int (2 : Int32)), .val (.int (1 : Int32)), .val (.ref rd)] [(.int (1 : Int32)), (.ref tv)]) (fun tt0 kk0 => XS.iloadN X3.here hx rfl (hb hby d13_15) rfl kk0) ?_
    refine Go.aaload X3 hx hZ hh3 Vt rfl (by decide) (by decide) (g := (mkF m 16 #[.val (.ref b), .val (.ref tv), .val (.int (2 : Int32)), .val (.int (1 : Int32)), .val (.ref rd)] [(.int (1 : Int32)), (.ref tv)])) rfl rfl (hb hby d13_16) ?_
    show Go pr ev below _ T3 (mkF m 17 #[.val (.ref b), .val (.ref tv), .val (.int (2 : Int32)), .val (.int (1 : Int32)), .val (.ref rd)] [(yv (1 : Int32))])
    rw [show (yv (1 : Int32)) = (.ref wr) from hy1]
    show Go pr ev below _ T3 (mkF m 17 #[.val (.ref b), .val (.ref tv), .val (.int (2 : Int32)), .val (.int (1 : Int32)), .val (.ref rd)] [(.ref wr)])
    refine Go.of (mkF m 19 #[.val (.ref b), .val (.ref tv), .val (.int (2 : Int32)), .val (.int (1 : Int32)), .val (.ref wr)] []) (fun tt0 kk0 => XS.astore X3.here hx rfl (hb hby d13_17) rfl rfl (l' := #[.val (.ref b), .val (.ref tv), .val (.int (2 : Int32)), .val (.int (1 : Int32)), .val (.ref wr)]) rfl kk0) ?_
    refine Go.of (mkF m 21 #[.val (.ref b), .val (.ref tv), .val (.int (2 : Int32)), .val (.int (1 : Int32)), .val (.ref wr)] [(.ref wr)]) (fun tt0 kk0 => XS.aload X3.here hx rfl (hb hby d13_19) rfl rfl kk0) ?_
    obtain ⟨T4, X4, e4, st4⟩ := getF X3 hx hZ hown (host := "") (Or.inl (tw82 hw)) Via.refl hh3 Fw1 (g := (mkF m 21 #[.val (.ref b), .val (.ref tv), .val (.int (2 : Int32)), .val (.int (1 : Int32)), .val (.ref wr)] [(.ref wr)])) rfl rfl (hb hby d13_21)
    refine Go.of (mkF m 24 #[.val (.ref b), .val (.ref tv), .val (.int (2 : Int32)), .val (.int (1 : Int32)), .val (.ref wr)] [(.ref t2)]) (st4) ?_
    refine Go.of (mkF m 25 #[.val (.ref b), .val (.ref tv), .val (.int (2 : Int32)), .val (.int (1 : Int32)), .val (.ref wr)] [(.ref b), (.ref t2)]) (fun tt0 kk0 => XS.aloadN X4.here hx rfl (hb hby d13_24) rfl rfl kk0) ?_
    refine Go.virt X4 hx hZ (y := (⟨"java/lang/String", "equals", "(Ljava/lang/Object;)Z"⟩ : MethodName)) (z := (⟨"java/lang/String", "equals", "(Ljava/lang/Object;)Z"⟩ : MethodName)) (a := t2) (argsL := [(.ref b)]) (rest := []) hown (tw84 hw) (tw85 hw) (notFace_of_selects (args := #[]) (mvT hZ (tw87 hw))) (tw87 hw) (tw86 hw) (tw7 hw) (tw88 hw) (by decide) e4 E_t2 (rmEq6 l Z a0 hw [] t2 d2 yW T1.heap G1 O2 P3 E_t2 C_t2 V_t2 A_t2 b f q y2 E_b C_b V_b A_b n2 hq) (g := (mkF m 25 #[.val (.ref b), .val (.ref tv), .val (.int (2 : Int32)), .val (.int (1 : Int32)), .val (.ref wr)] [(.ref b), (.ref t2)])) rfl (by rw [hml]; rfl) (lenOf pd17 rfl) rfl (W := 0) (by show 2 * 0 + _ ≤ _; exact Nat.le_of_eq rfl) (hb hby d13_25) (by decide) (by decide) (by decide) (by decide) ?_
    rintro T5 L5 v5 X5 ⟨rfl, rfl, hh5⟩
    have N5 := Fr.app N3 (Fr.nil n0)
    show Go pr ev below _ T5 (mkF m 28 #[.val (.ref b), .val (.ref tv), .val (.int (2 : Int32)), .val (.int (1 : Int32)), .val (.ref wr)] [(.int (own_eq6 yW y2))])
    by_cases hc28b : (own_eq6 yW y2) = (0 : Int32)
    ·
      refine Go.of (mkF m 34 #[.val (.ref b), .val (.ref tv), .val (.int (2 : Int32)), .val (.int (1 : Int32)), .val (.ref wr)] []) (fun tt0 kk0 => XS.ifYes X5.here hx rfl (pc0 := 28) (pc' := 34) rfl (hb hby d13_28) rfl ((if0 _ _).trans (teq hc28b).1) (by decide) (by decide) kk0) ?_
      refine Go.of (mkF m 37 #[.val (.ref b), .val (.ref tv), .val (.int (2 : Int32)), .val (.int ((1 : Int32) + (1 : Int32))), .val (.ref wr)] []) (fun tt0 kk0 => XS.iinc X5.here hx rfl (hb hby d13_34) rfl (l' := #[.val (.ref b), .val (.ref tv), .val (.int (2 : Int32)), .val (.int ((1 : Int32) + (1 : Int32))), .val (.ref wr)]) rfl kk0) ?_
      rw [show ((1 : Int32) + (1 : Int32)) = (2 : Int32) from by decide]
      refine Go.of (mkF m 9 #[.val (.ref b), .val (.ref tv), .val (.int (2 : Int32)), .val (.int (2 : Int32)), .val (.ref wr)] []) (fun tt0 kk0 => XS.goto X5.here hx rfl (pc0 := 37) (pc' := 9) rfl (hb hby d13_37) (by decide) (by decide) kk0) ?_
      refine Go.of (mkF m 10 #[.val (.ref b), .val (.ref tv), .val (.int (2 : Int32)), .val (.int (2 : Int32)), .val (.ref wr)] [(.int (2 : Int32))]) (fun tt0 kk0 => XS.iloadN X5.here hx rfl (hb hby d13_9) rfl kk0) ?_
      refine Go.of (mkF m 11 #[.val (.ref b), .val (.ref tv), .val (.int (2 : Int32)), .val (.int (2 : Int32)), .val (.ref wr)] [(.int (2 : Int32)), (.int (2 : Int32))]) (fun tt0 kk0 => XS.iloadN X5.here hx rfl (hb hby d13_10) rfl kk0) ?_
      refine Go.of (mkF m 40 #[.val (.ref b), .val (.ref tv), .val (.int (2 : Int32)), .val (.int (2 : Int32)), .val (.ref wr)] []) (fun tt0 kk0 => XS.icmpYes X5.here hx rfl (pc0 := 11) (pc' := 40) rfl (hb hby d13_11) rfl (flt (by decide)).2.1 (by decide) (by decide) kk0) ?_
      refine Go.of (mkF m 41 #[.val (.ref b), .val (.ref tv), .val (.int (2 : Int32)), .val (.int (2 : Int32)), .val (.ref wr)] [.null]) (fun tt0 kk0 => XS.aconstNull X5.here hx rfl (hb hby d13_40) kk0) ?_
      exact Go.retW X5 hx (t := (.object "com/example/sealed_ledger/sealedledger/http/Access$Role")) hret hlk rfl (Or.inr (Or.inr (Or.inr (Or.inr ⟨rfl, rfl, rfl⟩)))) (hb hby d13_41) (by decide) (by decide) ⟨by simp [own_named, hc28, hc28b], N5, (by rw [hh5]; exact K0)⟩
    ·
      refine Go.of (mkF m 31 #[.val (.ref b), .val (.ref tv), .val (.int (2 : Int32)), .val (.int (1 : Int32)), .val (.ref wr)] []) (fun tt0 kk0 => XS.ifNo X5.here hx rfl (hb hby d13_28) rfl ((if0 _ _).trans (feq hc28b).1) kk0) ?_
      refine Go.of (mkF m 33 #[.val (.ref b), .val (.ref tv), .val (.int (2 : Int32)), .val (.int (1 : Int32)), .val (.ref wr)] [(.ref wr)]) (fun tt0 kk0 => XS.aload X5.here hx rfl (hb hby d13_31) rfl rfl kk0) ?_
      exact Go.retW X5 hx (t := (.object "com/example/sealed_ledger/sealedledger/http/Access$Role")) hret hlk rfl (Or.inr (Or.inr (Or.inr (Or.inr ⟨rfl, rfl, rfl⟩)))) (hb hby d13_33) (by decide) (by decide) ⟨by simp [own_named, hc28, hc28b], N5, (by rw [hh5]; exact K0)⟩
  ·
    refine Go.of (mkF m 31 #[.val (.ref b), .val (.ref tv), .val (.int (2 : Int32)), .val (.int (0 : Int32)), .val (.ref rd)] []) (fun tt0 kk0 => XS.ifNo X3.here hx rfl (hb hby d13_28) rfl ((if0 _ _).trans (feq hc28).1) kk0) ?_
    refine Go.of (mkF m 33 #[.val (.ref b), .val (.ref tv), .val (.int (2 : Int32)), .val (.int (0 : Int32)), .val (.ref rd)] [(.ref rd)]) (fun tt0 kk0 => XS.aload X3.here hx rfl (hb hby d13_31) rfl rfl kk0) ?_
    exact Go.retW X3 hx (t := (.object "com/example/sealed_ledger/sealedledger/http/Access$Role")) hret hlk rfl (Or.inr (Or.inr (Or.inr (Or.inr ⟨rfl, rfl, rfl⟩)))) (hb hby d13_33) (by decide) (by decide) ⟨by simp [own_named, hc28], N3, (by rw [hh3]; exact K0)⟩
theorem ef_rmNaD (m : MethodId) (x0 : Addr) : entryFrame m #[(.ref x0)] 5 = mkF m 0 #[.val (.ref x0), .unset, .unset, .unset, .unset] [] := by first | (simp [entryFrame, mkF, argsToLocals, Value.category]; done) | rfl
set_option maxRecDepth 65536 in
set_option maxHeartbeats 40000000 in
theorem rmNaD (l : Launch) (Z : State) (a0 : Array Value) (hw : ∀ d ∈ tables_1, d.before a0 Z = true) (ws : List Jvm.Cond) (h0 : Heap) (n0 : Nat) (hz0 : n0 ≤ h0.size) (G1 : Int32) (O2 : Sta Z h0 "java/lang/String" "COMPACT_STRINGS" "Z" (.int G1)) (P3 : ¬ G1 = 0) (va rd wr : Nat) (yv : Int32 → Value) (Sv : Sta Z h0 "com/example/sealed_ledger/sealedledger/http/Access$Role" "$VALUES" "[Lcom/example/sealed_ledger/sealedledger/http/Access$Role;" (.ref va)) (Vv : Fa Z h0 va (.object "com/example/sealed_ledger/sealedledger/http/Access$Role") 2 yv) (Ev : Exa Z h0 va "[Lcom/example/sealed_ledger/sealedledger/http/Access$Role;") (hy0 : yv 0 = .ref rd) (hy1 : yv 1 = .ref wr) (t1 d1 t2 d2 : Nat) (yR yW : Int32 → Int32) (Er : Exa Z h0 rd "com/example/sealed_ledger/sealedledger/http/Access$Role") (Fr1 : Fld Z h0 rd "com/example/sealed_ledger/sealedledger/http/Access$Role" "text" "Ljava/lang/String;" (.ref t1)) (E_t1 : Exa Z h0 t1 "java/lang/String") (C_t1 : Fld Z h0 t1 "java/lang/String" "coder" "B" (.int 0)) (V_t1 : Fld Z h0 t1 "java/lang/String" "value" "[B" (.ref d1)) (A_t1 : Fa Z h0 d1 .byte 6 (fun i => .int (yR i))) (Ew : Exa Z h0 wr "com/example/sealed_ledger/sealedledger/http/Access$Role") (Fw1 : Fld Z h0 wr "com/example/sealed_ledger/sealedledger/http/Access$Role" "text" "Ljava/lang/String;" (.ref t2)) (E_t2 : Exa Z h0 t2 "java/lang/String") (C_t2 : Fld Z h0 t2 "java/lang/String" "coder" "B" (.int 0)) (V_t2 : Fld Z h0 t2 "java/lang/String" "value" "[B" (.ref d2)) (A_t2 : Fa Z h0 d2 .byte 6 (fun i => .int (yW i))) (b f : Nat) (q : Int32) (y2 : Int32 → Int32) (E_b : Exa Z h0 b "java/lang/String") (C_b : Fld Z h0 b "java/lang/String" "coder" "B" (.int 0)) (V_b : Fld Z h0 b "java/lang/String" "value" "[B" (.ref f)) (A_b : Fa Z h0 f .byte q (fun i => .int (y2 i))) (n1 : t1 ≠ b) (n2 : t2 ≠ b) (hq : ¬ q = 6) :
    Met l Z (⟨"com/example/sealed_ledger/sealedledger/http/Access$Role", "named", "(Ljava/lang/String;)Lcom/example/sealed_ledger/sealedledger/http/Access$Role;"⟩ : MethodName) prog_3_method_4_code 5 (some (.object "com/example/sealed_ledger/sealedledger/http/Access$Role")) ws ({ frames := 2, cells := 1, slots := 2, locals := 28 } : Room) #[(.ref b)] h0 (fun v h L => v = some .null ∧ Fr n0 L ∧ Keep h0 h []) := by
  refine Met.intro pn15 ?_
  intro pr ev s m below meth c T0 X0 hx hZ hown hby hml hret hlk hnm e0
  refine Go.cast (ef_rmNaD m b) ?_
  have N0 := Fr.nil n0
  have hz := hz0
  have K0 : Keep h0 h0 [] := Keep.refl h0 _
  refine Go.callS X0 hx hZ (y := (⟨"com/example/sealed_ledger/sealedledger/http/Access$Role", "values", "()[Lcom/example/sealed_ledger/sealedledger/http/Access$Role;"⟩ : MethodName)) (argsL := []) (rest := []) hown (tw66 hw) (tw67 hw) (tw61 hw) (tw68 hw) (by decide) e0 (rmVa l Z a0 hw [] h0 n0 hz va rd wr yv Sv Vv Ev hy0 hy1) (g := (mkF m 0 #[.val (.ref b), .unset, .unset, .unset, .unset] [])) rfl (by rw [hml]; rfl) (lenOf pd16 rfl) rfl (W := 0) (by show 2 * 0 + _ ≤ _; exact Nat.le_of_eq rfl) (hb hby d13_0) (by decide) (by decide) (by decide) (by decide) ?_
  rintro T1 L1 v1 X1 ⟨tv, rfl, NL1, K1, szv, Vt⟩
  have N1 := Fr.app N0 NL1
  have ne_va_tv : va ≠ tv := Nat.ne_of_lt (Nat.lt_of_lt_of_le Ev.lt szv)
  have ne_rd_tv : rd ≠ tv := Nat.ne_of_lt (Nat.lt_of_lt_of_le Er.lt szv)
  have ne_wr_tv : wr ≠ tv := Nat.ne_of_lt (Nat.lt_of_lt_of_le Ew.lt szv)
  have ne_t1_tv : t1 ≠ tv := Nat.ne_of_lt (Nat.lt_of_lt_of_le E_t1.lt szv)
  have ne_t2_tv : t2 ≠ tv := Nat.ne_of_lt (Nat.lt_of_lt_of_le E_t2.lt szv)
  have ne_b_tv : b ≠ tv := Nat.ne_of_lt (Nat.lt_of_lt_of_le E_b.lt szv)
  have ne_d1_tv : d1 ≠ tv := Nat.ne_of_lt (Nat.lt_of_lt_of_le A_t1.lt szv)
  have ne_d2_tv : d2 ≠ tv := Nat.ne_of_lt (Nat.lt_of_lt_of_le A_t2.lt szv)
  have ne_f_tv : f ≠ tv := Nat.ne_of_lt (Nat.lt_of_lt_of_le A_b.lt szv)
  have gb_tv : n0 ≤ tv := Nat.le_trans hz szv
  have sz_tv : h0.size ≤ tv := Nat.le_trans K0.1 szv
  replace O2 := Sta.keep O2 K1 (all0)
  replace Sv := Sta.keep Sv K1 (all0)
  replace Fr1 := Fr1.keep K1 nin0
  replace Fw1 := Fw1.keep K1 nin0
  replace C_t1 := C_t1.keep K1 nin0
  replace V_t1 := V_t1.keep K1 nin0
  replace C_t2 := C_t2.keep K1 nin0
  replace V_t2 := V_t2.keep K1 nin0
  replace C_b := C_b.keep K1 nin0
  replace V_b := V_b.keep K1 nin0
  replace Ev := Ev.keep K1
  replace Er := Er.keep K1
  replace Ew := Ew.keep K1
  replace E_t1 := E_t1.keep K1
  replace E_t2 := E_t2.keep K1
  replace E_b := E_b.keep K1
  replace Vv := Vv.keep K1 nin0
  replace A_t1 := A_t1.keep K1 nin0
  replace A_t2 := A_t2.keep K1 nin0
  replace A_b := A_b.keep K1 nin0
  replace hz := Nat.le_trans hz K1.1
  replace K0 := K0.trans K1 (fun x hx => nomatch hx)
  show Go pr ev below _ T1 (mkF m 3 #[.val (.ref b), .unset, .unset, .unset, .unset] [(.ref tv)])
  refine Go.of (mkF m 4 #[.val (.ref b), .val (.ref tv), .unset, .unset, .unset] []) (fun tt0 kk0 => XS.astoreN X1.here hx rfl (hb hby d13_3) rfl rfl (l' := #[.val (.ref b), .val (.ref tv), .unset, .unset, .unset]) rfl kk0) ?_
  refine Go.of (mkF m 5 #[.val (.ref b), .val (.ref tv), .unset, .unset, .unset] [(.ref tv)]) (fun tt0 kk0 => XS.aloadN X1.here hx rfl (hb hby d13_4) rfl rfl kk0) ?_
  refine Go.arraylength X1 hx hZ rfl Vt (g := (mkF m 5 #[.val (.ref b), .val (.ref tv), .unset, .unset, .unset] [(.ref tv)])) rfl rfl (hb hby d13_5) ?_
  show Go pr ev below _ T1 (mkF m 6 #[.val (.ref b), .val (.ref tv), .unset, .unset, .unset] [(.int (2 : Int32))])
  refine Go.of (mkF m 7 #[.val (.ref b), .val (.ref tv), .val (.int (2 : Int32)), .unset, .unset] []) (fun tt0 kk0 => XS.istoreN X1.here hx rfl (hb hby d13_6) rfl (l' := #[.val (.ref b), .val (.ref tv), .val (.int (2 : Int32)), .unset, .unset]) rfl kk0) ?_
  refine Go.of (mkF m 8 #[.val (.ref b), .val (.ref tv), .val (.int (2 : Int32)), .unset, .unset] [(.int (0 : Int32))]) (fun tt0 kk0 => XS.iconst X1.here hx rfl (hb hby d13_7) kk0) ?_
  refine Go.of (mkF m 9 #[.val (.ref b), .val (.ref tv), .val (.int (2 : Int32)), .val (.int (0 : Int32)), .unset] []) (fun tt0 kk0 => XS.istoreN X1.here hx rfl (hb hby d13_8) rfl (l' := #[.val (.ref b), .val (.ref tv), .val (.int (2 : Int32)), .val (.int (0 : Int32)), .unset]) rfl kk0) ?_
  refine Go.of (mkF m 10 #[.val (.ref b), .val (.ref tv), .val (.int (2 : Int32)), .val (.int (0 : Int32)), .unset] [(.int (0 : Int32))]) (fun tt0 kk0 => XS.iloadN X1.here hx rfl (hb hby d13_9) rfl kk0) ?_
  refine Go.of (mkF m 11 #[.val (.ref b), .val (.ref tv), .val (.int (2 : Int32)), .val (.int (0 : Int32)), .unset] [(.int (2 : Int32)), (.int (0 : Int32))]) (fun tt0 kk0 => XS.iloadN X1.here hx rfl (hb hby d13_10) rfl kk0) ?_
  refine Go.of (mkF m 14 #[.val (.ref b), .val (.ref tv), .val (.int (2 : Int32)), .val (.int (0 : Int32)), .unset] []) (fun tt0 kk0 => XS.icmpNo X1.here hx rfl (hb hby d13_11) rfl (tlt (by decide)).2.1 kk0) ?_
  refine Go.of (mkF m 15 #[.val (.ref b), .val (.ref tv), .val (.int (2 : Int32)), .val (.int (0 : Int32)), .unset] [(.ref tv)]) (fun tt0 kk0 => XS.aloadN X1.here hx rfl (hb hby d13_14) rfl rfl kk0) ?_
  refine Go.of (mkF m 16 #[.val (.ref b), .val (.ref tv), .val (.int (2 : Int32)), .val (.int (0 : Int32)), .unset] [(.int (0 : Int32)), (.ref tv)]) (fun tt0 kk0 => XS.iloadN X1.here hx rfl (hb hby d13_15) rfl kk0) ?_
  refine Go.aaload X1 hx hZ rfl Vt rfl (by decide) (by decide) (g := (mkF m 16 #[.val (.ref b), .val (.ref tv), .val (.int (2 : Int32)), .val (.int (0 : Int32)), .unset] [(.int (0 : Int32)), (.ref tv)])) rfl rfl (hb hby d13_16) ?_
  show Go pr ev below _ T1 (mkF m 17 #[.val (.ref b), .val (.ref tv), .val (.int (2 : Int32)), .val (.int (0 : Int32)), .unset] [(yv (0 : Int32))])
  rw [show (yv (0 : Int32)) = (.ref rd) from hy0]
  show Go pr ev below _ T1 (mkF m 17 #[.val (.ref b), .val (.ref tv), .val (.int (2 : Int32)), .val (.int (0 : Int32)), .unset] [(.ref rd)])
  refine Go.of (mkF m 19 #[.val (.ref b), .val (.ref tv), .val (.int (2 : Int32)), .val (.int (0 : Int32)), .val (.ref rd)] []) (fun tt0 kk0 => XS.astore X1.here hx rfl (hb hby d13_17) rfl rfl (l' := #[.val (.ref b), .val (.ref tv), .val (.int (2 : Int32)), .val (.int (0 : Int32)), .val (.ref rd)]) rfl kk0) ?_
  refine Go.of (mkF m 21 #[.val (.ref b), .val (.ref tv), .val (.int (2 : Int32)), .val (.int (0 : Int32)), .val (.ref rd)] [(.ref rd)]) (fun tt0 kk0 => XS.aload X1.here hx rfl (hb hby d13_19) rfl rfl kk0) ?_
  obtain ⟨T2, X2, e2, st2⟩ := getF X1 hx hZ hown (host := "") (Or.inl (tw82 hw)) Via.refl rfl Fr1 (g := (mkF m 21 #[.val (.ref b), .val (.ref tv), .val (.int (2 : Int32)), .val (.int (0 : Int32)), .val (.ref rd)] [(.ref rd)])) rfl rfl (hb hby d13_21)
  refine Go.of (mkF m 24 #[.val (.ref b), .val (.ref tv), .val (.int (2 : Int32)), .val (.int (0 : Int32)), .val (.ref rd)] [(.ref t1)]) (st2) ?_
  refine Go.of (mkF m 25 #[.val (.ref b), .val (.ref tv), .val (.int (2 : Int32)), .val (.int (0 : Int32)), .val (.ref rd)] [(.ref b), (.ref t1)]) (fun tt0 kk0 => XS.aloadN X2.here hx rfl (hb hby d13_24) rfl rfl kk0) ?_
  refine Go.virt X2 hx hZ (y := (⟨"java/lang/String", "equals", "(Ljava/lang/Object;)Z"⟩ : MethodName)) (z := (⟨"java/lang/String", "equals", "(Ljava/lang/Object;)Z"⟩ : MethodName)) (a := t1) (argsL := [(.ref b)]) (rest := []) hown (tw84 hw) (tw85 hw) (notFace_of_selects (args := #[]) (mvT hZ (tw87 hw))) (tw87 hw) (tw86 hw) (tw7 hw) (tw88 hw) (by decide) e2 E_t1 (rmEqD l Z a0 hw [] t1 d1 yR T1.heap G1 O2 P3 E_t1 C_t1 V_t1 A_t1 b f q y2 E_b C_b V_b A_b n1 hq) (g := (mkF m 25 #[.val (.ref b), .val (.ref tv), .val (.int (2 : Int32)), .val (.int (0 : Int32)), .val (.ref rd)] [(.ref b), (.ref t1)])) rfl (by rw [hml]; rfl) (lenOf pd17 rfl) rfl (W := 0) (by show 2 * 0 + _ ≤ _; exact Nat.le_of_eq rfl) (hb hby d13_25) (by decide) (by decide) (by decide) (by decide) ?_
  rintro T3 L3 v3 X3 ⟨rfl, rfl, hh3⟩
  have N3 := Fr.app N1 (Fr.nil n0)
  show Go pr ev below _ T3 (mkF m 28 #[.val (.ref b), .val (.ref tv), .val (.int (2 : Int32)), .val (.int (0 : Int32)), .val (.ref rd)] [(.int (0 : Int32))])
  refine Go.of (mkF m 34 #[.val (.ref b), .val (.ref tv), .val (.int (2 : Int32)), .val (.int (0 : Int32)), .val (.ref rd)] []) (fun tt0 kk0 => XS.ifYes X3.here hx rfl (pc0 := 28) (pc' := 34) rfl (hb hby d13_28) rfl ((if0 _ _).trans (teq (by decide)).1) (by decide) (by decide) kk0) ?_
  refine Go.of (mkF m 37 #[.val (.ref b), .val (.ref tv), .val (.int (2 : Int32)), .val (.int ((0 : Int32) + (1 : Int32))), .val (.ref rd)] []) (fun tt0 kk0 => XS.iinc X3.here hx rfl (hb hby d13_34) rfl (l' := #[.val (.ref b), .val (.ref tv), .val (.int (2 : Int32)), .val (.int ((0 : Int32) + (1 : Int32))), .val (.ref rd)]) rfl kk0) ?_
  rw [show ((0 : Int32) + (1 : Int32)) = (1 : Int32) from by decide]
  refine Go.of (mkF m 9 #[.val (.ref b), .val (.ref tv), .val (.int (2 : Int32)), .val (.int (1 : Int32)), .val (.ref rd)] []) (fun tt0 kk0 => XS.goto X3.here hx rfl (pc0 := 37) (pc' := 9) rfl (hb hby d13_37) (by decide) (by decide) kk0) ?_
  refine Go.of (mkF m 10 #[.val (.ref b), .val (.ref tv), .val (.int (2 : Int32)), .val (.int (1 : Int32)), .val (.ref rd)] [(.int (1 : Int32))]) (fun tt0 kk0 => XS.iloadN X3.here hx rfl (hb hby d13_9) rfl kk0) ?_
  refine Go.of (mkF m 11 #[.val (.ref b), .val (.ref tv), .val (.int (2 : Int32)), .val (.int (1 : Int32)), .val (.ref rd)] [(.int (2 : Int32)), (.int (1 : Int32))]) (fun tt0 kk0 => XS.iloadN X3.here hx rfl (hb hby d13_10) rfl kk0) ?_
  refine Go.of (mkF m 14 #[.val (.ref b), .val (.ref tv), .val (.int (2 : Int32)), .val (.int (1 : Int32)), .val (.ref rd)] []) (fun tt0 kk0 => XS.icmpNo X3.here hx rfl (hb hby d13_11) rfl (tlt (by decide)).2.1 kk0) ?_
  refine Go.of (mkF m 15 #[.val (.ref b), .val (.ref tv), .val (.int (2 : Int32)), .val (.int (1 : Int32)), .val (.ref rd)] [(.ref tv)]) (fun tt0 kk0 => XS.aloadN X3.here hx rfl (hb hby d13_14) rfl rfl kk0) ?_
  refine Go.of (mkF m 16 #[.val (.ref b), .val (.ref tv), .val (.int (2 : Int32)), .val (.int (1 : Int32)), .val (.ref rd)] [(.int (1 : Int32)), (.ref tv)]) (fun tt0 kk0 => XS.iloadN X3.here hx rfl (hb hby d13_15) rfl kk0) ?_
  refine Go.aaload X3 hx hZ hh3 Vt rfl (by decide) (by decide) (g := (mkF m 16 #[.val (.ref b), .val (.ref tv), .val (.int (2 : Int32)), .val (.int (1 : Int32)), .val (.ref rd)] [(.int (1 : Int32)), (.ref tv)])) rfl rfl (hb hby d13_16) ?_
  show Go pr ev below _ T3 (mkF m 17 #[.val (.ref b), .val (.ref tv), .val (.int (2 : Int32)), .val (.int (1 : Int32)), .val (.ref rd)] [(yv (1 : Int32))])
  rw [show (yv (1 : Int32)) = (.ref wr) from hy1]
  show Go pr ev below _ T3 (mkF m 17 #[.val (.ref b), .val (.ref tv), .val (.int (2 : Int32)), .val (.int (1 : Int32)), .val (.ref rd)] [(.ref wr)])
  refine Go.of (mkF m 19 #[.val (.ref b), .val (.ref tv), .val (.int (2 : Int32)), .val (.int (1 : Int32)), .val (.ref wr)] []) (fun tt0 kk0 => XS.astore X3.here hx rfl (hb hby d13_17) rfl rfl (l' := #[.val (.ref b), .val (.ref tv), .val (.int (2 : Int32)), .val (.int (1 : Int32)), .val (.ref wr)]) rfl kk0) ?_
  refine Go.of (mkF m 21 #[.val (.ref b), .val (.ref tv), .val (.int (2 : Int32)), .val (.int (1 : Int32)), .val (.ref wr)] [(.ref wr)]) (fun tt0 kk0 => XS.aload X3.here hx rfl (hb hby d13_19) rfl rfl kk0) ?_
  obtain ⟨T4, X4, e4, st4⟩ := getF X3 hx hZ hown (host := "") (Or.inl (tw82 hw)) Via.refl hh3 Fw1 (g := (mkF m 21 #[.val (.ref b), .val (.ref tv), .val (.int (2 : Int32)), .val (.int (1 : Int32)), .val (.ref wr)] [(.ref wr)])) rfl rfl (hb hby d13_21)
  refine Go.of (mkF m 24 #[.val (.ref b), .val (.ref tv), .val (.int (2 : Int32)), .val (.int (1 : Int32)), .val (.ref wr)] [(.ref t2)]) (st4) ?_
  refine Go.of (mkF m 25 #[.val (.ref b), .val (.ref tv), .val (.int (2 : Int32)), .val (.int (1 : Int32)), .val (.ref wr)] [(.ref b), (.ref t2)]) (fun tt0 kk0 => XS.aloadN X4.here hx rfl (hb hby d13_24) rfl rfl kk0) ?_
  refine Go.virt X4 hx hZ (y := (⟨"java/lang/String", "equals", "(Ljava/lang/Object;)Z"⟩ : MethodName)) (z := (⟨"java/lang/String", "equals", "(Ljava/lang/Object;)Z"⟩ : MethodName)) (a := t2) (argsL := [(.ref b)]) (rest := []) hown (tw84 hw) (tw85 hw) (notFace_of_selects (args := #[]) (mvT hZ (tw87 hw))) (tw87 hw) (tw86 hw) (tw7 hw) (tw88 hw) (by decide) e4 E_t2 (rmEqD l Z a0 hw [] t2 d2 yW T1.heap G1 O2 P3 E_t2 C_t2 V_t2 A_t2 b f q y2 E_b C_b V_b A_b n2 hq) (g := (mkF m 25 #[.val (.ref b), .val (.ref tv), .val (.int (2 : Int32)), .val (.int (1 : Int32)), .val (.ref wr)] [(.ref b), (.ref t2)])) rfl (by rw [hml]; rfl) (lenOf pd17 rfl) rfl (W := 0) (by show 2 * 0 + _ ≤ _; exact Nat.le_of_eq rfl) (hb hby d13_25) (by decide) (by decide) (by decide) (by decide) ?_
  rintro T5 L5 v5 X5 ⟨rfl, rfl, hh5⟩
  have N5 := Fr.app N3 (Fr.nil n0)
  show Go pr ev below _ T5 (mkF m 28 #[.val (.ref b), .val (.ref tv), .val (.int (2 : Int32)), .val (.int (1 : Int32)), .val (.ref wr)] [(.int (0 : Int32))])
  refine Go.of (mkF m 34 #[.val (.ref b), .val (.ref tv), .val (.int (2 : Int32)), .val (.int (1 : Int32)), .val (.ref wr)] []) (fun tt0 kk0 => XS.ifYes X5.here hx rfl (pc0 := 28) (pc' := 34) rfl (hb hby d13_28) rfl ((if0 _ _).trans (teq (by decide)).1) (by decide) (by decide) kk0) ?_
  refine Go.of (mkF m 37 #[.val (.ref b), .val (.ref tv), .val (.int (2 : Int32)), .val (.int ((1 : Int32) + (1 : Int32))), .val (.ref wr)] []) (fun tt0 kk0 => XS.iinc X5.here hx rfl (hb hby d13_34) rfl (l' := #[.val (.ref b), .val (.ref tv), .val (.int (2 : Int32)), .val (.int ((1 : Int32) + (1 : Int32))), .val (.ref wr)]) rfl kk0) ?_
  rw [show ((1 : Int32) + (1 : Int32)) = (2 : Int32) from by decide]
  refine Go.of (mkF m 9 #[.val (.ref b), .val (.ref tv), .val (.int (2 : Int32)), .val (.int (2 : Int32)), .val (.ref wr)] []) (fun tt0 kk0 => XS.goto X5.here hx rfl (pc0 := 37) (pc' := 9) rfl (hb hby d13_37) (by decide) (by decide) kk0) ?_
  refine Go.of (mkF m 10 #[.val (.ref b), .val (.ref tv), .val (.int (2 : Int32)), .val (.int (2 : Int32)), .val (.ref wr)] [(.int (2 : Int32))]) (fun tt0 kk0 => XS.iloadN X5.here hx rfl (hb hby d13_9) rfl kk0) ?_
  refine Go.of (mkF m 11 #[.val (.ref b), .val (.ref tv), .val (.int (2 : Int32)), .val (.int (2 : Int32)), .val (.ref wr)] [(.int (2 : Int32)), (.int (2 : Int32))]) (fun tt0 kk0 => XS.iloadN X5.here hx rfl (hb hby d13_10) rfl kk0) ?_
  refine Go.of (mkF m 40 #[.val (.ref b), .val (.ref tv), .val (.int (2 : Int32)), .val (.int (2 : Int32)), .val (.ref wr)] []) (fun tt0 kk0 => XS.icmpYes X5.here hx rfl (pc0 := 11) (pc' := 40) rfl (hb hby d13_11) rfl (flt (by decide)).2.1 (by decide) (by decide) kk0) ?_
  refine Go.of (mkF m 41 #[.val (.ref b), .val (.ref tv), .val (.int (2 : Int32)), .val (.int (2 : Int32)), .val (.ref wr)] [.null]) (fun tt0 kk0 => XS.aconstNull X5.here hx rfl (hb hby d13_40) kk0) ?_
  exact Go.retW X5 hx (t := (.object "com/example/sealed_ledger/sealedledger/http/Access$Role")) hret hlk rfl (Or.inr (Or.inr (Or.inr (Or.inr ⟨rfl, rfl, rfl⟩)))) (hb hby d13_41) (by decide) (by decide) ⟨rfl, N5, (by rw [hh5]; exact K0)⟩
theorem ef_rmNaN (m : MethodId)  : entryFrame m #[.null] 5 = mkF m 0 #[.val .null, .unset, .unset, .unset, .unset] [] := by first | (simp [entryFrame, mkF, argsToLocals, Value.category]; done) | rfl
set_option maxRecDepth 65536 in
set_option maxHeartbeats 40000000 in
theorem rmNaN (l : Launch) (Z : State) (a0 : Array Value) (hw : ∀ d ∈ tables_1, d.before a0 Z = true) (ws : List Jvm.Cond) (h0 : Heap) (n0 : Nat) (hz0 : n0 ≤ h0.size) (G1 : Int32) (O2 : Sta Z h0 "java/lang/String" "COMPACT_STRINGS" "Z" (.int G1)) (P3 : ¬ G1 = 0) (va rd wr : Nat) (yv : Int32 → Value) (Sv : Sta Z h0 "com/example/sealed_ledger/sealedledger/http/Access$Role" "$VALUES" "[Lcom/example/sealed_ledger/sealedledger/http/Access$Role;" (.ref va)) (Vv : Fa Z h0 va (.object "com/example/sealed_ledger/sealedledger/http/Access$Role") 2 yv) (Ev : Exa Z h0 va "[Lcom/example/sealed_ledger/sealedledger/http/Access$Role;") (hy0 : yv 0 = .ref rd) (hy1 : yv 1 = .ref wr) (t1 d1 t2 d2 : Nat) (yR yW : Int32 → Int32) (Er : Exa Z h0 rd "com/example/sealed_ledger/sealedledger/http/Access$Role") (Fr1 : Fld Z h0 rd "com/example/sealed_ledger/sealedledger/http/Access$Role" "text" "Ljava/lang/String;" (.ref t1)) (E_t1 : Exa Z h0 t1 "java/lang/String") (C_t1 : Fld Z h0 t1 "java/lang/String" "coder" "B" (.int 0)) (V_t1 : Fld Z h0 t1 "java/lang/String" "value" "[B" (.ref d1)) (A_t1 : Fa Z h0 d1 .byte 6 (fun i => .int (yR i))) (Ew : Exa Z h0 wr "com/example/sealed_ledger/sealedledger/http/Access$Role") (Fw1 : Fld Z h0 wr "com/example/sealed_ledger/sealedledger/http/Access$Role" "text" "Ljava/lang/String;" (.ref t2)) (E_t2 : Exa Z h0 t2 "java/lang/String") (C_t2 : Fld Z h0 t2 "java/lang/String" "coder" "B" (.int 0)) (V_t2 : Fld Z h0 t2 "java/lang/String" "value" "[B" (.ref d2)) (A_t2 : Fa Z h0 d2 .byte 6 (fun i => .int (yW i))) :
    Met l Z (⟨"com/example/sealed_ledger/sealedledger/http/Access$Role", "named", "(Ljava/lang/String;)Lcom/example/sealed_ledger/sealedledger/http/Access$Role;"⟩ : MethodName) prog_3_method_4_code 5 (some (.object "com/example/sealed_ledger/sealedledger/http/Access$Role")) ws ({ frames := 2, cells := 1, slots := 2, locals := 28 } : Room) #[.null] h0 (fun v h L => v = some .null ∧ Fr n0 L ∧ Keep h0 h []) := by
  refine Met.intro pn15 ?_
  intro pr ev s m below meth c T0 X0 hx hZ hown hby hml hret hlk hnm e0
  refine Go.cast (ef_rmNaN m ) ?_
  have N0 := Fr.nil n0
  have hz := hz0
  have K0 : Keep h0 h0 [] := Keep.refl h0 _
  refine Go.callS X0 hx hZ (y := (⟨"com/example/sealed_ledger/sealedledger/http/Access$Role", "values", "()[Lcom/example/sealed_ledger/sealedledger/http/Access$Role;"⟩ : MethodName)) (argsL := []) (rest := []) hown (tw66 hw) (tw67 hw) (tw61 hw) (tw68 hw) (by decide) e0 (rmVa l Z a0 hw [] h0 n0 hz va rd wr yv Sv Vv Ev hy0 hy1) (g := (mkF m 0 #[.val .null, .unset, .unset, .unset, .unset] [])) rfl (by rw [hml]; rfl) (lenOf pd16 rfl) rfl (W := 0) (by show 2 * 0 + _ ≤ _; exact Nat.le_of_eq rfl) (hb hby d13_0) (by decide) (by decide) (by decide) (by decide) ?_
  rintro T1 L1 v1 X1 ⟨tv, rfl, NL1, K1, szv, Vt⟩
  have N1 := Fr.app N0 NL1
  have ne_va_tv : va ≠ tv := Nat.ne_of_lt (Nat.lt_of_lt_of_le Ev.lt szv)
  have ne_rd_tv : rd ≠ tv := Nat.ne_of_lt (Nat.lt_of_lt_of_le Er.lt szv)
  have ne_wr_tv : wr ≠ tv := Nat.ne_of_lt (Nat.lt_of_lt_of_le Ew.lt szv)
  have ne_t1_tv : t1 ≠ tv := Nat.ne_of_lt (Nat.lt_of_lt_of_le E_t1.lt szv)
  have ne_t2_tv : t2 ≠ tv := Nat.ne_of_lt (Nat.lt_of_lt_of_le E_t2.lt szv)
  have ne_d1_tv : d1 ≠ tv := Nat.ne_of_lt (Nat.lt_of_lt_of_le A_t1.lt szv)
  have ne_d2_tv : d2 ≠ tv := Nat.ne_of_lt (Nat.lt_of_lt_of_le A_t2.lt szv)
  have gb_tv : n0 ≤ tv := Nat.le_trans hz szv
  have sz_tv : h0.size ≤ tv := Nat.le_trans K0.1 szv
  replace O2 := Sta.keep O2 K1 (all0)
  replace Sv := Sta.keep Sv K1 (all0)
  replace Fr1 := Fr1.keep K1 nin0
  replace Fw1 := Fw1.keep K1 nin0
  replace C_t1 := C_t1.keep K1 nin0
  replace V_t1 := V_t1.keep K1 nin0
  replace C_t2 := C_t2.keep K1 nin0
  replace V_t2 := V_t2.keep K1 nin0
  replace Ev := Ev.keep K1
  replace Er := Er.keep K1
  replace Ew := Ew.keep K1
  replace E_t1 := E_t1.keep K1
  replace E_t2 := E_t2.keep K1
  replace Vv := Vv.keep K1 nin0
  replace A_t1 := A_t1.keep K1 nin0
  replace A_t2 := A_t2.keep K1 nin0
  replace hz := Nat.le_trans hz K1.1
  replace K0 := K0.trans K1 (fun x hx => nomatch hx)
  show Go pr ev below _ T1 (mkF m 3 #[.val .null, .unset, .unset, .unset, .unset] [(.ref tv)])
  refine Go.of (mkF m 4 #[.val .null, .val (.ref tv), .unset, .unset, .unset] []) (fun tt0 kk0 => XS.astoreN X1.here hx rfl (hb hby d13_3) rfl rfl (l' := #[.val .null, .val (.ref tv), .unset, .unset, .unset]) rfl kk0) ?_
  refine Go.of (mkF m 5 #[.val .null, .val (.ref tv), .unset, .unset, .unset] [(.ref tv)]) (fun tt0 kk0 => XS.aloadN X1.here hx rfl (hb hby d13_4) rfl rfl kk0) ?_
  refine Go.arraylength X1 hx hZ rfl Vt (g := (mkF m 5 #[.val .null, .val (.ref tv), .unset, .unset, .unset] [(.ref tv)])) rfl rfl (hb hby d13_5) ?_
  show Go pr ev below _ T1 (mkF m 6 #[.val .null, .val (.ref tv), .unset, .unset, .unset] [(.int (2 : Int32))])
  refine Go.of (mkF m 7 #[.val .null, .val (.ref tv), .val (.int (2 : Int32)), .unset, .unset] []) (fun tt0 kk0 => XS.istoreN X1.here hx rfl (hb hby d13_6) rfl (l' := #[.val .null, .val (.ref tv), .val (.int (2 : Int32)), .unset, .unset]) rfl kk0) ?_
  refine Go.of (mkF m 8 #[.val .null, .val (.ref tv), .val (.int (2 : Int32)), .unset, .unset] [(.int (0 : Int32))]) (fun tt0 kk0 => XS.iconst X1.here hx rfl (hb hby d13_7) kk0) ?_
  refine Go.of (mkF m 9 #[.val .null, .val (.ref tv), .val (.int (2 : Int32)), .val (.int (0 : Int32)), .unset] []) (fun tt0 kk0 => XS.istoreN X1.here hx rfl (hb hby d13_8) rfl (l' := #[.val .null, .val (.ref tv), .val (.int (2 : Int32)), .val (.int (0 : Int32)), .unset]) rfl kk0) ?_
  refine Go.of (mkF m 10 #[.val .null, .val (.ref tv), .val (.int (2 : Int32)), .val (.int (0 : Int32)), .unset] [(.int (0 : Int32))]) (fun tt0 kk0 => XS.iloadN X1.here hx rfl (hb hby d13_9) rfl kk0) ?_
  refine Go.of (mkF m 11 #[.val .null, .val (.ref tv), .val (.int (2 : Int32)), .val (.int (0 : Int32)), .unset] [(.int (2 : Int32)), (.int (0 : Int32))]) (fun tt0 kk0 => XS.iloadN X1.here hx rfl (hb hby d13_10) rfl kk0) ?_
  refine Go.of (mkF m 14 #[.val .null, .val (.ref tv), .val (.int (2 : Int32)), .val (.int (0 : Int32)), .unset] []) (fun tt0 kk0 => XS.icmpNo X1.here hx rfl (hb hby d13_11) rfl (tlt (by decide)).2.1 kk0) ?_
  refine Go.of (mkF m 15 #[.val .null, .val (.ref tv), .val (.int (2 : Int32)), .val (.int (0 : Int32)), .unset] [(.ref tv)]) (fun tt0 kk0 => XS.aloadN X1.here hx rfl (hb hby d13_14) rfl rfl kk0) ?_
  refine Go.of (mkF m 16 #[.val .null, .val (.ref tv), .val (.int (2 : Int32)), .val (.int (0 : Int32)), .unset] [(.int (0 : Int32)), (.ref tv)]) (fun tt0 kk0 => XS.iloadN X1.here hx rfl (hb hby d13_15) rfl kk0) ?_
  refine Go.aaload X1 hx hZ rfl Vt rfl (by decide) (by decide) (g := (mkF m 16 #[.val .null, .val (.ref tv), .val (.int (2 : Int32)), .val (.int (0 : Int32)), .unset] [(.int (0 : Int32)), (.ref tv)])) rfl rfl (hb hby d13_16) ?_
  show Go pr ev below _ T1 (mkF m 17 #[.val .null, .val (.ref tv), .val (.int (2 : Int32)), .val (.int (0 : Int32)), .unset] [(yv (0 : Int32))])
  rw [show (yv (0 : Int32)) = (.ref rd) from hy0]
  show Go pr ev below _ T1 (mkF m 17 #[.val .null, .val (.ref tv), .val (.int (2 : Int32)), .val (.int (0 : Int32)), .unset] [(.ref rd)])
  refine Go.of (mkF m 19 #[.val .null, .val (.ref tv), .val (.int (2 : Int32)), .val (.int (0 : Int32)), .val (.ref rd)] []) (fun tt0 kk0 => XS.astore X1.here hx rfl (hb hby d13_17) rfl rfl (l' := #[.val .null, .val (.ref tv), .val (.int (2 : Int32)), .val (.int (0 : Int32)), .val (.ref rd)]) rfl kk0) ?_
  refine Go.of (mkF m 21 #[.val .null, .val (.ref tv), .val (.int (2 : Int32)), .val (.int (0 : Int32)), .val (.ref rd)] [(.ref rd)]) (fun tt0 kk0 => XS.aload X1.here hx rfl (hb hby d13_19) rfl rfl kk0) ?_
  obtain ⟨T2, X2, e2, st2⟩ := getF X1 hx hZ hown (host := "") (Or.inl (tw82 hw)) Via.refl rfl Fr1 (g := (mkF m 21 #[.val .null, .val (.ref tv), .val (.int (2 : Int32)), .val (.int (0 : Int32)), .val (.ref rd)] [(.ref rd)])) rfl rfl (hb hby d13_21)
  refine Go.of (mkF m 24 #[.val .null, .val (.ref tv), .val (.int (2 : Int32)), .val (.int (0 : Int32)), .val (.ref rd)] [(.ref t1)]) (st2) ?_
  refine Go.of (mkF m 25 #[.val .null, .val (.ref tv), .val (.int (2 : Int32)), .val (.int (0 : Int32)), .val (.ref rd)] [.null, (.ref t1)]) (fun tt0 kk0 => XS.aloadN X2.here hx rfl (hb hby d13_24) rfl rfl kk0) ?_
  refine Go.virt X2 hx hZ (y := (⟨"java/lang/String", "equals", "(Ljava/lang/Object;)Z"⟩ : MethodName)) (z := (⟨"java/lang/String", "equals", "(Ljava/lang/Object;)Z"⟩ : MethodName)) (a := t1) (argsL := [.null]) (rest := []) hown (tw84 hw) (tw85 hw) (notFace_of_selects (args := #[]) (mvT hZ (tw87 hw))) (tw87 hw) (tw86 hw) (tw7 hw) (tw88 hw) (by decide) e2 E_t1 (rmEqN l Z a0 hw [] t1 d1 yR T1.heap G1 O2 P3 E_t1 C_t1 V_t1 A_t1) (g := (mkF m 25 #[.val .null, .val (.ref tv), .val (.int (2 : Int32)), .val (.int (0 : Int32)), .val (.ref rd)] [.null, (.ref t1)])) rfl (by rw [hml]; rfl) (lenOf pd17 rfl) rfl (W := 0) (by show 2 * 0 + _ ≤ _; exact Nat.le_of_eq rfl) (hb hby d13_25) (by decide) (by decide) (by decide) (by decide) ?_
  rintro T3 L3 v3 X3 ⟨rfl, rfl, hh3⟩
  have N3 := Fr.app N1 (Fr.nil n0)
  show Go pr ev below _ T3 (mkF m 28 #[.val .null, .val (.ref tv), .val (.int (2 : Int32)), .val (.int (0 : Int32)), .val (.ref rd)] [(.int (0 : Int32))])
  refine Go.of (mkF m 34 #[.val .null, .val (.ref tv), .val (.int (2 : Int32)), .val (.int (0 : Int32)), .val (.ref rd)] []) (fun tt0 kk0 => XS.ifYes X3.here hx rfl (pc0 := 28) (pc' := 34) rfl (hb hby d13_28) rfl ((if0 _ _).trans (teq (by decide)).1) (by decide) (by decide) kk0) ?_
  refine Go.of (mkF m 37 #[.val .null, .val (.ref tv), .val (.int (2 : Int32)), .val (.int ((0 : Int32) + (1 : Int32))), .val (.ref rd)] []) (fun tt0 kk0 => XS.iinc X3.here hx rfl (hb hby d13_34) rfl (l' := #[.val .null, .val (.ref tv), .val (.int (2 : Int32)), .val (.int ((0 : Int32) + (1 : Int32))), .val (.ref rd)]) rfl kk0) ?_
  rw [show ((0 : Int32) + (1 : Int32)) = (1 : Int32) from by decide]
  refine Go.of (mkF m 9 #[.val .null, .val (.ref tv), .val (.int (2 : Int32)), .val (.int (1 : Int32)), .val (.ref rd)] []) (fun tt0 kk0 => XS.goto X3.here hx rfl (pc0 := 37) (pc' := 9) rfl (hb hby d13_37) (by decide) (by decide) kk0) ?_
  refine Go.of (mkF m 10 #[.val .null, .val (.ref tv), .val (.int (2 : Int32)), .val (.int (1 : Int32)), .val (.ref rd)] [(.int (1 : Int32))]) (fun tt0 kk0 => XS.iloadN X3.here hx rfl (hb hby d13_9) rfl kk0) ?_
  refine Go.of (mkF m 11 #[.val .null, .val (.ref tv), .val (.int (2 : Int32)), .val (.int (1 : Int32)), .val (.ref rd)] [(.int (2 : Int32)), (.int (1 : Int32))]) (fun tt0 kk0 => XS.iloadN X3.here hx rfl (hb hby d13_10) rfl kk0) ?_
  refine Go.of (mkF m 14 #[.val .null, .val (.ref tv), .val (.int (2 : Int32)), .val (.int (1 : Int32)), .val (.ref rd)] []) (fun tt0 kk0 => XS.icmpNo X3.here hx rfl (hb hby d13_11) rfl (tlt (by decide)).2.1 kk0) ?_
  refine Go.of (mkF m 15 #[.val .null, .val (.ref tv), .val (.int (2 : Int32)), .val (.int (1 : Int32)), .val (.ref rd)] [(.ref tv)]) (fun tt0 kk0 => XS.aloadN X3.here hx rfl (hb hby d13_14) rfl rfl kk0) ?_
  refine Go.of (mkF m 16 #[.val .null, .val (.ref tv), .val (.int (2 : Int32)), .val (.int (1 : Int32)), .val (.ref rd)] [(.int (1 : Int32)), (.ref tv)]) (fun tt0 kk0 => XS.iloadN X3.here hx rfl (hb hby d13_15) rfl kk0) ?_
  refine Go.aaload X3 hx hZ hh3 Vt rfl (by decide) (by decide) (g := (mkF m 16 #[.val .null, .val (.ref tv), .val (.int (2 : Int32)), .val (.int (1 : Int32)), .val (.ref rd)] [(.int (1 : Int32)), (.ref tv)])) rfl rfl (hb hby d13_16) ?_
  show Go pr ev below _ T3 (mkF m 17 #[.val .null, .val (.ref tv), .val (.int (2 : Int32)), .val (.int (1 : Int32)), .val (.ref rd)] [(yv (1 : Int32))])
  rw [show (yv (1 : Int32)) = (.ref wr) from hy1]
  show Go pr ev below _ T3 (mkF m 17 #[.val .null, .val (.ref tv), .val (.int (2 : Int32)), .val (.int (1 : Int32)), .val (.ref rd)] [(.ref wr)])
  refine Go.of (mkF m 19 #[.val .null, .val (.ref tv), .val (.int (2 : Int32)), .val (.int (1 : Int32)), .val (.ref wr)] []) (fun tt0 kk0 => XS.astore X3.here hx rfl (hb hby d13_17) rfl rfl (l' := #[.val .null, .val (.ref tv), .val (.int (2 : Int32)), .val (.int (1 : Int32)), .val (.ref wr)]) rfl kk0) ?_
  refine Go.of (mkF m 21 #[.val .null, .val (.ref tv), .val (.int (2 : Int32)), .val (.int (1 : Int32)), .val (.ref wr)] [(.ref wr)]) (fun tt0 kk0 => XS.aload X3.here hx rfl (hb hby d13_19) rfl rfl kk0) ?_
  obtain ⟨T4, X4, e4, st4⟩ := getF X3 hx hZ hown (host := "") (Or.inl (tw82 hw)) Via.refl hh3 Fw1 (g := (mkF m 21 #[.val .null, .val (.ref tv), .val (.int (2 : Int32)), .val (.int (1 : Int32)), .val (.ref wr)] [(.ref wr)])) rfl rfl (hb hby d13_21)
  refine Go.of (mkF m 24 #[.val .null, .val (.ref tv), .val (.int (2 : Int32)), .val (.int (1 : Int32)), .val (.ref wr)] [(.ref t2)]) (st4) ?_
  refine Go.of (mkF m 25 #[.val .null, .val (.ref tv), .val (.int (2 : Int32)), .val (.int (1 : Int32)), .val (.ref wr)] [.null, (.ref t2)]) (fun tt0 kk0 => XS.aloadN X4.here hx rfl (hb hby d13_24) rfl rfl kk0) ?_
  refine Go.virt X4 hx hZ (y := (⟨"java/lang/String", "equals", "(Ljava/lang/Object;)Z"⟩ : MethodName)) (z := (⟨"java/lang/String", "equals", "(Ljava/lang/Object;)Z"⟩ : MethodName)) (a := t2) (argsL := [.null]) (rest := []) hown (tw84 hw) (tw85 hw) (notFace_of_selects (args := #[]) (mvT hZ (tw87 hw))) (tw87 hw) (tw86 hw) (tw7 hw) (tw88 hw) (by decide) e4 E_t2 (rmEqN l Z a0 hw [] t2 d2 yW T1.heap G1 O2 P3 E_t2 C_t2 V_t2 A_t2) (g := (mkF m 25 #[.val .null, .val (.ref tv), .val (.int (2 : Int32)), .val (.int (1 : Int32)), .val (.ref wr)] [.null, (.ref t2)])) rfl (by rw [hml]; rfl) (lenOf pd17 rfl) rfl (W := 0) (by show 2 * 0 + _ ≤ _; exact Nat.le_of_eq rfl) (hb hby d13_25) (by decide) (by decide) (by decide) (by decide) ?_
  rintro T5 L5 v5 X5 ⟨rfl, rfl, hh5⟩
  have N5 := Fr.app N3 (Fr.nil n0)
  show Go pr ev below _ T5 (mkF m 28 #[.val .null, .val (.ref tv), .val (.int (2 : Int32)), .val (.int (1 : Int32)), .val (.ref wr)] [(.int (0 : Int32))])
  refine Go.of (mkF m 34 #[.val .null, .val (.ref tv), .val (.int (2 : Int32)), .val (.int (1 : Int32)), .val (.ref wr)] []) (fun tt0 kk0 => XS.ifYes X5.here hx rfl (pc0 := 28) (pc' := 34) rfl (hb hby d13_28) rfl ((if0 _ _).trans (teq (by decide)).1) (by decide) (by decide) kk0) ?_
  refine Go.of (mkF m 37 #[.val .null, .val (.ref tv), .val (.int (2 : Int32)), .val (.int ((1 : Int32) + (1 : Int32))), .val (.ref wr)] []) (fun tt0 kk0 => XS.iinc X5.here hx rfl (hb hby d13_34) rfl (l' := #[.val .null, .val (.ref tv), .val (.int (2 : Int32)), .val (.int ((1 : Int32) + (1 : Int32))), .val (.ref wr)]) rfl kk0) ?_
  rw [show ((1 : Int32) + (1 : Int32)) = (2 : Int32) from by decide]
  refine Go.of (mkF m 9 #[.val .null, .val (.ref tv), .val (.int (2 : Int32)), .val (.int (2 : Int32)), .val (.ref wr)] []) (fun tt0 kk0 => XS.goto X5.here hx rfl (pc0 := 37) (pc' := 9) rfl (hb hby d13_37) (by decide) (by decide) kk0) ?_
  refine Go.of (mkF m 10 #[.val .null, .val (.ref tv), .val (.int (2 : Int32)), .val (.int (2 : Int32)), .val (.ref wr)] [(.int (2 : Int32))]) (fun tt0 kk0 => XS.iloadN X5.here hx rfl (hb hby d13_9) rfl kk0) ?_
  refine Go.of (mkF m 11 #[.val .null, .val (.ref tv), .val (.int (2 : Int32)), .val (.int (2 : Int32)), .val (.ref wr)] [(.int (2 : Int32)), (.int (2 : Int32))]) (fun tt0 kk0 => XS.iloadN X5.here hx rfl (hb hby d13_10) rfl kk0) ?_
  refine Go.of (mkF m 40 #[.val .null, .val (.ref tv), .val (.int (2 : Int32)), .val (.int (2 : Int32)), .val (.ref wr)] []) (fun tt0 kk0 => XS.icmpYes X5.here hx rfl (pc0 := 11) (pc' := 40) rfl (hb hby d13_11) rfl (flt (by decide)).2.1 (by decide) (by decide) kk0) ?_
  refine Go.of (mkF m 41 #[.val .null, .val (.ref tv), .val (.int (2 : Int32)), .val (.int (2 : Int32)), .val (.ref wr)] [.null]) (fun tt0 kk0 => XS.aconstNull X5.here hx rfl (hb hby d13_40) kk0) ?_
  exact Go.retW X5 hx (t := (.object "com/example/sealed_ledger/sealedledger/http/Access$Role")) hret hlk rfl (Or.inr (Or.inr (Or.inr (Or.inr ⟨rfl, rfl, rfl⟩)))) (hb hby d13_41) (by decide) (by decide) ⟨rfl, N5, (by rw [hh5]; exact K0)⟩
theorem ef_rmS1 (m : MethodId) (x0 : Addr) (x1 : Addr) (x2 : Int32) (x3 : Int32) : entryFrame m #[(.ref x0), (.ref x1), (.int x2), (.int x3), .null] 6 = mkF m 0 #[.val (.ref x0), .val (.ref x1), .val (.int x2), .val (.int x3), .val .null, .unset] [] := by first | (simp [entryFrame, mkF, argsToLocals, Value.category]; done) | rfl
set_option maxRecDepth 65536 in
set_option maxHeartbeats 40000000 in
theorem rmS1 (l : Launch) (Z : State) (a0 : Array Value) (hw : ∀ d ∈ tables_1, d.before a0 Z = true) (ws : List Jvm.Cond) (a ch : Nat) (h0 : Heap) (n0 : Nat) (hz0 : n0 ≤ h0.size) (E : Exa Z h0 a "java/lang/String") (ga : n0 ≤ a) (Fv : Fld Z h0 a "java/lang/String" "value" "[B" .null) (Fc : Fld Z h0 a "java/lang/String" "coder" "B" (.int 0)) (hEL : EW Z a0 own_EL) (wS : ∀ a ∈ Bundle.stringAtoms, a.before a0 Z = true) :
    MetC l Z own_EL (⟨"java/lang/String", "<init>", "([CIILjava/lang/Void;)V"⟩ : MethodName) jdk_42_method_149_code 6 none ws ({ frames := 1, cells := 4, slots := 8, locals := 12 } : Room) #[(.ref a), (.ref ch), (.int (0 : Int32)), (.int (0 : Int32)), .null] h0 (fun v h L => ∃ d : Nat, v = none ∧ Fr n0 L ∧ Keep h0 h [a] ∧ Fld Z h a "java/lang/String" "coder" "B" (.int 0) ∧ Fld Z h a "java/lang/String" "value" "[B" (.ref d) ∧ Fa Z h d .byte 0 (fun i => .int ((own_lit []) i))) := by
  refine MetC.intro pn18 ?_
  intro pr ev s m below meth c T0 X0 hx hZ hown hby hml hret hlk hnm e0 CL0
  refine Go.cast (ef_rmS1 m a ch (0 : Int32) (0 : Int32)) ?_
  have N0 := Fr.nil n0
  have hz := hz0
  have K0 : Keep h0 h0 [a] := Keep.refl h0 _
  have Sf_a : Safe Z own_EL s.vm h0 a := safe_raw hZ.alike E Fv
  refine Go.of (mkF m 1 #[.val (.ref a), .val (.ref ch), .val (.int (0 : Int32)), .val (.int (0 : Int32)), .val .null, .unset] [(.ref a)]) (fun tt0 kk0 => XS.aloadN X0.here hx rfl (hb hby d8_0) rfl rfl kk0) ?_
  obtain ⟨T1, X1, e1, st1⟩ := initO X0 hx hZ hown (tw47 hw) (tw48 hw) (tw49 hw) e0 (g := (mkF m 1 #[.val (.ref a), .val (.ref ch), .val (.int (0 : Int32)), .val (.int (0 : Int32)), .val .null, .unset] [(.ref a)])) rfl (by rw [hml]; rfl) rfl (hb hby d8_1) (by decide) (W := 0) (by show 2 * 0 + _ ≤ _; exact Nat.le_of_eq rfl) (by decide)
  refine Go.of (mkF m 4 #[.val (.ref a), .val (.ref ch), .val (.int (0 : Int32)), .val (.int (0 : Int32)), .val .null, .unset] []) (st1) ?_
  refine Go.of (mkF m 5 #[.val (.ref a), .val (.ref ch), .val (.int (0 : Int32)), .val (.int (0 : Int32)), .val .null, .unset] [(.int (0 : Int32))]) (fun tt0 kk0 => XS.iloadN X1.here hx rfl (hb hby d8_4) rfl kk0) ?_
  refine Go.of (mkF m 8 #[.val (.ref a), .val (.ref ch), .val (.int (0 : Int32)), .val (.int (0 : Int32)), .val .null, .unset] []) (fun tt0 kk0 => XS.ifNo X1.here hx rfl (hb hby d8_5) rfl ((if0 _ _).trans (teq (by decide)).2) kk0) ?_
  refine Go.of (mkF m 9 #[.val (.ref a), .val (.ref ch), .val (.int (0 : Int32)), .val (.int (0 : Int32)), .val .null, .unset] [(.ref a)]) (fun tt0 kk0 => XS.aloadN X1.here hx rfl (hb hby d8_8) rfl rfl kk0) ?_
  refine Go.ldcC X1 hx hZ hown (tw95 hw) wS hEL (by simp [own_EL]) e1 CL0 (vs := []) (z := 0) ⟨by decide, by rfl⟩ (by decide) (by rfl) (g := (mkF m 9 #[.val (.ref a), .val (.ref ch), .val (.int (0 : Int32)), .val (.int (0 : Int32)), .val .null, .unset] [(.ref a)])) rfl (hb hby d8_9) (n := 0) (by decide) (by decide) (by decide) (by decide) ?_
  rintro a2 d2 T2 h2 X2 e2 E2 hZ hown CL2 rc2 x2 c2 y2 f2 sf2
  replace Sf_a := rc2.safe E.lt Sf_a
  replace Fv := Fv.ext E2
  replace Fc := Fc.ext E2
  replace E := E.ext E2
  replace hz := Nat.le_trans hz E2.1
  replace K0 := K0.ext E2
  have V_d2 : Fa Z h2 d2 .byte 0 (fun i => .int (own_lit [] i)) := f2.congr fun j q0 q1 => own_lit_ok [] j
  have ne_a_a2 := (sf2 _ Sf_a).1
  have ne_a_d2 := (sf2 _ Sf_a).2
  show Go pr ev below _ T2 (mkF m 11 #[.val (.ref a), .val (.ref ch), .val (.int (0 : Int32)), .val (.int (0 : Int32)), .val .null, .unset] [(.ref a2), (.ref a)])
  obtain ⟨T3, X3, e3, st3⟩ := getF X2 hx hZ hown (host := "") (Or.inl (tw26 hw)) Via.refl e2 y2 (g := (mkF m 11 #[.val (.ref a), .val (.ref ch), .val (.int (0 : Int32)), .val (.int (0 : Int32)), .val .null, .unset] [(.ref a2), (.ref a)])) rfl rfl (hb hby d8_11)
  refine Go.of (mkF m 14 #[.val (.ref a), .val (.ref ch), .val (.int (0 : Int32)), .val (.int (0 : Int32)), .val .null, .unset] [(.ref d2), (.ref a)]) (st3) ?_
  obtain ⟨T4, h4, X4, e4, W4, st4⟩ := putF X3 hx hZ hown (host := "") (Or.inl (tw26 hw)) Via.refl e3 Fv E (Or.inr ⟨(tw10 hw), rfl, hnm⟩) (tw8 hw) (ty := (.array .byte)) (by decide) rfl rfl (g := (mkF m 14 #[.val (.ref a), .val (.ref ch), .val (.int (0 : Int32)), .val (.int (0 : Int32)), .val .null, .unset] [(.ref d2), (.ref a)])) rfl rfl (hb hby d8_14)
  have sw5 := Sf_a
  replace Sf_a := Safe.wr W4 sw5 CL2.1 Sf_a
  replace CL2 := CL2.wr W4 sw5
  replace Fv := Fv.same W4
  replace Fc := Fc.other W4 (Or.inr (slot_ne (Or.inr (tw11 hw)) (Or.inr (tw10 hw)) (by decide) (t := .byte) (t' := (.array .byte)) (by decide) (by decide)))
  replace c2 := c2.other W4 (Or.inl (Ne.symm ne_a_a2))
  replace y2 := y2.other W4 (Or.inl (Ne.symm ne_a_a2))
  replace E := E.wr W4
  replace x2 := x2.wr W4
  replace V_d2 := V_d2.other W4 (Ne.symm ne_a_d2)
  replace hz := Nat.le_trans hz (Nat.le_of_eq W4.size.symm)
  replace K0 := K0.wr W4 (Or.inl (by simp))
  have N4 := Fr.snoc X4 N0 ga
  refine Go.of (mkF m 17 #[.val (.ref a), .val (.ref ch), .val (.int (0 : Int32)), .val (.int (0 : Int32)), .val .null, .unset] []) (st4) ?_
  refine Go.of (mkF m 18 #[.val (.ref a), .val (.ref ch), .val (.int (0 : Int32)), .val (.int (0 : Int32)), .val .null, .unset] [(.ref a)]) (fun tt0 kk0 => XS.aloadN X4.here hx rfl (hb hby d8_17) rfl rfl kk0) ?_
  refine Go.ldcC X4 hx hZ hown (tw95 hw) wS hEL (by simp [own_EL]) e4 CL2 (vs := []) (z := 0) ⟨by decide, by rfl⟩ (by decide) (by rfl) (g := (mkF m 18 #[.val (.ref a), .val (.ref ch), .val (.int (0 : Int32)), .val (.int (0 : Int32)), .val .null, .unset] [(.ref a)])) rfl (hb hby d8_18) (n := 0) (by decide) (by decide) (by decide) (by decide) ?_
  rintro a6 d6 T6 h6 X6 e6 E6 hZ hown CL6 rc6 x6 c6 y6 f6 sf6
  replace Sf_a := rc6.safe E.lt Sf_a
  replace Fv := Fv.ext E6
  replace Fc := Fc.ext E6
  replace c2 := c2.ext E6
  replace y2 := y2.ext E6
  replace E := E.ext E6
  replace x2 := x2.ext E6
  replace V_d2 := V_d2.ext E6
  replace hz := Nat.le_trans hz E6.1
  replace K0 := K0.ext E6
  have V_d6 : Fa Z h6 d6 .byte 0 (fun i => .int (own_lit [] i)) := f6.congr fun j q0 q1 => own_lit_ok [] j
  have ne_a_a6 := (sf6 _ Sf_a).1
  have ne_a_d6 := (sf6 _ Sf_a).2
  show Go pr ev below _ T6 (mkF m 20 #[.val (.ref a), .val (.ref ch), .val (.int (0 : Int32)), .val (.int (0 : Int32)), .val .null, .unset] [(.ref a6), (.ref a)])
  obtain ⟨T7, X7, e7, st7⟩ := getF X6 hx hZ hown (host := "") (Or.inl (tw25 hw)) Via.refl e6 c6 (g := (mkF m 20 #[.val (.ref a), .val (.ref ch), .val (.int (0 : Int32)), .val (.int (0 : Int32)), .val .null, .unset] [(.ref a6), (.ref a)])) rfl rfl (hb hby d8_20)
  refine Go.of (mkF m 23 #[.val (.ref a), .val (.ref ch), .val (.int (0 : Int32)), .val (.int (0 : Int32)), .val .null, .unset] [(.int (0 : Int32)), (.ref a)]) (st7) ?_
  obtain ⟨T8, h8, X8, e8, W8, st8⟩ := putFN X7 hx hZ hown (tw25 hw) Via.refl e7 Fc E (Or.inr ⟨(tw11 hw), rfl, hnm⟩) (tw8 hw) (ty := .byte) (v' := (.int (0 : Int32))) (by decide) rfl rfl (g := (mkF m 23 #[.val (.ref a), .val (.ref ch), .val (.int (0 : Int32)), .val (.int (0 : Int32)), .val .null, .unset] [(.int (0 : Int32)), (.ref a)])) rfl rfl (hb hby d8_23)
  have sw9 := Sf_a
  replace Sf_a := Safe.wr W8 sw9 CL6.1 Sf_a
  replace CL6 := CL6.wr W8 sw9
  replace Fv := Fv.other W8 (Or.inr (slot_ne (Or.inr (tw10 hw)) (Or.inr (tw11 hw)) (by decide) (t := (.array .byte)) (t' := .byte) (by decide) (by decide)))
  replace Fc := Fc.same W8
  replace c2 := c2.other W8 (Or.inl (Ne.symm ne_a_a2))
  replace y2 := y2.other W8 (Or.inl (Ne.symm ne_a_a2))
  replace c6 := c6.other W8 (Or.inl (Ne.symm ne_a_a6))
  replace y6 := y6.other W8 (Or.inl (Ne.symm ne_a_a6))
  replace E := E.wr W8
  replace x2 := x2.wr W8
  replace x6 := x6.wr W8
  replace V_d2 := V_d2.other W8 (Ne.symm ne_a_d2)
  replace V_d6 := V_d6.other W8 (Ne.symm ne_a_d6)
  replace hz := Nat.le_trans hz (Nat.le_of_eq W8.size.symm)
  replace K0 := K0.wr W8 (Or.inl (by simp))
  have N8 := Fr.snoc X8 N4 ga
  refine Go.of (mkF m 26 #[.val (.ref a), .val (.ref ch), .val (.int (0 : Int32)), .val (.int (0 : Int32)), .val .null, .unset] []) (st8) ?_
  exact Go.retVC X8 hx hZ hEL e8 CL6 hret hlk (hb hby d8_26) (by decide) (by decide) (by rw [e8]; exact ⟨d2, rfl, N8, K0, Fc, Fv, V_d2⟩)
theorem ef_rmS0 (m : MethodId) (x0 : Addr) (x1 : Addr) : entryFrame m #[(.ref x0), (.ref x1)] 2 = mkF m 0 #[.val (.ref x0), .val (.ref x1)] [] := by first | (simp [entryFrame, mkF, argsToLocals, Value.category]; done) | rfl
set_option maxRecDepth 65536 in
set_option maxHeartbeats 40000000 in
theorem rmS0 (l : Launch) (Z : State) (a0 : Array Value) (hw : ∀ d ∈ tables_1, d.before a0 Z = true) (ws : List Jvm.Cond) (a ch : Nat) (yc : Int32 → Int32) (h0 : Heap) (n0 : Nat) (hz0 : n0 ≤ h0.size) (E : Exa Z h0 a "java/lang/String") (ga : n0 ≤ a) (Fv : Fld Z h0 a "java/lang/String" "value" "[B" .null) (Fc : Fld Z h0 a "java/lang/String" "coder" "B" (.int 0)) (hEL : EW Z a0 own_EL) (wS : ∀ a ∈ Bundle.stringAtoms, a.before a0 Z = true) (Vc : Fa Z h0 ch .char 0 (fun i => .int (yc i))) (nac : a ≠ ch) :
    MetC l Z own_EL (⟨"java/lang/String", "<init>", "([C)V"⟩ : MethodName) jdk_42_method_3_code 2 none ws ({ frames := 2, cells := 4, slots := 8, locals := 29 } : Room) #[(.ref a), (.ref ch)] h0 (fun v h L => ∃ d : Nat, v = none ∧ Fr n0 L ∧ Keep h0 h [a] ∧ Fld Z h a "java/lang/String" "coder" "B" (.int 0) ∧ Fld Z h a "java/lang/String" "value" "[B" (.ref d) ∧ Fa Z h d .byte 0 (fun i => .int ((own_lit []) i))) := by
  refine MetC.intro pn19 ?_
  intro pr ev s m below meth c T0 X0 hx hZ hown hby hml hret hlk hnm e0 CL0
  refine Go.cast (ef_rmS0 m a ch) ?_
  have N0 := Fr.nil n0
  have hz := hz0
  have K0 : Keep h0 h0 [a] := Keep.refl h0 _
  refine Go.of (mkF m 1 #[.val (.ref a), .val (.ref ch)] [(.ref a)]) (fun tt0 kk0 => XS.aloadN X0.here hx rfl (hb hby d7_0) rfl rfl kk0) ?_
  refine Go.of (mkF m 2 #[.val (.ref a), .val (.ref ch)] [(.ref ch), (.ref a)]) (fun tt0 kk0 => XS.aloadN X0.here hx rfl (hb hby d7_1) rfl rfl kk0) ?_
  refine Go.of (mkF m 3 #[.val (.ref a), .val (.ref ch)] [(.int (0 : Int32)), (.ref ch), (.ref a)]) (fun tt0 kk0 => XS.iconst X0.here hx rfl (hb hby d7_2) kk0) ?_
  refine Go.of (mkF m 4 #[.val (.ref a), .val (.ref ch)] [(.ref ch), (.int (0 : Int32)), (.ref ch), (.ref a)]) (fun tt0 kk0 => XS.aloadN X0.here hx rfl (hb hby d7_3) rfl rfl kk0) ?_
  refine Go.arraylength X0 hx hZ e0 Vc (g := (mkF m 4 #[.val (.ref a), .val (.ref ch)] [(.ref ch), (.int (0 : Int32)), (.ref ch), (.ref a)])) rfl rfl (hb hby d7_4) ?_
  show Go pr ev below _ T0 (mkF m 5 #[.val (.ref a), .val (.ref ch)] [(.int (0 : Int32)), (.int (0 : Int32)), (.ref ch), (.ref a)])
  refine Go.of (mkF m 6 #[.val (.ref a), .val (.ref ch)] [.null, (.int (0 : Int32)), (.int (0 : Int32)), (.ref ch), (.ref a)]) (fun tt0 kk0 => XS.aconstNull X0.here hx rfl (hb hby d7_5) kk0) ?_
  refine Go.initC X0 hx hZ (y := (⟨"java/lang/String", "<init>", "([CIILjava/lang/Void;)V"⟩ : MethodName)) (a := a) (argsL := [(.ref ch), (.int (0 : Int32)), (.int (0 : Int32)), .null]) (rest := []) hown hEL CL0 rfl (tw43 hw) (tw44 hw) (tw7 hw) (tw46 hw) (by decide) e0 (rmS1 l Z a0 hw [] a ch h0 n0 hz E ga Fv Fc hEL wS) (g := (mkF m 6 #[.val (.ref a), .val (.ref ch)] [.null, (.int (0 : Int32)), (.int (0 : Int32)), (.ref ch), (.ref a)])) rfl (by rw [hml]; rfl) (lenOf pd20 rfl) rfl (W := 0) (by show 2 * 0 + _ ≤ _; exact Nat.le_of_eq rfl) (hb hby d7_6) (by decide) (by decide) (by decide) (by decide) ?_
  rintro T1 L1 v1 X1 ⟨dd, rfl, NL1, K1, G2, G3, G4⟩ hZ hown CL1 rc1
  have N1 := Fr.app N0 NL1
  replace E := E.keep K1
  replace Vc := Vc.keep K1 (ninS (Ne.symm nac) nin0)
  replace hz := Nat.le_trans hz K1.1
  replace K0 := K0.trans K1 (((allS (Or.inl (by simp)) all0)))
  show Go pr ev below _ T1 (mkF m 9 #[.val (.ref a), .val (.ref ch)] [])
  exact Go.retVC X1 hx hZ hEL rfl CL1 hret hlk (hb hby d7_9) (by decide) (by decide) ⟨dd, rfl, N1, K0, G2, G3, G4⟩
theorem ef_rm0 (m : MethodId) (x0 : Int32) (x1 : Int32) (x2 : Int32) (x3 : Int32) : entryFrame m #[(.int x0), (.int x1), (.int x2), (.int x3)] maxLocals = mkF m 0 #[.val (.int x0), .val (.int x1), .val (.int x2), .val (.int x3), .unset, .unset, .unset, .unset, .unset, .unset, .unset, .unset] [] := by first | (simp [entryFrame, mkF, argsToLocals, Value.category, maxLocals]; done) | rfl
set_option maxRecDepth 65536 in
set_option maxHeartbeats 40000000 in
theorem rm0 (l : Launch) (Z : State) (a0 : Array Value) (hw : ∀ d ∈ tables_1, d.before a0 Z = true) (ws : List Jvm.Cond) (mM pP cC eE : Int32) (h0 : Heap) (n0 : Nat) (hz0 : n0 ≤ h0.size) (OL : Old Z n0 h0) (G1 : Int32) (O2 : Sta Z Z.heap "java/lang/String" "COMPACT_STRINGS" "Z" (.int G1)) (P3 : ¬ G1 = 0) (fv : Value) (hfv : fv.isRef = true) (O4 : Sta Z Z.heap "jdk/internal/util/Preconditions" "SIOOBE_FORMATTER" "Ljava/util/function/BiFunction;" fv) (va rd wr : Nat) (yv : Int32 → Value) (Sv : Sta Z Z.heap "com/example/sealed_ledger/sealedledger/http/Access$Role" "$VALUES" "[Lcom/example/sealed_ledger/sealedledger/http/Access$Role;" (.ref va)) (Vv : Fa Z Z.heap va (.object "com/example/sealed_ledger/sealedledger/http/Access$Role") 2 yv) (Ev : Exa Z Z.heap va "[Lcom/example/sealed_ledger/sealedledger/http/Access$Role;") (hy0 : yv 0 = .ref rd) (hy1 : yv 1 = .ref wr) (t1 d1 t2 d2 : Nat) (yR yW : Int32 → Int32) (Er : Exa Z Z.heap rd "com/example/sealed_ledger/sealedledger/http/Access$Role") (Fr1 : Fld Z Z.heap rd "com/example/sealed_ledger/sealedledger/http/Access$Role" "text" "Ljava/lang/String;" (.ref t1)) (E_t1 : Exa Z Z.heap t1 "java/lang/String") (C_t1 : Fld Z Z.heap t1 "java/lang/String" "coder" "B" (.int 0)) (V_t1 : Fld Z Z.heap t1 "java/lang/String" "value" "[B" (.ref d1)) (A_t1 : Fa Z Z.heap d1 .byte 6 (fun i => .int (yR i))) (Ew : Exa Z Z.heap wr "com/example/sealed_ledger/sealedledger/http/Access$Role") (Fw1 : Fld Z Z.heap wr "com/example/sealed_ledger/sealedledger/http/Access$Role" "text" "Ljava/lang/String;" (.ref t2)) (E_t2 : Exa Z Z.heap t2 "java/lang/String") (C_t2 : Fld Z Z.heap t2 "java/lang/String" "coder" "B" (.int 0)) (V_t2 : Fld Z Z.heap t2 "java/lang/String" "value" "[B" (.ref d2)) (A_t2 : Fa Z Z.heap d2 .byte 6 (fun i => .int (yW i))) (Sr : Sta Z Z.heap "com/example/sealed_ledger/sealedledger/http/Access$Role" "READER" "Lcom/example/sealed_ledger/sealedledger/http/Access$Role;" (.ref rd)) (Sw : Sta Z Z.heap "com/example/sealed_ledger/sealedledger/http/Access$Role" "WRITER" "Lcom/example/sealed_ledger/sealedledger/http/Access$Role;" (.ref wr)) (eR : yR 0 = 114 ∧ yR 1 = 101 ∧ yR 2 = 97 ∧ yR 3 = 100 ∧ yR 4 = 101 ∧ yR 5 = 114) (eW : yW 0 = 119 ∧ yW 1 = 114 ∧ yW 2 = 105 ∧ yW 3 = 116 ∧ yW 4 = 101 ∧ yW 5 = 114) (hEL : EW Z a0 own_EL) (wS : ∀ a ∈ Bundle.stringAtoms, a.before a0 Z = true) :
    MetC l Z own_EL x code maxLocals ret ws room_1 #[(.int mM), (.int pP), (.int cC), (.int eE)] h0 (fun v h L => v = some (.int 1) ∧ Fr n0 L) := by
  refine MetC.intro pn21 ?_
  intro pr ev s m below meth c T0 X0 hx hZ hown hby hml hret hlk hnm e0 CL0
  refine Go.cast (ef_rm0 m mM pP cC eE) ?_
  have N0 := Fr.nil n0
  have hz := hz0
  refine Go.of (mkF m 1 #[.val (.int mM), .val (.int pP), .val (.int cC), .val (.int eE), .unset, .unset, .unset, .unset, .unset, .unset, .unset, .unset] [(.int mM)]) (fun tt0 kk0 => XS.iloadN X0.here hx rfl (hb hby at_0) rfl kk0) ?_
  refine Go.of (mkF m 2 #[.val (.int mM), .val (.int pP), .val (.int cC), .val (.int eE), .unset, .unset, .unset, .unset, .unset, .unset, .unset, .unset] [(.int (1 : Int32)), (.int mM)]) (fun tt0 kk0 => XS.iconst X0.here hx rfl (hb hby at_1) kk0) ?_
  refine Go.of (mkF m 3 #[.val (.int mM), .val (.int pP), .val (.int cC), .val (.int eE), .unset, .unset, .unset, .unset, .unset, .unset, .unset, .unset] [(.int (mM &&& (1 : Int32)))]) (fun tt0 kk0 => XS.iand X0.here hx rfl (hb hby at_2) rfl kk0) ?_
  have J11 : ∀ (TJ : State) (LJ : List Loc) (VJ : Vm) (wW : Int32), Stand pr l ev room_1 (s.setVm VJ) m #[(.int mM), (.int pP), (.int cC), (.int eE)] below meth c TJ LJ 0 0 → TJ.heap = h0 → Z.Warmed39 (s.setVm VJ).vm → (s.setVm VJ).vm.findClass "com/example/sealed_ledger/sealedledger/http/RoleNamedPinLaw" = some m.cls → Cld Z own_EL s VJ h0 → Fr n0 LJ → Go pr ev below (EndC s Z own_EL room_1 (fun v h L => v = some (.int 1) ∧ Fr n0 L)) TJ (mkF m 11 #[.val (.int mM), .val (.int pP), .val (.int cC), .val (.int eE), .unset, .unset, .unset, .unset, .unset, .unset, .unset, .unset] [(.int wW)]) := by
    intro TJ LJ VJ wW XJ eJ hZ hown CLJ NJ 
    refine Go.of (mkF m 13 #[.val (.int mM), .val (.int pP), .val (.int cC), .val (.int eE), .val (.int wW), .unset, .unset, .unset, .unset, .unset, .unset, .unset] []) (fun tt0 kk0 => XS.istore XJ.here hx rfl (hb hby at_11) rfl (l' := #[.val (.int mM), .val (.int pP), .val (.int cC), .val (.int eE), .val (.int wW), .unset, .unset, .unset, .unset, .unset, .unset, .unset]) rfl kk0) ?_
    refine Go.of (mkF m 14 #[.val (.int mM), .val (.int pP), .val (.int cC), .val (.int eE), .val (.int wW), .unset, .unset, .unset, .unset, .unset, .unset, .unset] [(.int mM)]) (fun tt0 kk0 => XS.iloadN XJ.here hx rfl (hb hby at_13) rfl kk0) ?_
    refine Go.of (mkF m 15 #[.val (.int mM), .val (.int pP), .val (.int cC), .val (.int eE), .val (.int wW), .unset, .unset, .unset, .unset, .unset, .unset, .unset] [(.int (1 : Int32)), (.int mM)]) (fun tt0 kk0 => XS.iconst XJ.here hx rfl (hb hby at_14) kk0) ?_
    refine Go.of (mkF m 16 #[.val (.int mM), .val (.int pP), .val (.int cC), .val (.int eE), .val (.int wW), .unset, .unset, .unset, .unset, .unset, .unset, .unset] [(.int ((mM.toUInt32 >>> ((1 : Int32) &&& 31).toUInt32).toInt32))]) (fun tt0 kk0 => XS.iushr XJ.here hx rfl (hb hby at_15) rfl kk0) ?_
    refine Go.of (mkF m 17 #[.val (.int mM), .val (.int pP), .val (.int cC), .val (.int eE), .val (.int wW), .unset, .unset, .unset, .unset, .unset, .unset, .unset] [(.int (1 : Int32)), (.int ((mM.toUInt32 >>> ((1 : Int32) &&& 31).toUInt32).toInt32))]) (fun tt0 kk0 => XS.iconst XJ.here hx rfl (hb hby at_16) kk0) ?_
    refine Go.of (mkF m 18 #[.val (.int mM), .val (.int pP), .val (.int cC), .val (.int eE), .val (.int wW), .unset, .unset, .unset, .unset, .unset, .unset, .unset] [(.int (((mM.toUInt32 >>> ((1 : Int32) &&& 31).toUInt32).toInt32) &&& (1 : Int32)))]) (fun tt0 kk0 => XS.iand XJ.here hx rfl (hb hby at_17) rfl kk0) ?_
    have J26 : ∀ (TJ : State) (LJ : List Loc) (VJ : Vm) (mU : Int32), Stand pr l ev room_1 (s.setVm VJ) m #[(.int mM), (.int pP), (.int cC), (.int eE)] below meth c TJ LJ 0 0 → TJ.heap = h0 → Z.Warmed39 (s.setVm VJ).vm → (s.setVm VJ).vm.findClass "com/example/sealed_ledger/sealedledger/http/RoleNamedPinLaw" = some m.cls → Cld Z own_EL s VJ h0 → Fr n0 LJ → Old Z n0 h0 → Go pr ev below (EndC s Z own_EL room_1 (fun v h L => v = some (.int 1) ∧ Fr n0 L)) TJ (mkF m 26 #[.val (.int mM), .val (.int pP), .val (.int cC), .val (.int eE), .val (.int wW), .unset, .unset, .unset, .unset, .unset, .unset, .unset] [(.int mU)]) := by
      intro TJ LJ VJ mU XJ eJ hZ hown CLJ NJ OL
      refine Go.of (mkF m 28 #[.val (.int mM), .val (.int pP), .val (.int cC), .val (.int eE), .val (.int wW), .val (.int mU), .unset, .unset, .unset, .unset, .unset, .unset] []) (fun tt0 kk0 => XS.istore XJ.here hx rfl (hb hby at_26) rfl (l' := #[.val (.int mM), .val (.int pP), .val (.int cC), .val (.int eE), .val (.int wW), .val (.int mU), .unset, .unset, .unset, .unset, .unset, .unset]) rfl kk0) ?_
      refine Go.of (mkF m 29 #[.val (.int mM), .val (.int pP), .val (.int cC), .val (.int eE), .val (.int wW), .val (.int mU), .unset, .unset, .unset, .unset, .unset, .unset] [(.int mM)]) (fun tt0 kk0 => XS.iloadN XJ.here hx rfl (hb hby at_28) rfl kk0) ?_
      refine Go.of (mkF m 30 #[.val (.int mM), .val (.int pP), .val (.int cC), .val (.int eE), .val (.int wW), .val (.int mU), .unset, .unset, .unset, .unset, .unset, .unset] [(.int (2 : Int32)), (.int mM)]) (fun tt0 kk0 => XS.iconst XJ.here hx rfl (hb hby at_29) kk0) ?_
      refine Go.of (mkF m 31 #[.val (.int mM), .val (.int pP), .val (.int cC), .val (.int eE), .val (.int wW), .val (.int mU), .unset, .unset, .unset, .unset, .unset, .unset] [(.int ((mM.toUInt32 >>> ((2 : Int32) &&& 31).toUInt32).toInt32))]) (fun tt0 kk0 => XS.iushr XJ.here hx rfl (hb hby at_30) rfl kk0) ?_
      refine Go.of (mkF m 33 #[.val (.int mM), .val (.int pP), .val (.int cC), .val (.int eE), .val (.int wW), .val (.int mU), .unset, .unset, .unset, .unset, .unset, .unset] [(.int (7 : Int32)), (.int ((mM.toUInt32 >>> ((2 : Int32) &&& 31).toUInt32).toInt32))]) (fun tt0 kk0 => XS.bipush XJ.here hx rfl (hb hby at_31) kk0) ?_
      refine Go.of (mkF m 34 #[.val (.int mM), .val (.int pP), .val (.int cC), .val (.int eE), .val (.int wW), .val (.int mU), .unset, .unset, .unset, .unset, .unset, .unset] [(.int (((mM.toUInt32 >>> ((2 : Int32) &&& 31).toUInt32).toInt32) &&& (7 : Int32)))]) (fun tt0 kk0 => XS.iand XJ.here hx rfl (hb hby at_33) rfl kk0) ?_
      refine Go.of (mkF m 36 #[.val (.int mM), .val (.int pP), .val (.int cC), .val (.int eE), .val (.int wW), .val (.int mU), .val (.int (((mM.toUInt32 >>> ((2 : Int32) &&& 31).toUInt32).toInt32) &&& (7 : Int32))), .unset, .unset, .unset, .unset, .unset] []) (fun tt0 kk0 => XS.istore XJ.here hx rfl (hb hby at_34) rfl (l' := #[.val (.int mM), .val (.int pP), .val (.int cC), .val (.int eE), .val (.int wW), .val (.int mU), .val (.int (((mM.toUInt32 >>> ((2 : Int32) &&& 31).toUInt32).toInt32) &&& (7 : Int32))), .unset, .unset, .unset, .unset, .unset]) rfl kk0) ?_
      refine Go.of (mkF m 37 #[.val (.int mM), .val (.int pP), .val (.int cC), .val (.int eE), .val (.int wW), .val (.int mU), .val (.int (((mM.toUInt32 >>> ((2 : Int32) &&& 31).toUInt32).toInt32) &&& (7 : Int32))), .unset, .unset, .unset, .unset, .unset] [(.int pP)]) (fun tt0 kk0 => XS.iloadN XJ.here hx rfl (hb hby at_36) rfl kk0) ?_
      refine Go.of (mkF m 39 #[.val (.int mM), .val (.int pP), .val (.int cC), .val (.int eE), .val (.int wW), .val (.int mU), .val (.int (((mM.toUInt32 >>> ((2 : Int32) &&& 31).toUInt32).toInt32) &&& (7 : Int32))), .unset, .unset, .unset, .unset, .unset] [(.int (2147483647 : Int32)), (.int pP)]) (fun tt0 kk0 => XJ.ldcInt hx hown (mvT hZ (tw0 hw)) (g := (mkF m 37 #[.val (.int mM), .val (.int pP), .val (.int cC), .val (.int eE), .val (.int wW), .val (.int mU), .val (.int (((mM.toUInt32 >>> ((2 : Int32) &&& 31).toUInt32).toInt32) &&& (7 : Int32))), .unset, .unset, .unset, .unset, .unset] [(.int pP)])) rfl (hb hby at_37) _ kk0) ?_
      refine Go.of (mkF m 40 #[.val (.int mM), .val (.int pP), .val (.int cC), .val (.int eE), .val (.int wW), .val (.int mU), .val (.int (((mM.toUInt32 >>> ((2 : Int32) &&& 31).toUInt32).toInt32) &&& (7 : Int32))), .unset, .unset, .unset, .unset, .unset] [(.int (pP &&& (2147483647 : Int32)))]) (fun tt0 kk0 => XS.iand XJ.here hx rfl (hb hby at_39) rfl kk0) ?_
      refine Go.of (mkF m 42 #[.val (.int mM), .val (.int pP), .val (.int cC), .val (.int eE), .val (.int wW), .val (.int mU), .val (.int (((mM.toUInt32 >>> ((2 : Int32) &&& 31).toUInt32).toInt32) &&& (7 : Int32))), .unset, .unset, .unset, .unset, .unset] [(.int (6 : Int32)), (.int (pP &&& (2147483647 : Int32)))]) (fun tt0 kk0 => XS.bipush XJ.here hx rfl (hb hby at_40) kk0) ?_
      refine Go.of (mkF m 43 #[.val (.int mM), .val (.int pP), .val (.int cC), .val (.int eE), .val (.int wW), .val (.int mU), .val (.int (((mM.toUInt32 >>> ((2 : Int32) &&& 31).toUInt32).toInt32) &&& (7 : Int32))), .unset, .unset, .unset, .unset, .unset] [(.int ((pP &&& (2147483647 : Int32)) % (6 : Int32)))]) (fun tt0 kk0 => iremM XJ hx rfl (hb hby at_42) rfl (by decide) kk0) ?_
      refine Go.of (mkF m 45 #[.val (.int mM), .val (.int pP), .val (.int cC), .val (.int eE), .val (.int wW), .val (.int mU), .val (.int (((mM.toUInt32 >>> ((2 : Int32) &&& 31).toUInt32).toInt32) &&& (7 : Int32))), .val (.int ((pP &&& (2147483647 : Int32)) % (6 : Int32))), .unset, .unset, .unset, .unset] []) (fun tt0 kk0 => XS.istore XJ.here hx rfl (hb hby at_43) rfl (l' := #[.val (.int mM), .val (.int pP), .val (.int cC), .val (.int eE), .val (.int wW), .val (.int mU), .val (.int (((mM.toUInt32 >>> ((2 : Int32) &&& 31).toUInt32).toInt32) &&& (7 : Int32))), .val (.int ((pP &&& (2147483647 : Int32)) % (6 : Int32))), .unset, .unset, .unset, .unset]) rfl kk0) ?_
      refine Go.of (mkF m 46 #[.val (.int mM), .val (.int pP), .val (.int cC), .val (.int eE), .val (.int wW), .val (.int mU), .val (.int (((mM.toUInt32 >>> ((2 : Int32) &&& 31).toUInt32).toInt32) &&& (7 : Int32))), .val (.int ((pP &&& (2147483647 : Int32)) % (6 : Int32))), .unset, .unset, .unset, .unset] [(.int cC)]) (fun tt0 kk0 => XS.iloadN XJ.here hx rfl (hb hby at_45) rfl kk0) ?_
      refine Go.of (mkF m 49 #[.val (.int mM), .val (.int pP), .val (.int cC), .val (.int eE), .val (.int wW), .val (.int mU), .val (.int (((mM.toUInt32 >>> ((2 : Int32) &&& 31).toUInt32).toInt32) &&& (7 : Int32))), .val (.int ((pP &&& (2147483647 : Int32)) % (6 : Int32))), .unset, .unset, .unset, .unset] [(.int (255 : Int32)), (.int cC)]) (fun tt0 kk0 => XS.sipush XJ.here hx rfl (hb hby at_46) kk0) ?_
      refine Go.of (mkF m 50 #[.val (.int mM), .val (.int pP), .val (.int cC), .val (.int eE), .val (.int wW), .val (.int mU), .val (.int (((mM.toUInt32 >>> ((2 : Int32) &&& 31).toUInt32).toInt32) &&& (7 : Int32))), .val (.int ((pP &&& (2147483647 : Int32)) % (6 : Int32))), .unset, .unset, .unset, .unset] [(.int (cC &&& (255 : Int32)))]) (fun tt0 kk0 => XS.iand XJ.here hx rfl (hb hby at_49) rfl kk0) ?_
      refine Go.of (mkF m 51 #[.val (.int mM), .val (.int pP), .val (.int cC), .val (.int eE), .val (.int wW), .val (.int mU), .val (.int (((mM.toUInt32 >>> ((2 : Int32) &&& 31).toUInt32).toInt32) &&& (7 : Int32))), .val (.int ((pP &&& (2147483647 : Int32)) % (6 : Int32))), .unset, .unset, .unset, .unset] [(.int ((cC &&& (255 : Int32)).toUInt32.toUInt16.toUInt32.toInt32))]) (fun tt0 kk0 => XS.i2c XJ.here hx rfl (hb hby at_50) rfl kk0) ?_
      refine Go.of (mkF m 53 #[.val (.int mM), .val (.int pP), .val (.int cC), .val (.int eE), .val (.int wW), .val (.int mU), .val (.int (((mM.toUInt32 >>> ((2 : Int32) &&& 31).toUInt32).toInt32) &&& (7 : Int32))), .val (.int ((pP &&& (2147483647 : Int32)) % (6 : Int32))), .val (.int ((cC &&& (255 : Int32)).toUInt32.toUInt16.toUInt32.toInt32)), .unset, .unset, .unset] []) (fun tt0 kk0 => XS.istore XJ.here hx rfl (hb hby at_51) rfl (l' := #[.val (.int mM), .val (.int pP), .val (.int cC), .val (.int eE), .val (.int wW), .val (.int mU), .val (.int (((mM.toUInt32 >>> ((2 : Int32) &&& 31).toUInt32).toInt32) &&& (7 : Int32))), .val (.int ((pP &&& (2147483647 : Int32)) % (6 : Int32))), .val (.int ((cC &&& (255 : Int32)).toUInt32.toUInt16.toUInt32.toInt32)), .unset, .unset, .unset]) rfl kk0) ?_
      generalize g_k : (((mM.toUInt32 >>> ((2 : Int32) &&& 31).toUInt32).toInt32) &&& (7 : Int32)) = kK
      generalize g_p : ((pP &&& (2147483647 : Int32)) % (6 : Int32)) = p6
      have hp6 : ¬ p6 < 0 ∧ p6 < 6 := by rw [← g_p]; exact own_rem6 _
      generalize g_c : ((cC &&& (255 : Int32)).toUInt32.toUInt16.toUInt32.toInt32) = mc
      have hmc : ¬ mc < 0 ∧ ¬ (255 : Int32) < mc := by rw [← g_c]; simp only [i2c_mask]; exact own_s_and255 _
      refine Go.of (mkF m 55 #[.val (.int mM), .val (.int pP), .val (.int cC), .val (.int eE), .val (.int wW), .val (.int mU), .val (.int kK), .val (.int p6), .val (.int mc), .unset, .unset, .unset] [(.int (7 : Int32))]) (fun tt0 kk0 => XS.bipush XJ.here hx rfl (hb hby at_53) kk0) ?_
      obtain ⟨T1, h1, k1, X1, e1, E1, A1, Q1, st1⟩ := newPE XJ hx hZ (aty := .char) (tw1 hw) eJ (g := (mkF m 55 #[.val (.int mM), .val (.int pP), .val (.int cC), .val (.int eE), .val (.int wW), .val (.int mU), .val (.int kK), .val (.int p6), .val (.int mc), .unset, .unset, .unset] [(.int (7 : Int32))])) rfl (hb hby at_55) rfl (by decide) (cap := 7) (by decide) (by decide) (by decide) (by decide) (ad := "[C") (by decide +kernel)
      obtain ⟨b1, g1⟩ : ∃ z, z = h0.size := ⟨_, rfl⟩
      rw [← g1] at A1 Q1 st1
      have gb_b1 : n0 ≤ b1 := Nat.le_trans hz (Nat.le_of_eq g1.symm)
      replace CLJ := CLJ.ext E1
      replace hz := Nat.le_trans hz E1.1
      replace OL := OL.ext E1
      have V_b1 : Fa Z h1 b1 .char (7 : Int32) (fun i => .int ((fun _ => (0 : Int32)) i)) := Fa.new A1 (by decide)
      refine Go.of (mkF m 57 #[.val (.int mM), .val (.int pP), .val (.int cC), .val (.int eE), .val (.int wW), .val (.int mU), .val (.int kK), .val (.int p6), .val (.int mc), .unset, .unset, .unset] [(.ref b1)]) (st1) ?_
      refine Go.of (mkF m 59 #[.val (.int mM), .val (.int pP), .val (.int cC), .val (.int eE), .val (.int wW), .val (.int mU), .val (.int kK), .val (.int p6), .val (.int mc), .val (.ref b1), .unset, .unset] []) (fun tt0 kk0 => XS.astore X1.here hx rfl (hb hby at_57) rfl rfl (l' := #[.val (.int mM), .val (.int pP), .val (.int cC), .val (.int eE), .val (.int wW), .val (.int mU), .val (.int kK), .val (.int p6), .val (.int mc), .val (.ref b1), .unset, .unset]) rfl kk0) ?_
      refine Go.of (mkF m 61 #[.val (.int mM), .val (.int pP), .val (.int cC), .val (.int eE), .val (.int wW), .val (.int mU), .val (.int kK), .val (.int p6), .val (.int mc), .val (.ref b1), .unset, .unset] [(.ref b1)]) (fun tt0 kk0 => XS.aload X1.here hx rfl (hb hby at_59) rfl rfl kk0) ?_
      refine Go.of (mkF m 62 #[.val (.int mM), .val (.int pP), .val (.int cC), .val (.int eE), .val (.int wW), .val (.int mU), .val (.int kK), .val (.int p6), .val (.int mc), .val (.ref b1), .unset, .unset] [(.int (0 : Int32)), (.ref b1)]) (fun tt0 kk0 => XS.iconst X1.here hx rfl (hb hby at_61) kk0) ?_
      refine Go.of (mkF m 64 #[.val (.int mM), .val (.int pP), .val (.int cC), .val (.int eE), .val (.int wW), .val (.int mU), .val (.int kK), .val (.int p6), .val (.int mc), .val (.ref b1), .unset, .unset] [(.int wW), (.int (0 : Int32)), (.ref b1)]) (fun tt0 kk0 => XS.iload X1.here hx rfl (hb hby at_62) rfl kk0) ?_
      refine Go.of (mkF m 65 #[.val (.int mM), .val (.int pP), .val (.int cC), .val (.int eE), .val (.int wW), .val (.int mU), .val (.int kK), .val (.int p6), .val (.int mc), .val (.ref b1), .unset, .unset] [(.int (0 : Int32)), (.int wW), (.int (0 : Int32)), (.ref b1)]) (fun tt0 kk0 => XS.iconst X1.here hx rfl (hb hby at_64) kk0) ?_
      refine Go.callSC X1 hx hZ (y := (⟨"com/example/sealed_ledger/sealedledger/http/RoleNamedPinLaw", "base", "(ZI)C"⟩ : MethodName)) (argsL := [(.int wW), (.int (0 : Int32))]) (rest := [(.int (0 : Int32)), (.ref b1)]) hown hEL CLJ (tw2 hw) (tw3 hw) (tw4 hw) (tw5 hw) (by decide) e1 (rmBa l Z a0 hw [] wW (0 : Int32) h1 n0 hz G1 (O2.ext OL.2) P3 fv hfv (O4.ext OL.2) hEL wS (by decide) (by decide)) (g := (mkF m 65 #[.val (.int mM), .val (.int pP), .val (.int cC), .val (.int eE), .val (.int wW), .val (.int mU), .val (.int kK), .val (.int p6), .val (.int mc), .val (.ref b1), .unset, .unset] [(.int (0 : Int32)), (.int wW), (.int (0 : Int32)), (.ref b1)])) rfl (by rw [hml]; rfl) (lenOf pd22 rfl) rfl (W := 2) (by show 2 * 0 + _ ≤ _; exact Nat.le_of_eq rfl) (hb hby at_65) (by decide) (by decide) (by decide) (by decide) ?_
      rintro T2 L2 v2 X2 ⟨rfl, NL2, K2⟩ hZ hown CL2 rc2
      have N2 := Fr.app NJ NL2
      replace Q1 := Q1.keep K2
      replace V_b1 := V_b1.keep K2 nin0
      replace hz := Nat.le_trans hz K2.1
      replace OL := OL.keep K2 (all0)
      show Go pr ev below _ T2 (mkF m 68 #[.val (.int mM), .val (.int pP), .val (.int cC), .val (.int eE), .val (.int wW), .val (.int mU), .val (.int kK), .val (.int p6), .val (.int mc), .val (.ref b1), .unset, .unset] [(.int (own_base wW (0 : Int32))), (.int (0 : Int32)), (.ref b1)])
      refine Go.castore X2 hx hZ rfl V_b1 (by decide) (by decide) (g := (mkF m 68 #[.val (.int mM), .val (.int pP), .val (.int cC), .val (.int eE), .val (.int wW), .val (.int mU), .val (.int kK), .val (.int p6), .val (.int mc), .val (.ref b1), .unset, .unset] [(.int (own_base wW (0 : Int32))), (.int (0 : Int32)), (.ref b1)])) rfl rfl (hb hby at_68) ?_
      rintro T3 h3 X3 e3 W3 V3
      have sw4 := (Fa.safe (EL := own_EL) hZ V_b1 (by decide))
      replace CL2 := CL2.wr W3 sw4
      replace Q1 := Q1.wr W3
      replace hz := Nat.le_trans hz (Nat.le_of_eq W3.size.symm)
      replace OL := OL.wr W3 gb_b1
      replace V_b1 := V3
      rw [show nar .char (own_base wW (0 : Int32)) = (own_base wW (0 : Int32)) from own_nar8 (own_base_rng _ _)] at V_b1
      have N3 := Fr.snoc X3 N2 gb_b1
      show Go pr ev below _ T3 (mkF m 69 #[.val (.int mM), .val (.int pP), .val (.int cC), .val (.int eE), .val (.int wW), .val (.int mU), .val (.int kK), .val (.int p6), .val (.int mc), .val (.ref b1), .unset, .unset] [])
      refine Go.of (mkF m 71 #[.val (.int mM), .val (.int pP), .val (.int cC), .val (.int eE), .val (.int wW), .val (.int mU), .val (.int kK), .val (.int p6), .val (.int mc), .val (.ref b1), .unset, .unset] [(.ref b1)]) (fun tt0 kk0 => XS.aload X3.here hx rfl (hb hby at_69) rfl rfl kk0) ?_
      refine Go.of (mkF m 72 #[.val (.int mM), .val (.int pP), .val (.int cC), .val (.int eE), .val (.int wW), .val (.int mU), .val (.int kK), .val (.int p6), .val (.int mc), .val (.ref b1), .unset, .unset] [(.int (1 : Int32)), (.ref b1)]) (fun tt0 kk0 => XS.iconst X3.here hx rfl (hb hby at_71) kk0) ?_
      refine Go.of (mkF m 74 #[.val (.int mM), .val (.int pP), .val (.int cC), .val (.int eE), .val (.int wW), .val (.int mU), .val (.int kK), .val (.int p6), .val (.int mc), .val (.ref b1), .unset, .unset] [(.int wW), (.int (1 : Int32)), (.ref b1)]) (fun tt0 kk0 => XS.iload X3.here hx rfl (hb hby at_72) rfl kk0) ?_
      refine Go.of (mkF m 75 #[.val (.int mM), .val (.int pP), .val (.int cC), .val (.int eE), .val (.int wW), .val (.int mU), .val (.int kK), .val (.int p6), .val (.int mc), .val (.ref b1), .unset, .unset] [(.int (1 : Int32)), (.int wW), (.int (1 : Int32)), (.ref b1)]) (fun tt0 kk0 => XS.iconst X3.here hx rfl (hb hby at_74) kk0) ?_
      refine Go.callSC X3 hx hZ (y := (⟨"com/example/sealed_ledger/sealedledger/http/RoleNamedPinLaw", "base", "(ZI)C"⟩ : MethodName)) (argsL := [(.int wW), (.int (1 : Int32))]) (rest := [(.int (1 : Int32)), (.ref b1)]) hown hEL CL2 (tw2 hw) (tw3 hw) (tw4 hw) (tw5 hw) (by decide) e3 (rmBa l Z a0 hw [] wW (1 : Int32) h3 n0 hz G1 (O2.ext OL.2) P3 fv hfv (O4.ext OL.2) hEL wS (by decide) (by decide)) (g := (mkF m 75 #[.val (.int mM), .val (.int pP), .val (.int cC), .val (.int eE), .val (.int wW), .val (.int mU), .val (.int kK), .val (.int p6), .val (.int mc), .val (.ref b1), .unset, .unset] [(.int (1 : Int32)), (.int wW), (.int (1 : Int32)), (.ref b1)])) rfl (by rw [hml]; rfl) (lenOf pd22 rfl) rfl (W := 2) (by show 2 * 0 + _ ≤ _; exact Nat.le_of_eq rfl) (hb hby at_75) (by decide) (by decide) (by decide) (by decide) ?_
      rintro T5 L5 v5 X5 ⟨rfl, NL5, K5⟩ hZ hown CL5 rc5
      have N5 := Fr.app N3 NL5
      replace Q1 := Q1.keep K5
      replace V_b1 := V_b1.keep K5 nin0
      replace hz := Nat.le_trans hz K5.1
      replace OL := OL.keep K5 (all0)
      show Go pr ev below _ T5 (mkF m 78 #[.val (.int mM), .val (.int pP), .val (.int cC), .val (.int eE), .val (.int wW), .val (.int mU), .val (.int kK), .val (.int p6), .val (.int mc), .val (.ref b1), .unset, .unset] [(.int (own_base wW (1 : Int32))), (.int (1 : Int32)), (.ref b1)])
      refine Go.castore X5 hx hZ rfl V_b1 (by decide) (by decide) (g := (mkF m 78 #[.val (.int mM), .val (.int pP), .val (.int cC), .val (.int eE), .val (.int wW), .val (.int mU), .val (.int kK), .val (.int p6), .val (.int mc), .val (.ref b1), .unset, .unset] [(.int (own_base wW (1 : Int32))), (.int (1 : Int32)), (.ref b1)])) rfl rfl (hb hby at_78) ?_
      rintro T6 h6 X6 e6 W6 V6
      have sw7 := (Fa.safe (EL := own_EL) hZ V_b1 (by decide))
      replace CL5 := CL5.wr W6 sw7
      replace Q1 := Q1.wr W6
      replace hz := Nat.le_trans hz (Nat.le_of_eq W6.size.symm)
      replace OL := OL.wr W6 gb_b1
      replace V_b1 := V6
      rw [show nar .char (own_base wW (1 : Int32)) = (own_base wW (1 : Int32)) from own_nar8 (own_base_rng _ _)] at V_b1
      have N6 := Fr.snoc X6 N5 gb_b1
      show Go pr ev below _ T6 (mkF m 79 #[.val (.int mM), .val (.int pP), .val (.int cC), .val (.int eE), .val (.int wW), .val (.int mU), .val (.int kK), .val (.int p6), .val (.int mc), .val (.ref b1), .unset, .unset] [])
      refine Go.of (mkF m 81 #[.val (.int mM), .val (.int pP), .val (.int cC), .val (.int eE), .val (.int wW), .val (.int mU), .val (.int kK), .val (.int p6), .val (.int mc), .val (.ref b1), .unset, .unset] [(.ref b1)]) (fun tt0 kk0 => XS.aload X6.here hx rfl (hb hby at_79) rfl rfl kk0) ?_
      refine Go.of (mkF m 82 #[.val (.int mM), .val (.int pP), .val (.int cC), .val (.int eE), .val (.int wW), .val (.int mU), .val (.int kK), .val (.int p6), .val (.int mc), .val (.ref b1), .unset, .unset] [(.int (2 : Int32)), (.ref b1)]) (fun tt0 kk0 => XS.iconst X6.here hx rfl (hb hby at_81) kk0) ?_
      refine Go.of (mkF m 84 #[.val (.int mM), .val (.int pP), .val (.int cC), .val (.int eE), .val (.int wW), .val (.int mU), .val (.int kK), .val (.int p6), .val (.int mc), .val (.ref b1), .unset, .unset] [(.int wW), (.int (2 : Int32)), (.ref b1)]) (fun tt0 kk0 => XS.iload X6.here hx rfl (hb hby at_82) rfl kk0) ?_
      refine Go.of (mkF m 85 #[.val (.int mM), .val (.int pP), .val (.int cC), .val (.int eE), .val (.int wW), .val (.int mU), .val (.int kK), .val (.int p6), .val (.int mc), .val (.ref b1), .unset, .unset] [(.int (2 : Int32)), (.int wW), (.int (2 : Int32)), (.ref b1)]) (fun tt0 kk0 => XS.iconst X6.here hx rfl (hb hby at_84) kk0) ?_
      refine Go.callSC X6 hx hZ (y := (⟨"com/example/sealed_ledger/sealedledger/http/RoleNamedPinLaw", "base", "(ZI)C"⟩ : MethodName)) (argsL := [(.int wW), (.int (2 : Int32))]) (rest := [(.int (2 : Int32)), (.ref b1)]) hown hEL CL5 (tw2 hw) (tw3 hw) (tw4 hw) (tw5 hw) (by decide) e6 (rmBa l Z a0 hw [] wW (2 : Int32) h6 n0 hz G1 (O2.ext OL.2) P3 fv hfv (O4.ext OL.2) hEL wS (by decide) (by decide)) (g := (mkF m 85 #[.val (.int mM), .val (.int pP), .val (.int cC), .val (.int eE), .val (.int wW), .val (.int mU), .val (.int kK), .val (.int p6), .val (.int mc), .val (.ref b1), .unset, .unset] [(.int (2 : Int32)), (.int wW), (.int (2 : Int32)), (.ref b1)])) rfl (by rw [hml]; rfl) (lenOf pd22 rfl) rfl (W := 2) (by show 2 * 0 + _ ≤ _; exact Nat.le_of_eq rfl) (hb hby at_85) (by decide) (by decide) (by decide) (by decide) ?_
      rintro T8 L8 v8 X8 ⟨rfl, NL8, K8⟩ hZ hown CL8 rc8
      have N8 := Fr.app N6 NL8
      replace Q1 := Q1.keep K8
      replace V_b1 := V_b1.keep K8 nin0
      replace hz := Nat.le_trans hz K8.1
      replace OL := OL.keep K8 (all0)
      show Go pr ev below _ T8 (mkF m 88 #[.val (.int mM), .val (.int pP), .val (.int cC), .val (.int eE), .val (.int wW), .val (.int mU), .val (.int kK), .val (.int p6), .val (.int mc), .val (.ref b1), .unset, .unset] [(.int (own_base wW (2 : Int32))), (.int (2 : Int32)), (.ref b1)])
      refine Go.castore X8 hx hZ rfl V_b1 (by decide) (by decide) (g := (mkF m 88 #[.val (.int mM), .val (.int pP), .val (.int cC), .val (.int eE), .val (.int wW), .val (.int mU), .val (.int kK), .val (.int p6), .val (.int mc), .val (.ref b1), .unset, .unset] [(.int (own_base wW (2 : Int32))), (.int (2 : Int32)), (.ref b1)])) rfl rfl (hb hby at_88) ?_
      rintro T9 h9 X9 e9 W9 V9
      have sw10 := (Fa.safe (EL := own_EL) hZ V_b1 (by decide))
      replace CL8 := CL8.wr W9 sw10
      replace Q1 := Q1.wr W9
      replace hz := Nat.le_trans hz (Nat.le_of_eq W9.size.symm)
      replace OL := OL.wr W9 gb_b1
      replace V_b1 := V9
      rw [show nar .char (own_base wW (2 : Int32)) = (own_base wW (2 : Int32)) from own_nar8 (own_base_rng _ _)] at V_b1
      have N9 := Fr.snoc X9 N8 gb_b1
      show Go pr ev below _ T9 (mkF m 89 #[.val (.int mM), .val (.int pP), .val (.int cC), .val (.int eE), .val (.int wW), .val (.int mU), .val (.int kK), .val (.int p6), .val (.int mc), .val (.ref b1), .unset, .unset] [])
      refine Go.of (mkF m 91 #[.val (.int mM), .val (.int pP), .val (.int cC), .val (.int eE), .val (.int wW), .val (.int mU), .val (.int kK), .val (.int p6), .val (.int mc), .val (.ref b1), .unset, .unset] [(.ref b1)]) (fun tt0 kk0 => XS.aload X9.here hx rfl (hb hby at_89) rfl rfl kk0) ?_
      refine Go.of (mkF m 92 #[.val (.int mM), .val (.int pP), .val (.int cC), .val (.int eE), .val (.int wW), .val (.int mU), .val (.int kK), .val (.int p6), .val (.int mc), .val (.ref b1), .unset, .unset] [(.int (3 : Int32)), (.ref b1)]) (fun tt0 kk0 => XS.iconst X9.here hx rfl (hb hby at_91) kk0) ?_
      refine Go.of (mkF m 94 #[.val (.int mM), .val (.int pP), .val (.int cC), .val (.int eE), .val (.int wW), .val (.int mU), .val (.int kK), .val (.int p6), .val (.int mc), .val (.ref b1), .unset, .unset] [(.int wW), (.int (3 : Int32)), (.ref b1)]) (fun tt0 kk0 => XS.iload X9.here hx rfl (hb hby at_92) rfl kk0) ?_
      refine Go.of (mkF m 95 #[.val (.int mM), .val (.int pP), .val (.int cC), .val (.int eE), .val (.int wW), .val (.int mU), .val (.int kK), .val (.int p6), .val (.int mc), .val (.ref b1), .unset, .unset] [(.int (3 : Int32)), (.int wW), (.int (3 : Int32)), (.ref b1)]) (fun tt0 kk0 => XS.iconst X9.here hx rfl (hb hby at_94) kk0) ?_
      refine Go.callSC X9 hx hZ (y := (⟨"com/example/sealed_ledger/sealedledger/http/RoleNamedPinLaw", "base", "(ZI)C"⟩ : MethodName)) (argsL := [(.int wW), (.int (3 : Int32))]) (rest := [(.int (3 : Int32)), (.ref b1)]) hown hEL CL8 (tw2 hw) (tw3 hw) (tw4 hw) (tw5 hw) (by decide) e9 (rmBa l Z a0 hw [] wW (3 : Int32) h9 n0 hz G1 (O2.ext OL.2) P3 fv hfv (O4.ext OL.2) hEL wS (by decide) (by decide)) (g := (mkF m 95 #[.val (.int mM), .val (.int pP), .val (.int cC), .val (.int eE), .val (.int wW), .val (.int mU), .val (.int kK), .val (.int p6), .val (.int mc), .val (.ref b1), .unset, .unset] [(.int (3 : Int32)), (.int wW), (.int (3 : Int32)), (.ref b1)])) rfl (by rw [hml]; rfl) (lenOf pd22 rfl) rfl (W := 2) (by show 2 * 0 + _ ≤ _; exact Nat.le_of_eq rfl) (hb hby at_95) (by decide) (by decide) (by decide) (by decide) ?_
      rintro T11 L11 v11 X11 ⟨rfl, NL11, K11⟩ hZ hown CL11 rc11
      have N11 := Fr.app N9 NL11
      replace Q1 := Q1.keep K11
      replace V_b1 := V_b1.keep K11 nin0
      replace hz := Nat.le_trans hz K11.1
      replace OL := OL.keep K11 (all0)
      show Go pr ev below _ T11 (mkF m 98 #[.val (.int mM), .val (.int pP), .val (.int cC), .val (.int eE), .val (.int wW), .val (.int mU), .val (.int kK), .val (.int p6), .val (.int mc), .val (.ref b1), .unset, .unset] [(.int (own_base wW (3 : Int32))), (.int (3 : Int32)), (.ref b1)])
      refine Go.castore X11 hx hZ rfl V_b1 (by decide) (by decide) (g := (mkF m 98 #[.val (.int mM), .val (.int pP), .val (.int cC), .val (.int eE), .val (.int wW), .val (.int mU), .val (.int kK), .val (.int p6), .val (.int mc), .val (.ref b1), .unset, .unset] [(.int (own_base wW (3 : Int32))), (.int (3 : Int32)), (.ref b1)])) rfl rfl (hb hby at_98) ?_
      rintro T12 h12 X12 e12 W12 V12
      have sw13 := (Fa.safe (EL := own_EL) hZ V_b1 (by decide))
      replace CL11 := CL11.wr W12 sw13
      replace Q1 := Q1.wr W12
      replace hz := Nat.le_trans hz (Nat.le_of_eq W12.size.symm)
      replace OL := OL.wr W12 gb_b1
      replace V_b1 := V12
      rw [show nar .char (own_base wW (3 : Int32)) = (own_base wW (3 : Int32)) from own_nar8 (own_base_rng _ _)] at V_b1
      have N12 := Fr.snoc X12 N11 gb_b1
      show Go pr ev below _ T12 (mkF m 99 #[.val (.int mM), .val (.int pP), .val (.int cC), .val (.int eE), .val (.int wW), .val (.int mU), .val (.int kK), .val (.int p6), .val (.int mc), .val (.ref b1), .unset, .unset] [])
      refine Go.of (mkF m 101 #[.val (.int mM), .val (.int pP), .val (.int cC), .val (.int eE), .val (.int wW), .val (.int mU), .val (.int kK), .val (.int p6), .val (.int mc), .val (.ref b1), .unset, .unset] [(.ref b1)]) (fun tt0 kk0 => XS.aload X12.here hx rfl (hb hby at_99) rfl rfl kk0) ?_
      refine Go.of (mkF m 102 #[.val (.int mM), .val (.int pP), .val (.int cC), .val (.int eE), .val (.int wW), .val (.int mU), .val (.int kK), .val (.int p6), .val (.int mc), .val (.ref b1), .unset, .unset] [(.int (4 : Int32)), (.ref b1)]) (fun tt0 kk0 => XS.iconst X12.here hx rfl (hb hby at_101) kk0) ?_
      refine Go.of (mkF m 104 #[.val (.int mM), .val (.int pP), .val (.int cC), .val (.int eE), .val (.int wW), .val (.int mU), .val (.int kK), .val (.int p6), .val (.int mc), .val (.ref b1), .unset, .unset] [(.int wW), (.int (4 : Int32)), (.ref b1)]) (fun tt0 kk0 => XS.iload X12.here hx rfl (hb hby at_102) rfl kk0) ?_
      refine Go.of (mkF m 105 #[.val (.int mM), .val (.int pP), .val (.int cC), .val (.int eE), .val (.int wW), .val (.int mU), .val (.int kK), .val (.int p6), .val (.int mc), .val (.ref b1), .unset, .unset] [(.int (4 : Int32)), (.int wW), (.int (4 : Int32)), (.ref b1)]) (fun tt0 kk0 => XS.iconst X12.here hx rfl (hb hby at_104) kk0) ?_
      refine Go.callSC X12 hx hZ (y := (⟨"com/example/sealed_ledger/sealedledger/http/RoleNamedPinLaw", "base", "(ZI)C"⟩ : MethodName)) (argsL := [(.int wW), (.int (4 : Int32))]) (rest := [(.int (4 : Int32)), (.ref b1)]) hown hEL CL11 (tw2 hw) (tw3 hw) (tw4 hw) (tw5 hw) (by decide) e12 (rmBa l Z a0 hw [] wW (4 : Int32) h12 n0 hz G1 (O2.ext OL.2) P3 fv hfv (O4.ext OL.2) hEL wS (by decide) (by decide)) (g := (mkF m 105 #[.val (.int mM), .val (.int pP), .val (.int cC), .val (.int eE), .val (.int wW), .val (.int mU), .val (.int kK), .val (.int p6), .val (.int mc), .val (.ref b1), .unset, .unset] [(.int (4 : Int32)), (.int wW), (.int (4 : Int32)), (.ref b1)])) rfl (by rw [hml]; rfl) (lenOf pd22 rfl) rfl (W := 2) (by show 2 * 0 + _ ≤ _; exact Nat.le_of_eq rfl) (hb hby at_105) (by decide) (by decide) (by decide) (by decide) ?_
      rintro T14 L14 v14 X14 ⟨rfl, NL14, K14⟩ hZ hown CL14 rc14
      have N14 := Fr.app N12 NL14
      replace Q1 := Q1.keep K14
      replace V_b1 := V_b1.keep K14 nin0
      replace hz := Nat.le_trans hz K14.1
      replace OL := OL.keep K14 (all0)
      show Go pr ev below _ T14 (mkF m 108 #[.val (.int mM), .val (.int pP), .val (.int cC), .val (.int eE), .val (.int wW), .val (.int mU), .val (.int kK), .val (.int p6), .val (.int mc), .val (.ref b1), .unset, .unset] [(.int (own_base wW (4 : Int32))), (.int (4 : Int32)), (.ref b1)])
      refine Go.castore X14 hx hZ rfl V_b1 (by decide) (by decide) (g := (mkF m 108 #[.val (.int mM), .val (.int pP), .val (.int cC), .val (.int eE), .val (.int wW), .val (.int mU), .val (.int kK), .val (.int p6), .val (.int mc), .val (.ref b1), .unset, .unset] [(.int (own_base wW (4 : Int32))), (.int (4 : Int32)), (.ref b1)])) rfl rfl (hb hby at_108) ?_
      rintro T15 h15 X15 e15 W15 V15
      have sw16 := (Fa.safe (EL := own_EL) hZ V_b1 (by decide))
      replace CL14 := CL14.wr W15 sw16
      replace Q1 := Q1.wr W15
      replace hz := Nat.le_trans hz (Nat.le_of_eq W15.size.symm)
      replace OL := OL.wr W15 gb_b1
      replace V_b1 := V15
      rw [show nar .char (own_base wW (4 : Int32)) = (own_base wW (4 : Int32)) from own_nar8 (own_base_rng _ _)] at V_b1
      have N15 := Fr.snoc X15 N14 gb_b1
      show Go pr ev below _ T15 (mkF m 109 #[.val (.int mM), .val (.int pP), .val (.int cC), .val (.int eE), .val (.int wW), .val (.int mU), .val (.int kK), .val (.int p6), .val (.int mc), .val (.ref b1), .unset, .unset] [])
      refine Go.of (mkF m 111 #[.val (.int mM), .val (.int pP), .val (.int cC), .val (.int eE), .val (.int wW), .val (.int mU), .val (.int kK), .val (.int p6), .val (.int mc), .val (.ref b1), .unset, .unset] [(.ref b1)]) (fun tt0 kk0 => XS.aload X15.here hx rfl (hb hby at_109) rfl rfl kk0) ?_
      refine Go.of (mkF m 112 #[.val (.int mM), .val (.int pP), .val (.int cC), .val (.int eE), .val (.int wW), .val (.int mU), .val (.int kK), .val (.int p6), .val (.int mc), .val (.ref b1), .unset, .unset] [(.int (5 : Int32)), (.ref b1)]) (fun tt0 kk0 => XS.iconst X15.here hx rfl (hb hby at_111) kk0) ?_
      refine Go.of (mkF m 114 #[.val (.int mM), .val (.int pP), .val (.int cC), .val (.int eE), .val (.int wW), .val (.int mU), .val (.int kK), .val (.int p6), .val (.int mc), .val (.ref b1), .unset, .unset] [(.int wW), (.int (5 : Int32)), (.ref b1)]) (fun tt0 kk0 => XS.iload X15.here hx rfl (hb hby at_112) rfl kk0) ?_
      refine Go.of (mkF m 115 #[.val (.int mM), .val (.int pP), .val (.int cC), .val (.int eE), .val (.int wW), .val (.int mU), .val (.int kK), .val (.int p6), .val (.int mc), .val (.ref b1), .unset, .unset] [(.int (5 : Int32)), (.int wW), (.int (5 : Int32)), (.ref b1)]) (fun tt0 kk0 => XS.iconst X15.here hx rfl (hb hby at_114) kk0) ?_
      refine Go.callSC X15 hx hZ (y := (⟨"com/example/sealed_ledger/sealedledger/http/RoleNamedPinLaw", "base", "(ZI)C"⟩ : MethodName)) (argsL := [(.int wW), (.int (5 : Int32))]) (rest := [(.int (5 : Int32)), (.ref b1)]) hown hEL CL14 (tw2 hw) (tw3 hw) (tw4 hw) (tw5 hw) (by decide) e15 (rmBa l Z a0 hw [] wW (5 : Int32) h15 n0 hz G1 (O2.ext OL.2) P3 fv hfv (O4.ext OL.2) hEL wS (by decide) (by decide)) (g := (mkF m 115 #[.val (.int mM), .val (.int pP), .val (.int cC), .val (.int eE), .val (.int wW), .val (.int mU), .val (.int kK), .val (.int p6), .val (.int mc), .val (.ref b1), .unset, .unset] [(.int (5 : Int32)), (.int wW), (.int (5 : Int32)), (.ref b1)])) rfl (by rw [hml]; rfl) (lenOf pd22 rfl) rfl (W := 2) (by show 2 * 0 + _ ≤ _; exact Nat.le_of_eq rfl) (hb hby at_115) (by decide) (by decide) (by decide) (by decide) ?_
      rintro T17 L17 v17 X17 ⟨rfl, NL17, K17⟩ hZ hown CL17 rc17
      have N17 := Fr.app N15 NL17
      replace Q1 := Q1.keep K17
      replace V_b1 := V_b1.keep K17 nin0
      replace hz := Nat.le_trans hz K17.1
      replace OL := OL.keep K17 (all0)
      show Go pr ev below _ T17 (mkF m 118 #[.val (.int mM), .val (.int pP), .val (.int cC), .val (.int eE), .val (.int wW), .val (.int mU), .val (.int kK), .val (.int p6), .val (.int mc), .val (.ref b1), .unset, .unset] [(.int (own_base wW (5 : Int32))), (.int (5 : Int32)), (.ref b1)])
      refine Go.castore X17 hx hZ rfl V_b1 (by decide) (by decide) (g := (mkF m 118 #[.val (.int mM), .val (.int pP), .val (.int cC), .val (.int eE), .val (.int wW), .val (.int mU), .val (.int kK), .val (.int p6), .val (.int mc), .val (.ref b1), .unset, .unset] [(.int (own_base wW (5 : Int32))), (.int (5 : Int32)), (.ref b1)])) rfl rfl (hb hby at_118) ?_
      rintro T18 h18 X18 e18 W18 V18
      have sw19 := (Fa.safe (EL := own_EL) hZ V_b1 (by decide))
      replace CL17 := CL17.wr W18 sw19
      replace Q1 := Q1.wr W18
      replace hz := Nat.le_trans hz (Nat.le_of_eq W18.size.symm)
      replace OL := OL.wr W18 gb_b1
      replace V_b1 := V18
      rw [show nar .char (own_base wW (5 : Int32)) = (own_base wW (5 : Int32)) from own_nar8 (own_base_rng _ _)] at V_b1
      have N18 := Fr.snoc X18 N17 gb_b1
      show Go pr ev below _ T18 (mkF m 119 #[.val (.int mM), .val (.int pP), .val (.int cC), .val (.int eE), .val (.int wW), .val (.int mU), .val (.int kK), .val (.int p6), .val (.int mc), .val (.ref b1), .unset, .unset] [])
      refine Go.of (mkF m 121 #[.val (.int mM), .val (.int pP), .val (.int cC), .val (.int eE), .val (.int wW), .val (.int mU), .val (.int kK), .val (.int p6), .val (.int mc), .val (.ref b1), .unset, .unset] [(.ref b1)]) (fun tt0 kk0 => XS.aload X18.here hx rfl (hb hby at_119) rfl rfl kk0) ?_
      refine Go.of (mkF m 123 #[.val (.int mM), .val (.int pP), .val (.int cC), .val (.int eE), .val (.int wW), .val (.int mU), .val (.int kK), .val (.int p6), .val (.int mc), .val (.ref b1), .unset, .unset] [(.int (6 : Int32)), (.ref b1)]) (fun tt0 kk0 => XS.bipush X18.here hx rfl (hb hby at_121) kk0) ?_
      refine Go.of (mkF m 124 #[.val (.int mM), .val (.int pP), .val (.int cC), .val (.int eE), .val (.int wW), .val (.int mU), .val (.int kK), .val (.int p6), .val (.int mc), .val (.ref b1), .unset, .unset] [(.int eE), (.int (6 : Int32)), (.ref b1)]) (fun tt0 kk0 => XS.iloadN X18.here hx rfl (hb hby at_123) rfl kk0) ?_
      refine Go.of (mkF m 127 #[.val (.int mM), .val (.int pP), .val (.int cC), .val (.int eE), .val (.int wW), .val (.int mU), .val (.int kK), .val (.int p6), .val (.int mc), .val (.ref b1), .unset, .unset] [(.int (255 : Int32)), (.int eE), (.int (6 : Int32)), (.ref b1)]) (fun tt0 kk0 => XS.sipush X18.here hx rfl (hb hby at_124) kk0) ?_
      refine Go.of (mkF m 128 #[.val (.int mM), .val (.int pP), .val (.int cC), .val (.int eE), .val (.int wW), .val (.int mU), .val (.int kK), .val (.int p6), .val (.int mc), .val (.ref b1), .unset, .unset] [(.int (eE &&& (255 : Int32))), (.int (6 : Int32)), (.ref b1)]) (fun tt0 kk0 => XS.iand X18.here hx rfl (hb hby at_127) rfl kk0) ?_
      refine Go.of (mkF m 129 #[.val (.int mM), .val (.int pP), .val (.int cC), .val (.int eE), .val (.int wW), .val (.int mU), .val (.int kK), .val (.int p6), .val (.int mc), .val (.ref b1), .unset, .unset] [(.int ((eE &&& (255 : Int32)).toUInt32.toUInt16.toUInt32.toInt32)), (.int (6 : Int32)), (.ref b1)]) (fun tt0 kk0 => XS.i2c X18.here hx rfl (hb hby at_128) rfl kk0) ?_
      refine Go.castore X18 hx hZ e18 V_b1 (by decide) (by decide) (g := (mkF m 129 #[.val (.int mM), .val (.int pP), .val (.int cC), .val (.int eE), .val (.int wW), .val (.int mU), .val (.int kK), .val (.int p6), .val (.int mc), .val (.ref b1), .unset, .unset] [(.int ((eE &&& (255 : Int32)).toUInt32.toUInt16.toUInt32.toInt32)), (.int (6 : Int32)), (.ref b1)])) rfl rfl (hb hby at_129) ?_
      rintro T20 h20 X20 e20 W20 V20
      have sw21 := (Fa.safe (EL := own_EL) hZ V_b1 (by decide))
      replace CL17 := CL17.wr W20 sw21
      replace Q1 := Q1.wr W20
      replace hz := Nat.le_trans hz (Nat.le_of_eq W20.size.symm)
      replace OL := OL.wr W20 gb_b1
      replace V_b1 := V20
      rw [show nar .char ((eE &&& (255 : Int32)).toUInt32.toUInt16.toUInt32.toInt32) = (eE &&& (255 : Int32)) from own_s_nar255 _] at V_b1
      have N20 := Fr.snoc X20 N18 gb_b1
      show Go pr ev below _ T20 (mkF m 130 #[.val (.int mM), .val (.int pP), .val (.int cC), .val (.int eE), .val (.int wW), .val (.int mU), .val (.int kK), .val (.int p6), .val (.int mc), .val (.ref b1), .unset, .unset] [])
      refine Go.of (mkF m 132 #[.val (.int mM), .val (.int pP), .val (.int cC), .val (.int eE), .val (.int wW), .val (.int mU), .val (.int kK), .val (.int p6), .val (.int mc), .val (.ref b1), .unset, .unset] [(.int mU)]) (fun tt0 kk0 => XS.iload X20.here hx rfl (hb hby at_130) rfl kk0) ?_
      have J142 : ∀ (TJ : State) (LJ : List Loc) (VJ : Vm) (hJ : Heap) (yF : Int32 → Int32), Stand pr l ev room_1 (s.setVm VJ) m #[(.int mM), (.int pP), (.int cC), (.int eE)] below meth c TJ LJ 13 175 → TJ.heap = hJ → Z.Warmed39 (s.setVm VJ).vm → (s.setVm VJ).vm.findClass "com/example/sealed_ledger/sealedledger/http/RoleNamedPinLaw" = some m.cls → Cld Z own_EL s VJ hJ → Fr n0 LJ → (Fa Z hJ b1 .char 7 (fun i => .int (yF i))) → Old Z n0 hJ → n0 ≤ hJ.size → yF = own_fm wW mU p6 mc eE → Go pr ev below (EndC s Z own_EL room_1 (fun v h L => v = some (.int 1) ∧ Fr n0 L)) TJ (mkF m 142 #[.val (.int mM), .val (.int pP), .val (.int cC), .val (.int eE), .val (.int wW), .val (.int mU), .val (.int kK), .val (.int p6), .val (.int mc), .val (.ref b1), .unset, .unset] []) := by
        intro TJ LJ VJ hJ yF XJ eJ hZ hown CLJ NJ VF OLJ hzJ hyF
        have hlat : ∀ i, ¬ yF i < 0 ∧ ¬ (255 : Int32) < yF i := by rw [hyF]; exact fun i => own_fm_lat hmc i
        refine Go.of (mkF m 144 #[.val (.int mM), .val (.int pP), .val (.int cC), .val (.int eE), .val (.int wW), .val (.int mU), .val (.int kK), .val (.int p6), .val (.int mc), .val (.ref b1), .unset, .unset] [(.int kK)]) (fun tt0 kk0 => XS.iload XJ.here hx rfl (hb hby at_142) rfl kk0) ?_
        refine Go.of (mkF m 145 #[.val (.int mM), .val (.int pP), .val (.int cC), .val (.int eE), .val (.int wW), .val (.int mU), .val (.int kK), .val (.int p6), .val (.int mc), .val (.ref b1), .unset, .unset] [(.int (2 : Int32)), (.int kK)]) (fun tt0 kk0 => XS.iconst XJ.here hx rfl (hb hby at_144) kk0) ?_
        by_cases hc145 : (2 : Int32) < kK
        ·
          refine Go.of (mkF m 206 #[.val (.int mM), .val (.int pP), .val (.int cC), .val (.int eE), .val (.int wW), .val (.int mU), .val (.int kK), .val (.int p6), .val (.int mc), .val (.ref b1), .unset, .unset] []) (fun tt0 kk0 => XS.icmpYes XJ.here hx rfl (pc0 := 145) (pc' := 206) rfl (hb hby at_145) rfl (tlt hc145).2.2.1 (by decide) (by decide) kk0) ?_
          refine Go.of (mkF m 208 #[.val (.int mM), .val (.int pP), .val (.int cC), .val (.int eE), .val (.int wW), .val (.int mU), .val (.int kK), .val (.int p6), .val (.int mc), .val (.ref b1), .unset, .unset] [(.int kK)]) (fun tt0 kk0 => XS.iload XJ.here hx rfl (hb hby at_206) rfl kk0) ?_
          refine Go.of (mkF m 209 #[.val (.int mM), .val (.int pP), .val (.int cC), .val (.int eE), .val (.int wW), .val (.int mU), .val (.int kK), .val (.int p6), .val (.int mc), .val (.ref b1), .unset, .unset] [(.int (3 : Int32)), (.int kK)]) (fun tt0 kk0 => XS.iconst XJ.here hx rfl (hb hby at_208) kk0) ?_
          by_cases hc209 : kK = (3 : Int32)
          ·
            refine Go.of (mkF m 212 #[.val (.int mM), .val (.int pP), .val (.int cC), .val (.int eE), .val (.int wW), .val (.int mU), .val (.int kK), .val (.int p6), .val (.int mc), .val (.ref b1), .unset, .unset] []) (fun tt0 kk0 => XS.icmpNo XJ.here hx rfl (hb hby at_209) rfl (teq hc209).2 kk0) ?_
            obtain ⟨T22, h22, X22, e22, E22, A22, D22, -, st22⟩ := newO XJ hx hZ hown (tw39 hw) (tw8 hw) (tw7 hw) eJ (g := (mkF m 212 #[.val (.int mM), .val (.int pP), .val (.int cC), .val (.int eE), .val (.int wW), .val (.int mU), .val (.int kK), .val (.int p6), .val (.int mc), .val (.ref b1), .unset, .unset] [])) rfl (hb hby at_212) (by decide) (by decide)
            obtain ⟨b22, g22⟩ : ∃ z, z = hJ.size := ⟨_, rfl⟩
            rw [← g22] at A22 D22 st22
            have ne_b1_b22 : b1 ≠ b22 := Nat.ne_of_lt (Nat.lt_of_lt_of_le VF.lt (Nat.le_of_eq g22.symm))
            have gb_b22 : n0 ≤ b22 := Nat.le_trans hzJ (Nat.le_of_eq g22.symm)
            have Sf_b22 := Cld.new CLJ (Nat.le_of_eq g22.symm)
            replace Sf_b22 := Safe.ext E22 CLJ.1 Sf_b22
            replace CLJ := CLJ.ext E22
            replace VF := VF.ext E22
            replace hzJ := Nat.le_trans hzJ E22.1
            replace OLJ := OLJ.ext E22
            have F_b22_value : Fld Z h22 b22 "java/lang/String" "value" "[B" .null := D22 (Or.inr (tw10 hw)) (ty := (.array .byte)) (by decide)
            have F_b22_coder : Fld Z h22 b22 "java/lang/String" "coder" "B" (.int (0 : Int32)) := D22 (Or.inr (tw11 hw)) (ty := .byte) (by decide)
            refine Go.of (mkF m 215 #[.val (.int mM), .val (.int pP), .val (.int cC), .val (.int eE), .val (.int wW), .val (.int mU), .val (.int kK), .val (.int p6), .val (.int mc), .val (.ref b1), .unset, .unset] [(.ref b22)]) (st22) ?_
            refine Go.of (mkF m 216 #[.val (.int mM), .val (.int pP), .val (.int cC), .val (.int eE), .val (.int wW), .val (.int mU), .val (.int kK), .val (.int p6), .val (.int mc), .val (.ref b1), .unset, .unset] [(.ref b22), (.ref b22)]) (fun tt0 kk0 => XS.dup X22.here hx rfl (hb hby at_215) rfl rfl kk0) ?_
            refine Go.of (mkF m 217 #[.val (.int mM), .val (.int pP), .val (.int cC), .val (.int eE), .val (.int wW), .val (.int mU), .val (.int kK), .val (.int p6), .val (.int mc), .val (.ref b1), .unset, .unset] [(.int (5 : Int32)), (.ref b22), (.ref b22)]) (fun tt0 kk0 => XS.iconst X22.here hx rfl (hb hby at_216) kk0) ?_
            obtain ⟨T23, h23, k23, X23, e23, E23, A23, Q23, st23⟩ := newPE X22 hx hZ (aty := .char) (tw1 hw) e22 (g := (mkF m 217 #[.val (.int mM), .val (.int pP), .val (.int cC), .val (.int eE), .val (.int wW), .val (.int mU), .val (.int kK), .val (.int p6), .val (.int mc), .val (.ref b1), .unset, .unset] [(.int (5 : Int32)), (.ref b22), (.ref b22)])) rfl (hb hby at_217) rfl (by decide) (cap := 5) (by decide) (by decide) (by decide) (by decide) (ad := "[C") (by decide +kernel)
            obtain ⟨b23, g23⟩ : ∃ z, z = h22.size := ⟨_, rfl⟩
            rw [← g23] at A23 Q23 st23
            have ne_b22_b23 : b22 ≠ b23 := Nat.ne_of_lt (Nat.lt_of_lt_of_le A22.lt (Nat.le_of_eq g23.symm))
            have ne_b1_b23 : b1 ≠ b23 := Nat.ne_of_lt (Nat.lt_of_lt_of_le VF.lt (Nat.le_of_eq g23.symm))
            have gb_b23 : n0 ≤ b23 := Nat.le_trans hzJ (Nat.le_of_eq g23.symm)
            replace Sf_b22 := Safe.ext E23 CLJ.1 Sf_b22
            replace CLJ := CLJ.ext E23
            replace F_b22_value := F_b22_value.ext E23
            replace F_b22_coder := F_b22_coder.ext E23
            replace A22 := A22.ext E23
            replace VF := VF.ext E23
            replace hzJ := Nat.le_trans hzJ E23.1
            replace OLJ := OLJ.ext E23
            have V_b23 : Fa Z h23 b23 .char (5 : Int32) (fun i => .int ((fun _ => (0 : Int32)) i)) := Fa.new A23 (by decide)
            refine Go.of (mkF m 219 #[.val (.int mM), .val (.int pP), .val (.int cC), .val (.int eE), .val (.int wW), .val (.int mU), .val (.int kK), .val (.int p6), .val (.int mc), .val (.ref b1), .unset, .unset] [(.ref b23), (.ref b22), (.ref b22)]) (st23) ?_
            refine Go.of (mkF m 220 #[.val (.int mM), .val (.int pP), .val (.int cC), .val (.int eE), .val (.int wW), .val (.int mU), .val (.int kK), .val (.int p6), .val (.int mc), .val (.ref b1), .unset, .unset] [(.ref b23), (.ref b23), (.ref b22), (.ref b22)]) (fun tt0 kk0 => XS.dup X23.here hx rfl (hb hby at_219) rfl rfl kk0) ?_
            refine Go.of (mkF m 221 #[.val (.int mM), .val (.int pP), .val (.int cC), .val (.int eE), .val (.int wW), .val (.int mU), .val (.int kK), .val (.int p6), .val (.int mc), .val (.ref b1), .unset, .unset] [(.int (0 : Int32)), (.ref b23), (.ref b23), (.ref b22), (.ref b22)]) (fun tt0 kk0 => XS.iconst X23.here hx rfl (hb hby at_220) kk0) ?_
            refine Go.of (mkF m 223 #[.val (.int mM), .val (.int pP), .val (.int cC), .val (.int eE), .val (.int wW), .val (.int mU), .val (.int kK), .val (.int p6), .val (.int mc), .val (.ref b1), .unset, .unset] [(.ref b1), (.int (0 : Int32)), (.ref b23), (.ref b23), (.ref b22), (.ref b22)]) (fun tt0 kk0 => XS.aload X23.here hx rfl (hb hby at_221) rfl rfl kk0) ?_
            refine Go.of (mkF m 224 #[.val (.int mM), .val (.int pP), .val (.int cC), .val (.int eE), .val (.int wW), .val (.int mU), .val (.int kK), .val (.int p6), .val (.int mc), .val (.ref b1), .unset, .unset] [(.int (0 : Int32)), (.ref b1), (.int (0 : Int32)), (.ref b23), (.ref b23), (.ref b22), (.ref b22)]) (fun tt0 kk0 => XS.iconst X23.here hx rfl (hb hby at_223) kk0) ?_
            refine Go.caload X23 hx hZ e23 VF (by decide) (by decide) (g := (mkF m 224 #[.val (.int mM), .val (.int pP), .val (.int cC), .val (.int eE), .val (.int wW), .val (.int mU), .val (.int kK), .val (.int p6), .val (.int mc), .val (.ref b1), .unset, .unset] [(.int (0 : Int32)), (.ref b1), (.int (0 : Int32)), (.ref b23), (.ref b23), (.ref b22), (.ref b22)])) rfl rfl (hb hby at_224) ?_
            show Go pr ev below _ T23 (mkF m 225 #[.val (.int mM), .val (.int pP), .val (.int cC), .val (.int eE), .val (.int wW), .val (.int mU), .val (.int kK), .val (.int p6), .val (.int mc), .val (.ref b1), .unset, .unset] [(.int (yF (0 : Int32))), (.int (0 : Int32)), (.ref b23), (.ref b23), (.ref b22), (.ref b22)])
            show Go pr ev below _ T23 (mkF m 225 #[.val (.int mM), .val (.int pP), .val (.int cC), .val (.int eE), .val (.int wW), .val (.int mU), .val (.int kK), .val (.int p6), .val (.int mc), .val (.ref b1), .unset, .unset] [(.int (yF (0 : Int32))), (.int (0 : Int32)), (.ref b23), (.ref b23), (.ref b22), (.ref b22)])
            refine Go.castore X23 hx hZ e23 V_b23 (by decide) (by decide) (g := (mkF m 225 #[.val (.int mM), .val (.int pP), .val (.int cC), .val (.int eE), .val (.int wW), .val (.int mU), .val (.int kK), .val (.int p6), .val (.int mc), .val (.ref b1), .unset, .unset] [(.int (yF (0 : Int32))), (.int (0 : Int32)), (.ref b23), (.ref b23), (.ref b22), (.ref b22)])) rfl rfl (hb hby at_225) ?_
            rintro T24 h24 X24 e24 W24 V24
            have sw25 := (Fa.safe (EL := own_EL) hZ V_b23 (by decide))
            replace Sf_b22 := Safe.wr W24 sw25 CLJ.1 Sf_b22
            replace CLJ := CLJ.wr W24 sw25
            replace F_b22_value := F_b22_value.other W24 (Or.inl ne_b22_b23)
            replace F_b22_coder := F_b22_coder.other W24 (Or.inl ne_b22_b23)
            replace A22 := A22.wr W24
            replace Q23 := Q23.wr W24
            replace VF := VF.other W24 ne_b1_b23
            replace hzJ := Nat.le_trans hzJ (Nat.le_of_eq W24.size.symm)
            replace OLJ := OLJ.wr W24 gb_b23
            replace V_b23 := V24
            rw [show nar .char (yF (0 : Int32)) = (yF (0 : Int32)) from own_nar8 (hlat _)] at V_b23
            have N24 := Fr.snoc X24 NJ gb_b23
            show Go pr ev below _ T24 (mkF m 226 #[.val (.int mM), .val (.int pP), .val (.int cC), .val (.int eE), .val (.int wW), .val (.int mU), .val (.int kK), .val (.int p6), .val (.int mc), .val (.ref b1), .unset, .unset] [(.ref b23), (.ref b22), (.ref b22)])
            refine Go.of (mkF m 227 #[.val (.int mM), .val (.int pP), .val (.int cC), .val (.int eE), .val (.int wW), .val (.int mU), .val (.int kK), .val (.int p6), .val (.int mc), .val (.ref b1), .unset, .unset] [(.ref b23), (.ref b23), (.ref b22), (.ref b22)]) (fun tt0 kk0 => XS.dup X24.here hx rfl (hb hby at_226) rfl rfl kk0) ?_
            refine Go.of (mkF m 228 #[.val (.int mM), .val (.int pP), .val (.int cC), .val (.int eE), .val (.int wW), .val (.int mU), .val (.int kK), .val (.int p6), .val (.int mc), .val (.ref b1), .unset, .unset] [(.int (1 : Int32)), (.ref b23), (.ref b23), (.ref b22), (.ref b22)]) (fun tt0 kk0 => XS.iconst X24.here hx rfl (hb hby at_227) kk0) ?_
            refine Go.of (mkF m 230 #[.val (.int mM), .val (.int pP), .val (.int cC), .val (.int eE), .val (.int wW), .val (.int mU), .val (.int kK), .val (.int p6), .val (.int mc), .val (.ref b1), .unset, .unset] [(.ref b1), (.int (1 : Int32)), (.ref b23), (.ref b23), (.ref b22), (.ref b22)]) (fun tt0 kk0 => XS.aload X24.here hx rfl (hb hby at_228) rfl rfl kk0) ?_
            refine Go.of (mkF m 231 #[.val (.int mM), .val (.int pP), .val (.int cC), .val (.int eE), .val (.int wW), .val (.int mU), .val (.int kK), .val (.int p6), .val (.int mc), .val (.ref b1), .unset, .unset] [(.int (1 : Int32)), (.ref b1), (.int (1 : Int32)), (.ref b23), (.ref b23), (.ref b22), (.ref b22)]) (fun tt0 kk0 => XS.iconst X24.here hx rfl (hb hby at_230) kk0) ?_
            refine Go.caload X24 hx hZ e24 VF (by decide) (by decide) (g := (mkF m 231 #[.val (.int mM), .val (.int pP), .val (.int cC), .val (.int eE), .val (.int wW), .val (.int mU), .val (.int kK), .val (.int p6), .val (.int mc), .val (.ref b1), .unset, .unset] [(.int (1 : Int32)), (.ref b1), (.int (1 : Int32)), (.ref b23), (.ref b23), (.ref b22), (.ref b22)])) rfl rfl (hb hby at_231) ?_
            show Go pr ev below _ T24 (mkF m 232 #[.val (.int mM), .val (.int pP), .val (.int cC), .val (.int eE), .val (.int wW), .val (.int mU), .val (.int kK), .val (.int p6), .val (.int mc), .val (.ref b1), .unset, .unset] [(.int (yF (1 : Int32))), (.int (1 : Int32)), (.ref b23), (.ref b23), (.ref b22), (.ref b22)])
            show Go pr ev below _ T24 (mkF m 232 #[.val (.int mM), .val (.int pP), .val (.int cC), .val (.int eE), .val (.int wW), .val (.int mU), .val (.int kK), .val (.int p6), .val (.int mc), .val (.ref b1), .unset, .unset] [(.int (yF (1 : Int32))), (.int (1 : Int32)), (.ref b23), (.ref b23), (.ref b22), (.ref b22)])
            refine Go.castore X24 hx hZ e24 V_b23 (by decide) (by decide) (g := (mkF m 232 #[.val (.int mM), .val (.int pP), .val (.int cC), .val (.int eE), .val (.int wW), .val (.int mU), .val (.int kK), .val (.int p6), .val (.int mc), .val (.ref b1), .unset, .unset] [(.int (yF (1 : Int32))), (.int (1 : Int32)), (.ref b23), (.ref b23), (.ref b22), (.ref b22)])) rfl rfl (hb hby at_232) ?_
            rintro T26 h26 X26 e26 W26 V26
            have sw27 := (Fa.safe (EL := own_EL) hZ V_b23 (by decide))
            replace Sf_b22 := Safe.wr W26 sw27 CLJ.1 Sf_b22
            replace CLJ := CLJ.wr W26 sw27
            replace F_b22_value := F_b22_value.other W26 (Or.inl ne_b22_b23)
            replace F_b22_coder := F_b22_coder.other W26 (Or.inl ne_b22_b23)
            replace A22 := A22.wr W26
            replace Q23 := Q23.wr W26
            replace VF := VF.other W26 ne_b1_b23
            replace hzJ := Nat.le_trans hzJ (Nat.le_of_eq W26.size.symm)
            replace OLJ := OLJ.wr W26 gb_b23
            replace V_b23 := V26
            rw [show nar .char (yF (1 : Int32)) = (yF (1 : Int32)) from own_nar8 (hlat _)] at V_b23
            have N26 := Fr.snoc X26 N24 gb_b23
            show Go pr ev below _ T26 (mkF m 233 #[.val (.int mM), .val (.int pP), .val (.int cC), .val (.int eE), .val (.int wW), .val (.int mU), .val (.int kK), .val (.int p6), .val (.int mc), .val (.ref b1), .unset, .unset] [(.ref b23), (.ref b22), (.ref b22)])
            refine Go.of (mkF m 234 #[.val (.int mM), .val (.int pP), .val (.int cC), .val (.int eE), .val (.int wW), .val (.int mU), .val (.int kK), .val (.int p6), .val (.int mc), .val (.ref b1), .unset, .unset] [(.ref b23), (.ref b23), (.ref b22), (.ref b22)]) (fun tt0 kk0 => XS.dup X26.here hx rfl (hb hby at_233) rfl rfl kk0) ?_
            refine Go.of (mkF m 235 #[.val (.int mM), .val (.int pP), .val (.int cC), .val (.int eE), .val (.int wW), .val (.int mU), .val (.int kK), .val (.int p6), .val (.int mc), .val (.ref b1), .unset, .unset] [(.int (2 : Int32)), (.ref b23), (.ref b23), (.ref b22), (.ref b22)]) (fun tt0 kk0 => XS.iconst X26.here hx rfl (hb hby at_234) kk0) ?_
            refine Go.of (mkF m 237 #[.val (.int mM), .val (.int pP), .val (.int cC), .val (.int eE), .val (.int wW), .val (.int mU), .val (.int kK), .val (.int p6), .val (.int mc), .val (.ref b1), .unset, .unset] [(.ref b1), (.int (2 : Int32)), (.ref b23), (.ref b23), (.ref b22), (.ref b22)]) (fun tt0 kk0 => XS.aload X26.here hx rfl (hb hby at_235) rfl rfl kk0) ?_
            refine Go.of (mkF m 238 #[.val (.int mM), .val (.int pP), .val (.int cC), .val (.int eE), .val (.int wW), .val (.int mU), .val (.int kK), .val (.int p6), .val (.int mc), .val (.ref b1), .unset, .unset] [(.int (2 : Int32)), (.ref b1), (.int (2 : Int32)), (.ref b23), (.ref b23), (.ref b22), (.ref b22)]) (fun tt0 kk0 => XS.iconst X26.here hx rfl (hb hby at_237) kk0) ?_
            refine Go.caload X26 hx hZ e26 VF (by decide) (by decide) (g := (mkF m 238 #[.val (.int mM), .val (.int pP), .val (.int cC), .val (.int eE), .val (.int wW), .val (.int mU), .val (.int kK), .val (.int p6), .val (.int mc), .val (.ref b1), .unset, .unset] [(.int (2 : Int32)), (.ref b1), (.int (2 : Int32)), (.ref b23), (.ref b23), (.ref b22), (.ref b22)])) rfl rfl (hb hby at_238) ?_
            show Go pr ev below _ T26 (mkF m 239 #[.val (.int mM), .val (.int pP), .val (.int cC), .val (.int eE), .val (.int wW), .val (.int mU), .val (.int kK), .val (.int p6), .val (.int mc), .val (.ref b1), .unset, .unset] [(.int (yF (2 : Int32))), (.int (2 : Int32)), (.ref b23), (.ref b23), (.ref b22), (.ref b22)])
            show Go pr ev below _ T26 (mkF m 239 #[.val (.int mM), .val (.int pP), .val (.int cC), .val (.int eE), .val (.int wW), .val (.int mU), .val (.int kK), .val (.int p6), .val (.int mc), .val (.ref b1), .unset, .unset] [(.int (yF (2 : Int32))), (.int (2 : Int32)), (.ref b23), (.ref b23), (.ref b22), (.ref b22)])
            refine Go.castore X26 hx hZ e26 V_b23 (by decide) (by decide) (g := (mkF m 239 #[.val (.int mM), .val (.int pP), .val (.int cC), .val (.int eE), .val (.int wW), .val (.int mU), .val (.int kK), .val (.int p6), .val (.int mc), .val (.ref b1), .unset, .unset] [(.int (yF (2 : Int32))), (.int (2 : Int32)), (.ref b23), (.ref b23), (.ref b22), (.ref b22)])) rfl rfl (hb hby at_239) ?_
            rintro T28 h28 X28 e28 W28 V28
            have sw29 := (Fa.safe (EL := own_EL) hZ V_b23 (by decide))
            replace Sf_b22 := Safe.wr W28 sw29 CLJ.1 Sf_b22
            replace CLJ := CLJ.wr W28 sw29
            replace F_b22_value := F_b22_value.other W28 (Or.inl ne_b22_b23)
            replace F_b22_coder := F_b22_coder.other W28 (Or.inl ne_b22_b23)
            replace A22 := A22.wr W28
            replace Q23 := Q23.wr W28
            replace VF := VF.other W28 ne_b1_b23
            replace hzJ := Nat.le_trans hzJ (Nat.le_of_eq W28.size.symm)
            replace OLJ := OLJ.wr W28 gb_b23
            replace V_b23 := V28
            rw [show nar .char (yF (2 : Int32)) = (yF (2 : Int32)) from own_nar8 (hlat _)] at V_b23
            have N28 := Fr.snoc X28 N26 gb_b23
            show Go pr ev below _ T28 (mkF m 240 #[.val (.int mM), .val (.int pP), .val (.int cC), .val (.int eE), .val (.int wW), .val (.int mU), .val (.int kK), .val (.int p6), .val (.int mc), .val (.ref b1), .unset, .unset] [(.ref b23), (.ref b22), (.ref b22)])
            refine Go.of (mkF m 241 #[.val (.int mM), .val (.int pP), .val (.int cC), .val (.int eE), .val (.int wW), .val (.int mU), .val (.int kK), .val (.int p6), .val (.int mc), .val (.ref b1), .unset, .unset] [(.ref b23), (.ref b23), (.ref b22), (.ref b22)]) (fun tt0 kk0 => XS.dup X28.here hx rfl (hb hby at_240) rfl rfl kk0) ?_
            refine Go.of (mkF m 242 #[.val (.int mM), .val (.int pP), .val (.int cC), .val (.int eE), .val (.int wW), .val (.int mU), .val (.int kK), .val (.int p6), .val (.int mc), .val (.ref b1), .unset, .unset] [(.int (3 : Int32)), (.ref b23), (.ref b23), (.ref b22), (.ref b22)]) (fun tt0 kk0 => XS.iconst X28.here hx rfl (hb hby at_241) kk0) ?_
            refine Go.of (mkF m 244 #[.val (.int mM), .val (.int pP), .val (.int cC), .val (.int eE), .val (.int wW), .val (.int mU), .val (.int kK), .val (.int p6), .val (.int mc), .val (.ref b1), .unset, .unset] [(.ref b1), (.int (3 : Int32)), (.ref b23), (.ref b23), (.ref b22), (.ref b22)]) (fun tt0 kk0 => XS.aload X28.here hx rfl (hb hby at_242) rfl rfl kk0) ?_
            refine Go.of (mkF m 245 #[.val (.int mM), .val (.int pP), .val (.int cC), .val (.int eE), .val (.int wW), .val (.int mU), .val (.int kK), .val (.int p6), .val (.int mc), .val (.ref b1), .unset, .unset] [(.int (3 : Int32)), (.ref b1), (.int (3 : Int32)), (.ref b23), (.ref b23), (.ref b22), (.ref b22)]) (fun tt0 kk0 => XS.iconst X28.here hx rfl (hb hby at_244) kk0) ?_
            refine Go.caload X28 hx hZ e28 VF (by decide) (by decide) (g := (mkF m 245 #[.val (.int mM), .val (.int pP), .val (.int cC), .val (.int eE), .val (.int wW), .val (.int mU), .val (.int kK), .val (.int p6), .val (.int mc), .val (.ref b1), .unset, .unset] [(.int (3 : Int32)), (.ref b1), (.int (3 : Int32)), (.ref b23), (.ref b23), (.ref b22), (.ref b22)])) rfl rfl (hb hby at_245) ?_
            show Go pr ev below _ T28 (mkF m 246 #[.val (.int mM), .val (.int pP), .val (.int cC), .val (.int eE), .val (.int wW), .val (.int mU), .val (.int kK), .val (.int p6), .val (.int mc), .val (.ref b1), .unset, .unset] [(.int (yF (3 : Int32))), (.int (3 : Int32)), (.ref b23), (.ref b23), (.ref b22), (.ref b22)])
            show Go pr ev below _ T28 (mkF m 246 #[.val (.int mM), .val (.int pP), .val (.int cC), .val (.int eE), .val (.int wW), .val (.int mU), .val (.int kK), .val (.int p6), .val (.int mc), .val (.ref b1), .unset, .unset] [(.int (yF (3 : Int32))), (.int (3 : Int32)), (.ref b23), (.ref b23), (.ref b22), (.ref b22)])
            refine Go.castore X28 hx hZ e28 V_b23 (by decide) (by decide) (g := (mkF m 246 #[.val (.int mM), .val (.int pP), .val (.int cC), .val (.int eE), .val (.int wW), .val (.int mU), .val (.int kK), .val (.int p6), .val (.int mc), .val (.ref b1), .unset, .unset] [(.int (yF (3 : Int32))), (.int (3 : Int32)), (.ref b23), (.ref b23), (.ref b22), (.ref b22)])) rfl rfl (hb hby at_246) ?_
            rintro T30 h30 X30 e30 W30 V30
            have sw31 := (Fa.safe (EL := own_EL) hZ V_b23 (by decide))
            replace Sf_b22 := Safe.wr W30 sw31 CLJ.1 Sf_b22
            replace CLJ := CLJ.wr W30 sw31
            replace F_b22_value := F_b22_value.other W30 (Or.inl ne_b22_b23)
            replace F_b22_coder := F_b22_coder.other W30 (Or.inl ne_b22_b23)
            replace A22 := A22.wr W30
            replace Q23 := Q23.wr W30
            replace VF := VF.other W30 ne_b1_b23
            replace hzJ := Nat.le_trans hzJ (Nat.le_of_eq W30.size.symm)
            replace OLJ := OLJ.wr W30 gb_b23
            replace V_b23 := V30
            rw [show nar .char (yF (3 : Int32)) = (yF (3 : Int32)) from own_nar8 (hlat _)] at V_b23
            have N30 := Fr.snoc X30 N28 gb_b23
            show Go pr ev below _ T30 (mkF m 247 #[.val (.int mM), .val (.int pP), .val (.int cC), .val (.int eE), .val (.int wW), .val (.int mU), .val (.int kK), .val (.int p6), .val (.int mc), .val (.ref b1), .unset, .unset] [(.ref b23), (.ref b22), (.ref b22)])
            refine Go.of (mkF m 248 #[.val (.int mM), .val (.int pP), .val (.int cC), .val (.int eE), .val (.int wW), .val (.int mU), .val (.int kK), .val (.int p6), .val (.int mc), .val (.ref b1), .unset, .unset] [(.ref b23), (.ref b23), (.ref b22), (.ref b22)]) (fun tt0 kk0 => XS.dup X30.here hx rfl (hb hby at_247) rfl rfl kk0) ?_
            refine Go.of (mkF m 249 #[.val (.int mM), .val (.int pP), .val (.int cC), .val (.int eE), .val (.int wW), .val (.int mU), .val (.int kK), .val (.int p6), .val (.int mc), .val (.ref b1), .unset, .unset] [(.int (4 : Int32)), (.ref b23), (.ref b23), (.ref b22), (.ref b22)]) (fun tt0 kk0 => XS.iconst X30.here hx rfl (hb hby at_248) kk0) ?_
            refine Go.of (mkF m 251 #[.val (.int mM), .val (.int pP), .val (.int cC), .val (.int eE), .val (.int wW), .val (.int mU), .val (.int kK), .val (.int p6), .val (.int mc), .val (.ref b1), .unset, .unset] [(.ref b1), (.int (4 : Int32)), (.ref b23), (.ref b23), (.ref b22), (.ref b22)]) (fun tt0 kk0 => XS.aload X30.here hx rfl (hb hby at_249) rfl rfl kk0) ?_
            refine Go.of (mkF m 252 #[.val (.int mM), .val (.int pP), .val (.int cC), .val (.int eE), .val (.int wW), .val (.int mU), .val (.int kK), .val (.int p6), .val (.int mc), .val (.ref b1), .unset, .unset] [(.int (4 : Int32)), (.ref b1), (.int (4 : Int32)), (.ref b23), (.ref b23), (.ref b22), (.ref b22)]) (fun tt0 kk0 => XS.iconst X30.here hx rfl (hb hby at_251) kk0) ?_
            refine Go.caload X30 hx hZ e30 VF (by decide) (by decide) (g := (mkF m 252 #[.val (.int mM), .val (.int pP), .val (.int cC), .val (.int eE), .val (.int wW), .val (.int mU), .val (.int kK), .val (.int p6), .val (.int mc), .val (.ref b1), .unset, .unset] [(.int (4 : Int32)), (.ref b1), (.int (4 : Int32)), (.ref b23), (.ref b23), (.ref b22), (.ref b22)])) rfl rfl (hb hby at_252) ?_
            show Go pr ev below _ T30 (mkF m 253 #[.val (.int mM), .val (.int pP), .val (.int cC), .val (.int eE), .val (.int wW), .val (.int mU), .val (.int kK), .val (.int p6), .val (.int mc), .val (.ref b1), .unset, .unset] [(.int (yF (4 : Int32))), (.int (4 : Int32)), (.ref b23), (.ref b23), (.ref b22), (.ref b22)])
            show Go pr ev below _ T30 (mkF m 253 #[.val (.int mM), .val (.int pP), .val (.int cC), .val (.int eE), .val (.int wW), .val (.int mU), .val (.int kK), .val (.int p6), .val (.int mc), .val (.ref b1), .unset, .unset] [(.int (yF (4 : Int32))), (.int (4 : Int32)), (.ref b23), (.ref b23), (.ref b22), (.ref b22)])
            refine Go.castore X30 hx hZ e30 V_b23 (by decide) (by decide) (g := (mkF m 253 #[.val (.int mM), .val (.int pP), .val (.int cC), .val (.int eE), .val (.int wW), .val (.int mU), .val (.int kK), .val (.int p6), .val (.int mc), .val (.ref b1), .unset, .unset] [(.int (yF (4 : Int32))), (.int (4 : Int32)), (.ref b23), (.ref b23), (.ref b22), (.ref b22)])) rfl rfl (hb hby at_253) ?_
            rintro T32 h32 X32 e32 W32 V32
            have sw33 := (Fa.safe (EL := own_EL) hZ V_b23 (by decide))
            replace Sf_b22 := Safe.wr W32 sw33 CLJ.1 Sf_b22
            replace CLJ := CLJ.wr W32 sw33
            replace F_b22_value := F_b22_value.other W32 (Or.inl ne_b22_b23)
            replace F_b22_coder := F_b22_coder.other W32 (Or.inl ne_b22_b23)
            replace A22 := A22.wr W32
            replace Q23 := Q23.wr W32
            replace VF := VF.other W32 ne_b1_b23
            replace hzJ := Nat.le_trans hzJ (Nat.le_of_eq W32.size.symm)
            replace OLJ := OLJ.wr W32 gb_b23
            replace V_b23 := V32
            rw [show nar .char (yF (4 : Int32)) = (yF (4 : Int32)) from own_nar8 (hlat _)] at V_b23
            have N32 := Fr.snoc X32 N30 gb_b23
            show Go pr ev below _ T32 (mkF m 254 #[.val (.int mM), .val (.int pP), .val (.int cC), .val (.int eE), .val (.int wW), .val (.int mU), .val (.int kK), .val (.int p6), .val (.int mc), .val (.ref b1), .unset, .unset] [(.ref b23), (.ref b22), (.ref b22)])
            obtain ⟨kc34, VC34⟩ : ∃ k, Arv Z h32 b23 k .char (5 : Int32) (List.map Value.int [(yF (0 : Int32)), (yF (1 : Int32)), (yF (2 : Int32)), (yF (3 : Int32)), (yF (4 : Int32))]) (.int (0 : Int32)) := Fa.toArv V_b23 (own_ch5 (yF (0 : Int32)) (yF (1 : Int32)) (yF (2 : Int32)) (yF (3 : Int32)) (yF (4 : Int32)))
            have hws34 : ∀ d ∈ StrChars.Road.words, d.before a0 Z = true := fun d hd => hw d ((by decide +kernel : ∀ d ∈ StrChars.Road.words, d ∈ tables_1) d hd)
            refine Go.initB X32 hx hZ (y := (⟨"java/lang/String", "<init>", "([C)V"⟩ : MethodName)) (a := b22) (argsL := [(.ref b23)]) (rest := [(.ref b22)]) hown rfl (tw40 hw) (tw41 hw) (tw42 hw) (by decide) e32 (StrChars.Road.backV (W := 1) hZ hws34 (kI := 4) (tw8 hw) (cs := [(yF (0 : Int32)), (yF (1 : Int32)), (yF (2 : Int32)), (yF (3 : Int32)), (yF (4 : Int32))]) (bs := [((yF (0 : Int32))).toInt8.toInt32, ((yF (1 : Int32))).toInt8.toInt32, ((yF (2 : Int32))).toInt8.toInt32, ((yF (3 : Int32))).toInt8.toInt32, ((yF (4 : Int32))).toInt8.toInt32]) (n := 5) gb_b22 hzJ A22 F_b22_value F_b22_coder VC34 (O2.ext OLJ.2) P3 rfl rfl (by decide) (by decide) ((List.forall_mem_cons.mpr ⟨hlat _, List.forall_mem_cons.mpr ⟨hlat _, List.forall_mem_cons.mpr ⟨hlat _, List.forall_mem_cons.mpr ⟨hlat _, List.forall_mem_cons.mpr ⟨hlat _, fun _ z => absurd z List.not_mem_nil⟩⟩⟩⟩⟩)) rfl (by decide) (by decide)) (g := (mkF m 254 #[.val (.int mM), .val (.int pP), .val (.int cC), .val (.int eE), .val (.int wW), .val (.int mU), .val (.int kK), .val (.int p6), .val (.int mc), .val (.ref b1), .unset, .unset] [(.ref b23), (.ref b22), (.ref b22)])) rfl (by rw [hml]; rfl) (lenOf pd23 rfl) rfl (by show 2 * 0 + _ ≤ _; exact Nat.le_of_eq rfl) (hb hby at_254) (by decide) (by decide) ?_
            rintro T34 L34 v34 X34 ⟨rfl, NL34, K34, Es34, Fc34, t34, kb34, gt34, sz34, ne34, Fv34, Vb34⟩
            have N34 := Fr.app N32 NL34
            have ne_b23_t34 : b23 ≠ t34 := Nat.ne_of_lt (Nat.lt_of_lt_of_le Q23.lt sz34)
            have ne_b1_t34 : b1 ≠ t34 := Nat.ne_of_lt (Nat.lt_of_lt_of_le VF.lt sz34)
            have ne_b22_t34 : b22 ≠ t34 := fun q => ne34 q.symm
            have sw35 := sfS Sf_b22 (sf0)
            replace Sf_b22 := Safe.keep K34 sw35 CLJ.1 Sf_b22
            replace CLJ := CLJ.keep K34 sw35
            replace A22 := A22.keep K34
            replace Q23 := Q23.keep K34
            replace VF := VF.keep K34 (ninS ne_b1_b22 nin0)
            replace V_b23 := V_b23.keep K34 (ninS (Ne.symm ne_b22_b23) nin0)
            replace hzJ := Nat.le_trans hzJ K34.1
            replace OLJ := OLJ.keep K34 (allS gb_b22 (all0))
            show Go pr ev below _ T34 (mkF m 257 #[.val (.int mM), .val (.int pP), .val (.int cC), .val (.int eE), .val (.int wW), .val (.int mU), .val (.int kK), .val (.int p6), .val (.int mc), .val (.ref b1), .unset, .unset] [(.ref b22)])
            have VB : Fa Z T34.heap t34 .byte 5 (fun i => .int (own_lit [((yF (0 : Int32))).toInt8.toInt32, ((yF (1 : Int32))).toInt8.toInt32, ((yF (2 : Int32))).toInt8.toInt32, ((yF (3 : Int32))).toInt8.toInt32, ((yF (4 : Int32))).toInt8.toInt32] i)) := (Fa.ofArv Vb34).congr fun j q0 q1 => own_lit_ok [((yF (0 : Int32))).toInt8.toInt32, ((yF (1 : Int32))).toInt8.toInt32, ((yF (2 : Int32))).toInt8.toInt32, ((yF (3 : Int32))).toInt8.toInt32, ((yF (4 : Int32))).toInt8.toInt32] j
            refine Go.of (mkF m 259 #[.val (.int mM), .val (.int pP), .val (.int cC), .val (.int eE), .val (.int wW), .val (.int mU), .val (.int kK), .val (.int p6), .val (.int mc), .val (.ref b1), .val (.ref b22), .unset] []) (fun tt0 kk0 => XS.astore X34.here hx rfl (hb hby at_257) rfl rfl (l' := #[.val (.int mM), .val (.int pP), .val (.int cC), .val (.int eE), .val (.int wW), .val (.int mU), .val (.int kK), .val (.int p6), .val (.int mc), .val (.ref b1), .val (.ref b22), .unset]) rfl kk0) ?_
            refine Go.of (mkF m 388 #[.val (.int mM), .val (.int pP), .val (.int cC), .val (.int eE), .val (.int wW), .val (.int mU), .val (.int kK), .val (.int p6), .val (.int mc), .val (.ref b1), .val (.ref b22), .unset] []) (fun tt0 kk0 => XS.goto X34.here hx rfl (pc0 := 259) (pc' := 388) rfl (hb hby at_259) (by decide) (by decide) kk0) ?_
            refine Go.of (mkF m 389 #[.val (.int mM), .val (.int pP), .val (.int cC), .val (.int eE), .val (.int wW), .val (.int mU), .val (.int kK), .val (.int p6), .val (.int mc), .val (.ref b1), .val (.ref b22), .unset] [.null]) (fun tt0 kk0 => XS.aconstNull X34.here hx rfl (hb hby at_388) kk0) ?_
            refine Go.of (mkF m 391 #[.val (.int mM), .val (.int pP), .val (.int cC), .val (.int eE), .val (.int wW), .val (.int mU), .val (.int kK), .val (.int p6), .val (.int mc), .val (.ref b1), .val (.ref b22), .val .null] []) (fun tt0 kk0 => XS.astore X34.here hx rfl (hb hby at_389) rfl rfl (l' := #[.val (.int mM), .val (.int pP), .val (.int cC), .val (.int eE), .val (.int wW), .val (.int mU), .val (.int kK), .val (.int p6), .val (.int mc), .val (.ref b1), .val (.ref b22), .val .null]) rfl kk0) ?_
            refine Go.of (mkF m 393 #[.val (.int mM), .val (.int pP), .val (.int cC), .val (.int eE), .val (.int wW), .val (.int mU), .val (.int kK), .val (.int p6), .val (.int mc), .val (.ref b1), .val (.ref b22), .val .null] [(.int kK)]) (fun tt0 kk0 => XS.iload X34.here hx rfl (hb hby at_391) rfl kk0) ?_
            refine Go.of (mkF m 394 #[.val (.int mM), .val (.int pP), .val (.int cC), .val (.int eE), .val (.int wW), .val (.int mU), .val (.int kK), .val (.int p6), .val (.int mc), .val (.ref b1), .val (.ref b22), .val .null] [(.int (2 : Int32)), (.int kK)]) (fun tt0 kk0 => XS.iconst X34.here hx rfl (hb hby at_393) kk0) ?_
            refine Go.of (mkF m 430 #[.val (.int mM), .val (.int pP), .val (.int cC), .val (.int eE), .val (.int wW), .val (.int mU), .val (.int kK), .val (.int p6), .val (.int mc), .val (.ref b1), .val (.ref b22), .val .null] []) (fun tt0 kk0 => XS.icmpYes X34.here hx rfl (pc0 := 394) (pc' := 430) rfl (hb hby at_394) rfl (tlt hc145).2.2.1 (by decide) (by decide) kk0) ?_
            refine Go.of (mkF m 432 #[.val (.int mM), .val (.int pP), .val (.int cC), .val (.int eE), .val (.int wW), .val (.int mU), .val (.int kK), .val (.int p6), .val (.int mc), .val (.ref b1), .val (.ref b22), .val .null] [(.ref b22)]) (fun tt0 kk0 => XS.aload X34.here hx rfl (hb hby at_430) rfl rfl kk0) ?_
            refine Go.callS X34 hx hZ (y := (⟨"com/example/sealed_ledger/sealedledger/http/Access$Role", "named", "(Ljava/lang/String;)Lcom/example/sealed_ledger/sealedledger/http/Access$Role;"⟩ : MethodName)) (argsL := [(.ref b22)]) (rest := []) hown (tw63 hw) (tw64 hw) (tw61 hw) (tw65 hw) (by decide) rfl (rmNaD l Z a0 hw [] T34.heap n0 hzJ G1 (O2.ext OLJ.2) P3 va rd wr yv (Sv.ext OLJ.2) (Vv.ext OLJ.2) (Ev.ext OLJ.2) hy0 hy1 t1 d1 t2 d2 yR yW (Er.ext OLJ.2) (Fr1.ext OLJ.2) (E_t1.ext OLJ.2) (C_t1.ext OLJ.2) (V_t1.ext OLJ.2) (A_t1.ext OLJ.2) (Ew.ext OLJ.2) (Fw1.ext OLJ.2) (E_t2.ext OLJ.2) (C_t2.ext OLJ.2) (V_t2.ext OLJ.2) (A_t2.ext OLJ.2) b22 t34 5 (own_lit [((yF (0 : Int32))).toInt8.toInt32, ((yF (1 : Int32))).toInt8.toInt32, ((yF (2 : Int32))).toInt8.toInt32, ((yF (3 : Int32))).toInt8.toInt32, ((yF (4 : Int32))).toInt8.toInt32]) A22 Fc34 Fv34 VB (Nat.ne_of_lt (Nat.lt_of_lt_of_le (Nat.lt_of_lt_of_eq E_t1.lt OLJ.1) gb_b22)) (Nat.ne_of_lt (Nat.lt_of_lt_of_le (Nat.lt_of_lt_of_eq E_t2.lt OLJ.1) gb_b22)) (by decide)) (g := (mkF m 432 #[.val (.int mM), .val (.int pP), .val (.int cC), .val (.int eE), .val (.int wW), .val (.int mU), .val (.int kK), .val (.int p6), .val (.int mc), .val (.ref b1), .val (.ref b22), .val .null] [(.ref b22)])) rfl (by rw [hml]; rfl) (lenOf pd24 rfl) rfl (W := 0) (by show 2 * 0 + _ ≤ _; exact Nat.le_of_eq rfl) (hb hby at_432) (by decide) (by decide) (by decide) (by decide) ?_
            rintro T36 L36 v36 X36 ⟨rfl, NL36, K36⟩
            have N36 := Fr.app N34 NL36
            replace Sf_b22 := Safe.keep K36 sf0 CLJ.1 Sf_b22
            replace CLJ := CLJ.keep K36 sf0
            replace Fc34 := Fc34.keep K36 nin0
            replace Fv34 := Fv34.keep K36 nin0
            replace A22 := A22.keep K36
            replace Q23 := Q23.keep K36
            replace VF := VF.keep K36 nin0
            replace VB := VB.keep K36 nin0
            replace hzJ := Nat.le_trans hzJ K36.1
            replace OLJ := OLJ.keep K36 (all0)
            show Go pr ev below _ T36 (mkF m 435 #[.val (.int mM), .val (.int pP), .val (.int cC), .val (.int eE), .val (.int wW), .val (.int mU), .val (.int kK), .val (.int p6), .val (.int mc), .val (.ref b1), .val (.ref b22), .val .null] [.null])
            refine Go.of (mkF m 437 #[.val (.int mM), .val (.int pP), .val (.int cC), .val (.int eE), .val (.int wW), .val (.int mU), .val (.int kK), .val (.int p6), .val (.int mc), .val (.ref b1), .val (.ref b22), .val .null] [.null, .null]) (fun tt0 kk0 => XS.aload X36.here hx rfl (hb hby at_435) rfl rfl kk0) ?_
            refine Go.of (mkF m 440 #[.val (.int mM), .val (.int pP), .val (.int cC), .val (.int eE), .val (.int wW), .val (.int mU), .val (.int kK), .val (.int p6), .val (.int mc), .val (.ref b1), .val (.ref b22), .val .null] []) (fun tt0 kk0 => Jvm.RoadKit.acmp (g := (mkF m 437 #[.val (.int mM), .val (.int pP), .val (.int cC), .val (.int eE), .val (.int wW), .val (.int mU), .val (.int kK), .val (.int p6), .val (.int mc), .val (.ref b1), .val (.ref b22), .val .null] [.null, .null])) X36 hx rfl (x := .null) (y := .null) rfl rfl (pc0 := 437) (pc' := 440) (same := true) rfl (hb hby at_437) rfl (decide_eq_true rfl) (by decide) (by decide) kk0) ?_
            refine Go.of (mkF m 441 #[.val (.int mM), .val (.int pP), .val (.int cC), .val (.int eE), .val (.int wW), .val (.int mU), .val (.int kK), .val (.int p6), .val (.int mc), .val (.ref b1), .val (.ref b22), .val .null] [(.int (1 : Int32))]) (fun tt0 kk0 => XS.iconst X36.here hx rfl (hb hby at_440) kk0) ?_
            refine Go.of (mkF m 445 #[.val (.int mM), .val (.int pP), .val (.int cC), .val (.int eE), .val (.int wW), .val (.int mU), .val (.int kK), .val (.int p6), .val (.int mc), .val (.ref b1), .val (.ref b22), .val .null] [(.int (1 : Int32))]) (fun tt0 kk0 => XS.goto X36.here hx rfl (pc0 := 441) (pc' := 445) rfl (hb hby at_441) (by decide) (by decide) kk0) ?_
            exact Go.retWC X36 hx hZ hEL rfl CLJ (t := .boolean) hret hlk rfl (Or.inl ⟨rfl, by simp, _, rfl⟩) (hb hby at_445) (by decide) (by decide) ⟨rfl, N36⟩
          ·
            refine Go.of (mkF m 262 #[.val (.int mM), .val (.int pP), .val (.int cC), .val (.int eE), .val (.int wW), .val (.int mU), .val (.int kK), .val (.int p6), .val (.int mc), .val (.ref b1), .unset, .unset] []) (fun tt0 kk0 => XS.icmpYes XJ.here hx rfl (pc0 := 209) (pc' := 262) rfl (hb hby at_209) rfl (feq hc209).2 (by decide) (by decide) kk0) ?_
            refine Go.of (mkF m 264 #[.val (.int mM), .val (.int pP), .val (.int cC), .val (.int eE), .val (.int wW), .val (.int mU), .val (.int kK), .val (.int p6), .val (.int mc), .val (.ref b1), .unset, .unset] [(.int kK)]) (fun tt0 kk0 => XS.iload XJ.here hx rfl (hb hby at_262) rfl kk0) ?_
            refine Go.of (mkF m 265 #[.val (.int mM), .val (.int pP), .val (.int cC), .val (.int eE), .val (.int wW), .val (.int mU), .val (.int kK), .val (.int p6), .val (.int mc), .val (.ref b1), .unset, .unset] [(.int (4 : Int32)), (.int kK)]) (fun tt0 kk0 => XS.iconst XJ.here hx rfl (hb hby at_264) kk0) ?_
            by_cases hc265 : kK = (4 : Int32)
            ·
              refine Go.of (mkF m 268 #[.val (.int mM), .val (.int pP), .val (.int cC), .val (.int eE), .val (.int wW), .val (.int mU), .val (.int kK), .val (.int p6), .val (.int mc), .val (.ref b1), .unset, .unset] []) (fun tt0 kk0 => XS.icmpNo XJ.here hx rfl (hb hby at_265) rfl (teq hc265).2 kk0) ?_
              obtain ⟨T38, h38, X38, e38, E38, A38, D38, -, st38⟩ := newO XJ hx hZ hown (tw39 hw) (tw8 hw) (tw7 hw) eJ (g := (mkF m 268 #[.val (.int mM), .val (.int pP), .val (.int cC), .val (.int eE), .val (.int wW), .val (.int mU), .val (.int kK), .val (.int p6), .val (.int mc), .val (.ref b1), .unset, .unset] [])) rfl (hb hby at_268) (by decide) (by decide)
              obtain ⟨b38, g38⟩ : ∃ z, z = hJ.size := ⟨_, rfl⟩
              rw [← g38] at A38 D38 st38
              have ne_b1_b38 : b1 ≠ b38 := Nat.ne_of_lt (Nat.lt_of_lt_of_le VF.lt (Nat.le_of_eq g38.symm))
              have gb_b38 : n0 ≤ b38 := Nat.le_trans hzJ (Nat.le_of_eq g38.symm)
              have Sf_b38 := Cld.new CLJ (Nat.le_of_eq g38.symm)
              replace Sf_b38 := Safe.ext E38 CLJ.1 Sf_b38
              replace CLJ := CLJ.ext E38
              replace VF := VF.ext E38
              replace hzJ := Nat.le_trans hzJ E38.1
              replace OLJ := OLJ.ext E38
              have F_b38_value : Fld Z h38 b38 "java/lang/String" "value" "[B" .null := D38 (Or.inr (tw10 hw)) (ty := (.array .byte)) (by decide)
              have F_b38_coder : Fld Z h38 b38 "java/lang/String" "coder" "B" (.int (0 : Int32)) := D38 (Or.inr (tw11 hw)) (ty := .byte) (by decide)
              refine Go.of (mkF m 271 #[.val (.int mM), .val (.int pP), .val (.int cC), .val (.int eE), .val (.int wW), .val (.int mU), .val (.int kK), .val (.int p6), .val (.int mc), .val (.ref b1), .unset, .unset] [(.ref b38)]) (st38) ?_
              refine Go.of (mkF m 272 #[.val (.int mM), .val (.int pP), .val (.int cC), .val (.int eE), .val (.int wW), .val (.int mU), .val (.int kK), .val (.int p6), .val (.int mc), .val (.ref b1), .unset, .unset] [(.ref b38), (.ref b38)]) (fun tt0 kk0 => XS.dup X38.here hx rfl (hb hby at_271) rfl rfl kk0) ?_
              refine Go.of (mkF m 274 #[.val (.int mM), .val (.int pP), .val (.int cC), .val (.int eE), .val (.int wW), .val (.int mU), .val (.int kK), .val (.int p6), .val (.int mc), .val (.ref b1), .unset, .unset] [(.int (7 : Int32)), (.ref b38), (.ref b38)]) (fun tt0 kk0 => XS.bipush X38.here hx rfl (hb hby at_272) kk0) ?_
              obtain ⟨T39, h39, k39, X39, e39, E39, A39, Q39, st39⟩ := newPE X38 hx hZ (aty := .char) (tw1 hw) e38 (g := (mkF m 274 #[.val (.int mM), .val (.int pP), .val (.int cC), .val (.int eE), .val (.int wW), .val (.int mU), .val (.int kK), .val (.int p6), .val (.int mc), .val (.ref b1), .unset, .unset] [(.int (7 : Int32)), (.ref b38), (.ref b38)])) rfl (hb hby at_274) rfl (by decide) (cap := 7) (by decide) (by decide) (by decide) (by decide) (ad := "[C") (by decide +kernel)
              obtain ⟨b39, g39⟩ : ∃ z, z = h38.size := ⟨_, rfl⟩
              rw [← g39] at A39 Q39 st39
              have ne_b38_b39 : b38 ≠ b39 := Nat.ne_of_lt (Nat.lt_of_lt_of_le A38.lt (Nat.le_of_eq g39.symm))
              have ne_b1_b39 : b1 ≠ b39 := Nat.ne_of_lt (Nat.lt_of_lt_of_le VF.lt (Nat.le_of_eq g39.symm))
              have gb_b39 : n0 ≤ b39 := Nat.le_trans hzJ (Nat.le_of_eq g39.symm)
              replace Sf_b38 := Safe.ext E39 CLJ.1 Sf_b38
              replace CLJ := CLJ.ext E39
              replace F_b38_value := F_b38_value.ext E39
              replace F_b38_coder := F_b38_coder.ext E39
              replace A38 := A38.ext E39
              replace VF := VF.ext E39
              replace hzJ := Nat.le_trans hzJ E39.1
              replace OLJ := OLJ.ext E39
              have V_b39 : Fa Z h39 b39 .char (7 : Int32) (fun i => .int ((fun _ => (0 : Int32)) i)) := Fa.new A39 (by decide)
              refine Go.of (mkF m 276 #[.val (.int mM), .val (.int pP), .val (.int cC), .val (.int eE), .val (.int wW), .val (.int mU), .val (.int kK), .val (.int p6), .val (.int mc), .val (.ref b1), .unset, .unset] [(.ref b39), (.ref b38), (.ref b38)]) (st39) ?_
              refine Go.of (mkF m 277 #[.val (.int mM), .val (.int pP), .val (.int cC), .val (.int eE), .val (.int wW), .val (.int mU), .val (.int kK), .val (.int p6), .val (.int mc), .val (.ref b1), .unset, .unset] [(.ref b39), (.ref b39), (.ref b38), (.ref b38)]) (fun tt0 kk0 => XS.dup X39.here hx rfl (hb hby at_276) rfl rfl kk0) ?_
              refine Go.of (mkF m 278 #[.val (.int mM), .val (.int pP), .val (.int cC), .val (.int eE), .val (.int wW), .val (.int mU), .val (.int kK), .val (.int p6), .val (.int mc), .val (.ref b1), .unset, .unset] [(.int (0 : Int32)), (.ref b39), (.ref b39), (.ref b38), (.ref b38)]) (fun tt0 kk0 => XS.iconst X39.here hx rfl (hb hby at_277) kk0) ?_
              refine Go.of (mkF m 280 #[.val (.int mM), .val (.int pP), .val (.int cC), .val (.int eE), .val (.int wW), .val (.int mU), .val (.int kK), .val (.int p6), .val (.int mc), .val (.ref b1), .unset, .unset] [(.ref b1), (.int (0 : Int32)), (.ref b39), (.ref b39), (.ref b38), (.ref b38)]) (fun tt0 kk0 => XS.aload X39.here hx rfl (hb hby at_278) rfl rfl kk0) ?_
              refine Go.of (mkF m 281 #[.val (.int mM), .val (.int pP), .val (.int cC), .val (.int eE), .val (.int wW), .val (.int mU), .val (.int kK), .val (.int p6), .val (.int mc), .val (.ref b1), .unset, .unset] [(.int (0 : Int32)), (.ref b1), (.int (0 : Int32)), (.ref b39), (.ref b39), (.ref b38), (.ref b38)]) (fun tt0 kk0 => XS.iconst X39.here hx rfl (hb hby at_280) kk0) ?_
              refine Go.caload X39 hx hZ e39 VF (by decide) (by decide) (g := (mkF m 281 #[.val (.int mM), .val (.int pP), .val (.int cC), .val (.int eE), .val (.int wW), .val (.int mU), .val (.int kK), .val (.int p6), .val (.int mc), .val (.ref b1), .unset, .unset] [(.int (0 : Int32)), (.ref b1), (.int (0 : Int32)), (.ref b39), (.ref b39), (.ref b38), (.ref b38)])) rfl rfl (hb hby at_281) ?_
              show Go pr ev below _ T39 (mkF m 282 #[.val (.int mM), .val (.int pP), .val (.int cC), .val (.int eE), .val (.int wW), .val (.int mU), .val (.int kK), .val (.int p6), .val (.int mc), .val (.ref b1), .unset, .unset] [(.int (yF (0 : Int32))), (.int (0 : Int32)), (.ref b39), (.ref b39), (.ref b38), (.ref b38)])
              show Go pr ev below _ T39 (mkF m 282 #[.val (.int mM), .val (.int pP), .val (.int cC), .val (.int eE), .val (.int wW), .val (.int mU), .val (.int kK), .val (.int p6), .val (.int mc), .val (.ref b1), .unset, .unset] [(.int (yF (0 : Int32))), (.int (0 : Int32)), (.ref b39), (.ref b39), (.ref b38), (.ref b38)])
              refine Go.castore X39 hx hZ e39 V_b39 (by decide) (by decide) (g := (mkF m 282 #[.val (.int mM), .val (.int pP), .val (.int cC), .val (.int eE), .val (.int wW), .val (.int mU), .val (.int kK), .val (.int p6), .val (.int mc), .val (.ref b1), .unset, .unset] [(.int (yF (0 : Int32))), (.int (0 : Int32)), (.ref b39), (.ref b39), (.ref b38), (.ref b38)])) rfl rfl (hb hby at_282) ?_
              rintro T40 h40 X40 e40 W40 V40
              have sw41 := (Fa.safe (EL := own_EL) hZ V_b39 (by decide))
              replace Sf_b38 := Safe.wr W40 sw41 CLJ.1 Sf_b38
              replace CLJ := CLJ.wr W40 sw41
              replace F_b38_value := F_b38_value.other W40 (Or.inl ne_b38_b39)
              replace F_b38_coder := F_b38_coder.other W40 (Or.inl ne_b38_b39)
              replace A38 := A38.wr W40
              replace Q39 := Q39.wr W40
              replace VF := VF.other W40 ne_b1_b39
              replace hzJ := Nat.le_trans hzJ (Nat.le_of_eq W40.size.symm)
              replace OLJ := OLJ.wr W40 gb_b39
              replace V_b39 := V40
              rw [show nar .char (yF (0 : Int32)) = (yF (0 : Int32)) from own_nar8 (hlat _)] at V_b39
              have N40 := Fr.snoc X40 NJ gb_b39
              show Go pr ev below _ T40 (mkF m 283 #[.val (.int mM), .val (.int pP), .val (.int cC), .val (.int eE), .val (.int wW), .val (.int mU), .val (.int kK), .val (.int p6), .val (.int mc), .val (.ref b1), .unset, .unset] [(.ref b39), (.ref b38), (.ref b38)])
              refine Go.of (mkF m 284 #[.val (.int mM), .val (.int pP), .val (.int cC), .val (.int eE), .val (.int wW), .val (.int mU), .val (.int kK), .val (.int p6), .val (.int mc), .val (.ref b1), .unset, .unset] [(.ref b39), (.ref b39), (.ref b38), (.ref b38)]) (fun tt0 kk0 => XS.dup X40.here hx rfl (hb hby at_283) rfl rfl kk0) ?_
              refine Go.of (mkF m 285 #[.val (.int mM), .val (.int pP), .val (.int cC), .val (.int eE), .val (.int wW), .val (.int mU), .val (.int kK), .val (.int p6), .val (.int mc), .val (.ref b1), .unset, .unset] [(.int (1 : Int32)), (.ref b39), (.ref b39), (.ref b38), (.ref b38)]) (fun tt0 kk0 => XS.iconst X40.here hx rfl (hb hby at_284) kk0) ?_
              refine Go.of (mkF m 287 #[.val (.int mM), .val (.int pP), .val (.int cC), .val (.int eE), .val (.int wW), .val (.int mU), .val (.int kK), .val (.int p6), .val (.int mc), .val (.ref b1), .unset, .unset] [(.ref b1), (.int (1 : Int32)), (.ref b39), (.ref b39), (.ref b38), (.ref b38)]) (fun tt0 kk0 => XS.aload X40.here hx rfl (hb hby at_285) rfl rfl kk0) ?_
              refine Go.of (mkF m 288 #[.val (.int mM), .val (.int pP), .val (.int cC), .val (.int eE), .val (.int wW), .val (.int mU), .val (.int kK), .val (.int p6), .val (.int mc), .val (.ref b1), .unset, .unset] [(.int (1 : Int32)), (.ref b1), (.int (1 : Int32)), (.ref b39), (.ref b39), (.ref b38), (.ref b38)]) (fun tt0 kk0 => XS.iconst X40.here hx rfl (hb hby at_287) kk0) ?_
              refine Go.caload X40 hx hZ e40 VF (by decide) (by decide) (g := (mkF m 288 #[.val (.int mM), .val (.int pP), .val (.int cC), .val (.int eE), .val (.int wW), .val (.int mU), .val (.int kK), .val (.int p6), .val (.int mc), .val (.ref b1), .unset, .unset] [(.int (1 : Int32)), (.ref b1), (.int (1 : Int32)), (.ref b39), (.ref b39), (.ref b38), (.ref b38)])) rfl rfl (hb hby at_288) ?_
              show Go pr ev below _ T40 (mkF m 289 #[.val (.int mM), .val (.int pP), .val (.int cC), .val (.int eE), .val (.int wW), .val (.int mU), .val (.int kK), .val (.int p6), .val (.int mc), .val (.ref b1), .unset, .unset] [(.int (yF (1 : Int32))), (.int (1 : Int32)), (.ref b39), (.ref b39), (.ref b38), (.ref b38)])
              show Go pr ev below _ T40 (mkF m 289 #[.val (.int mM), .val (.int pP), .val (.int cC), .val (.int eE), .val (.int wW), .val (.int mU), .val (.int kK), .val (.int p6), .val (.int mc), .val (.ref b1), .unset, .unset] [(.int (yF (1 : Int32))), (.int (1 : Int32)), (.ref b39), (.ref b39), (.ref b38), (.ref b38)])
              refine Go.castore X40 hx hZ e40 V_b39 (by decide) (by decide) (g := (mkF m 289 #[.val (.int mM), .val (.int pP), .val (.int cC), .val (.int eE), .val (.int wW), .val (.int mU), .val (.int kK), .val (.int p6), .val (.int mc), .val (.ref b1), .unset, .unset] [(.int (yF (1 : Int32))), (.int (1 : Int32)), (.ref b39), (.ref b39), (.ref b38), (.ref b38)])) rfl rfl (hb hby at_289) ?_
              rintro T42 h42 X42 e42 W42 V42
              have sw43 := (Fa.safe (EL := own_EL) hZ V_b39 (by decide))
              replace Sf_b38 := Safe.wr W42 sw43 CLJ.1 Sf_b38
              replace CLJ := CLJ.wr W42 sw43
              replace F_b38_value := F_b38_value.other W42 (Or.inl ne_b38_b39)
              replace F_b38_coder := F_b38_coder.other W42 (Or.inl ne_b38_b39)
              replace A38 := A38.wr W42
              replace Q39 := Q39.wr W42
              replace VF := VF.other W42 ne_b1_b39
              replace hzJ := Nat.le_trans hzJ (Nat.le_of_eq W42.size.symm)
              replace OLJ := OLJ.wr W42 gb_b39
              replace V_b39 := V42
              rw [show nar .char (yF (1 : Int32)) = (yF (1 : Int32)) from own_nar8 (hlat _)] at V_b39
              have N42 := Fr.snoc X42 N40 gb_b39
              show Go pr ev below _ T42 (mkF m 290 #[.val (.int mM), .val (.int pP), .val (.int cC), .val (.int eE), .val (.int wW), .val (.int mU), .val (.int kK), .val (.int p6), .val (.int mc), .val (.ref b1), .unset, .unset] [(.ref b39), (.ref b38), (.ref b38)])
              refine Go.of (mkF m 291 #[.val (.int mM), .val (.int pP), .val (.int cC), .val (.int eE), .val (.int wW), .val (.int mU), .val (.int kK), .val (.int p6), .val (.int mc), .val (.ref b1), .unset, .unset] [(.ref b39), (.ref b39), (.ref b38), (.ref b38)]) (fun tt0 kk0 => XS.dup X42.here hx rfl (hb hby at_290) rfl rfl kk0) ?_
              refine Go.of (mkF m 292 #[.val (.int mM), .val (.int pP), .val (.int cC), .val (.int eE), .val (.int wW), .val (.int mU), .val (.int kK), .val (.int p6), .val (.int mc), .val (.ref b1), .unset, .unset] [(.int (2 : Int32)), (.ref b39), (.ref b39), (.ref b38), (.ref b38)]) (fun tt0 kk0 => XS.iconst X42.here hx rfl (hb hby at_291) kk0) ?_
              refine Go.of (mkF m 294 #[.val (.int mM), .val (.int pP), .val (.int cC), .val (.int eE), .val (.int wW), .val (.int mU), .val (.int kK), .val (.int p6), .val (.int mc), .val (.ref b1), .unset, .unset] [(.ref b1), (.int (2 : Int32)), (.ref b39), (.ref b39), (.ref b38), (.ref b38)]) (fun tt0 kk0 => XS.aload X42.here hx rfl (hb hby at_292) rfl rfl kk0) ?_
              refine Go.of (mkF m 295 #[.val (.int mM), .val (.int pP), .val (.int cC), .val (.int eE), .val (.int wW), .val (.int mU), .val (.int kK), .val (.int p6), .val (.int mc), .val (.ref b1), .unset, .unset] [(.int (2 : Int32)), (.ref b1), (.int (2 : Int32)), (.ref b39), (.ref b39), (.ref b38), (.ref b38)]) (fun tt0 kk0 => XS.iconst X42.here hx rfl (hb hby at_294) kk0) ?_
              refine Go.caload X42 hx hZ e42 VF (by decide) (by decide) (g := (mkF m 295 #[.val (.int mM), .val (.int pP), .val (.int cC), .val (.int eE), .val (.int wW), .val (.int mU), .val (.int kK), .val (.int p6), .val (.int mc), .val (.ref b1), .unset, .unset] [(.int (2 : Int32)), (.ref b1), (.int (2 : Int32)), (.ref b39), (.ref b39), (.ref b38), (.ref b38)])) rfl rfl (hb hby at_295) ?_
              show Go pr ev below _ T42 (mkF m 296 #[.val (.int mM), .val (.int pP), .val (.int cC), .val (.int eE), .val (.int wW), .val (.int mU), .val (.int kK), .val (.int p6), .val (.int mc), .val (.ref b1), .unset, .unset] [(.int (yF (2 : Int32))), (.int (2 : Int32)), (.ref b39), (.ref b39), (.ref b38), (.ref b38)])
              show Go pr ev below _ T42 (mkF m 296 #[.val (.int mM), .val (.int pP), .val (.int cC), .val (.int eE), .val (.int wW), .val (.int mU), .val (.int kK), .val (.int p6), .val (.int mc), .val (.ref b1), .unset, .unset] [(.int (yF (2 : Int32))), (.int (2 : Int32)), (.ref b39), (.ref b39), (.ref b38), (.ref b38)])
              refine Go.castore X42 hx hZ e42 V_b39 (by decide) (by decide) (g := (mkF m 296 #[.val (.int mM), .val (.int pP), .val (.int cC), .val (.int eE), .val (.int wW), .val (.int mU), .val (.int kK), .val (.int p6), .val (.int mc), .val (.ref b1), .unset, .unset] [(.int (yF (2 : Int32))), (.int (2 : Int32)), (.ref b39), (.ref b39), (.ref b38), (.ref b38)])) rfl rfl (hb hby at_296) ?_
              rintro T44 h44 X44 e44 W44 V44
              have sw45 := (Fa.safe (EL := own_EL) hZ V_b39 (by decide))
              replace Sf_b38 := Safe.wr W44 sw45 CLJ.1 Sf_b38
              replace CLJ := CLJ.wr W44 sw45
              replace F_b38_value := F_b38_value.other W44 (Or.inl ne_b38_b39)
              replace F_b38_coder := F_b38_coder.other W44 (Or.inl ne_b38_b39)
              replace A38 := A38.wr W44
              replace Q39 := Q39.wr W44
              replace VF := VF.other W44 ne_b1_b39
              replace hzJ := Nat.le_trans hzJ (Nat.le_of_eq W44.size.symm)
              replace OLJ := OLJ.wr W44 gb_b39
              replace V_b39 := V44
              rw [show nar .char (yF (2 : Int32)) = (yF (2 : Int32)) from own_nar8 (hlat _)] at V_b39
              have N44 := Fr.snoc X44 N42 gb_b39
              show Go pr ev below _ T44 (mkF m 297 #[.val (.int mM), .val (.int pP), .val (.int cC), .val (.int eE), .val (.int wW), .val (.int mU), .val (.int kK), .val (.int p6), .val (.int mc), .val (.ref b1), .unset, .unset] [(.ref b39), (.ref b38), (.ref b38)])
              refine Go.of (mkF m 298 #[.val (.int mM), .val (.int pP), .val (.int cC), .val (.int eE), .val (.int wW), .val (.int mU), .val (.int kK), .val (.int p6), .val (.int mc), .val (.ref b1), .unset, .unset] [(.ref b39), (.ref b39), (.ref b38), (.ref b38)]) (fun tt0 kk0 => XS.dup X44.here hx rfl (hb hby at_297) rfl rfl kk0) ?_
              refine Go.of (mkF m 299 #[.val (.int mM), .val (.int pP), .val (.int cC), .val (.int eE), .val (.int wW), .val (.int mU), .val (.int kK), .val (.int p6), .val (.int mc), .val (.ref b1), .unset, .unset] [(.int (3 : Int32)), (.ref b39), (.ref b39), (.ref b38), (.ref b38)]) (fun tt0 kk0 => XS.iconst X44.here hx rfl (hb hby at_298) kk0) ?_
              refine Go.of (mkF m 301 #[.val (.int mM), .val (.int pP), .val (.int cC), .val (.int eE), .val (.int wW), .val (.int mU), .val (.int kK), .val (.int p6), .val (.int mc), .val (.ref b1), .unset, .unset] [(.ref b1), (.int (3 : Int32)), (.ref b39), (.ref b39), (.ref b38), (.ref b38)]) (fun tt0 kk0 => XS.aload X44.here hx rfl (hb hby at_299) rfl rfl kk0) ?_
              refine Go.of (mkF m 302 #[.val (.int mM), .val (.int pP), .val (.int cC), .val (.int eE), .val (.int wW), .val (.int mU), .val (.int kK), .val (.int p6), .val (.int mc), .val (.ref b1), .unset, .unset] [(.int (3 : Int32)), (.ref b1), (.int (3 : Int32)), (.ref b39), (.ref b39), (.ref b38), (.ref b38)]) (fun tt0 kk0 => XS.iconst X44.here hx rfl (hb hby at_301) kk0) ?_
              refine Go.caload X44 hx hZ e44 VF (by decide) (by decide) (g := (mkF m 302 #[.val (.int mM), .val (.int pP), .val (.int cC), .val (.int eE), .val (.int wW), .val (.int mU), .val (.int kK), .val (.int p6), .val (.int mc), .val (.ref b1), .unset, .unset] [(.int (3 : Int32)), (.ref b1), (.int (3 : Int32)), (.ref b39), (.ref b39), (.ref b38), (.ref b38)])) rfl rfl (hb hby at_302) ?_
              show Go pr ev below _ T44 (mkF m 303 #[.val (.int mM), .val (.int pP), .val (.int cC), .val (.int eE), .val (.int wW), .val (.int mU), .val (.int kK), .val (.int p6), .val (.int mc), .val (.ref b1), .unset, .unset] [(.int (yF (3 : Int32))), (.int (3 : Int32)), (.ref b39), (.ref b39), (.ref b38), (.ref b38)])
              show Go pr ev below _ T44 (mkF m 303 #[.val (.int mM), .val (.int pP), .val (.int cC), .val (.int eE), .val (.int wW), .val (.int mU), .val (.int kK), .val (.int p6), .val (.int mc), .val (.ref b1), .unset, .unset] [(.int (yF (3 : Int32))), (.int (3 : Int32)), (.ref b39), (.ref b39), (.ref b38), (.ref b38)])
              refine Go.castore X44 hx hZ e44 V_b39 (by decide) (by decide) (g := (mkF m 303 #[.val (.int mM), .val (.int pP), .val (.int cC), .val (.int eE), .val (.int wW), .val (.int mU), .val (.int kK), .val (.int p6), .val (.int mc), .val (.ref b1), .unset, .unset] [(.int (yF (3 : Int32))), (.int (3 : Int32)), (.ref b39), (.ref b39), (.ref b38), (.ref b38)])) rfl rfl (hb hby at_303) ?_
              rintro T46 h46 X46 e46 W46 V46
              have sw47 := (Fa.safe (EL := own_EL) hZ V_b39 (by decide))
              replace Sf_b38 := Safe.wr W46 sw47 CLJ.1 Sf_b38
              replace CLJ := CLJ.wr W46 sw47
              replace F_b38_value := F_b38_value.other W46 (Or.inl ne_b38_b39)
              replace F_b38_coder := F_b38_coder.other W46 (Or.inl ne_b38_b39)
              replace A38 := A38.wr W46
              replace Q39 := Q39.wr W46
              replace VF := VF.other W46 ne_b1_b39
              replace hzJ := Nat.le_trans hzJ (Nat.le_of_eq W46.size.symm)
              replace OLJ := OLJ.wr W46 gb_b39
              replace V_b39 := V46
              rw [show nar .char (yF (3 : Int32)) = (yF (3 : Int32)) from own_nar8 (hlat _)] at V_b39
              have N46 := Fr.snoc X46 N44 gb_b39
              show Go pr ev below _ T46 (mkF m 304 #[.val (.int mM), .val (.int pP), .val (.int cC), .val (.int eE), .val (.int wW), .val (.int mU), .val (.int kK), .val (.int p6), .val (.int mc), .val (.ref b1), .unset, .unset] [(.ref b39), (.ref b38), (.ref b38)])
              refine Go.of (mkF m 305 #[.val (.int mM), .val (.int pP), .val (.int cC), .val (.int eE), .val (.int wW), .val (.int mU), .val (.int kK), .val (.int p6), .val (.int mc), .val (.ref b1), .unset, .unset] [(.ref b39), (.ref b39), (.ref b38), (.ref b38)]) (fun tt0 kk0 => XS.dup X46.here hx rfl (hb hby at_304) rfl rfl kk0) ?_
              refine Go.of (mkF m 306 #[.val (.int mM), .val (.int pP), .val (.int cC), .val (.int eE), .val (.int wW), .val (.int mU), .val (.int kK), .val (.int p6), .val (.int mc), .val (.ref b1), .unset, .unset] [(.int (4 : Int32)), (.ref b39), (.ref b39), (.ref b38), (.ref b38)]) (fun tt0 kk0 => XS.iconst X46.here hx rfl (hb hby at_305) kk0) ?_
              refine Go.of (mkF m 308 #[.val (.int mM), .val (.int pP), .val (.int cC), .val (.int eE), .val (.int wW), .val (.int mU), .val (.int kK), .val (.int p6), .val (.int mc), .val (.ref b1), .unset, .unset] [(.ref b1), (.int (4 : Int32)), (.ref b39), (.ref b39), (.ref b38), (.ref b38)]) (fun tt0 kk0 => XS.aload X46.here hx rfl (hb hby at_306) rfl rfl kk0) ?_
              refine Go.of (mkF m 309 #[.val (.int mM), .val (.int pP), .val (.int cC), .val (.int eE), .val (.int wW), .val (.int mU), .val (.int kK), .val (.int p6), .val (.int mc), .val (.ref b1), .unset, .unset] [(.int (4 : Int32)), (.ref b1), (.int (4 : Int32)), (.ref b39), (.ref b39), (.ref b38), (.ref b38)]) (fun tt0 kk0 => XS.iconst X46.here hx rfl (hb hby at_308) kk0) ?_
              refine Go.caload X46 hx hZ e46 VF (by decide) (by decide) (g := (mkF m 309 #[.val (.int mM), .val (.int pP), .val (.int cC), .val (.int eE), .val (.int wW), .val (.int mU), .val (.int kK), .val (.int p6), .val (.int mc), .val (.ref b1), .unset, .unset] [(.int (4 : Int32)), (.ref b1), (.int (4 : Int32)), (.ref b39), (.ref b39), (.ref b38), (.ref b38)])) rfl rfl (hb hby at_309) ?_
              show Go pr ev below _ T46 (mkF m 310 #[.val (.int mM), .val (.int pP), .val (.int cC), .val (.int eE), .val (.int wW), .val (.int mU), .val (.int kK), .val (.int p6), .val (.int mc), .val (.ref b1), .unset, .unset] [(.int (yF (4 : Int32))), (.int (4 : Int32)), (.ref b39), (.ref b39), (.ref b38), (.ref b38)])
              show Go pr ev below _ T46 (mkF m 310 #[.val (.int mM), .val (.int pP), .val (.int cC), .val (.int eE), .val (.int wW), .val (.int mU), .val (.int kK), .val (.int p6), .val (.int mc), .val (.ref b1), .unset, .unset] [(.int (yF (4 : Int32))), (.int (4 : Int32)), (.ref b39), (.ref b39), (.ref b38), (.ref b38)])
              refine Go.castore X46 hx hZ e46 V_b39 (by decide) (by decide) (g := (mkF m 310 #[.val (.int mM), .val (.int pP), .val (.int cC), .val (.int eE), .val (.int wW), .val (.int mU), .val (.int kK), .val (.int p6), .val (.int mc), .val (.ref b1), .unset, .unset] [(.int (yF (4 : Int32))), (.int (4 : Int32)), (.ref b39), (.ref b39), (.ref b38), (.ref b38)])) rfl rfl (hb hby at_310) ?_
              rintro T48 h48 X48 e48 W48 V48
              have sw49 := (Fa.safe (EL := own_EL) hZ V_b39 (by decide))
              replace Sf_b38 := Safe.wr W48 sw49 CLJ.1 Sf_b38
              replace CLJ := CLJ.wr W48 sw49
              replace F_b38_value := F_b38_value.other W48 (Or.inl ne_b38_b39)
              replace F_b38_coder := F_b38_coder.other W48 (Or.inl ne_b38_b39)
              replace A38 := A38.wr W48
              replace Q39 := Q39.wr W48
              replace VF := VF.other W48 ne_b1_b39
              replace hzJ := Nat.le_trans hzJ (Nat.le_of_eq W48.size.symm)
              replace OLJ := OLJ.wr W48 gb_b39
              replace V_b39 := V48
              rw [show nar .char (yF (4 : Int32)) = (yF (4 : Int32)) from own_nar8 (hlat _)] at V_b39
              have N48 := Fr.snoc X48 N46 gb_b39
              show Go pr ev below _ T48 (mkF m 311 #[.val (.int mM), .val (.int pP), .val (.int cC), .val (.int eE), .val (.int wW), .val (.int mU), .val (.int kK), .val (.int p6), .val (.int mc), .val (.ref b1), .unset, .unset] [(.ref b39), (.ref b38), (.ref b38)])
              refine Go.of (mkF m 312 #[.val (.int mM), .val (.int pP), .val (.int cC), .val (.int eE), .val (.int wW), .val (.int mU), .val (.int kK), .val (.int p6), .val (.int mc), .val (.ref b1), .unset, .unset] [(.ref b39), (.ref b39), (.ref b38), (.ref b38)]) (fun tt0 kk0 => XS.dup X48.here hx rfl (hb hby at_311) rfl rfl kk0) ?_
              refine Go.of (mkF m 313 #[.val (.int mM), .val (.int pP), .val (.int cC), .val (.int eE), .val (.int wW), .val (.int mU), .val (.int kK), .val (.int p6), .val (.int mc), .val (.ref b1), .unset, .unset] [(.int (5 : Int32)), (.ref b39), (.ref b39), (.ref b38), (.ref b38)]) (fun tt0 kk0 => XS.iconst X48.here hx rfl (hb hby at_312) kk0) ?_
              refine Go.of (mkF m 315 #[.val (.int mM), .val (.int pP), .val (.int cC), .val (.int eE), .val (.int wW), .val (.int mU), .val (.int kK), .val (.int p6), .val (.int mc), .val (.ref b1), .unset, .unset] [(.ref b1), (.int (5 : Int32)), (.ref b39), (.ref b39), (.ref b38), (.ref b38)]) (fun tt0 kk0 => XS.aload X48.here hx rfl (hb hby at_313) rfl rfl kk0) ?_
              refine Go.of (mkF m 316 #[.val (.int mM), .val (.int pP), .val (.int cC), .val (.int eE), .val (.int wW), .val (.int mU), .val (.int kK), .val (.int p6), .val (.int mc), .val (.ref b1), .unset, .unset] [(.int (5 : Int32)), (.ref b1), (.int (5 : Int32)), (.ref b39), (.ref b39), (.ref b38), (.ref b38)]) (fun tt0 kk0 => XS.iconst X48.here hx rfl (hb hby at_315) kk0) ?_
              refine Go.caload X48 hx hZ e48 VF (by decide) (by decide) (g := (mkF m 316 #[.val (.int mM), .val (.int pP), .val (.int cC), .val (.int eE), .val (.int wW), .val (.int mU), .val (.int kK), .val (.int p6), .val (.int mc), .val (.ref b1), .unset, .unset] [(.int (5 : Int32)), (.ref b1), (.int (5 : Int32)), (.ref b39), (.ref b39), (.ref b38), (.ref b38)])) rfl rfl (hb hby at_316) ?_
              show Go pr ev below _ T48 (mkF m 317 #[.val (.int mM), .val (.int pP), .val (.int cC), .val (.int eE), .val (.int wW), .val (.int mU), .val (.int kK), .val (.int p6), .val (.int mc), .val (.ref b1), .unset, .unset] [(.int (yF (5 : Int32))), (.int (5 : Int32)), (.ref b39), (.ref b39), (.ref b38), (.ref b38)])
              show Go pr ev below _ T48 (mkF m 317 #[.val (.int mM), .val (.int pP), .val (.int cC), .val (.int eE), .val (.int wW), .val (.int mU), .val (.int kK), .val (.int p6), .val (.int mc), .val (.ref b1), .unset, .unset] [(.int (yF (5 : Int32))), (.int (5 : Int32)), (.ref b39), (.ref b39), (.ref b38), (.ref b38)])
              refine Go.castore X48 hx hZ e48 V_b39 (by decide) (by decide) (g := (mkF m 317 #[.val (.int mM), .val (.int pP), .val (.int cC), .val (.int eE), .val (.int wW), .val (.int mU), .val (.int kK), .val (.int p6), .val (.int mc), .val (.ref b1), .unset, .unset] [(.int (yF (5 : Int32))), (.int (5 : Int32)), (.ref b39), (.ref b39), (.ref b38), (.ref b38)])) rfl rfl (hb hby at_317) ?_
              rintro T50 h50 X50 e50 W50 V50
              have sw51 := (Fa.safe (EL := own_EL) hZ V_b39 (by decide))
              replace Sf_b38 := Safe.wr W50 sw51 CLJ.1 Sf_b38
              replace CLJ := CLJ.wr W50 sw51
              replace F_b38_value := F_b38_value.other W50 (Or.inl ne_b38_b39)
              replace F_b38_coder := F_b38_coder.other W50 (Or.inl ne_b38_b39)
              replace A38 := A38.wr W50
              replace Q39 := Q39.wr W50
              replace VF := VF.other W50 ne_b1_b39
              replace hzJ := Nat.le_trans hzJ (Nat.le_of_eq W50.size.symm)
              replace OLJ := OLJ.wr W50 gb_b39
              replace V_b39 := V50
              rw [show nar .char (yF (5 : Int32)) = (yF (5 : Int32)) from own_nar8 (hlat _)] at V_b39
              have N50 := Fr.snoc X50 N48 gb_b39
              show Go pr ev below _ T50 (mkF m 318 #[.val (.int mM), .val (.int pP), .val (.int cC), .val (.int eE), .val (.int wW), .val (.int mU), .val (.int kK), .val (.int p6), .val (.int mc), .val (.ref b1), .unset, .unset] [(.ref b39), (.ref b38), (.ref b38)])
              refine Go.of (mkF m 319 #[.val (.int mM), .val (.int pP), .val (.int cC), .val (.int eE), .val (.int wW), .val (.int mU), .val (.int kK), .val (.int p6), .val (.int mc), .val (.ref b1), .unset, .unset] [(.ref b39), (.ref b39), (.ref b38), (.ref b38)]) (fun tt0 kk0 => XS.dup X50.here hx rfl (hb hby at_318) rfl rfl kk0) ?_
              refine Go.of (mkF m 321 #[.val (.int mM), .val (.int pP), .val (.int cC), .val (.int eE), .val (.int wW), .val (.int mU), .val (.int kK), .val (.int p6), .val (.int mc), .val (.ref b1), .unset, .unset] [(.int (6 : Int32)), (.ref b39), (.ref b39), (.ref b38), (.ref b38)]) (fun tt0 kk0 => XS.bipush X50.here hx rfl (hb hby at_319) kk0) ?_
              refine Go.of (mkF m 323 #[.val (.int mM), .val (.int pP), .val (.int cC), .val (.int eE), .val (.int wW), .val (.int mU), .val (.int kK), .val (.int p6), .val (.int mc), .val (.ref b1), .unset, .unset] [(.ref b1), (.int (6 : Int32)), (.ref b39), (.ref b39), (.ref b38), (.ref b38)]) (fun tt0 kk0 => XS.aload X50.here hx rfl (hb hby at_321) rfl rfl kk0) ?_
              refine Go.of (mkF m 325 #[.val (.int mM), .val (.int pP), .val (.int cC), .val (.int eE), .val (.int wW), .val (.int mU), .val (.int kK), .val (.int p6), .val (.int mc), .val (.ref b1), .unset, .unset] [(.int (6 : Int32)), (.ref b1), (.int (6 : Int32)), (.ref b39), (.ref b39), (.ref b38), (.ref b38)]) (fun tt0 kk0 => XS.bipush X50.here hx rfl (hb hby at_323) kk0) ?_
              refine Go.caload X50 hx hZ e50 VF (by decide) (by decide) (g := (mkF m 325 #[.val (.int mM), .val (.int pP), .val (.int cC), .val (.int eE), .val (.int wW), .val (.int mU), .val (.int kK), .val (.int p6), .val (.int mc), .val (.ref b1), .unset, .unset] [(.int (6 : Int32)), (.ref b1), (.int (6 : Int32)), (.ref b39), (.ref b39), (.ref b38), (.ref b38)])) rfl rfl (hb hby at_325) ?_
              show Go pr ev below _ T50 (mkF m 326 #[.val (.int mM), .val (.int pP), .val (.int cC), .val (.int eE), .val (.int wW), .val (.int mU), .val (.int kK), .val (.int p6), .val (.int mc), .val (.ref b1), .unset, .unset] [(.int (yF (6 : Int32))), (.int (6 : Int32)), (.ref b39), (.ref b39), (.ref b38), (.ref b38)])
              show Go pr ev below _ T50 (mkF m 326 #[.val (.int mM), .val (.int pP), .val (.int cC), .val (.int eE), .val (.int wW), .val (.int mU), .val (.int kK), .val (.int p6), .val (.int mc), .val (.ref b1), .unset, .unset] [(.int (yF (6 : Int32))), (.int (6 : Int32)), (.ref b39), (.ref b39), (.ref b38), (.ref b38)])
              refine Go.castore X50 hx hZ e50 V_b39 (by decide) (by decide) (g := (mkF m 326 #[.val (.int mM), .val (.int pP), .val (.int cC), .val (.int eE), .val (.int wW), .val (.int mU), .val (.int kK), .val (.int p6), .val (.int mc), .val (.ref b1), .unset, .unset] [(.int (yF (6 : Int32))), (.int (6 : Int32)), (.ref b39), (.ref b39), (.ref b38), (.ref b38)])) rfl rfl (hb hby at_326) ?_
              rintro T52 h52 X52 e52 W52 V52
              have sw53 := (Fa.safe (EL := own_EL) hZ V_b39 (by decide))
              replace Sf_b38 := Safe.wr W52 sw53 CLJ.1 Sf_b38
              replace CLJ := CLJ.wr W52 sw53
              replace F_b38_value := F_b38_value.other W52 (Or.inl ne_b38_b39)
              replace F_b38_coder := F_b38_coder.other W52 (Or.inl ne_b38_b39)
              replace A38 := A38.wr W52
              replace Q39 := Q39.wr W52
              replace VF := VF.other W52 ne_b1_b39
              replace hzJ := Nat.le_trans hzJ (Nat.le_of_eq W52.size.symm)
              replace OLJ := OLJ.wr W52 gb_b39
              replace V_b39 := V52
              rw [show nar .char (yF (6 : Int32)) = (yF (6 : Int32)) from own_nar8 (hlat _)] at V_b39
              have N52 := Fr.snoc X52 N50 gb_b39
              show Go pr ev below _ T52 (mkF m 327 #[.val (.int mM), .val (.int pP), .val (.int cC), .val (.int eE), .val (.int wW), .val (.int mU), .val (.int kK), .val (.int p6), .val (.int mc), .val (.ref b1), .unset, .unset] [(.ref b39), (.ref b38), (.ref b38)])
              obtain ⟨kc54, VC54⟩ : ∃ k, Arv Z h52 b39 k .char (7 : Int32) (List.map Value.int [(yF (0 : Int32)), (yF (1 : Int32)), (yF (2 : Int32)), (yF (3 : Int32)), (yF (4 : Int32)), (yF (5 : Int32)), (yF (6 : Int32))]) (.int (0 : Int32)) := Fa.toArv V_b39 (own_ch7 (yF (0 : Int32)) (yF (1 : Int32)) (yF (2 : Int32)) (yF (3 : Int32)) (yF (4 : Int32)) (yF (5 : Int32)) (yF (6 : Int32)))
              have hws54 : ∀ d ∈ StrChars.Road.words, d.before a0 Z = true := fun d hd => hw d ((by decide +kernel : ∀ d ∈ StrChars.Road.words, d ∈ tables_1) d hd)
              refine Go.initB X52 hx hZ (y := (⟨"java/lang/String", "<init>", "([C)V"⟩ : MethodName)) (a := b38) (argsL := [(.ref b39)]) (rest := [(.ref b38)]) hown rfl (tw40 hw) (tw41 hw) (tw42 hw) (by decide) e52 (StrChars.Road.backV (W := 1) hZ hws54 (kI := 4) (tw8 hw) (cs := [(yF (0 : Int32)), (yF (1 : Int32)), (yF (2 : Int32)), (yF (3 : Int32)), (yF (4 : Int32)), (yF (5 : Int32)), (yF (6 : Int32))]) (bs := [((yF (0 : Int32))).toInt8.toInt32, ((yF (1 : Int32))).toInt8.toInt32, ((yF (2 : Int32))).toInt8.toInt32, ((yF (3 : Int32))).toInt8.toInt32, ((yF (4 : Int32))).toInt8.toInt32, ((yF (5 : Int32))).toInt8.toInt32, ((yF (6 : Int32))).toInt8.toInt32]) (n := 7) gb_b38 hzJ A38 F_b38_value F_b38_coder VC54 (O2.ext OLJ.2) P3 rfl rfl (by decide) (by decide) ((List.forall_mem_cons.mpr ⟨hlat _, List.forall_mem_cons.mpr ⟨hlat _, List.forall_mem_cons.mpr ⟨hlat _, List.forall_mem_cons.mpr ⟨hlat _, List.forall_mem_cons.mpr ⟨hlat _, List.forall_mem_cons.mpr ⟨hlat _, List.forall_mem_cons.mpr ⟨hlat _, fun _ z => absurd z List.not_mem_nil⟩⟩⟩⟩⟩⟩⟩)) rfl (by decide) (by decide)) (g := (mkF m 327 #[.val (.int mM), .val (.int pP), .val (.int cC), .val (.int eE), .val (.int wW), .val (.int mU), .val (.int kK), .val (.int p6), .val (.int mc), .val (.ref b1), .unset, .unset] [(.ref b39), (.ref b38), (.ref b38)])) rfl (by rw [hml]; rfl) (lenOf pd23 rfl) rfl (by show 2 * 0 + _ ≤ _; exact Nat.le_of_eq rfl) (hb hby at_327) (by decide) (by decide) ?_
              rintro T54 L54 v54 X54 ⟨rfl, NL54, K54, Es54, Fc54, t54, kb54, gt54, sz54, ne54, Fv54, Vb54⟩
              have N54 := Fr.app N52 NL54
              have ne_b39_t54 : b39 ≠ t54 := Nat.ne_of_lt (Nat.lt_of_lt_of_le Q39.lt sz54)
              have ne_b1_t54 : b1 ≠ t54 := Nat.ne_of_lt (Nat.lt_of_lt_of_le VF.lt sz54)
              have ne_b38_t54 : b38 ≠ t54 := fun q => ne54 q.symm
              have sw55 := sfS Sf_b38 (sf0)
              replace Sf_b38 := Safe.keep K54 sw55 CLJ.1 Sf_b38
              replace CLJ := CLJ.keep K54 sw55
              replace A38 := A38.keep K54
              replace Q39 := Q39.keep K54
              replace VF := VF.keep K54 (ninS ne_b1_b38 nin0)
              replace V_b39 := V_b39.keep K54 (ninS (Ne.symm ne_b38_b39) nin0)
              replace hzJ := Nat.le_trans hzJ K54.1
              replace OLJ := OLJ.keep K54 (allS gb_b38 (all0))
              show Go pr ev below _ T54 (mkF m 330 #[.val (.int mM), .val (.int pP), .val (.int cC), .val (.int eE), .val (.int wW), .val (.int mU), .val (.int kK), .val (.int p6), .val (.int mc), .val (.ref b1), .unset, .unset] [(.ref b38)])
              have VB : Fa Z T54.heap t54 .byte 7 (fun i => .int (own_lit [((yF (0 : Int32))).toInt8.toInt32, ((yF (1 : Int32))).toInt8.toInt32, ((yF (2 : Int32))).toInt8.toInt32, ((yF (3 : Int32))).toInt8.toInt32, ((yF (4 : Int32))).toInt8.toInt32, ((yF (5 : Int32))).toInt8.toInt32, ((yF (6 : Int32))).toInt8.toInt32] i)) := (Fa.ofArv Vb54).congr fun j q0 q1 => own_lit_ok [((yF (0 : Int32))).toInt8.toInt32, ((yF (1 : Int32))).toInt8.toInt32, ((yF (2 : Int32))).toInt8.toInt32, ((yF (3 : Int32))).toInt8.toInt32, ((yF (4 : Int32))).toInt8.toInt32, ((yF (5 : Int32))).toInt8.toInt32, ((yF (6 : Int32))).toInt8.toInt32] j
              refine Go.of (mkF m 332 #[.val (.int mM), .val (.int pP), .val (.int cC), .val (.int eE), .val (.int wW), .val (.int mU), .val (.int kK), .val (.int p6), .val (.int mc), .val (.ref b1), .val (.ref b38), .unset] []) (fun tt0 kk0 => XS.astore X54.here hx rfl (hb hby at_330) rfl rfl (l' := #[.val (.int mM), .val (.int pP), .val (.int cC), .val (.int eE), .val (.int wW), .val (.int mU), .val (.int kK), .val (.int p6), .val (.int mc), .val (.ref b1), .val (.ref b38), .unset]) rfl kk0) ?_
              refine Go.of (mkF m 388 #[.val (.int mM), .val (.int pP), .val (.int cC), .val (.int eE), .val (.int wW), .val (.int mU), .val (.int kK), .val (.int p6), .val (.int mc), .val (.ref b1), .val (.ref b38), .unset] []) (fun tt0 kk0 => XS.goto X54.here hx rfl (pc0 := 332) (pc' := 388) rfl (hb hby at_332) (by decide) (by decide) kk0) ?_
              refine Go.of (mkF m 389 #[.val (.int mM), .val (.int pP), .val (.int cC), .val (.int eE), .val (.int wW), .val (.int mU), .val (.int kK), .val (.int p6), .val (.int mc), .val (.ref b1), .val (.ref b38), .unset] [.null]) (fun tt0 kk0 => XS.aconstNull X54.here hx rfl (hb hby at_388) kk0) ?_
              refine Go.of (mkF m 391 #[.val (.int mM), .val (.int pP), .val (.int cC), .val (.int eE), .val (.int wW), .val (.int mU), .val (.int kK), .val (.int p6), .val (.int mc), .val (.ref b1), .val (.ref b38), .val .null] []) (fun tt0 kk0 => XS.astore X54.here hx rfl (hb hby at_389) rfl rfl (l' := #[.val (.int mM), .val (.int pP), .val (.int cC), .val (.int eE), .val (.int wW), .val (.int mU), .val (.int kK), .val (.int p6), .val (.int mc), .val (.ref b1), .val (.ref b38), .val .null]) rfl kk0) ?_
              refine Go.of (mkF m 393 #[.val (.int mM), .val (.int pP), .val (.int cC), .val (.int eE), .val (.int wW), .val (.int mU), .val (.int kK), .val (.int p6), .val (.int mc), .val (.ref b1), .val (.ref b38), .val .null] [(.int kK)]) (fun tt0 kk0 => XS.iload X54.here hx rfl (hb hby at_391) rfl kk0) ?_
              refine Go.of (mkF m 394 #[.val (.int mM), .val (.int pP), .val (.int cC), .val (.int eE), .val (.int wW), .val (.int mU), .val (.int kK), .val (.int p6), .val (.int mc), .val (.ref b1), .val (.ref b38), .val .null] [(.int (2 : Int32)), (.int kK)]) (fun tt0 kk0 => XS.iconst X54.here hx rfl (hb hby at_393) kk0) ?_
              refine Go.of (mkF m 430 #[.val (.int mM), .val (.int pP), .val (.int cC), .val (.int eE), .val (.int wW), .val (.int mU), .val (.int kK), .val (.int p6), .val (.int mc), .val (.ref b1), .val (.ref b38), .val .null] []) (fun tt0 kk0 => XS.icmpYes X54.here hx rfl (pc0 := 394) (pc' := 430) rfl (hb hby at_394) rfl (tlt hc145).2.2.1 (by decide) (by decide) kk0) ?_
              refine Go.of (mkF m 432 #[.val (.int mM), .val (.int pP), .val (.int cC), .val (.int eE), .val (.int wW), .val (.int mU), .val (.int kK), .val (.int p6), .val (.int mc), .val (.ref b1), .val (.ref b38), .val .null] [(.ref b38)]) (fun tt0 kk0 => XS.aload X54.here hx rfl (hb hby at_430) rfl rfl kk0) ?_
              refine Go.callS X54 hx hZ (y := (⟨"com/example/sealed_ledger/sealedledger/http/Access$Role", "named", "(Ljava/lang/String;)Lcom/example/sealed_ledger/sealedledger/http/Access$Role;"⟩ : MethodName)) (argsL := [(.ref b38)]) (rest := []) hown (tw63 hw) (tw64 hw) (tw61 hw) (tw65 hw) (by decide) rfl (rmNaD l Z a0 hw [] T54.heap n0 hzJ G1 (O2.ext OLJ.2) P3 va rd wr yv (Sv.ext OLJ.2) (Vv.ext OLJ.2) (Ev.ext OLJ.2) hy0 hy1 t1 d1 t2 d2 yR yW (Er.ext OLJ.2) (Fr1.ext OLJ.2) (E_t1.ext OLJ.2) (C_t1.ext OLJ.2) (V_t1.ext OLJ.2) (A_t1.ext OLJ.2) (Ew.ext OLJ.2) (Fw1.ext OLJ.2) (E_t2.ext OLJ.2) (C_t2.ext OLJ.2) (V_t2.ext OLJ.2) (A_t2.ext OLJ.2) b38 t54 7 (own_lit [((yF (0 : Int32))).toInt8.toInt32, ((yF (1 : Int32))).toInt8.toInt32, ((yF (2 : Int32))).toInt8.toInt32, ((yF (3 : Int32))).toInt8.toInt32, ((yF (4 : Int32))).toInt8.toInt32, ((yF (5 : Int32))).toInt8.toInt32, ((yF (6 : Int32))).toInt8.toInt32]) A38 Fc54 Fv54 VB (Nat.ne_of_lt (Nat.lt_of_lt_of_le (Nat.lt_of_lt_of_eq E_t1.lt OLJ.1) gb_b38)) (Nat.ne_of_lt (Nat.lt_of_lt_of_le (Nat.lt_of_lt_of_eq E_t2.lt OLJ.1) gb_b38)) (by decide)) (g := (mkF m 432 #[.val (.int mM), .val (.int pP), .val (.int cC), .val (.int eE), .val (.int wW), .val (.int mU), .val (.int kK), .val (.int p6), .val (.int mc), .val (.ref b1), .val (.ref b38), .val .null] [(.ref b38)])) rfl (by rw [hml]; rfl) (lenOf pd24 rfl) rfl (W := 0) (by show 2 * 0 + _ ≤ _; exact Nat.le_of_eq rfl) (hb hby at_432) (by decide) (by decide) (by decide) (by decide) ?_
              rintro T56 L56 v56 X56 ⟨rfl, NL56, K56⟩
              have N56 := Fr.app N54 NL56
              replace Sf_b38 := Safe.keep K56 sf0 CLJ.1 Sf_b38
              replace CLJ := CLJ.keep K56 sf0
              replace Fc54 := Fc54.keep K56 nin0
              replace Fv54 := Fv54.keep K56 nin0
              replace A38 := A38.keep K56
              replace Q39 := Q39.keep K56
              replace VF := VF.keep K56 nin0
              replace VB := VB.keep K56 nin0
              replace hzJ := Nat.le_trans hzJ K56.1
              replace OLJ := OLJ.keep K56 (all0)
              show Go pr ev below _ T56 (mkF m 435 #[.val (.int mM), .val (.int pP), .val (.int cC), .val (.int eE), .val (.int wW), .val (.int mU), .val (.int kK), .val (.int p6), .val (.int mc), .val (.ref b1), .val (.ref b38), .val .null] [.null])
              refine Go.of (mkF m 437 #[.val (.int mM), .val (.int pP), .val (.int cC), .val (.int eE), .val (.int wW), .val (.int mU), .val (.int kK), .val (.int p6), .val (.int mc), .val (.ref b1), .val (.ref b38), .val .null] [.null, .null]) (fun tt0 kk0 => XS.aload X56.here hx rfl (hb hby at_435) rfl rfl kk0) ?_
              refine Go.of (mkF m 440 #[.val (.int mM), .val (.int pP), .val (.int cC), .val (.int eE), .val (.int wW), .val (.int mU), .val (.int kK), .val (.int p6), .val (.int mc), .val (.ref b1), .val (.ref b38), .val .null] []) (fun tt0 kk0 => Jvm.RoadKit.acmp (g := (mkF m 437 #[.val (.int mM), .val (.int pP), .val (.int cC), .val (.int eE), .val (.int wW), .val (.int mU), .val (.int kK), .val (.int p6), .val (.int mc), .val (.ref b1), .val (.ref b38), .val .null] [.null, .null])) X56 hx rfl (x := .null) (y := .null) rfl rfl (pc0 := 437) (pc' := 440) (same := true) rfl (hb hby at_437) rfl (decide_eq_true rfl) (by decide) (by decide) kk0) ?_
              refine Go.of (mkF m 441 #[.val (.int mM), .val (.int pP), .val (.int cC), .val (.int eE), .val (.int wW), .val (.int mU), .val (.int kK), .val (.int p6), .val (.int mc), .val (.ref b1), .val (.ref b38), .val .null] [(.int (1 : Int32))]) (fun tt0 kk0 => XS.iconst X56.here hx rfl (hb hby at_440) kk0) ?_
              refine Go.of (mkF m 445 #[.val (.int mM), .val (.int pP), .val (.int cC), .val (.int eE), .val (.int wW), .val (.int mU), .val (.int kK), .val (.int p6), .val (.int mc), .val (.ref b1), .val (.ref b38), .val .null] [(.int (1 : Int32))]) (fun tt0 kk0 => XS.goto X56.here hx rfl (pc0 := 441) (pc' := 445) rfl (hb hby at_441) (by decide) (by decide) kk0) ?_
              exact Go.retWC X56 hx hZ hEL rfl CLJ (t := .boolean) hret hlk rfl (Or.inl ⟨rfl, by simp, _, rfl⟩) (hb hby at_445) (by decide) (by decide) ⟨rfl, N56⟩
            ·
              refine Go.of (mkF m 335 #[.val (.int mM), .val (.int pP), .val (.int cC), .val (.int eE), .val (.int wW), .val (.int mU), .val (.int kK), .val (.int p6), .val (.int mc), .val (.ref b1), .unset, .unset] []) (fun tt0 kk0 => XS.icmpYes XJ.here hx rfl (pc0 := 265) (pc' := 335) rfl (hb hby at_265) rfl (feq hc265).2 (by decide) (by decide) kk0) ?_
              refine Go.of (mkF m 337 #[.val (.int mM), .val (.int pP), .val (.int cC), .val (.int eE), .val (.int wW), .val (.int mU), .val (.int kK), .val (.int p6), .val (.int mc), .val (.ref b1), .unset, .unset] [(.int kK)]) (fun tt0 kk0 => XS.iload XJ.here hx rfl (hb hby at_335) rfl kk0) ?_
              refine Go.of (mkF m 338 #[.val (.int mM), .val (.int pP), .val (.int cC), .val (.int eE), .val (.int wW), .val (.int mU), .val (.int kK), .val (.int p6), .val (.int mc), .val (.ref b1), .unset, .unset] [(.int (5 : Int32)), (.int kK)]) (fun tt0 kk0 => XS.iconst XJ.here hx rfl (hb hby at_337) kk0) ?_
              by_cases hc338 : kK = (5 : Int32)
              ·
                refine Go.of (mkF m 341 #[.val (.int mM), .val (.int pP), .val (.int cC), .val (.int eE), .val (.int wW), .val (.int mU), .val (.int kK), .val (.int p6), .val (.int mc), .val (.ref b1), .unset, .unset] []) (fun tt0 kk0 => XS.icmpNo XJ.here hx rfl (hb hby at_338) rfl (teq hc338).2 kk0) ?_
                obtain ⟨T58, h58, X58, e58, E58, A58, D58, -, st58⟩ := newO XJ hx hZ hown (tw39 hw) (tw8 hw) (tw7 hw) eJ (g := (mkF m 341 #[.val (.int mM), .val (.int pP), .val (.int cC), .val (.int eE), .val (.int wW), .val (.int mU), .val (.int kK), .val (.int p6), .val (.int mc), .val (.ref b1), .unset, .unset] [])) rfl (hb hby at_341) (by decide) (by decide)
                obtain ⟨b58, g58⟩ : ∃ z, z = hJ.size := ⟨_, rfl⟩
                rw [← g58] at A58 D58 st58
                have ne_b1_b58 : b1 ≠ b58 := Nat.ne_of_lt (Nat.lt_of_lt_of_le VF.lt (Nat.le_of_eq g58.symm))
                have gb_b58 : n0 ≤ b58 := Nat.le_trans hzJ (Nat.le_of_eq g58.symm)
                have Sf_b58 := Cld.new CLJ (Nat.le_of_eq g58.symm)
                replace Sf_b58 := Safe.ext E58 CLJ.1 Sf_b58
                replace CLJ := CLJ.ext E58
                replace VF := VF.ext E58
                replace hzJ := Nat.le_trans hzJ E58.1
                replace OLJ := OLJ.ext E58
                have F_b58_value : Fld Z h58 b58 "java/lang/String" "value" "[B" .null := D58 (Or.inr (tw10 hw)) (ty := (.array .byte)) (by decide)
                have F_b58_coder : Fld Z h58 b58 "java/lang/String" "coder" "B" (.int (0 : Int32)) := D58 (Or.inr (tw11 hw)) (ty := .byte) (by decide)
                refine Go.of (mkF m 344 #[.val (.int mM), .val (.int pP), .val (.int cC), .val (.int eE), .val (.int wW), .val (.int mU), .val (.int kK), .val (.int p6), .val (.int mc), .val (.ref b1), .unset, .unset] [(.ref b58)]) (st58) ?_
                refine Go.of (mkF m 345 #[.val (.int mM), .val (.int pP), .val (.int cC), .val (.int eE), .val (.int wW), .val (.int mU), .val (.int kK), .val (.int p6), .val (.int mc), .val (.ref b1), .unset, .unset] [(.ref b58), (.ref b58)]) (fun tt0 kk0 => XS.dup X58.here hx rfl (hb hby at_344) rfl rfl kk0) ?_
                refine Go.of (mkF m 346 #[.val (.int mM), .val (.int pP), .val (.int cC), .val (.int eE), .val (.int wW), .val (.int mU), .val (.int kK), .val (.int p6), .val (.int mc), .val (.ref b1), .unset, .unset] [(.int (0 : Int32)), (.ref b58), (.ref b58)]) (fun tt0 kk0 => XS.iconst X58.here hx rfl (hb hby at_345) kk0) ?_
                obtain ⟨T59, h59, k59, X59, e59, E59, A59, Q59, st59⟩ := newPE X58 hx hZ (aty := .char) (tw1 hw) e58 (g := (mkF m 346 #[.val (.int mM), .val (.int pP), .val (.int cC), .val (.int eE), .val (.int wW), .val (.int mU), .val (.int kK), .val (.int p6), .val (.int mc), .val (.ref b1), .unset, .unset] [(.int (0 : Int32)), (.ref b58), (.ref b58)])) rfl (hb hby at_346) rfl (by decide) (cap := 0) (by decide) (by decide) (by decide) (by decide) (ad := "[C") (by decide +kernel)
                obtain ⟨b59, g59⟩ : ∃ z, z = h58.size := ⟨_, rfl⟩
                rw [← g59] at A59 Q59 st59
                have ne_b58_b59 : b58 ≠ b59 := Nat.ne_of_lt (Nat.lt_of_lt_of_le A58.lt (Nat.le_of_eq g59.symm))
                have ne_b1_b59 : b1 ≠ b59 := Nat.ne_of_lt (Nat.lt_of_lt_of_le VF.lt (Nat.le_of_eq g59.symm))
                have gb_b59 : n0 ≤ b59 := Nat.le_trans hzJ (Nat.le_of_eq g59.symm)
                replace Sf_b58 := Safe.ext E59 CLJ.1 Sf_b58
                replace CLJ := CLJ.ext E59
                replace F_b58_value := F_b58_value.ext E59
                replace F_b58_coder := F_b58_coder.ext E59
                replace A58 := A58.ext E59
                replace VF := VF.ext E59
                replace hzJ := Nat.le_trans hzJ E59.1
                replace OLJ := OLJ.ext E59
                have V_b59 : Fa Z h59 b59 .char (0 : Int32) (fun i => .int ((fun _ => (0 : Int32)) i)) := Fa.new A59 (by decide)
                refine Go.of (mkF m 348 #[.val (.int mM), .val (.int pP), .val (.int cC), .val (.int eE), .val (.int wW), .val (.int mU), .val (.int kK), .val (.int p6), .val (.int mc), .val (.ref b1), .unset, .unset] [(.ref b59), (.ref b58), (.ref b58)]) (st59) ?_
                refine Go.initC X59 hx hZ (y := (⟨"java/lang/String", "<init>", "([C)V"⟩ : MethodName)) (a := b58) (argsL := [(.ref b59)]) (rest := [(.ref b58)]) hown hEL CLJ rfl (tw40 hw) (tw41 hw) (tw7 hw) (tw42 hw) (by decide) e59 (rmS0 l Z a0 hw [] b58 b59 (fun _ => (0 : Int32)) h59 n0 hzJ A58 gb_b58 F_b58_value F_b58_coder hEL wS V_b59 ne_b58_b59) (g := (mkF m 348 #[.val (.int mM), .val (.int pP), .val (.int cC), .val (.int eE), .val (.int wW), .val (.int mU), .val (.int kK), .val (.int p6), .val (.int mc), .val (.ref b1), .unset, .unset] [(.ref b59), (.ref b58), (.ref b58)])) rfl (by rw [hml]; rfl) (lenOf pd23 rfl) rfl (W := 1) (by show 2 * 0 + _ ≤ _; exact Nat.le_of_eq rfl) (hb hby at_348) (by decide) (by decide) (by decide) (by decide) ?_
                rintro T60 L60 v60 X60 ⟨dd, rfl, NL60, K60, G2, G3, G4⟩ hZ hown CL60 rc60
                replace Sf_b58 := rc60.safe A58.lt Sf_b58
                have N60 := Fr.app NJ NL60
                replace A58 := A58.keep K60
                replace Q59 := Q59.keep K60
                replace VF := VF.keep K60 (ninS ne_b1_b58 nin0)
                replace V_b59 := V_b59.keep K60 (ninS (Ne.symm ne_b58_b59) nin0)
                replace hzJ := Nat.le_trans hzJ K60.1
                replace OLJ := OLJ.keep K60 (allS gb_b58 (all0))
                show Go pr ev below _ T60 (mkF m 351 #[.val (.int mM), .val (.int pP), .val (.int cC), .val (.int eE), .val (.int wW), .val (.int mU), .val (.int kK), .val (.int p6), .val (.int mc), .val (.ref b1), .unset, .unset] [(.ref b58)])
                refine Go.of (mkF m 353 #[.val (.int mM), .val (.int pP), .val (.int cC), .val (.int eE), .val (.int wW), .val (.int mU), .val (.int kK), .val (.int p6), .val (.int mc), .val (.ref b1), .val (.ref b58), .unset] []) (fun tt0 kk0 => XS.astore X60.here hx rfl (hb hby at_351) rfl rfl (l' := #[.val (.int mM), .val (.int pP), .val (.int cC), .val (.int eE), .val (.int wW), .val (.int mU), .val (.int kK), .val (.int p6), .val (.int mc), .val (.ref b1), .val (.ref b58), .unset]) rfl kk0) ?_
                refine Go.of (mkF m 388 #[.val (.int mM), .val (.int pP), .val (.int cC), .val (.int eE), .val (.int wW), .val (.int mU), .val (.int kK), .val (.int p6), .val (.int mc), .val (.ref b1), .val (.ref b58), .unset] []) (fun tt0 kk0 => XS.goto X60.here hx rfl (pc0 := 353) (pc' := 388) rfl (hb hby at_353) (by decide) (by decide) kk0) ?_
                refine Go.of (mkF m 389 #[.val (.int mM), .val (.int pP), .val (.int cC), .val (.int eE), .val (.int wW), .val (.int mU), .val (.int kK), .val (.int p6), .val (.int mc), .val (.ref b1), .val (.ref b58), .unset] [.null]) (fun tt0 kk0 => XS.aconstNull X60.here hx rfl (hb hby at_388) kk0) ?_
                refine Go.of (mkF m 391 #[.val (.int mM), .val (.int pP), .val (.int cC), .val (.int eE), .val (.int wW), .val (.int mU), .val (.int kK), .val (.int p6), .val (.int mc), .val (.ref b1), .val (.ref b58), .val .null] []) (fun tt0 kk0 => XS.astore X60.here hx rfl (hb hby at_389) rfl rfl (l' := #[.val (.int mM), .val (.int pP), .val (.int cC), .val (.int eE), .val (.int wW), .val (.int mU), .val (.int kK), .val (.int p6), .val (.int mc), .val (.ref b1), .val (.ref b58), .val .null]) rfl kk0) ?_
                refine Go.of (mkF m 393 #[.val (.int mM), .val (.int pP), .val (.int cC), .val (.int eE), .val (.int wW), .val (.int mU), .val (.int kK), .val (.int p6), .val (.int mc), .val (.ref b1), .val (.ref b58), .val .null] [(.int kK)]) (fun tt0 kk0 => XS.iload X60.here hx rfl (hb hby at_391) rfl kk0) ?_
                refine Go.of (mkF m 394 #[.val (.int mM), .val (.int pP), .val (.int cC), .val (.int eE), .val (.int wW), .val (.int mU), .val (.int kK), .val (.int p6), .val (.int mc), .val (.ref b1), .val (.ref b58), .val .null] [(.int (2 : Int32)), (.int kK)]) (fun tt0 kk0 => XS.iconst X60.here hx rfl (hb hby at_393) kk0) ?_
                refine Go.of (mkF m 430 #[.val (.int mM), .val (.int pP), .val (.int cC), .val (.int eE), .val (.int wW), .val (.int mU), .val (.int kK), .val (.int p6), .val (.int mc), .val (.ref b1), .val (.ref b58), .val .null] []) (fun tt0 kk0 => XS.icmpYes X60.here hx rfl (pc0 := 394) (pc' := 430) rfl (hb hby at_394) rfl (tlt hc145).2.2.1 (by decide) (by decide) kk0) ?_
                refine Go.of (mkF m 432 #[.val (.int mM), .val (.int pP), .val (.int cC), .val (.int eE), .val (.int wW), .val (.int mU), .val (.int kK), .val (.int p6), .val (.int mc), .val (.ref b1), .val (.ref b58), .val .null] [(.ref b58)]) (fun tt0 kk0 => XS.aload X60.here hx rfl (hb hby at_430) rfl rfl kk0) ?_
                refine Go.callS X60 hx hZ (y := (⟨"com/example/sealed_ledger/sealedledger/http/Access$Role", "named", "(Ljava/lang/String;)Lcom/example/sealed_ledger/sealedledger/http/Access$Role;"⟩ : MethodName)) (argsL := [(.ref b58)]) (rest := []) hown (tw63 hw) (tw64 hw) (tw61 hw) (tw65 hw) (by decide) rfl (rmNaD l Z a0 hw [] T60.heap n0 hzJ G1 (O2.ext OLJ.2) P3 va rd wr yv (Sv.ext OLJ.2) (Vv.ext OLJ.2) (Ev.ext OLJ.2) hy0 hy1 t1 d1 t2 d2 yR yW (Er.ext OLJ.2) (Fr1.ext OLJ.2) (E_t1.ext OLJ.2) (C_t1.ext OLJ.2) (V_t1.ext OLJ.2) (A_t1.ext OLJ.2) (Ew.ext OLJ.2) (Fw1.ext OLJ.2) (E_t2.ext OLJ.2) (C_t2.ext OLJ.2) (V_t2.ext OLJ.2) (A_t2.ext OLJ.2) b58 dd 0 (own_lit []) A58 G2 G3 G4 (Nat.ne_of_lt (Nat.lt_of_lt_of_le (Nat.lt_of_lt_of_eq E_t1.lt OLJ.1) gb_b58)) (Nat.ne_of_lt (Nat.lt_of_lt_of_le (Nat.lt_of_lt_of_eq E_t2.lt OLJ.1) gb_b58)) (by decide)) (g := (mkF m 432 #[.val (.int mM), .val (.int pP), .val (.int cC), .val (.int eE), .val (.int wW), .val (.int mU), .val (.int kK), .val (.int p6), .val (.int mc), .val (.ref b1), .val (.ref b58), .val .null] [(.ref b58)])) rfl (by rw [hml]; rfl) (lenOf pd24 rfl) rfl (W := 0) (by show 2 * 0 + _ ≤ _; exact Nat.le_of_eq rfl) (hb hby at_432) (by decide) (by decide) (by decide) (by decide) ?_
                rintro T61 L61 v61 X61 ⟨rfl, NL61, K61⟩
                have N61 := Fr.app N60 NL61
                replace Sf_b58 := Safe.keep K61 sf0 CL60.1 Sf_b58
                replace CL60 := CL60.keep K61 sf0
                replace A58 := A58.keep K61
                replace Q59 := Q59.keep K61
                replace VF := VF.keep K61 nin0
                replace hzJ := Nat.le_trans hzJ K61.1
                replace OLJ := OLJ.keep K61 (all0)
                show Go pr ev below _ T61 (mkF m 435 #[.val (.int mM), .val (.int pP), .val (.int cC), .val (.int eE), .val (.int wW), .val (.int mU), .val (.int kK), .val (.int p6), .val (.int mc), .val (.ref b1), .val (.ref b58), .val .null] [.null])
                refine Go.of (mkF m 437 #[.val (.int mM), .val (.int pP), .val (.int cC), .val (.int eE), .val (.int wW), .val (.int mU), .val (.int kK), .val (.int p6), .val (.int mc), .val (.ref b1), .val (.ref b58), .val .null] [.null, .null]) (fun tt0 kk0 => XS.aload X61.here hx rfl (hb hby at_435) rfl rfl kk0) ?_
                refine Go.of (mkF m 440 #[.val (.int mM), .val (.int pP), .val (.int cC), .val (.int eE), .val (.int wW), .val (.int mU), .val (.int kK), .val (.int p6), .val (.int mc), .val (.ref b1), .val (.ref b58), .val .null] []) (fun tt0 kk0 => Jvm.RoadKit.acmp (g := (mkF m 437 #[.val (.int mM), .val (.int pP), .val (.int cC), .val (.int eE), .val (.int wW), .val (.int mU), .val (.int kK), .val (.int p6), .val (.int mc), .val (.ref b1), .val (.ref b58), .val .null] [.null, .null])) X61 hx rfl (x := .null) (y := .null) rfl rfl (pc0 := 437) (pc' := 440) (same := true) rfl (hb hby at_437) rfl (decide_eq_true rfl) (by decide) (by decide) kk0) ?_
                refine Go.of (mkF m 441 #[.val (.int mM), .val (.int pP), .val (.int cC), .val (.int eE), .val (.int wW), .val (.int mU), .val (.int kK), .val (.int p6), .val (.int mc), .val (.ref b1), .val (.ref b58), .val .null] [(.int (1 : Int32))]) (fun tt0 kk0 => XS.iconst X61.here hx rfl (hb hby at_440) kk0) ?_
                refine Go.of (mkF m 445 #[.val (.int mM), .val (.int pP), .val (.int cC), .val (.int eE), .val (.int wW), .val (.int mU), .val (.int kK), .val (.int p6), .val (.int mc), .val (.ref b1), .val (.ref b58), .val .null] [(.int (1 : Int32))]) (fun tt0 kk0 => XS.goto X61.here hx rfl (pc0 := 441) (pc' := 445) rfl (hb hby at_441) (by decide) (by decide) kk0) ?_
                exact Go.retWC X61 hx hZ hEL rfl CL60 (t := .boolean) hret hlk rfl (Or.inl ⟨rfl, by simp, _, rfl⟩) (hb hby at_445) (by decide) (by decide) ⟨rfl, N61⟩
              ·
                refine Go.of (mkF m 356 #[.val (.int mM), .val (.int pP), .val (.int cC), .val (.int eE), .val (.int wW), .val (.int mU), .val (.int kK), .val (.int p6), .val (.int mc), .val (.ref b1), .unset, .unset] []) (fun tt0 kk0 => XS.icmpYes XJ.here hx rfl (pc0 := 338) (pc' := 356) rfl (hb hby at_338) rfl (feq hc338).2 (by decide) (by decide) kk0) ?_
                refine Go.of (mkF m 358 #[.val (.int mM), .val (.int pP), .val (.int cC), .val (.int eE), .val (.int wW), .val (.int mU), .val (.int kK), .val (.int p6), .val (.int mc), .val (.ref b1), .unset, .unset] [(.int kK)]) (fun tt0 kk0 => XS.iload XJ.here hx rfl (hb hby at_356) rfl kk0) ?_
                refine Go.of (mkF m 360 #[.val (.int mM), .val (.int pP), .val (.int cC), .val (.int eE), .val (.int wW), .val (.int mU), .val (.int kK), .val (.int p6), .val (.int mc), .val (.ref b1), .unset, .unset] [(.int (6 : Int32)), (.int kK)]) (fun tt0 kk0 => XS.bipush XJ.here hx rfl (hb hby at_358) kk0) ?_
                by_cases hc360 : kK = (6 : Int32)
                ·
                  refine Go.of (mkF m 363 #[.val (.int mM), .val (.int pP), .val (.int cC), .val (.int eE), .val (.int wW), .val (.int mU), .val (.int kK), .val (.int p6), .val (.int mc), .val (.ref b1), .unset, .unset] []) (fun tt0 kk0 => XS.icmpNo XJ.here hx rfl (hb hby at_360) rfl (teq hc360).2 kk0) ?_
                  refine Go.of (mkF m 364 #[.val (.int mM), .val (.int pP), .val (.int cC), .val (.int eE), .val (.int wW), .val (.int mU), .val (.int kK), .val (.int p6), .val (.int mc), .val (.ref b1), .unset, .unset] [.null]) (fun tt0 kk0 => XS.aconstNull XJ.here hx rfl (hb hby at_363) kk0) ?_
                  refine Go.of (mkF m 366 #[.val (.int mM), .val (.int pP), .val (.int cC), .val (.int eE), .val (.int wW), .val (.int mU), .val (.int kK), .val (.int p6), .val (.int mc), .val (.ref b1), .val .null, .unset] []) (fun tt0 kk0 => XS.astore XJ.here hx rfl (hb hby at_364) rfl rfl (l' := #[.val (.int mM), .val (.int pP), .val (.int cC), .val (.int eE), .val (.int wW), .val (.int mU), .val (.int kK), .val (.int p6), .val (.int mc), .val (.ref b1), .val .null, .unset]) rfl kk0) ?_
                  refine Go.of (mkF m 388 #[.val (.int mM), .val (.int pP), .val (.int cC), .val (.int eE), .val (.int wW), .val (.int mU), .val (.int kK), .val (.int p6), .val (.int mc), .val (.ref b1), .val .null, .unset] []) (fun tt0 kk0 => XS.goto XJ.here hx rfl (pc0 := 366) (pc' := 388) rfl (hb hby at_366) (by decide) (by decide) kk0) ?_
                  refine Go.of (mkF m 389 #[.val (.int mM), .val (.int pP), .val (.int cC), .val (.int eE), .val (.int wW), .val (.int mU), .val (.int kK), .val (.int p6), .val (.int mc), .val (.ref b1), .val .null, .unset] [.null]) (fun tt0 kk0 => XS.aconstNull XJ.here hx rfl (hb hby at_388) kk0) ?_
                  refine Go.of (mkF m 391 #[.val (.int mM), .val (.int pP), .val (.int cC), .val (.int eE), .val (.int wW), .val (.int mU), .val (.int kK), .val (.int p6), .val (.int mc), .val (.ref b1), .val .null, .val .null] []) (fun tt0 kk0 => XS.astore XJ.here hx rfl (hb hby at_389) rfl rfl (l' := #[.val (.int mM), .val (.int pP), .val (.int cC), .val (.int eE), .val (.int wW), .val (.int mU), .val (.int kK), .val (.int p6), .val (.int mc), .val (.ref b1), .val .null, .val .null]) rfl kk0) ?_
                  refine Go.of (mkF m 393 #[.val (.int mM), .val (.int pP), .val (.int cC), .val (.int eE), .val (.int wW), .val (.int mU), .val (.int kK), .val (.int p6), .val (.int mc), .val (.ref b1), .val .null, .val .null] [(.int kK)]) (fun tt0 kk0 => XS.iload XJ.here hx rfl (hb hby at_391) rfl kk0) ?_
                  refine Go.of (mkF m 394 #[.val (.int mM), .val (.int pP), .val (.int cC), .val (.int eE), .val (.int wW), .val (.int mU), .val (.int kK), .val (.int p6), .val (.int mc), .val (.ref b1), .val .null, .val .null] [(.int (2 : Int32)), (.int kK)]) (fun tt0 kk0 => XS.iconst XJ.here hx rfl (hb hby at_393) kk0) ?_
                  refine Go.of (mkF m 430 #[.val (.int mM), .val (.int pP), .val (.int cC), .val (.int eE), .val (.int wW), .val (.int mU), .val (.int kK), .val (.int p6), .val (.int mc), .val (.ref b1), .val .null, .val .null] []) (fun tt0 kk0 => XS.icmpYes XJ.here hx rfl (pc0 := 394) (pc' := 430) rfl (hb hby at_394) rfl (tlt hc145).2.2.1 (by decide) (by decide) kk0) ?_
                  refine Go.of (mkF m 432 #[.val (.int mM), .val (.int pP), .val (.int cC), .val (.int eE), .val (.int wW), .val (.int mU), .val (.int kK), .val (.int p6), .val (.int mc), .val (.ref b1), .val .null, .val .null] [.null]) (fun tt0 kk0 => XS.aload XJ.here hx rfl (hb hby at_430) rfl rfl kk0) ?_
                  refine Go.callS XJ hx hZ (y := (⟨"com/example/sealed_ledger/sealedledger/http/Access$Role", "named", "(Ljava/lang/String;)Lcom/example/sealed_ledger/sealedledger/http/Access$Role;"⟩ : MethodName)) (argsL := [.null]) (rest := []) hown (tw63 hw) (tw64 hw) (tw61 hw) (tw65 hw) (by decide) eJ (rmNaN l Z a0 hw [] hJ n0 hzJ G1 (O2.ext OLJ.2) P3 va rd wr yv (Sv.ext OLJ.2) (Vv.ext OLJ.2) (Ev.ext OLJ.2) hy0 hy1 t1 d1 t2 d2 yR yW (Er.ext OLJ.2) (Fr1.ext OLJ.2) (E_t1.ext OLJ.2) (C_t1.ext OLJ.2) (V_t1.ext OLJ.2) (A_t1.ext OLJ.2) (Ew.ext OLJ.2) (Fw1.ext OLJ.2) (E_t2.ext OLJ.2) (C_t2.ext OLJ.2) (V_t2.ext OLJ.2) (A_t2.ext OLJ.2)) (g := (mkF m 432 #[.val (.int mM), .val (.int pP), .val (.int cC), .val (.int eE), .val (.int wW), .val (.int mU), .val (.int kK), .val (.int p6), .val (.int mc), .val (.ref b1), .val .null, .val .null] [.null])) rfl (by rw [hml]; rfl) (lenOf pd24 rfl) rfl (W := 0) (by show 2 * 0 + _ ≤ _; exact Nat.le_of_eq rfl) (hb hby at_432) (by decide) (by decide) (by decide) (by decide) ?_
                  rintro T63 L63 v63 X63 ⟨rfl, NL63, K63⟩
                  have N63 := Fr.app NJ NL63
                  replace CLJ := CLJ.keep K63 sf0
                  replace VF := VF.keep K63 nin0
                  replace hzJ := Nat.le_trans hzJ K63.1
                  replace OLJ := OLJ.keep K63 (all0)
                  show Go pr ev below _ T63 (mkF m 435 #[.val (.int mM), .val (.int pP), .val (.int cC), .val (.int eE), .val (.int wW), .val (.int mU), .val (.int kK), .val (.int p6), .val (.int mc), .val (.ref b1), .val .null, .val .null] [.null])
                  refine Go.of (mkF m 437 #[.val (.int mM), .val (.int pP), .val (.int cC), .val (.int eE), .val (.int wW), .val (.int mU), .val (.int kK), .val (.int p6), .val (.int mc), .val (.ref b1), .val .null, .val .null] [.null, .null]) (fun tt0 kk0 => XS.aload X63.here hx rfl (hb hby at_435) rfl rfl kk0) ?_
                  refine Go.of (mkF m 440 #[.val (.int mM), .val (.int pP), .val (.int cC), .val (.int eE), .val (.int wW), .val (.int mU), .val (.int kK), .val (.int p6), .val (.int mc), .val (.ref b1), .val .null, .val .null] []) (fun tt0 kk0 => Jvm.RoadKit.acmp (g := (mkF m 437 #[.val (.int mM), .val (.int pP), .val (.int cC), .val (.int eE), .val (.int wW), .val (.int mU), .val (.int kK), .val (.int p6), .val (.int mc), .val (.ref b1), .val .null, .val .null] [.null, .null])) X63 hx rfl (x := .null) (y := .null) rfl rfl (pc0 := 437) (pc' := 440) (same := true) rfl (hb hby at_437) rfl (decide_eq_true rfl) (by decide) (by decide) kk0) ?_
                  refine Go.of (mkF m 441 #[.val (.int mM), .val (.int pP), .val (.int cC), .val (.int eE), .val (.int wW), .val (.int mU), .val (.int kK), .val (.int p6), .val (.int mc), .val (.ref b1), .val .null, .val .null] [(.int (1 : Int32))]) (fun tt0 kk0 => XS.iconst X63.here hx rfl (hb hby at_440) kk0) ?_
                  refine Go.of (mkF m 445 #[.val (.int mM), .val (.int pP), .val (.int cC), .val (.int eE), .val (.int wW), .val (.int mU), .val (.int kK), .val (.int p6), .val (.int mc), .val (.ref b1), .val .null, .val .null] [(.int (1 : Int32))]) (fun tt0 kk0 => XS.goto X63.here hx rfl (pc0 := 441) (pc' := 445) rfl (hb hby at_441) (by decide) (by decide) kk0) ?_
                  exact Go.retWC X63 hx hZ hEL rfl CLJ (t := .boolean) hret hlk rfl (Or.inl ⟨rfl, by simp, _, rfl⟩) (hb hby at_445) (by decide) (by decide) ⟨rfl, N63⟩
                ·
                  refine Go.of (mkF m 369 #[.val (.int mM), .val (.int pP), .val (.int cC), .val (.int eE), .val (.int wW), .val (.int mU), .val (.int kK), .val (.int p6), .val (.int mc), .val (.ref b1), .unset, .unset] []) (fun tt0 kk0 => XS.icmpYes XJ.here hx rfl (pc0 := 360) (pc' := 369) rfl (hb hby at_360) rfl (feq hc360).2 (by decide) (by decide) kk0) ?_
                  obtain ⟨T65, h65, X65, e65, E65, A65, D65, -, st65⟩ := newO XJ hx hZ hown (tw39 hw) (tw8 hw) (tw7 hw) eJ (g := (mkF m 369 #[.val (.int mM), .val (.int pP), .val (.int cC), .val (.int eE), .val (.int wW), .val (.int mU), .val (.int kK), .val (.int p6), .val (.int mc), .val (.ref b1), .unset, .unset] [])) rfl (hb hby at_369) (by decide) (by decide)
                  obtain ⟨b65, g65⟩ : ∃ z, z = hJ.size := ⟨_, rfl⟩
                  rw [← g65] at A65 D65 st65
                  have ne_b1_b65 : b1 ≠ b65 := Nat.ne_of_lt (Nat.lt_of_lt_of_le VF.lt (Nat.le_of_eq g65.symm))
                  have gb_b65 : n0 ≤ b65 := Nat.le_trans hzJ (Nat.le_of_eq g65.symm)
                  have Sf_b65 := Cld.new CLJ (Nat.le_of_eq g65.symm)
                  replace Sf_b65 := Safe.ext E65 CLJ.1 Sf_b65
                  replace CLJ := CLJ.ext E65
                  replace VF := VF.ext E65
                  replace hzJ := Nat.le_trans hzJ E65.1
                  replace OLJ := OLJ.ext E65
                  have F_b65_value : Fld Z h65 b65 "java/lang/String" "value" "[B" .null := D65 (Or.inr (tw10 hw)) (ty := (.array .byte)) (by decide)
                  have F_b65_coder : Fld Z h65 b65 "java/lang/String" "coder" "B" (.int (0 : Int32)) := D65 (Or.inr (tw11 hw)) (ty := .byte) (by decide)
                  refine Go.of (mkF m 372 #[.val (.int mM), .val (.int pP), .val (.int cC), .val (.int eE), .val (.int wW), .val (.int mU), .val (.int kK), .val (.int p6), .val (.int mc), .val (.ref b1), .unset, .unset] [(.ref b65)]) (st65) ?_
                  refine Go.of (mkF m 373 #[.val (.int mM), .val (.int pP), .val (.int cC), .val (.int eE), .val (.int wW), .val (.int mU), .val (.int kK), .val (.int p6), .val (.int mc), .val (.ref b1), .unset, .unset] [(.ref b65), (.ref b65)]) (fun tt0 kk0 => XS.dup X65.here hx rfl (hb hby at_372) rfl rfl kk0) ?_
                  refine Go.of (mkF m 374 #[.val (.int mM), .val (.int pP), .val (.int cC), .val (.int eE), .val (.int wW), .val (.int mU), .val (.int kK), .val (.int p6), .val (.int mc), .val (.ref b1), .unset, .unset] [(.int (1 : Int32)), (.ref b65), (.ref b65)]) (fun tt0 kk0 => XS.iconst X65.here hx rfl (hb hby at_373) kk0) ?_
                  obtain ⟨T66, h66, k66, X66, e66, E66, A66, Q66, st66⟩ := newPE X65 hx hZ (aty := .char) (tw1 hw) e65 (g := (mkF m 374 #[.val (.int mM), .val (.int pP), .val (.int cC), .val (.int eE), .val (.int wW), .val (.int mU), .val (.int kK), .val (.int p6), .val (.int mc), .val (.ref b1), .unset, .unset] [(.int (1 : Int32)), (.ref b65), (.ref b65)])) rfl (hb hby at_374) rfl (by decide) (cap := 1) (by decide) (by decide) (by decide) (by decide) (ad := "[C") (by decide +kernel)
                  obtain ⟨b66, g66⟩ : ∃ z, z = h65.size := ⟨_, rfl⟩
                  rw [← g66] at A66 Q66 st66
                  have ne_b65_b66 : b65 ≠ b66 := Nat.ne_of_lt (Nat.lt_of_lt_of_le A65.lt (Nat.le_of_eq g66.symm))
                  have ne_b1_b66 : b1 ≠ b66 := Nat.ne_of_lt (Nat.lt_of_lt_of_le VF.lt (Nat.le_of_eq g66.symm))
                  have gb_b66 : n0 ≤ b66 := Nat.le_trans hzJ (Nat.le_of_eq g66.symm)
                  replace Sf_b65 := Safe.ext E66 CLJ.1 Sf_b65
                  replace CLJ := CLJ.ext E66
                  replace F_b65_value := F_b65_value.ext E66
                  replace F_b65_coder := F_b65_coder.ext E66
                  replace A65 := A65.ext E66
                  replace VF := VF.ext E66
                  replace hzJ := Nat.le_trans hzJ E66.1
                  replace OLJ := OLJ.ext E66
                  have V_b66 : Fa Z h66 b66 .char (1 : Int32) (fun i => .int ((fun _ => (0 : Int32)) i)) := Fa.new A66 (by decide)
                  refine Go.of (mkF m 376 #[.val (.int mM), .val (.int pP), .val (.int cC), .val (.int eE), .val (.int wW), .val (.int mU), .val (.int kK), .val (.int p6), .val (.int mc), .val (.ref b1), .unset, .unset] [(.ref b66), (.ref b65), (.ref b65)]) (st66) ?_
                  refine Go.of (mkF m 377 #[.val (.int mM), .val (.int pP), .val (.int cC), .val (.int eE), .val (.int wW), .val (.int mU), .val (.int kK), .val (.int p6), .val (.int mc), .val (.ref b1), .unset, .unset] [(.ref b66), (.ref b66), (.ref b65), (.ref b65)]) (fun tt0 kk0 => XS.dup X66.here hx rfl (hb hby at_376) rfl rfl kk0) ?_
                  refine Go.of (mkF m 378 #[.val (.int mM), .val (.int pP), .val (.int cC), .val (.int eE), .val (.int wW), .val (.int mU), .val (.int kK), .val (.int p6), .val (.int mc), .val (.ref b1), .unset, .unset] [(.int (0 : Int32)), (.ref b66), (.ref b66), (.ref b65), (.ref b65)]) (fun tt0 kk0 => XS.iconst X66.here hx rfl (hb hby at_377) kk0) ?_
                  refine Go.of (mkF m 380 #[.val (.int mM), .val (.int pP), .val (.int cC), .val (.int eE), .val (.int wW), .val (.int mU), .val (.int kK), .val (.int p6), .val (.int mc), .val (.ref b1), .unset, .unset] [(.ref b1), (.int (0 : Int32)), (.ref b66), (.ref b66), (.ref b65), (.ref b65)]) (fun tt0 kk0 => XS.aload X66.here hx rfl (hb hby at_378) rfl rfl kk0) ?_
                  refine Go.of (mkF m 381 #[.val (.int mM), .val (.int pP), .val (.int cC), .val (.int eE), .val (.int wW), .val (.int mU), .val (.int kK), .val (.int p6), .val (.int mc), .val (.ref b1), .unset, .unset] [(.int (0 : Int32)), (.ref b1), (.int (0 : Int32)), (.ref b66), (.ref b66), (.ref b65), (.ref b65)]) (fun tt0 kk0 => XS.iconst X66.here hx rfl (hb hby at_380) kk0) ?_
                  refine Go.caload X66 hx hZ e66 VF (by decide) (by decide) (g := (mkF m 381 #[.val (.int mM), .val (.int pP), .val (.int cC), .val (.int eE), .val (.int wW), .val (.int mU), .val (.int kK), .val (.int p6), .val (.int mc), .val (.ref b1), .unset, .unset] [(.int (0 : Int32)), (.ref b1), (.int (0 : Int32)), (.ref b66), (.ref b66), (.ref b65), (.ref b65)])) rfl rfl (hb hby at_381) ?_
                  show Go pr ev below _ T66 (mkF m 382 #[.val (.int mM), .val (.int pP), .val (.int cC), .val (.int eE), .val (.int wW), .val (.int mU), .val (.int kK), .val (.int p6), .val (.int mc), .val (.ref b1), .unset, .unset] [(.int (yF (0 : Int32))), (.int (0 : Int32)), (.ref b66), (.ref b66), (.ref b65), (.ref b65)])
                  show Go pr ev below _ T66 (mkF m 382 #[.val (.int mM), .val (.int pP), .val (.int cC), .val (.int eE), .val (.int wW), .val (.int mU), .val (.int kK), .val (.int p6), .val (.int mc), .val (.ref b1), .unset, .unset] [(.int (yF (0 : Int32))), (.int (0 : Int32)), (.ref b66), (.ref b66), (.ref b65), (.ref b65)])
                  refine Go.castore X66 hx hZ e66 V_b66 (by decide) (by decide) (g := (mkF m 382 #[.val (.int mM), .val (.int pP), .val (.int cC), .val (.int eE), .val (.int wW), .val (.int mU), .val (.int kK), .val (.int p6), .val (.int mc), .val (.ref b1), .unset, .unset] [(.int (yF (0 : Int32))), (.int (0 : Int32)), (.ref b66), (.ref b66), (.ref b65), (.ref b65)])) rfl rfl (hb hby at_382) ?_
                  rintro T67 h67 X67 e67 W67 V67
                  have sw68 := (Fa.safe (EL := own_EL) hZ V_b66 (by decide))
                  replace Sf_b65 := Safe.wr W67 sw68 CLJ.1 Sf_b65
                  replace CLJ := CLJ.wr W67 sw68
                  replace F_b65_value := F_b65_value.other W67 (Or.inl ne_b65_b66)
                  replace F_b65_coder := F_b65_coder.other W67 (Or.inl ne_b65_b66)
                  replace A65 := A65.wr W67
                  replace Q66 := Q66.wr W67
                  replace VF := VF.other W67 ne_b1_b66
                  replace hzJ := Nat.le_trans hzJ (Nat.le_of_eq W67.size.symm)
                  replace OLJ := OLJ.wr W67 gb_b66
                  replace V_b66 := V67
                  rw [show nar .char (yF (0 : Int32)) = (yF (0 : Int32)) from own_nar8 (hlat _)] at V_b66
                  have N67 := Fr.snoc X67 NJ gb_b66
                  show Go pr ev below _ T67 (mkF m 383 #[.val (.int mM), .val (.int pP), .val (.int cC), .val (.int eE), .val (.int wW), .val (.int mU), .val (.int kK), .val (.int p6), .val (.int mc), .val (.ref b1), .unset, .unset] [(.ref b66), (.ref b65), (.ref b65)])
                  obtain ⟨kc69, VC69⟩ : ∃ k, Arv Z h67 b66 k .char (1 : Int32) (List.map Value.int [(yF (0 : Int32))]) (.int (0 : Int32)) := Fa.toArv V_b66 (own_ch1 (yF (0 : Int32)))
                  have hws69 : ∀ d ∈ StrChars.Road.words, d.before a0 Z = true := fun d hd => hw d ((by decide +kernel : ∀ d ∈ StrChars.Road.words, d ∈ tables_1) d hd)
                  refine Go.initB X67 hx hZ (y := (⟨"java/lang/String", "<init>", "([C)V"⟩ : MethodName)) (a := b65) (argsL := [(.ref b66)]) (rest := [(.ref b65)]) hown rfl (tw40 hw) (tw41 hw) (tw42 hw) (by decide) e67 (StrChars.Road.backV (W := 1) hZ hws69 (kI := 4) (tw8 hw) (cs := [(yF (0 : Int32))]) (bs := [((yF (0 : Int32))).toInt8.toInt32]) (n := 1) gb_b65 hzJ A65 F_b65_value F_b65_coder VC69 (O2.ext OLJ.2) P3 rfl rfl (by decide) (by decide) ((List.forall_mem_cons.mpr ⟨hlat _, fun _ z => absurd z List.not_mem_nil⟩)) rfl (by decide) (by decide)) (g := (mkF m 383 #[.val (.int mM), .val (.int pP), .val (.int cC), .val (.int eE), .val (.int wW), .val (.int mU), .val (.int kK), .val (.int p6), .val (.int mc), .val (.ref b1), .unset, .unset] [(.ref b66), (.ref b65), (.ref b65)])) rfl (by rw [hml]; rfl) (lenOf pd23 rfl) rfl (by show 2 * 0 + _ ≤ _; exact Nat.le_of_eq rfl) (hb hby at_383) (by decide) (by decide) ?_
                  rintro T69 L69 v69 X69 ⟨rfl, NL69, K69, Es69, Fc69, t69, kb69, gt69, sz69, ne69, Fv69, Vb69⟩
                  have N69 := Fr.app N67 NL69
                  have ne_b66_t69 : b66 ≠ t69 := Nat.ne_of_lt (Nat.lt_of_lt_of_le Q66.lt sz69)
                  have ne_b1_t69 : b1 ≠ t69 := Nat.ne_of_lt (Nat.lt_of_lt_of_le VF.lt sz69)
                  have ne_b65_t69 : b65 ≠ t69 := fun q => ne69 q.symm
                  have sw70 := sfS Sf_b65 (sf0)
                  replace Sf_b65 := Safe.keep K69 sw70 CLJ.1 Sf_b65
                  replace CLJ := CLJ.keep K69 sw70
                  replace A65 := A65.keep K69
                  replace Q66 := Q66.keep K69
                  replace VF := VF.keep K69 (ninS ne_b1_b65 nin0)
                  replace V_b66 := V_b66.keep K69 (ninS (Ne.symm ne_b65_b66) nin0)
                  replace hzJ := Nat.le_trans hzJ K69.1
                  replace OLJ := OLJ.keep K69 (allS gb_b65 (all0))
                  show Go pr ev below _ T69 (mkF m 386 #[.val (.int mM), .val (.int pP), .val (.int cC), .val (.int eE), .val (.int wW), .val (.int mU), .val (.int kK), .val (.int p6), .val (.int mc), .val (.ref b1), .unset, .unset] [(.ref b65)])
                  have VB : Fa Z T69.heap t69 .byte 1 (fun i => .int (own_lit [((yF (0 : Int32))).toInt8.toInt32] i)) := (Fa.ofArv Vb69).congr fun j q0 q1 => own_lit_ok [((yF (0 : Int32))).toInt8.toInt32] j
                  refine Go.of (mkF m 388 #[.val (.int mM), .val (.int pP), .val (.int cC), .val (.int eE), .val (.int wW), .val (.int mU), .val (.int kK), .val (.int p6), .val (.int mc), .val (.ref b1), .val (.ref b65), .unset] []) (fun tt0 kk0 => XS.astore X69.here hx rfl (hb hby at_386) rfl rfl (l' := #[.val (.int mM), .val (.int pP), .val (.int cC), .val (.int eE), .val (.int wW), .val (.int mU), .val (.int kK), .val (.int p6), .val (.int mc), .val (.ref b1), .val (.ref b65), .unset]) rfl kk0) ?_
                  refine Go.of (mkF m 389 #[.val (.int mM), .val (.int pP), .val (.int cC), .val (.int eE), .val (.int wW), .val (.int mU), .val (.int kK), .val (.int p6), .val (.int mc), .val (.ref b1), .val (.ref b65), .unset] [.null]) (fun tt0 kk0 => XS.aconstNull X69.here hx rfl (hb hby at_388) kk0) ?_
                  refine Go.of (mkF m 391 #[.val (.int mM), .val (.int pP), .val (.int cC), .val (.int eE), .val (.int wW), .val (.int mU), .val (.int kK), .val (.int p6), .val (.int mc), .val (.ref b1), .val (.ref b65), .val .null] []) (fun tt0 kk0 => XS.astore X69.here hx rfl (hb hby at_389) rfl rfl (l' := #[.val (.int mM), .val (.int pP), .val (.int cC), .val (.int eE), .val (.int wW), .val (.int mU), .val (.int kK), .val (.int p6), .val (.int mc), .val (.ref b1), .val (.ref b65), .val .null]) rfl kk0) ?_
                  refine Go.of (mkF m 393 #[.val (.int mM), .val (.int pP), .val (.int cC), .val (.int eE), .val (.int wW), .val (.int mU), .val (.int kK), .val (.int p6), .val (.int mc), .val (.ref b1), .val (.ref b65), .val .null] [(.int kK)]) (fun tt0 kk0 => XS.iload X69.here hx rfl (hb hby at_391) rfl kk0) ?_
                  refine Go.of (mkF m 394 #[.val (.int mM), .val (.int pP), .val (.int cC), .val (.int eE), .val (.int wW), .val (.int mU), .val (.int kK), .val (.int p6), .val (.int mc), .val (.ref b1), .val (.ref b65), .val .null] [(.int (2 : Int32)), (.int kK)]) (fun tt0 kk0 => XS.iconst X69.here hx rfl (hb hby at_393) kk0) ?_
                  refine Go.of (mkF m 430 #[.val (.int mM), .val (.int pP), .val (.int cC), .val (.int eE), .val (.int wW), .val (.int mU), .val (.int kK), .val (.int p6), .val (.int mc), .val (.ref b1), .val (.ref b65), .val .null] []) (fun tt0 kk0 => XS.icmpYes X69.here hx rfl (pc0 := 394) (pc' := 430) rfl (hb hby at_394) rfl (tlt hc145).2.2.1 (by decide) (by decide) kk0) ?_
                  refine Go.of (mkF m 432 #[.val (.int mM), .val (.int pP), .val (.int cC), .val (.int eE), .val (.int wW), .val (.int mU), .val (.int kK), .val (.int p6), .val (.int mc), .val (.ref b1), .val (.ref b65), .val .null] [(.ref b65)]) (fun tt0 kk0 => XS.aload X69.here hx rfl (hb hby at_430) rfl rfl kk0) ?_
                  refine Go.callS X69 hx hZ (y := (⟨"com/example/sealed_ledger/sealedledger/http/Access$Role", "named", "(Ljava/lang/String;)Lcom/example/sealed_ledger/sealedledger/http/Access$Role;"⟩ : MethodName)) (argsL := [(.ref b65)]) (rest := []) hown (tw63 hw) (tw64 hw) (tw61 hw) (tw65 hw) (by decide) rfl (rmNaD l Z a0 hw [] T69.heap n0 hzJ G1 (O2.ext OLJ.2) P3 va rd wr yv (Sv.ext OLJ.2) (Vv.ext OLJ.2) (Ev.ext OLJ.2) hy0 hy1 t1 d1 t2 d2 yR yW (Er.ext OLJ.2) (Fr1.ext OLJ.2) (E_t1.ext OLJ.2) (C_t1.ext OLJ.2) (V_t1.ext OLJ.2) (A_t1.ext OLJ.2) (Ew.ext OLJ.2) (Fw1.ext OLJ.2) (E_t2.ext OLJ.2) (C_t2.ext OLJ.2) (V_t2.ext OLJ.2) (A_t2.ext OLJ.2) b65 t69 1 (own_lit [((yF (0 : Int32))).toInt8.toInt32]) A65 Fc69 Fv69 VB (Nat.ne_of_lt (Nat.lt_of_lt_of_le (Nat.lt_of_lt_of_eq E_t1.lt OLJ.1) gb_b65)) (Nat.ne_of_lt (Nat.lt_of_lt_of_le (Nat.lt_of_lt_of_eq E_t2.lt OLJ.1) gb_b65)) (by decide)) (g := (mkF m 432 #[.val (.int mM), .val (.int pP), .val (.int cC), .val (.int eE), .val (.int wW), .val (.int mU), .val (.int kK), .val (.int p6), .val (.int mc), .val (.ref b1), .val (.ref b65), .val .null] [(.ref b65)])) rfl (by rw [hml]; rfl) (lenOf pd24 rfl) rfl (W := 0) (by show 2 * 0 + _ ≤ _; exact Nat.le_of_eq rfl) (hb hby at_432) (by decide) (by decide) (by decide) (by decide) ?_
                  rintro T71 L71 v71 X71 ⟨rfl, NL71, K71⟩
                  have N71 := Fr.app N69 NL71
                  replace Sf_b65 := Safe.keep K71 sf0 CLJ.1 Sf_b65
                  replace CLJ := CLJ.keep K71 sf0
                  replace Fc69 := Fc69.keep K71 nin0
                  replace Fv69 := Fv69.keep K71 nin0
                  replace A65 := A65.keep K71
                  replace Q66 := Q66.keep K71
                  replace VF := VF.keep K71 nin0
                  replace VB := VB.keep K71 nin0
                  replace hzJ := Nat.le_trans hzJ K71.1
                  replace OLJ := OLJ.keep K71 (all0)
                  show Go pr ev below _ T71 (mkF m 435 #[.val (.int mM), .val (.int pP), .val (.int cC), .val (.int eE), .val (.int wW), .val (.int mU), .val (.int kK), .val (.int p6), .val (.int mc), .val (.ref b1), .val (.ref b65), .val .null] [.null])
                  refine Go.of (mkF m 437 #[.val (.int mM), .val (.int pP), .val (.int cC), .val (.int eE), .val (.int wW), .val (.int mU), .val (.int kK), .val (.int p6), .val (.int mc), .val (.ref b1), .val (.ref b65), .val .null] [.null, .null]) (fun tt0 kk0 => XS.aload X71.here hx rfl (hb hby at_435) rfl rfl kk0) ?_
                  refine Go.of (mkF m 440 #[.val (.int mM), .val (.int pP), .val (.int cC), .val (.int eE), .val (.int wW), .val (.int mU), .val (.int kK), .val (.int p6), .val (.int mc), .val (.ref b1), .val (.ref b65), .val .null] []) (fun tt0 kk0 => Jvm.RoadKit.acmp (g := (mkF m 437 #[.val (.int mM), .val (.int pP), .val (.int cC), .val (.int eE), .val (.int wW), .val (.int mU), .val (.int kK), .val (.int p6), .val (.int mc), .val (.ref b1), .val (.ref b65), .val .null] [.null, .null])) X71 hx rfl (x := .null) (y := .null) rfl rfl (pc0 := 437) (pc' := 440) (same := true) rfl (hb hby at_437) rfl (decide_eq_true rfl) (by decide) (by decide) kk0) ?_
                  refine Go.of (mkF m 441 #[.val (.int mM), .val (.int pP), .val (.int cC), .val (.int eE), .val (.int wW), .val (.int mU), .val (.int kK), .val (.int p6), .val (.int mc), .val (.ref b1), .val (.ref b65), .val .null] [(.int (1 : Int32))]) (fun tt0 kk0 => XS.iconst X71.here hx rfl (hb hby at_440) kk0) ?_
                  refine Go.of (mkF m 445 #[.val (.int mM), .val (.int pP), .val (.int cC), .val (.int eE), .val (.int wW), .val (.int mU), .val (.int kK), .val (.int p6), .val (.int mc), .val (.ref b1), .val (.ref b65), .val .null] [(.int (1 : Int32))]) (fun tt0 kk0 => XS.goto X71.here hx rfl (pc0 := 441) (pc' := 445) rfl (hb hby at_441) (by decide) (by decide) kk0) ?_
                  exact Go.retWC X71 hx hZ hEL rfl CLJ (t := .boolean) hret hlk rfl (Or.inl ⟨rfl, by simp, _, rfl⟩) (hb hby at_445) (by decide) (by decide) ⟨rfl, N71⟩
        ·
          refine Go.of (mkF m 148 #[.val (.int mM), .val (.int pP), .val (.int cC), .val (.int eE), .val (.int wW), .val (.int mU), .val (.int kK), .val (.int p6), .val (.int mc), .val (.ref b1), .unset, .unset] []) (fun tt0 kk0 => XS.icmpNo XJ.here hx rfl (hb hby at_145) rfl (flt hc145).2.2.1 kk0) ?_
          obtain ⟨T73, h73, X73, e73, E73, A73, D73, -, st73⟩ := newO XJ hx hZ hown (tw39 hw) (tw8 hw) (tw7 hw) eJ (g := (mkF m 148 #[.val (.int mM), .val (.int pP), .val (.int cC), .val (.int eE), .val (.int wW), .val (.int mU), .val (.int kK), .val (.int p6), .val (.int mc), .val (.ref b1), .unset, .unset] [])) rfl (hb hby at_148) (by decide) (by decide)
          obtain ⟨b73, g73⟩ : ∃ z, z = hJ.size := ⟨_, rfl⟩
          rw [← g73] at A73 D73 st73
          have ne_b1_b73 : b1 ≠ b73 := Nat.ne_of_lt (Nat.lt_of_lt_of_le VF.lt (Nat.le_of_eq g73.symm))
          have gb_b73 : n0 ≤ b73 := Nat.le_trans hzJ (Nat.le_of_eq g73.symm)
          have Sf_b73 := Cld.new CLJ (Nat.le_of_eq g73.symm)
          replace Sf_b73 := Safe.ext E73 CLJ.1 Sf_b73
          replace CLJ := CLJ.ext E73
          replace VF := VF.ext E73
          replace hzJ := Nat.le_trans hzJ E73.1
          replace OLJ := OLJ.ext E73
          have F_b73_value : Fld Z h73 b73 "java/lang/String" "value" "[B" .null := D73 (Or.inr (tw10 hw)) (ty := (.array .byte)) (by decide)
          have F_b73_coder : Fld Z h73 b73 "java/lang/String" "coder" "B" (.int (0 : Int32)) := D73 (Or.inr (tw11 hw)) (ty := .byte) (by decide)
          refine Go.of (mkF m 151 #[.val (.int mM), .val (.int pP), .val (.int cC), .val (.int eE), .val (.int wW), .val (.int mU), .val (.int kK), .val (.int p6), .val (.int mc), .val (.ref b1), .unset, .unset] [(.ref b73)]) (st73) ?_
          refine Go.of (mkF m 152 #[.val (.int mM), .val (.int pP), .val (.int cC), .val (.int eE), .val (.int wW), .val (.int mU), .val (.int kK), .val (.int p6), .val (.int mc), .val (.ref b1), .unset, .unset] [(.ref b73), (.ref b73)]) (fun tt0 kk0 => XS.dup X73.here hx rfl (hb hby at_151) rfl rfl kk0) ?_
          refine Go.of (mkF m 154 #[.val (.int mM), .val (.int pP), .val (.int cC), .val (.int eE), .val (.int wW), .val (.int mU), .val (.int kK), .val (.int p6), .val (.int mc), .val (.ref b1), .unset, .unset] [(.int (6 : Int32)), (.ref b73), (.ref b73)]) (fun tt0 kk0 => XS.bipush X73.here hx rfl (hb hby at_152) kk0) ?_
          obtain ⟨T74, h74, k74, X74, e74, E74, A74, Q74, st74⟩ := newPE X73 hx hZ (aty := .char) (tw1 hw) e73 (g := (mkF m 154 #[.val (.int mM), .val (.int pP), .val (.int cC), .val (.int eE), .val (.int wW), .val (.int mU), .val (.int kK), .val (.int p6), .val (.int mc), .val (.ref b1), .unset, .unset] [(.int (6 : Int32)), (.ref b73), (.ref b73)])) rfl (hb hby at_154) rfl (by decide) (cap := 6) (by decide) (by decide) (by decide) (by decide) (ad := "[C") (by decide +kernel)
          obtain ⟨b74, g74⟩ : ∃ z, z = h73.size := ⟨_, rfl⟩
          rw [← g74] at A74 Q74 st74
          have ne_b73_b74 : b73 ≠ b74 := Nat.ne_of_lt (Nat.lt_of_lt_of_le A73.lt (Nat.le_of_eq g74.symm))
          have ne_b1_b74 : b1 ≠ b74 := Nat.ne_of_lt (Nat.lt_of_lt_of_le VF.lt (Nat.le_of_eq g74.symm))
          have gb_b74 : n0 ≤ b74 := Nat.le_trans hzJ (Nat.le_of_eq g74.symm)
          replace Sf_b73 := Safe.ext E74 CLJ.1 Sf_b73
          replace CLJ := CLJ.ext E74
          replace F_b73_value := F_b73_value.ext E74
          replace F_b73_coder := F_b73_coder.ext E74
          replace A73 := A73.ext E74
          replace VF := VF.ext E74
          replace hzJ := Nat.le_trans hzJ E74.1
          replace OLJ := OLJ.ext E74
          have V_b74 : Fa Z h74 b74 .char (6 : Int32) (fun i => .int ((fun _ => (0 : Int32)) i)) := Fa.new A74 (by decide)
          refine Go.of (mkF m 156 #[.val (.int mM), .val (.int pP), .val (.int cC), .val (.int eE), .val (.int wW), .val (.int mU), .val (.int kK), .val (.int p6), .val (.int mc), .val (.ref b1), .unset, .unset] [(.ref b74), (.ref b73), (.ref b73)]) (st74) ?_
          refine Go.of (mkF m 157 #[.val (.int mM), .val (.int pP), .val (.int cC), .val (.int eE), .val (.int wW), .val (.int mU), .val (.int kK), .val (.int p6), .val (.int mc), .val (.ref b1), .unset, .unset] [(.ref b74), (.ref b74), (.ref b73), (.ref b73)]) (fun tt0 kk0 => XS.dup X74.here hx rfl (hb hby at_156) rfl rfl kk0) ?_
          refine Go.of (mkF m 158 #[.val (.int mM), .val (.int pP), .val (.int cC), .val (.int eE), .val (.int wW), .val (.int mU), .val (.int kK), .val (.int p6), .val (.int mc), .val (.ref b1), .unset, .unset] [(.int (0 : Int32)), (.ref b74), (.ref b74), (.ref b73), (.ref b73)]) (fun tt0 kk0 => XS.iconst X74.here hx rfl (hb hby at_157) kk0) ?_
          refine Go.of (mkF m 160 #[.val (.int mM), .val (.int pP), .val (.int cC), .val (.int eE), .val (.int wW), .val (.int mU), .val (.int kK), .val (.int p6), .val (.int mc), .val (.ref b1), .unset, .unset] [(.ref b1), (.int (0 : Int32)), (.ref b74), (.ref b74), (.ref b73), (.ref b73)]) (fun tt0 kk0 => XS.aload X74.here hx rfl (hb hby at_158) rfl rfl kk0) ?_
          refine Go.of (mkF m 161 #[.val (.int mM), .val (.int pP), .val (.int cC), .val (.int eE), .val (.int wW), .val (.int mU), .val (.int kK), .val (.int p6), .val (.int mc), .val (.ref b1), .unset, .unset] [(.int (0 : Int32)), (.ref b1), (.int (0 : Int32)), (.ref b74), (.ref b74), (.ref b73), (.ref b73)]) (fun tt0 kk0 => XS.iconst X74.here hx rfl (hb hby at_160) kk0) ?_
          refine Go.caload X74 hx hZ e74 VF (by decide) (by decide) (g := (mkF m 161 #[.val (.int mM), .val (.int pP), .val (.int cC), .val (.int eE), .val (.int wW), .val (.int mU), .val (.int kK), .val (.int p6), .val (.int mc), .val (.ref b1), .unset, .unset] [(.int (0 : Int32)), (.ref b1), (.int (0 : Int32)), (.ref b74), (.ref b74), (.ref b73), (.ref b73)])) rfl rfl (hb hby at_161) ?_
          show Go pr ev below _ T74 (mkF m 162 #[.val (.int mM), .val (.int pP), .val (.int cC), .val (.int eE), .val (.int wW), .val (.int mU), .val (.int kK), .val (.int p6), .val (.int mc), .val (.ref b1), .unset, .unset] [(.int (yF (0 : Int32))), (.int (0 : Int32)), (.ref b74), (.ref b74), (.ref b73), (.ref b73)])
          show Go pr ev below _ T74 (mkF m 162 #[.val (.int mM), .val (.int pP), .val (.int cC), .val (.int eE), .val (.int wW), .val (.int mU), .val (.int kK), .val (.int p6), .val (.int mc), .val (.ref b1), .unset, .unset] [(.int (yF (0 : Int32))), (.int (0 : Int32)), (.ref b74), (.ref b74), (.ref b73), (.ref b73)])
          refine Go.castore X74 hx hZ e74 V_b74 (by decide) (by decide) (g := (mkF m 162 #[.val (.int mM), .val (.int pP), .val (.int cC), .val (.int eE), .val (.int wW), .val (.int mU), .val (.int kK), .val (.int p6), .val (.int mc), .val (.ref b1), .unset, .unset] [(.int (yF (0 : Int32))), (.int (0 : Int32)), (.ref b74), (.ref b74), (.ref b73), (.ref b73)])) rfl rfl (hb hby at_162) ?_
          rintro T75 h75 X75 e75 W75 V75
          have sw76 := (Fa.safe (EL := own_EL) hZ V_b74 (by decide))
          replace Sf_b73 := Safe.wr W75 sw76 CLJ.1 Sf_b73
          replace CLJ := CLJ.wr W75 sw76
          replace F_b73_value := F_b73_value.other W75 (Or.inl ne_b73_b74)
          replace F_b73_coder := F_b73_coder.other W75 (Or.inl ne_b73_b74)
          replace A73 := A73.wr W75
          replace Q74 := Q74.wr W75
          replace VF := VF.other W75 ne_b1_b74
          replace hzJ := Nat.le_trans hzJ (Nat.le_of_eq W75.size.symm)
          replace OLJ := OLJ.wr W75 gb_b74
          replace V_b74 := V75
          rw [show nar .char (yF (0 : Int32)) = (yF (0 : Int32)) from own_nar8 (hlat _)] at V_b74
          have N75 := Fr.snoc X75 NJ gb_b74
          show Go pr ev below _ T75 (mkF m 163 #[.val (.int mM), .val (.int pP), .val (.int cC), .val (.int eE), .val (.int wW), .val (.int mU), .val (.int kK), .val (.int p6), .val (.int mc), .val (.ref b1), .unset, .unset] [(.ref b74), (.ref b73), (.ref b73)])
          refine Go.of (mkF m 164 #[.val (.int mM), .val (.int pP), .val (.int cC), .val (.int eE), .val (.int wW), .val (.int mU), .val (.int kK), .val (.int p6), .val (.int mc), .val (.ref b1), .unset, .unset] [(.ref b74), (.ref b74), (.ref b73), (.ref b73)]) (fun tt0 kk0 => XS.dup X75.here hx rfl (hb hby at_163) rfl rfl kk0) ?_
          refine Go.of (mkF m 165 #[.val (.int mM), .val (.int pP), .val (.int cC), .val (.int eE), .val (.int wW), .val (.int mU), .val (.int kK), .val (.int p6), .val (.int mc), .val (.ref b1), .unset, .unset] [(.int (1 : Int32)), (.ref b74), (.ref b74), (.ref b73), (.ref b73)]) (fun tt0 kk0 => XS.iconst X75.here hx rfl (hb hby at_164) kk0) ?_
          refine Go.of (mkF m 167 #[.val (.int mM), .val (.int pP), .val (.int cC), .val (.int eE), .val (.int wW), .val (.int mU), .val (.int kK), .val (.int p6), .val (.int mc), .val (.ref b1), .unset, .unset] [(.ref b1), (.int (1 : Int32)), (.ref b74), (.ref b74), (.ref b73), (.ref b73)]) (fun tt0 kk0 => XS.aload X75.here hx rfl (hb hby at_165) rfl rfl kk0) ?_
          refine Go.of (mkF m 168 #[.val (.int mM), .val (.int pP), .val (.int cC), .val (.int eE), .val (.int wW), .val (.int mU), .val (.int kK), .val (.int p6), .val (.int mc), .val (.ref b1), .unset, .unset] [(.int (1 : Int32)), (.ref b1), (.int (1 : Int32)), (.ref b74), (.ref b74), (.ref b73), (.ref b73)]) (fun tt0 kk0 => XS.iconst X75.here hx rfl (hb hby at_167) kk0) ?_
          refine Go.caload X75 hx hZ e75 VF (by decide) (by decide) (g := (mkF m 168 #[.val (.int mM), .val (.int pP), .val (.int cC), .val (.int eE), .val (.int wW), .val (.int mU), .val (.int kK), .val (.int p6), .val (.int mc), .val (.ref b1), .unset, .unset] [(.int (1 : Int32)), (.ref b1), (.int (1 : Int32)), (.ref b74), (.ref b74), (.ref b73), (.ref b73)])) rfl rfl (hb hby at_168) ?_
          show Go pr ev below _ T75 (mkF m 169 #[.val (.int mM), .val (.int pP), .val (.int cC), .val (.int eE), .val (.int wW), .val (.int mU), .val (.int kK), .val (.int p6), .val (.int mc), .val (.ref b1), .unset, .unset] [(.int (yF (1 : Int32))), (.int (1 : Int32)), (.ref b74), (.ref b74), (.ref b73), (.ref b73)])
          show Go pr ev below _ T75 (mkF m 169 #[.val (.int mM), .val (.int pP), .val (.int cC), .val (.int eE), .val (.int wW), .val (.int mU), .val (.int kK), .val (.int p6), .val (.int mc), .val (.ref b1), .unset, .unset] [(.int (yF (1 : Int32))), (.int (1 : Int32)), (.ref b74), (.ref b74), (.ref b73), (.ref b73)])
          refine Go.castore X75 hx hZ e75 V_b74 (by decide) (by decide) (g := (mkF m 169 #[.val (.int mM), .val (.int pP), .val (.int cC), .val (.int eE), .val (.int wW), .val (.int mU), .val (.int kK), .val (.int p6), .val (.int mc), .val (.ref b1), .unset, .unset] [(.int (yF (1 : Int32))), (.int (1 : Int32)), (.ref b74), (.ref b74), (.ref b73), (.ref b73)])) rfl rfl (hb hby at_169) ?_
          rintro T77 h77 X77 e77 W77 V77
          have sw78 := (Fa.safe (EL := own_EL) hZ V_b74 (by decide))
          replace Sf_b73 := Safe.wr W77 sw78 CLJ.1 Sf_b73
          replace CLJ := CLJ.wr W77 sw78
          replace F_b73_value := F_b73_value.other W77 (Or.inl ne_b73_b74)
          replace F_b73_coder := F_b73_coder.other W77 (Or.inl ne_b73_b74)
          replace A73 := A73.wr W77
          replace Q74 := Q74.wr W77
          replace VF := VF.other W77 ne_b1_b74
          replace hzJ := Nat.le_trans hzJ (Nat.le_of_eq W77.size.symm)
          replace OLJ := OLJ.wr W77 gb_b74
          replace V_b74 := V77
          rw [show nar .char (yF (1 : Int32)) = (yF (1 : Int32)) from own_nar8 (hlat _)] at V_b74
          have N77 := Fr.snoc X77 N75 gb_b74
          show Go pr ev below _ T77 (mkF m 170 #[.val (.int mM), .val (.int pP), .val (.int cC), .val (.int eE), .val (.int wW), .val (.int mU), .val (.int kK), .val (.int p6), .val (.int mc), .val (.ref b1), .unset, .unset] [(.ref b74), (.ref b73), (.ref b73)])
          refine Go.of (mkF m 171 #[.val (.int mM), .val (.int pP), .val (.int cC), .val (.int eE), .val (.int wW), .val (.int mU), .val (.int kK), .val (.int p6), .val (.int mc), .val (.ref b1), .unset, .unset] [(.ref b74), (.ref b74), (.ref b73), (.ref b73)]) (fun tt0 kk0 => XS.dup X77.here hx rfl (hb hby at_170) rfl rfl kk0) ?_
          refine Go.of (mkF m 172 #[.val (.int mM), .val (.int pP), .val (.int cC), .val (.int eE), .val (.int wW), .val (.int mU), .val (.int kK), .val (.int p6), .val (.int mc), .val (.ref b1), .unset, .unset] [(.int (2 : Int32)), (.ref b74), (.ref b74), (.ref b73), (.ref b73)]) (fun tt0 kk0 => XS.iconst X77.here hx rfl (hb hby at_171) kk0) ?_
          refine Go.of (mkF m 174 #[.val (.int mM), .val (.int pP), .val (.int cC), .val (.int eE), .val (.int wW), .val (.int mU), .val (.int kK), .val (.int p6), .val (.int mc), .val (.ref b1), .unset, .unset] [(.ref b1), (.int (2 : Int32)), (.ref b74), (.ref b74), (.ref b73), (.ref b73)]) (fun tt0 kk0 => XS.aload X77.here hx rfl (hb hby at_172) rfl rfl kk0) ?_
          refine Go.of (mkF m 175 #[.val (.int mM), .val (.int pP), .val (.int cC), .val (.int eE), .val (.int wW), .val (.int mU), .val (.int kK), .val (.int p6), .val (.int mc), .val (.ref b1), .unset, .unset] [(.int (2 : Int32)), (.ref b1), (.int (2 : Int32)), (.ref b74), (.ref b74), (.ref b73), (.ref b73)]) (fun tt0 kk0 => XS.iconst X77.here hx rfl (hb hby at_174) kk0) ?_
          refine Go.caload X77 hx hZ e77 VF (by decide) (by decide) (g := (mkF m 175 #[.val (.int mM), .val (.int pP), .val (.int cC), .val (.int eE), .val (.int wW), .val (.int mU), .val (.int kK), .val (.int p6), .val (.int mc), .val (.ref b1), .unset, .unset] [(.int (2 : Int32)), (.ref b1), (.int (2 : Int32)), (.ref b74), (.ref b74), (.ref b73), (.ref b73)])) rfl rfl (hb hby at_175) ?_
          show Go pr ev below _ T77 (mkF m 176 #[.val (.int mM), .val (.int pP), .val (.int cC), .val (.int eE), .val (.int wW), .val (.int mU), .val (.int kK), .val (.int p6), .val (.int mc), .val (.ref b1), .unset, .unset] [(.int (yF (2 : Int32))), (.int (2 : Int32)), (.ref b74), (.ref b74), (.ref b73), (.ref b73)])
          show Go pr ev below _ T77 (mkF m 176 #[.val (.int mM), .val (.int pP), .val (.int cC), .val (.int eE), .val (.int wW), .val (.int mU), .val (.int kK), .val (.int p6), .val (.int mc), .val (.ref b1), .unset, .unset] [(.int (yF (2 : Int32))), (.int (2 : Int32)), (.ref b74), (.ref b74), (.ref b73), (.ref b73)])
          refine Go.castore X77 hx hZ e77 V_b74 (by decide) (by decide) (g := (mkF m 176 #[.val (.int mM), .val (.int pP), .val (.int cC), .val (.int eE), .val (.int wW), .val (.int mU), .val (.int kK), .val (.int p6), .val (.int mc), .val (.ref b1), .unset, .unset] [(.int (yF (2 : Int32))), (.int (2 : Int32)), (.ref b74), (.ref b74), (.ref b73), (.ref b73)])) rfl rfl (hb hby at_176) ?_
          rintro T79 h79 X79 e79 W79 V79
          have sw80 := (Fa.safe (EL := own_EL) hZ V_b74 (by decide))
          replace Sf_b73 := Safe.wr W79 sw80 CLJ.1 Sf_b73
          replace CLJ := CLJ.wr W79 sw80
          replace F_b73_value := F_b73_value.other W79 (Or.inl ne_b73_b74)
          replace F_b73_coder := F_b73_coder.other W79 (Or.inl ne_b73_b74)
          replace A73 := A73.wr W79
          replace Q74 := Q74.wr W79
          replace VF := VF.other W79 ne_b1_b74
          replace hzJ := Nat.le_trans hzJ (Nat.le_of_eq W79.size.symm)
          replace OLJ := OLJ.wr W79 gb_b74
          replace V_b74 := V79
          rw [show nar .char (yF (2 : Int32)) = (yF (2 : Int32)) from own_nar8 (hlat _)] at V_b74
          have N79 := Fr.snoc X79 N77 gb_b74
          show Go pr ev below _ T79 (mkF m 177 #[.val (.int mM), .val (.int pP), .val (.int cC), .val (.int eE), .val (.int wW), .val (.int mU), .val (.int kK), .val (.int p6), .val (.int mc), .val (.ref b1), .unset, .unset] [(.ref b74), (.ref b73), (.ref b73)])
          refine Go.of (mkF m 178 #[.val (.int mM), .val (.int pP), .val (.int cC), .val (.int eE), .val (.int wW), .val (.int mU), .val (.int kK), .val (.int p6), .val (.int mc), .val (.ref b1), .unset, .unset] [(.ref b74), (.ref b74), (.ref b73), (.ref b73)]) (fun tt0 kk0 => XS.dup X79.here hx rfl (hb hby at_177) rfl rfl kk0) ?_
          refine Go.of (mkF m 179 #[.val (.int mM), .val (.int pP), .val (.int cC), .val (.int eE), .val (.int wW), .val (.int mU), .val (.int kK), .val (.int p6), .val (.int mc), .val (.ref b1), .unset, .unset] [(.int (3 : Int32)), (.ref b74), (.ref b74), (.ref b73), (.ref b73)]) (fun tt0 kk0 => XS.iconst X79.here hx rfl (hb hby at_178) kk0) ?_
          refine Go.of (mkF m 181 #[.val (.int mM), .val (.int pP), .val (.int cC), .val (.int eE), .val (.int wW), .val (.int mU), .val (.int kK), .val (.int p6), .val (.int mc), .val (.ref b1), .unset, .unset] [(.ref b1), (.int (3 : Int32)), (.ref b74), (.ref b74), (.ref b73), (.ref b73)]) (fun tt0 kk0 => XS.aload X79.here hx rfl (hb hby at_179) rfl rfl kk0) ?_
          refine Go.of (mkF m 182 #[.val (.int mM), .val (.int pP), .val (.int cC), .val (.int eE), .val (.int wW), .val (.int mU), .val (.int kK), .val (.int p6), .val (.int mc), .val (.ref b1), .unset, .unset] [(.int (3 : Int32)), (.ref b1), (.int (3 : Int32)), (.ref b74), (.ref b74), (.ref b73), (.ref b73)]) (fun tt0 kk0 => XS.iconst X79.here hx rfl (hb hby at_181) kk0) ?_
          refine Go.caload X79 hx hZ e79 VF (by decide) (by decide) (g := (mkF m 182 #[.val (.int mM), .val (.int pP), .val (.int cC), .val (.int eE), .val (.int wW), .val (.int mU), .val (.int kK), .val (.int p6), .val (.int mc), .val (.ref b1), .unset, .unset] [(.int (3 : Int32)), (.ref b1), (.int (3 : Int32)), (.ref b74), (.ref b74), (.ref b73), (.ref b73)])) rfl rfl (hb hby at_182) ?_
          show Go pr ev below _ T79 (mkF m 183 #[.val (.int mM), .val (.int pP), .val (.int cC), .val (.int eE), .val (.int wW), .val (.int mU), .val (.int kK), .val (.int p6), .val (.int mc), .val (.ref b1), .unset, .unset] [(.int (yF (3 : Int32))), (.int (3 : Int32)), (.ref b74), (.ref b74), (.ref b73), (.ref b73)])
          show Go pr ev below _ T79 (mkF m 183 #[.val (.int mM), .val (.int pP), .val (.int cC), .val (.int eE), .val (.int wW), .val (.int mU), .val (.int kK), .val (.int p6), .val (.int mc), .val (.ref b1), .unset, .unset] [(.int (yF (3 : Int32))), (.int (3 : Int32)), (.ref b74), (.ref b74), (.ref b73), (.ref b73)])
          refine Go.castore X79 hx hZ e79 V_b74 (by decide) (by decide) (g := (mkF m 183 #[.val (.int mM), .val (.int pP), .val (.int cC), .val (.int eE), .val (.int wW), .val (.int mU), .val (.int kK), .val (.int p6), .val (.int mc), .val (.ref b1), .unset, .unset] [(.int (yF (3 : Int32))), (.int (3 : Int32)), (.ref b74), (.ref b74), (.ref b73), (.ref b73)])) rfl rfl (hb hby at_183) ?_
          rintro T81 h81 X81 e81 W81 V81
          have sw82 := (Fa.safe (EL := own_EL) hZ V_b74 (by decide))
          replace Sf_b73 := Safe.wr W81 sw82 CLJ.1 Sf_b73
          replace CLJ := CLJ.wr W81 sw82
          replace F_b73_value := F_b73_value.other W81 (Or.inl ne_b73_b74)
          replace F_b73_coder := F_b73_coder.other W81 (Or.inl ne_b73_b74)
          replace A73 := A73.wr W81
          replace Q74 := Q74.wr W81
          replace VF := VF.other W81 ne_b1_b74
          replace hzJ := Nat.le_trans hzJ (Nat.le_of_eq W81.size.symm)
          replace OLJ := OLJ.wr W81 gb_b74
          replace V_b74 := V81
          rw [show nar .char (yF (3 : Int32)) = (yF (3 : Int32)) from own_nar8 (hlat _)] at V_b74
          have N81 := Fr.snoc X81 N79 gb_b74
          show Go pr ev below _ T81 (mkF m 184 #[.val (.int mM), .val (.int pP), .val (.int cC), .val (.int eE), .val (.int wW), .val (.int mU), .val (.int kK), .val (.int p6), .val (.int mc), .val (.ref b1), .unset, .unset] [(.ref b74), (.ref b73), (.ref b73)])
          refine Go.of (mkF m 185 #[.val (.int mM), .val (.int pP), .val (.int cC), .val (.int eE), .val (.int wW), .val (.int mU), .val (.int kK), .val (.int p6), .val (.int mc), .val (.ref b1), .unset, .unset] [(.ref b74), (.ref b74), (.ref b73), (.ref b73)]) (fun tt0 kk0 => XS.dup X81.here hx rfl (hb hby at_184) rfl rfl kk0) ?_
          refine Go.of (mkF m 186 #[.val (.int mM), .val (.int pP), .val (.int cC), .val (.int eE), .val (.int wW), .val (.int mU), .val (.int kK), .val (.int p6), .val (.int mc), .val (.ref b1), .unset, .unset] [(.int (4 : Int32)), (.ref b74), (.ref b74), (.ref b73), (.ref b73)]) (fun tt0 kk0 => XS.iconst X81.here hx rfl (hb hby at_185) kk0) ?_
          refine Go.of (mkF m 188 #[.val (.int mM), .val (.int pP), .val (.int cC), .val (.int eE), .val (.int wW), .val (.int mU), .val (.int kK), .val (.int p6), .val (.int mc), .val (.ref b1), .unset, .unset] [(.ref b1), (.int (4 : Int32)), (.ref b74), (.ref b74), (.ref b73), (.ref b73)]) (fun tt0 kk0 => XS.aload X81.here hx rfl (hb hby at_186) rfl rfl kk0) ?_
          refine Go.of (mkF m 189 #[.val (.int mM), .val (.int pP), .val (.int cC), .val (.int eE), .val (.int wW), .val (.int mU), .val (.int kK), .val (.int p6), .val (.int mc), .val (.ref b1), .unset, .unset] [(.int (4 : Int32)), (.ref b1), (.int (4 : Int32)), (.ref b74), (.ref b74), (.ref b73), (.ref b73)]) (fun tt0 kk0 => XS.iconst X81.here hx rfl (hb hby at_188) kk0) ?_
          refine Go.caload X81 hx hZ e81 VF (by decide) (by decide) (g := (mkF m 189 #[.val (.int mM), .val (.int pP), .val (.int cC), .val (.int eE), .val (.int wW), .val (.int mU), .val (.int kK), .val (.int p6), .val (.int mc), .val (.ref b1), .unset, .unset] [(.int (4 : Int32)), (.ref b1), (.int (4 : Int32)), (.ref b74), (.ref b74), (.ref b73), (.ref b73)])) rfl rfl (hb hby at_189) ?_
          show Go pr ev below _ T81 (mkF m 190 #[.val (.int mM), .val (.int pP), .val (.int cC), .val (.int eE), .val (.int wW), .val (.int mU), .val (.int kK), .val (.int p6), .val (.int mc), .val (.ref b1), .unset, .unset] [(.int (yF (4 : Int32))), (.int (4 : Int32)), (.ref b74), (.ref b74), (.ref b73), (.ref b73)])
          show Go pr ev below _ T81 (mkF m 190 #[.val (.int mM), .val (.int pP), .val (.int cC), .val (.int eE), .val (.int wW), .val (.int mU), .val (.int kK), .val (.int p6), .val (.int mc), .val (.ref b1), .unset, .unset] [(.int (yF (4 : Int32))), (.int (4 : Int32)), (.ref b74), (.ref b74), (.ref b73), (.ref b73)])
          refine Go.castore X81 hx hZ e81 V_b74 (by decide) (by decide) (g := (mkF m 190 #[.val (.int mM), .val (.int pP), .val (.int cC), .val (.int eE), .val (.int wW), .val (.int mU), .val (.int kK), .val (.int p6), .val (.int mc), .val (.ref b1), .unset, .unset] [(.int (yF (4 : Int32))), (.int (4 : Int32)), (.ref b74), (.ref b74), (.ref b73), (.ref b73)])) rfl rfl (hb hby at_190) ?_
          rintro T83 h83 X83 e83 W83 V83
          have sw84 := (Fa.safe (EL := own_EL) hZ V_b74 (by decide))
          replace Sf_b73 := Safe.wr W83 sw84 CLJ.1 Sf_b73
          replace CLJ := CLJ.wr W83 sw84
          replace F_b73_value := F_b73_value.other W83 (Or.inl ne_b73_b74)
          replace F_b73_coder := F_b73_coder.other W83 (Or.inl ne_b73_b74)
          replace A73 := A73.wr W83
          replace Q74 := Q74.wr W83
          replace VF := VF.other W83 ne_b1_b74
          replace hzJ := Nat.le_trans hzJ (Nat.le_of_eq W83.size.symm)
          replace OLJ := OLJ.wr W83 gb_b74
          replace V_b74 := V83
          rw [show nar .char (yF (4 : Int32)) = (yF (4 : Int32)) from own_nar8 (hlat _)] at V_b74
          have N83 := Fr.snoc X83 N81 gb_b74
          show Go pr ev below _ T83 (mkF m 191 #[.val (.int mM), .val (.int pP), .val (.int cC), .val (.int eE), .val (.int wW), .val (.int mU), .val (.int kK), .val (.int p6), .val (.int mc), .val (.ref b1), .unset, .unset] [(.ref b74), (.ref b73), (.ref b73)])
          refine Go.of (mkF m 192 #[.val (.int mM), .val (.int pP), .val (.int cC), .val (.int eE), .val (.int wW), .val (.int mU), .val (.int kK), .val (.int p6), .val (.int mc), .val (.ref b1), .unset, .unset] [(.ref b74), (.ref b74), (.ref b73), (.ref b73)]) (fun tt0 kk0 => XS.dup X83.here hx rfl (hb hby at_191) rfl rfl kk0) ?_
          refine Go.of (mkF m 193 #[.val (.int mM), .val (.int pP), .val (.int cC), .val (.int eE), .val (.int wW), .val (.int mU), .val (.int kK), .val (.int p6), .val (.int mc), .val (.ref b1), .unset, .unset] [(.int (5 : Int32)), (.ref b74), (.ref b74), (.ref b73), (.ref b73)]) (fun tt0 kk0 => XS.iconst X83.here hx rfl (hb hby at_192) kk0) ?_
          refine Go.of (mkF m 195 #[.val (.int mM), .val (.int pP), .val (.int cC), .val (.int eE), .val (.int wW), .val (.int mU), .val (.int kK), .val (.int p6), .val (.int mc), .val (.ref b1), .unset, .unset] [(.ref b1), (.int (5 : Int32)), (.ref b74), (.ref b74), (.ref b73), (.ref b73)]) (fun tt0 kk0 => XS.aload X83.here hx rfl (hb hby at_193) rfl rfl kk0) ?_
          refine Go.of (mkF m 196 #[.val (.int mM), .val (.int pP), .val (.int cC), .val (.int eE), .val (.int wW), .val (.int mU), .val (.int kK), .val (.int p6), .val (.int mc), .val (.ref b1), .unset, .unset] [(.int (5 : Int32)), (.ref b1), (.int (5 : Int32)), (.ref b74), (.ref b74), (.ref b73), (.ref b73)]) (fun tt0 kk0 => XS.iconst X83.here hx rfl (hb hby at_195) kk0) ?_
          refine Go.caload X83 hx hZ e83 VF (by decide) (by decide) (g := (mkF m 196 #[.val (.int mM), .val (.int pP), .val (.int cC), .val (.int eE), .val (.int wW), .val (.int mU), .val (.int kK), .val (.int p6), .val (.int mc), .val (.ref b1), .unset, .unset] [(.int (5 : Int32)), (.ref b1), (.int (5 : Int32)), (.ref b74), (.ref b74), (.ref b73), (.ref b73)])) rfl rfl (hb hby at_196) ?_
          show Go pr ev below _ T83 (mkF m 197 #[.val (.int mM), .val (.int pP), .val (.int cC), .val (.int eE), .val (.int wW), .val (.int mU), .val (.int kK), .val (.int p6), .val (.int mc), .val (.ref b1), .unset, .unset] [(.int (yF (5 : Int32))), (.int (5 : Int32)), (.ref b74), (.ref b74), (.ref b73), (.ref b73)])
          show Go pr ev below _ T83 (mkF m 197 #[.val (.int mM), .val (.int pP), .val (.int cC), .val (.int eE), .val (.int wW), .val (.int mU), .val (.int kK), .val (.int p6), .val (.int mc), .val (.ref b1), .unset, .unset] [(.int (yF (5 : Int32))), (.int (5 : Int32)), (.ref b74), (.ref b74), (.ref b73), (.ref b73)])
          refine Go.castore X83 hx hZ e83 V_b74 (by decide) (by decide) (g := (mkF m 197 #[.val (.int mM), .val (.int pP), .val (.int cC), .val (.int eE), .val (.int wW), .val (.int mU), .val (.int kK), .val (.int p6), .val (.int mc), .val (.ref b1), .unset, .unset] [(.int (yF (5 : Int32))), (.int (5 : Int32)), (.ref b74), (.ref b74), (.ref b73), (.ref b73)])) rfl rfl (hb hby at_197) ?_
          rintro T85 h85 X85 e85 W85 V85
          have sw86 := (Fa.safe (EL := own_EL) hZ V_b74 (by decide))
          replace Sf_b73 := Safe.wr W85 sw86 CLJ.1 Sf_b73
          replace CLJ := CLJ.wr W85 sw86
          replace F_b73_value := F_b73_value.other W85 (Or.inl ne_b73_b74)
          replace F_b73_coder := F_b73_coder.other W85 (Or.inl ne_b73_b74)
          replace A73 := A73.wr W85
          replace Q74 := Q74.wr W85
          replace VF := VF.other W85 ne_b1_b74
          replace hzJ := Nat.le_trans hzJ (Nat.le_of_eq W85.size.symm)
          replace OLJ := OLJ.wr W85 gb_b74
          replace V_b74 := V85
          rw [show nar .char (yF (5 : Int32)) = (yF (5 : Int32)) from own_nar8 (hlat _)] at V_b74
          have N85 := Fr.snoc X85 N83 gb_b74
          show Go pr ev below _ T85 (mkF m 198 #[.val (.int mM), .val (.int pP), .val (.int cC), .val (.int eE), .val (.int wW), .val (.int mU), .val (.int kK), .val (.int p6), .val (.int mc), .val (.ref b1), .unset, .unset] [(.ref b74), (.ref b73), (.ref b73)])
          obtain ⟨kc87, VC87⟩ : ∃ k, Arv Z h85 b74 k .char (6 : Int32) (List.map Value.int [(yF (0 : Int32)), (yF (1 : Int32)), (yF (2 : Int32)), (yF (3 : Int32)), (yF (4 : Int32)), (yF (5 : Int32))]) (.int (0 : Int32)) := Fa.toArv V_b74 (own_ch6 (yF (0 : Int32)) (yF (1 : Int32)) (yF (2 : Int32)) (yF (3 : Int32)) (yF (4 : Int32)) (yF (5 : Int32)))
          have hws87 : ∀ d ∈ StrChars.Road.words, d.before a0 Z = true := fun d hd => hw d ((by decide +kernel : ∀ d ∈ StrChars.Road.words, d ∈ tables_1) d hd)
          refine Go.initB X85 hx hZ (y := (⟨"java/lang/String", "<init>", "([C)V"⟩ : MethodName)) (a := b73) (argsL := [(.ref b74)]) (rest := [(.ref b73)]) hown rfl (tw40 hw) (tw41 hw) (tw42 hw) (by decide) e85 (StrChars.Road.backV (W := 1) hZ hws87 (kI := 4) (tw8 hw) (cs := [(yF (0 : Int32)), (yF (1 : Int32)), (yF (2 : Int32)), (yF (3 : Int32)), (yF (4 : Int32)), (yF (5 : Int32))]) (bs := [((yF (0 : Int32))).toInt8.toInt32, ((yF (1 : Int32))).toInt8.toInt32, ((yF (2 : Int32))).toInt8.toInt32, ((yF (3 : Int32))).toInt8.toInt32, ((yF (4 : Int32))).toInt8.toInt32, ((yF (5 : Int32))).toInt8.toInt32]) (n := 6) gb_b73 hzJ A73 F_b73_value F_b73_coder VC87 (O2.ext OLJ.2) P3 rfl rfl (by decide) (by decide) ((List.forall_mem_cons.mpr ⟨hlat _, List.forall_mem_cons.mpr ⟨hlat _, List.forall_mem_cons.mpr ⟨hlat _, List.forall_mem_cons.mpr ⟨hlat _, List.forall_mem_cons.mpr ⟨hlat _, List.forall_mem_cons.mpr ⟨hlat _, fun _ z => absurd z List.not_mem_nil⟩⟩⟩⟩⟩⟩)) rfl (by decide) (by decide)) (g := (mkF m 198 #[.val (.int mM), .val (.int pP), .val (.int cC), .val (.int eE), .val (.int wW), .val (.int mU), .val (.int kK), .val (.int p6), .val (.int mc), .val (.ref b1), .unset, .unset] [(.ref b74), (.ref b73), (.ref b73)])) rfl (by rw [hml]; rfl) (lenOf pd23 rfl) rfl (by show 2 * 0 + _ ≤ _; exact Nat.le_of_eq rfl) (hb hby at_198) (by decide) (by decide) ?_
          rintro T87 L87 v87 X87 ⟨rfl, NL87, K87, Es87, Fc87, t87, kb87, gt87, sz87, ne87, Fv87, Vb87⟩
          have N87 := Fr.app N85 NL87
          have ne_b74_t87 : b74 ≠ t87 := Nat.ne_of_lt (Nat.lt_of_lt_of_le Q74.lt sz87)
          have ne_b1_t87 : b1 ≠ t87 := Nat.ne_of_lt (Nat.lt_of_lt_of_le VF.lt sz87)
          have ne_b73_t87 : b73 ≠ t87 := fun q => ne87 q.symm
          have sw88 := sfS Sf_b73 (sf0)
          replace Sf_b73 := Safe.keep K87 sw88 CLJ.1 Sf_b73
          replace CLJ := CLJ.keep K87 sw88
          replace A73 := A73.keep K87
          replace Q74 := Q74.keep K87
          replace VF := VF.keep K87 (ninS ne_b1_b73 nin0)
          replace V_b74 := V_b74.keep K87 (ninS (Ne.symm ne_b73_b74) nin0)
          replace hzJ := Nat.le_trans hzJ K87.1
          replace OLJ := OLJ.keep K87 (allS gb_b73 (all0))
          show Go pr ev below _ T87 (mkF m 201 #[.val (.int mM), .val (.int pP), .val (.int cC), .val (.int eE), .val (.int wW), .val (.int mU), .val (.int kK), .val (.int p6), .val (.int mc), .val (.ref b1), .unset, .unset] [(.ref b73)])
          have VB : Fa Z T87.heap t87 .byte 6 (fun i => .int (own_lit [((yF (0 : Int32))).toInt8.toInt32, ((yF (1 : Int32))).toInt8.toInt32, ((yF (2 : Int32))).toInt8.toInt32, ((yF (3 : Int32))).toInt8.toInt32, ((yF (4 : Int32))).toInt8.toInt32, ((yF (5 : Int32))).toInt8.toInt32] i)) := (Fa.ofArv Vb87).congr fun j q0 q1 => own_lit_ok [((yF (0 : Int32))).toInt8.toInt32, ((yF (1 : Int32))).toInt8.toInt32, ((yF (2 : Int32))).toInt8.toInt32, ((yF (3 : Int32))).toInt8.toInt32, ((yF (4 : Int32))).toInt8.toInt32, ((yF (5 : Int32))).toInt8.toInt32] j
          refine Go.of (mkF m 203 #[.val (.int mM), .val (.int pP), .val (.int cC), .val (.int eE), .val (.int wW), .val (.int mU), .val (.int kK), .val (.int p6), .val (.int mc), .val (.ref b1), .val (.ref b73), .unset] []) (fun tt0 kk0 => XS.astore X87.here hx rfl (hb hby at_201) rfl rfl (l' := #[.val (.int mM), .val (.int pP), .val (.int cC), .val (.int eE), .val (.int wW), .val (.int mU), .val (.int kK), .val (.int p6), .val (.int mc), .val (.ref b1), .val (.ref b73), .unset]) rfl kk0) ?_
          refine Go.of (mkF m 388 #[.val (.int mM), .val (.int pP), .val (.int cC), .val (.int eE), .val (.int wW), .val (.int mU), .val (.int kK), .val (.int p6), .val (.int mc), .val (.ref b1), .val (.ref b73), .unset] []) (fun tt0 kk0 => XS.goto X87.here hx rfl (pc0 := 203) (pc' := 388) rfl (hb hby at_203) (by decide) (by decide) kk0) ?_
          refine Go.of (mkF m 389 #[.val (.int mM), .val (.int pP), .val (.int cC), .val (.int eE), .val (.int wW), .val (.int mU), .val (.int kK), .val (.int p6), .val (.int mc), .val (.ref b1), .val (.ref b73), .unset] [.null]) (fun tt0 kk0 => XS.aconstNull X87.here hx rfl (hb hby at_388) kk0) ?_
          refine Go.of (mkF m 391 #[.val (.int mM), .val (.int pP), .val (.int cC), .val (.int eE), .val (.int wW), .val (.int mU), .val (.int kK), .val (.int p6), .val (.int mc), .val (.ref b1), .val (.ref b73), .val .null] []) (fun tt0 kk0 => XS.astore X87.here hx rfl (hb hby at_389) rfl rfl (l' := #[.val (.int mM), .val (.int pP), .val (.int cC), .val (.int eE), .val (.int wW), .val (.int mU), .val (.int kK), .val (.int p6), .val (.int mc), .val (.ref b1), .val (.ref b73), .val .null]) rfl kk0) ?_
          refine Go.of (mkF m 393 #[.val (.int mM), .val (.int pP), .val (.int cC), .val (.int eE), .val (.int wW), .val (.int mU), .val (.int kK), .val (.int p6), .val (.int mc), .val (.ref b1), .val (.ref b73), .val .null] [(.int kK)]) (fun tt0 kk0 => XS.iload X87.here hx rfl (hb hby at_391) rfl kk0) ?_
          refine Go.of (mkF m 394 #[.val (.int mM), .val (.int pP), .val (.int cC), .val (.int eE), .val (.int wW), .val (.int mU), .val (.int kK), .val (.int p6), .val (.int mc), .val (.ref b1), .val (.ref b73), .val .null] [(.int (2 : Int32)), (.int kK)]) (fun tt0 kk0 => XS.iconst X87.here hx rfl (hb hby at_393) kk0) ?_
          refine Go.of (mkF m 397 #[.val (.int mM), .val (.int pP), .val (.int cC), .val (.int eE), .val (.int wW), .val (.int mU), .val (.int kK), .val (.int p6), .val (.int mc), .val (.ref b1), .val (.ref b73), .val .null] []) (fun tt0 kk0 => XS.icmpNo X87.here hx rfl (hb hby at_394) rfl (flt hc145).2.2.1 kk0) ?_
          refine Go.of (mkF m 399 #[.val (.int mM), .val (.int pP), .val (.int cC), .val (.int eE), .val (.int wW), .val (.int mU), .val (.int kK), .val (.int p6), .val (.int mc), .val (.ref b1), .val (.ref b73), .val .null] [(.int mU)]) (fun tt0 kk0 => XS.iload X87.here hx rfl (hb hby at_397) rfl kk0) ?_
          by_cases hc399 : mU = (0 : Int32)
          ·
            refine Go.of (mkF m 414 #[.val (.int mM), .val (.int pP), .val (.int cC), .val (.int eE), .val (.int wW), .val (.int mU), .val (.int kK), .val (.int p6), .val (.int mc), .val (.ref b1), .val (.ref b73), .val .null] []) (fun tt0 kk0 => XS.ifYes X87.here hx rfl (pc0 := 399) (pc' := 414) rfl (hb hby at_399) rfl ((if0 _ _).trans (teq hc399).1) (by decide) (by decide) kk0) ?_
            refine Go.of (mkF m 416 #[.val (.int mM), .val (.int pP), .val (.int cC), .val (.int eE), .val (.int wW), .val (.int mU), .val (.int kK), .val (.int p6), .val (.int mc), .val (.ref b1), .val (.ref b73), .val .null] [(.int wW)]) (fun tt0 kk0 => XS.iload X87.here hx rfl (hb hby at_414) rfl kk0) ?_
            by_cases hc416 : wW = (0 : Int32)
            ·
              refine Go.of (mkF m 425 #[.val (.int mM), .val (.int pP), .val (.int cC), .val (.int eE), .val (.int wW), .val (.int mU), .val (.int kK), .val (.int p6), .val (.int mc), .val (.ref b1), .val (.ref b73), .val .null] []) (fun tt0 kk0 => XS.ifYes X87.here hx rfl (pc0 := 416) (pc' := 425) rfl (hb hby at_416) rfl ((if0 _ _).trans (teq hc416).1) (by decide) (by decide) kk0) ?_
              have sgrd := (Sr.ext OLJ.2)
              obtain ⟨T89, X89, e89, st89⟩ := getS2 X87 hx hZ hown (host := "") (Or.inl (tw60 hw)) Via.refl rfl sgrd (g := (mkF m 425 #[.val (.int mM), .val (.int pP), .val (.int cC), .val (.int eE), .val (.int wW), .val (.int mU), .val (.int kK), .val (.int p6), .val (.int mc), .val (.ref b1), .val (.ref b73), .val .null] [])) rfl (hb hby at_425)
              refine Go.of (mkF m 428 #[.val (.int mM), .val (.int pP), .val (.int cC), .val (.int eE), .val (.int wW), .val (.int mU), .val (.int kK), .val (.int p6), .val (.int mc), .val (.ref b1), .val (.ref b73), .val .null] [(.ref rd)]) (st89) ?_
              refine Go.of (mkF m 430 #[.val (.int mM), .val (.int pP), .val (.int cC), .val (.int eE), .val (.int wW), .val (.int mU), .val (.int kK), .val (.int p6), .val (.int mc), .val (.ref b1), .val (.ref b73), .val (.ref rd)] []) (fun tt0 kk0 => XS.astore X89.here hx rfl (hb hby at_428) rfl rfl (l' := #[.val (.int mM), .val (.int pP), .val (.int cC), .val (.int eE), .val (.int wW), .val (.int mU), .val (.int kK), .val (.int p6), .val (.int mc), .val (.ref b1), .val (.ref b73), .val (.ref rd)]) rfl kk0) ?_
              refine Go.of (mkF m 432 #[.val (.int mM), .val (.int pP), .val (.int cC), .val (.int eE), .val (.int wW), .val (.int mU), .val (.int kK), .val (.int p6), .val (.int mc), .val (.ref b1), .val (.ref b73), .val (.ref rd)] [(.ref b73)]) (fun tt0 kk0 => XS.aload X89.here hx rfl (hb hby at_430) rfl rfl kk0) ?_
              refine Go.callS X89 hx hZ (y := (⟨"com/example/sealed_ledger/sealedledger/http/Access$Role", "named", "(Ljava/lang/String;)Lcom/example/sealed_ledger/sealedledger/http/Access$Role;"⟩ : MethodName)) (argsL := [(.ref b73)]) (rest := []) hown (tw63 hw) (tw64 hw) (tw61 hw) (tw65 hw) (by decide) e89 (rmNa6 l Z a0 hw [] T87.heap n0 hzJ G1 (O2.ext OLJ.2) P3 va rd wr yv (Sv.ext OLJ.2) (Vv.ext OLJ.2) (Ev.ext OLJ.2) hy0 hy1 t1 d1 t2 d2 yR yW (Er.ext OLJ.2) (Fr1.ext OLJ.2) (E_t1.ext OLJ.2) (C_t1.ext OLJ.2) (V_t1.ext OLJ.2) (A_t1.ext OLJ.2) (Ew.ext OLJ.2) (Fw1.ext OLJ.2) (E_t2.ext OLJ.2) (C_t2.ext OLJ.2) (V_t2.ext OLJ.2) (A_t2.ext OLJ.2) b73 t87 6 (own_lit [((yF (0 : Int32))).toInt8.toInt32, ((yF (1 : Int32))).toInt8.toInt32, ((yF (2 : Int32))).toInt8.toInt32, ((yF (3 : Int32))).toInt8.toInt32, ((yF (4 : Int32))).toInt8.toInt32, ((yF (5 : Int32))).toInt8.toInt32]) A73 Fc87 Fv87 VB (Nat.ne_of_lt (Nat.lt_of_lt_of_le (Nat.lt_of_lt_of_eq E_t1.lt OLJ.1) gb_b73)) (Nat.ne_of_lt (Nat.lt_of_lt_of_le (Nat.lt_of_lt_of_eq E_t2.lt OLJ.1) gb_b73)) (by decide)) (g := (mkF m 432 #[.val (.int mM), .val (.int pP), .val (.int cC), .val (.int eE), .val (.int wW), .val (.int mU), .val (.int kK), .val (.int p6), .val (.int mc), .val (.ref b1), .val (.ref b73), .val (.ref rd)] [(.ref b73)])) rfl (by rw [hml]; rfl) (lenOf pd24 rfl) rfl (W := 0) (by show 2 * 0 + _ ≤ _; exact Nat.le_of_eq rfl) (hb hby at_432) (by decide) (by decide) (by decide) (by decide) ?_
              rintro T90 L90 v90 X90 ⟨rfl, NL90, K90⟩
              have N90 := Fr.app N87 NL90
              replace Sf_b73 := Safe.keep K90 sf0 CLJ.1 Sf_b73
              replace CLJ := CLJ.keep K90 sf0
              replace Fc87 := Fc87.keep K90 nin0
              replace Fv87 := Fv87.keep K90 nin0
              replace A73 := A73.keep K90
              replace Q74 := Q74.keep K90
              replace VF := VF.keep K90 nin0
              replace VB := VB.keep K90 nin0
              replace hzJ := Nat.le_trans hzJ K90.1
              replace OLJ := OLJ.keep K90 (all0)
              show Go pr ev below _ T90 (mkF m 435 #[.val (.int mM), .val (.int pP), .val (.int cC), .val (.int eE), .val (.int wW), .val (.int mU), .val (.int kK), .val (.int p6), .val (.int mc), .val (.ref b1), .val (.ref b73), .val (.ref rd)] [(own_named rd wr yR yW (own_lit [((yF (0 : Int32))).toInt8.toInt32, ((yF (1 : Int32))).toInt8.toInt32, ((yF (2 : Int32))).toInt8.toInt32, ((yF (3 : Int32))).toInt8.toInt32, ((yF (4 : Int32))).toInt8.toInt32, ((yF (5 : Int32))).toInt8.toInt32]))])
              refine Go.of (mkF m 437 #[.val (.int mM), .val (.int pP), .val (.int cC), .val (.int eE), .val (.int wW), .val (.int mU), .val (.int kK), .val (.int p6), .val (.int mc), .val (.ref b1), .val (.ref b73), .val (.ref rd)] [(.ref rd), (own_named rd wr yR yW (own_lit [((yF (0 : Int32))).toInt8.toInt32, ((yF (1 : Int32))).toInt8.toInt32, ((yF (2 : Int32))).toInt8.toInt32, ((yF (3 : Int32))).toInt8.toInt32, ((yF (4 : Int32))).toInt8.toInt32, ((yF (5 : Int32))).toInt8.toInt32]))]) (fun tt0 kk0 => XS.aload X90.here hx rfl (hb hby at_435) rfl rfl kk0) ?_
              refine Go.of (mkF m 440 #[.val (.int mM), .val (.int pP), .val (.int cC), .val (.int eE), .val (.int wW), .val (.int mU), .val (.int kK), .val (.int p6), .val (.int mc), .val (.ref b1), .val (.ref b73), .val (.ref rd)] []) (fun tt0 kk0 => Jvm.RoadKit.acmp (g := (mkF m 437 #[.val (.int mM), .val (.int pP), .val (.int cC), .val (.int eE), .val (.int wW), .val (.int mU), .val (.int kK), .val (.int p6), .val (.int mc), .val (.ref b1), .val (.ref b73), .val (.ref rd)] [(.ref rd), (own_named rd wr yR yW (own_lit [((yF (0 : Int32))).toInt8.toInt32, ((yF (1 : Int32))).toInt8.toInt32, ((yF (2 : Int32))).toInt8.toInt32, ((yF (3 : Int32))).toInt8.toInt32, ((yF (4 : Int32))).toInt8.toInt32, ((yF (5 : Int32))).toInt8.toInt32]))])) X90 hx rfl (x := (own_named rd wr yR yW (own_lit [((yF (0 : Int32))).toInt8.toInt32, ((yF (1 : Int32))).toInt8.toInt32, ((yF (2 : Int32))).toInt8.toInt32, ((yF (3 : Int32))).toInt8.toInt32, ((yF (4 : Int32))).toInt8.toInt32, ((yF (5 : Int32))).toInt8.toInt32]))) (y := (.ref rd)) (own_named_ref _ _ _ _ _) rfl (pc0 := 437) (pc' := 440) (same := true) rfl (hb hby at_437) rfl (decide_eq_true ((own_fin rd wr eR eW hmc hp6 hyF).trans (by simp [hc399, hc416]))) (by decide) (by decide) kk0) ?_
              refine Go.of (mkF m 441 #[.val (.int mM), .val (.int pP), .val (.int cC), .val (.int eE), .val (.int wW), .val (.int mU), .val (.int kK), .val (.int p6), .val (.int mc), .val (.ref b1), .val (.ref b73), .val (.ref rd)] [(.int (1 : Int32))]) (fun tt0 kk0 => XS.iconst X90.here hx rfl (hb hby at_440) kk0) ?_
              refine Go.of (mkF m 445 #[.val (.int mM), .val (.int pP), .val (.int cC), .val (.int eE), .val (.int wW), .val (.int mU), .val (.int kK), .val (.int p6), .val (.int mc), .val (.ref b1), .val (.ref b73), .val (.ref rd)] [(.int (1 : Int32))]) (fun tt0 kk0 => XS.goto X90.here hx rfl (pc0 := 441) (pc' := 445) rfl (hb hby at_441) (by decide) (by decide) kk0) ?_
              exact Go.retWC X90 hx hZ hEL rfl CLJ (t := .boolean) hret hlk rfl (Or.inl ⟨rfl, by simp, _, rfl⟩) (hb hby at_445) (by decide) (by decide) ⟨rfl, N90⟩
            ·
              refine Go.of (mkF m 419 #[.val (.int mM), .val (.int pP), .val (.int cC), .val (.int eE), .val (.int wW), .val (.int mU), .val (.int kK), .val (.int p6), .val (.int mc), .val (.ref b1), .val (.ref b73), .val .null] []) (fun tt0 kk0 => XS.ifNo X87.here hx rfl (hb hby at_416) rfl ((if0 _ _).trans (feq hc416).1) kk0) ?_
              have sgwr := (Sw.ext OLJ.2)
              obtain ⟨T92, X92, e92, st92⟩ := getS2 X87 hx hZ hown (host := "") (Or.inl (tw94 hw)) Via.refl rfl sgwr (g := (mkF m 419 #[.val (.int mM), .val (.int pP), .val (.int cC), .val (.int eE), .val (.int wW), .val (.int mU), .val (.int kK), .val (.int p6), .val (.int mc), .val (.ref b1), .val (.ref b73), .val .null] [])) rfl (hb hby at_419)
              refine Go.of (mkF m 422 #[.val (.int mM), .val (.int pP), .val (.int cC), .val (.int eE), .val (.int wW), .val (.int mU), .val (.int kK), .val (.int p6), .val (.int mc), .val (.ref b1), .val (.ref b73), .val .null] [(.ref wr)]) (st92) ?_
              refine Go.of (mkF m 428 #[.val (.int mM), .val (.int pP), .val (.int cC), .val (.int eE), .val (.int wW), .val (.int mU), .val (.int kK), .val (.int p6), .val (.int mc), .val (.ref b1), .val (.ref b73), .val .null] [(.ref wr)]) (fun tt0 kk0 => XS.goto X92.here hx rfl (pc0 := 422) (pc' := 428) rfl (hb hby at_422) (by decide) (by decide) kk0) ?_
              refine Go.of (mkF m 430 #[.val (.int mM), .val (.int pP), .val (.int cC), .val (.int eE), .val (.int wW), .val (.int mU), .val (.int kK), .val (.int p6), .val (.int mc), .val (.ref b1), .val (.ref b73), .val (.ref wr)] []) (fun tt0 kk0 => XS.astore X92.here hx rfl (hb hby at_428) rfl rfl (l' := #[.val (.int mM), .val (.int pP), .val (.int cC), .val (.int eE), .val (.int wW), .val (.int mU), .val (.int kK), .val (.int p6), .val (.int mc), .val (.ref b1), .val (.ref b73), .val (.ref wr)]) rfl kk0) ?_
              refine Go.of (mkF m 432 #[.val (.int mM), .val (.int pP), .val (.int cC), .val (.int eE), .val (.int wW), .val (.int mU), .val (.int kK), .val (.int p6), .val (.int mc), .val (.ref b1), .val (.ref b73), .val (.ref wr)] [(.ref b73)]) (fun tt0 kk0 => XS.aload X92.here hx rfl (hb hby at_430) rfl rfl kk0) ?_
              refine Go.callS X92 hx hZ (y := (⟨"com/example/sealed_ledger/sealedledger/http/Access$Role", "named", "(Ljava/lang/String;)Lcom/example/sealed_ledger/sealedledger/http/Access$Role;"⟩ : MethodName)) (argsL := [(.ref b73)]) (rest := []) hown (tw63 hw) (tw64 hw) (tw61 hw) (tw65 hw) (by decide) e92 (rmNa6 l Z a0 hw [] T87.heap n0 hzJ G1 (O2.ext OLJ.2) P3 va rd wr yv (Sv.ext OLJ.2) (Vv.ext OLJ.2) (Ev.ext OLJ.2) hy0 hy1 t1 d1 t2 d2 yR yW (Er.ext OLJ.2) (Fr1.ext OLJ.2) (E_t1.ext OLJ.2) (C_t1.ext OLJ.2) (V_t1.ext OLJ.2) (A_t1.ext OLJ.2) (Ew.ext OLJ.2) (Fw1.ext OLJ.2) (E_t2.ext OLJ.2) (C_t2.ext OLJ.2) (V_t2.ext OLJ.2) (A_t2.ext OLJ.2) b73 t87 6 (own_lit [((yF (0 : Int32))).toInt8.toInt32, ((yF (1 : Int32))).toInt8.toInt32, ((yF (2 : Int32))).toInt8.toInt32, ((yF (3 : Int32))).toInt8.toInt32, ((yF (4 : Int32))).toInt8.toInt32, ((yF (5 : Int32))).toInt8.toInt32]) A73 Fc87 Fv87 VB (Nat.ne_of_lt (Nat.lt_of_lt_of_le (Nat.lt_of_lt_of_eq E_t1.lt OLJ.1) gb_b73)) (Nat.ne_of_lt (Nat.lt_of_lt_of_le (Nat.lt_of_lt_of_eq E_t2.lt OLJ.1) gb_b73)) (by decide)) (g := (mkF m 432 #[.val (.int mM), .val (.int pP), .val (.int cC), .val (.int eE), .val (.int wW), .val (.int mU), .val (.int kK), .val (.int p6), .val (.int mc), .val (.ref b1), .val (.ref b73), .val (.ref wr)] [(.ref b73)])) rfl (by rw [hml]; rfl) (lenOf pd24 rfl) rfl (W := 0) (by show 2 * 0 + _ ≤ _; exact Nat.le_of_eq rfl) (hb hby at_432) (by decide) (by decide) (by decide) (by decide) ?_
              rintro T93 L93 v93 X93 ⟨rfl, NL93, K93⟩
              have N93 := Fr.app N87 NL93
              replace Sf_b73 := Safe.keep K93 sf0 CLJ.1 Sf_b73
              replace CLJ := CLJ.keep K93 sf0
              replace Fc87 := Fc87.keep K93 nin0
              replace Fv87 := Fv87.keep K93 nin0
              replace A73 := A73.keep K93
              replace Q74 := Q74.keep K93
              replace VF := VF.keep K93 nin0
              replace VB := VB.keep K93 nin0
              replace hzJ := Nat.le_trans hzJ K93.1
              replace OLJ := OLJ.keep K93 (all0)
              show Go pr ev below _ T93 (mkF m 435 #[.val (.int mM), .val (.int pP), .val (.int cC), .val (.int eE), .val (.int wW), .val (.int mU), .val (.int kK), .val (.int p6), .val (.int mc), .val (.ref b1), .val (.ref b73), .val (.ref wr)] [(own_named rd wr yR yW (own_lit [((yF (0 : Int32))).toInt8.toInt32, ((yF (1 : Int32))).toInt8.toInt32, ((yF (2 : Int32))).toInt8.toInt32, ((yF (3 : Int32))).toInt8.toInt32, ((yF (4 : Int32))).toInt8.toInt32, ((yF (5 : Int32))).toInt8.toInt32]))])
              refine Go.of (mkF m 437 #[.val (.int mM), .val (.int pP), .val (.int cC), .val (.int eE), .val (.int wW), .val (.int mU), .val (.int kK), .val (.int p6), .val (.int mc), .val (.ref b1), .val (.ref b73), .val (.ref wr)] [(.ref wr), (own_named rd wr yR yW (own_lit [((yF (0 : Int32))).toInt8.toInt32, ((yF (1 : Int32))).toInt8.toInt32, ((yF (2 : Int32))).toInt8.toInt32, ((yF (3 : Int32))).toInt8.toInt32, ((yF (4 : Int32))).toInt8.toInt32, ((yF (5 : Int32))).toInt8.toInt32]))]) (fun tt0 kk0 => XS.aload X93.here hx rfl (hb hby at_435) rfl rfl kk0) ?_
              refine Go.of (mkF m 440 #[.val (.int mM), .val (.int pP), .val (.int cC), .val (.int eE), .val (.int wW), .val (.int mU), .val (.int kK), .val (.int p6), .val (.int mc), .val (.ref b1), .val (.ref b73), .val (.ref wr)] []) (fun tt0 kk0 => Jvm.RoadKit.acmp (g := (mkF m 437 #[.val (.int mM), .val (.int pP), .val (.int cC), .val (.int eE), .val (.int wW), .val (.int mU), .val (.int kK), .val (.int p6), .val (.int mc), .val (.ref b1), .val (.ref b73), .val (.ref wr)] [(.ref wr), (own_named rd wr yR yW (own_lit [((yF (0 : Int32))).toInt8.toInt32, ((yF (1 : Int32))).toInt8.toInt32, ((yF (2 : Int32))).toInt8.toInt32, ((yF (3 : Int32))).toInt8.toInt32, ((yF (4 : Int32))).toInt8.toInt32, ((yF (5 : Int32))).toInt8.toInt32]))])) X93 hx rfl (x := (own_named rd wr yR yW (own_lit [((yF (0 : Int32))).toInt8.toInt32, ((yF (1 : Int32))).toInt8.toInt32, ((yF (2 : Int32))).toInt8.toInt32, ((yF (3 : Int32))).toInt8.toInt32, ((yF (4 : Int32))).toInt8.toInt32, ((yF (5 : Int32))).toInt8.toInt32]))) (y := (.ref wr)) (own_named_ref _ _ _ _ _) rfl (pc0 := 437) (pc' := 440) (same := true) rfl (hb hby at_437) rfl (decide_eq_true ((own_fin rd wr eR eW hmc hp6 hyF).trans (by simp [hc399, hc416]))) (by decide) (by decide) kk0) ?_
              refine Go.of (mkF m 441 #[.val (.int mM), .val (.int pP), .val (.int cC), .val (.int eE), .val (.int wW), .val (.int mU), .val (.int kK), .val (.int p6), .val (.int mc), .val (.ref b1), .val (.ref b73), .val (.ref wr)] [(.int (1 : Int32))]) (fun tt0 kk0 => XS.iconst X93.here hx rfl (hb hby at_440) kk0) ?_
              refine Go.of (mkF m 445 #[.val (.int mM), .val (.int pP), .val (.int cC), .val (.int eE), .val (.int wW), .val (.int mU), .val (.int kK), .val (.int p6), .val (.int mc), .val (.ref b1), .val (.ref b73), .val (.ref wr)] [(.int (1 : Int32))]) (fun tt0 kk0 => XS.goto X93.here hx rfl (pc0 := 441) (pc' := 445) rfl (hb hby at_441) (by decide) (by decide) kk0) ?_
              exact Go.retWC X93 hx hZ hEL rfl CLJ (t := .boolean) hret hlk rfl (Or.inl ⟨rfl, by simp, _, rfl⟩) (hb hby at_445) (by decide) (by decide) ⟨rfl, N93⟩
          ·
            refine Go.of (mkF m 402 #[.val (.int mM), .val (.int pP), .val (.int cC), .val (.int eE), .val (.int wW), .val (.int mU), .val (.int kK), .val (.int p6), .val (.int mc), .val (.ref b1), .val (.ref b73), .val .null] []) (fun tt0 kk0 => XS.ifNo X87.here hx rfl (hb hby at_399) rfl ((if0 _ _).trans (feq hc399).1) kk0) ?_
            refine Go.of (mkF m 404 #[.val (.int mM), .val (.int pP), .val (.int cC), .val (.int eE), .val (.int wW), .val (.int mU), .val (.int kK), .val (.int p6), .val (.int mc), .val (.ref b1), .val (.ref b73), .val .null] [(.int mc)]) (fun tt0 kk0 => XS.iload X87.here hx rfl (hb hby at_402) rfl kk0) ?_
            refine Go.of (mkF m 406 #[.val (.int mM), .val (.int pP), .val (.int cC), .val (.int eE), .val (.int wW), .val (.int mU), .val (.int kK), .val (.int p6), .val (.int mc), .val (.ref b1), .val (.ref b73), .val .null] [(.int wW), (.int mc)]) (fun tt0 kk0 => XS.iload X87.here hx rfl (hb hby at_404) rfl kk0) ?_
            refine Go.of (mkF m 408 #[.val (.int mM), .val (.int pP), .val (.int cC), .val (.int eE), .val (.int wW), .val (.int mU), .val (.int kK), .val (.int p6), .val (.int mc), .val (.ref b1), .val (.ref b73), .val .null] [(.int p6), (.int wW), (.int mc)]) (fun tt0 kk0 => XS.iload X87.here hx rfl (hb hby at_406) rfl kk0) ?_
            refine Go.callSC X87 hx hZ (y := (⟨"com/example/sealed_ledger/sealedledger/http/RoleNamedPinLaw", "base", "(ZI)C"⟩ : MethodName)) (argsL := [(.int wW), (.int p6)]) (rest := [(.int mc)]) hown hEL CLJ (tw2 hw) (tw3 hw) (tw4 hw) (tw5 hw) (by decide) rfl (rmBa l Z a0 hw [] wW p6 T87.heap n0 hzJ G1 (O2.ext OLJ.2) P3 fv hfv (O4.ext OLJ.2) hEL wS hp6.1 hp6.2) (g := (mkF m 408 #[.val (.int mM), .val (.int pP), .val (.int cC), .val (.int eE), .val (.int wW), .val (.int mU), .val (.int kK), .val (.int p6), .val (.int mc), .val (.ref b1), .val (.ref b73), .val .null] [(.int p6), (.int wW), (.int mc)])) rfl (by rw [hml]; rfl) (lenOf pd22 rfl) rfl (W := 1) (by show 2 * 0 + _ ≤ _; exact Nat.le_of_eq rfl) (hb hby at_408) (by decide) (by decide) (by decide) (by decide) ?_
            rintro T95 L95 v95 X95 ⟨rfl, NL95, K95⟩ hZ hown CL95 rc95
            replace Sf_b73 := rc95.safe A73.lt Sf_b73
            have N95 := Fr.app N87 NL95
            replace Fc87 := Fc87.keep K95 nin0
            replace Fv87 := Fv87.keep K95 nin0
            replace A73 := A73.keep K95
            replace Q74 := Q74.keep K95
            replace VF := VF.keep K95 nin0
            replace VB := VB.keep K95 nin0
            replace hzJ := Nat.le_trans hzJ K95.1
            replace OLJ := OLJ.keep K95 (all0)
            show Go pr ev below _ T95 (mkF m 411 #[.val (.int mM), .val (.int pP), .val (.int cC), .val (.int eE), .val (.int wW), .val (.int mU), .val (.int kK), .val (.int p6), .val (.int mc), .val (.ref b1), .val (.ref b73), .val .null] [(.int (own_base wW p6)), (.int mc)])
            by_cases hc411 : mc = (own_base wW p6)
            ·
              refine Go.of (mkF m 414 #[.val (.int mM), .val (.int pP), .val (.int cC), .val (.int eE), .val (.int wW), .val (.int mU), .val (.int kK), .val (.int p6), .val (.int mc), .val (.ref b1), .val (.ref b73), .val .null] []) (fun tt0 kk0 => XS.icmpNo X95.here hx rfl (hb hby at_411) rfl (teq hc411).2 kk0) ?_
              refine Go.of (mkF m 416 #[.val (.int mM), .val (.int pP), .val (.int cC), .val (.int eE), .val (.int wW), .val (.int mU), .val (.int kK), .val (.int p6), .val (.int mc), .val (.ref b1), .val (.ref b73), .val .null] [(.int wW)]) (fun tt0 kk0 => XS.iload X95.here hx rfl (hb hby at_414) rfl kk0) ?_
              by_cases hc416 : wW = (0 : Int32)
              ·
                refine Go.of (mkF m 425 #[.val (.int mM), .val (.int pP), .val (.int cC), .val (.int eE), .val (.int wW), .val (.int mU), .val (.int kK), .val (.int p6), .val (.int mc), .val (.ref b1), .val (.ref b73), .val .null] []) (fun tt0 kk0 => XS.ifYes X95.here hx rfl (pc0 := 416) (pc' := 425) rfl (hb hby at_416) rfl ((if0 _ _).trans (teq hc416).1) (by decide) (by decide) kk0) ?_
                have sgrd := (Sr.ext OLJ.2)
                obtain ⟨T96, X96, e96, st96⟩ := getS2 X95 hx hZ hown (host := "") (Or.inl (tw60 hw)) Via.refl rfl sgrd (g := (mkF m 425 #[.val (.int mM), .val (.int pP), .val (.int cC), .val (.int eE), .val (.int wW), .val (.int mU), .val (.int kK), .val (.int p6), .val (.int mc), .val (.ref b1), .val (.ref b73), .val .null] [])) rfl (hb hby at_425)
                refine Go.of (mkF m 428 #[.val (.int mM), .val (.int pP), .val (.int cC), .val (.int eE), .val (.int wW), .val (.int mU), .val (.int kK), .val (.int p6), .val (.int mc), .val (.ref b1), .val (.ref b73), .val .null] [(.ref rd)]) (st96) ?_
                refine Go.of (mkF m 430 #[.val (.int mM), .val (.int pP), .val (.int cC), .val (.int eE), .val (.int wW), .val (.int mU), .val (.int kK), .val (.int p6), .val (.int mc), .val (.ref b1), .val (.ref b73), .val (.ref rd)] []) (fun tt0 kk0 => XS.astore X96.here hx rfl (hb hby at_428) rfl rfl (l' := #[.val (.int mM), .val (.int pP), .val (.int cC), .val (.int eE), .val (.int wW), .val (.int mU), .val (.int kK), .val (.int p6), .val (.int mc), .val (.ref b1), .val (.ref b73), .val (.ref rd)]) rfl kk0) ?_
                refine Go.of (mkF m 432 #[.val (.int mM), .val (.int pP), .val (.int cC), .val (.int eE), .val (.int wW), .val (.int mU), .val (.int kK), .val (.int p6), .val (.int mc), .val (.ref b1), .val (.ref b73), .val (.ref rd)] [(.ref b73)]) (fun tt0 kk0 => XS.aload X96.here hx rfl (hb hby at_430) rfl rfl kk0) ?_
                refine Go.callS X96 hx hZ (y := (⟨"com/example/sealed_ledger/sealedledger/http/Access$Role", "named", "(Ljava/lang/String;)Lcom/example/sealed_ledger/sealedledger/http/Access$Role;"⟩ : MethodName)) (argsL := [(.ref b73)]) (rest := []) hown (tw63 hw) (tw64 hw) (tw61 hw) (tw65 hw) (by decide) e96 (rmNa6 l Z a0 hw [] T95.heap n0 hzJ G1 (O2.ext OLJ.2) P3 va rd wr yv (Sv.ext OLJ.2) (Vv.ext OLJ.2) (Ev.ext OLJ.2) hy0 hy1 t1 d1 t2 d2 yR yW (Er.ext OLJ.2) (Fr1.ext OLJ.2) (E_t1.ext OLJ.2) (C_t1.ext OLJ.2) (V_t1.ext OLJ.2) (A_t1.ext OLJ.2) (Ew.ext OLJ.2) (Fw1.ext OLJ.2) (E_t2.ext OLJ.2) (C_t2.ext OLJ.2) (V_t2.ext OLJ.2) (A_t2.ext OLJ.2) b73 t87 6 (own_lit [((yF (0 : Int32))).toInt8.toInt32, ((yF (1 : Int32))).toInt8.toInt32, ((yF (2 : Int32))).toInt8.toInt32, ((yF (3 : Int32))).toInt8.toInt32, ((yF (4 : Int32))).toInt8.toInt32, ((yF (5 : Int32))).toInt8.toInt32]) A73 Fc87 Fv87 VB (Nat.ne_of_lt (Nat.lt_of_lt_of_le (Nat.lt_of_lt_of_eq E_t1.lt OLJ.1) gb_b73)) (Nat.ne_of_lt (Nat.lt_of_lt_of_le (Nat.lt_of_lt_of_eq E_t2.lt OLJ.1) gb_b73)) (by decide)) (g := (mkF m 432 #[.val (.int mM), .val (.int pP), .val (.int cC), .val (.int eE), .val (.int wW), .val (.int mU), .val (.int kK), .val (.int p6), .val (.int mc), .val (.ref b1), .val (.ref b73), .val (.ref rd)] [(.ref b73)])) rfl (by rw [hml]; rfl) (lenOf pd24 rfl) rfl (W := 0) (by show 2 * 0 + _ ≤ _; exact Nat.le_of_eq rfl) (hb hby at_432) (by decide) (by decide) (by decide) (by decide) ?_
                rintro T97 L97 v97 X97 ⟨rfl, NL97, K97⟩
                have N97 := Fr.app N95 NL97
                replace Sf_b73 := Safe.keep K97 sf0 CL95.1 Sf_b73
                replace CL95 := CL95.keep K97 sf0
                replace Fc87 := Fc87.keep K97 nin0
                replace Fv87 := Fv87.keep K97 nin0
                replace A73 := A73.keep K97
                replace Q74 := Q74.keep K97
                replace VF := VF.keep K97 nin0
                replace VB := VB.keep K97 nin0
                replace hzJ := Nat.le_trans hzJ K97.1
                replace OLJ := OLJ.keep K97 (all0)
                show Go pr ev below _ T97 (mkF m 435 #[.val (.int mM), .val (.int pP), .val (.int cC), .val (.int eE), .val (.int wW), .val (.int mU), .val (.int kK), .val (.int p6), .val (.int mc), .val (.ref b1), .val (.ref b73), .val (.ref rd)] [(own_named rd wr yR yW (own_lit [((yF (0 : Int32))).toInt8.toInt32, ((yF (1 : Int32))).toInt8.toInt32, ((yF (2 : Int32))).toInt8.toInt32, ((yF (3 : Int32))).toInt8.toInt32, ((yF (4 : Int32))).toInt8.toInt32, ((yF (5 : Int32))).toInt8.toInt32]))])
                refine Go.of (mkF m 437 #[.val (.int mM), .val (.int pP), .val (.int cC), .val (.int eE), .val (.int wW), .val (.int mU), .val (.int kK), .val (.int p6), .val (.int mc), .val (.ref b1), .val (.ref b73), .val (.ref rd)] [(.ref rd), (own_named rd wr yR yW (own_lit [((yF (0 : Int32))).toInt8.toInt32, ((yF (1 : Int32))).toInt8.toInt32, ((yF (2 : Int32))).toInt8.toInt32, ((yF (3 : Int32))).toInt8.toInt32, ((yF (4 : Int32))).toInt8.toInt32, ((yF (5 : Int32))).toInt8.toInt32]))]) (fun tt0 kk0 => XS.aload X97.here hx rfl (hb hby at_435) rfl rfl kk0) ?_
                refine Go.of (mkF m 440 #[.val (.int mM), .val (.int pP), .val (.int cC), .val (.int eE), .val (.int wW), .val (.int mU), .val (.int kK), .val (.int p6), .val (.int mc), .val (.ref b1), .val (.ref b73), .val (.ref rd)] []) (fun tt0 kk0 => Jvm.RoadKit.acmp (g := (mkF m 437 #[.val (.int mM), .val (.int pP), .val (.int cC), .val (.int eE), .val (.int wW), .val (.int mU), .val (.int kK), .val (.int p6), .val (.int mc), .val (.ref b1), .val (.ref b73), .val (.ref rd)] [(.ref rd), (own_named rd wr yR yW (own_lit [((yF (0 : Int32))).toInt8.toInt32, ((yF (1 : Int32))).toInt8.toInt32, ((yF (2 : Int32))).toInt8.toInt32, ((yF (3 : Int32))).toInt8.toInt32, ((yF (4 : Int32))).toInt8.toInt32, ((yF (5 : Int32))).toInt8.toInt32]))])) X97 hx rfl (x := (own_named rd wr yR yW (own_lit [((yF (0 : Int32))).toInt8.toInt32, ((yF (1 : Int32))).toInt8.toInt32, ((yF (2 : Int32))).toInt8.toInt32, ((yF (3 : Int32))).toInt8.toInt32, ((yF (4 : Int32))).toInt8.toInt32, ((yF (5 : Int32))).toInt8.toInt32]))) (y := (.ref rd)) (own_named_ref _ _ _ _ _) rfl (pc0 := 437) (pc' := 440) (same := true) rfl (hb hby at_437) rfl (decide_eq_true ((own_fin rd wr eR eW hmc hp6 hyF).trans (by simp [hc399, hc411, hc416]))) (by decide) (by decide) kk0) ?_
                refine Go.of (mkF m 441 #[.val (.int mM), .val (.int pP), .val (.int cC), .val (.int eE), .val (.int wW), .val (.int mU), .val (.int kK), .val (.int p6), .val (.int mc), .val (.ref b1), .val (.ref b73), .val (.ref rd)] [(.int (1 : Int32))]) (fun tt0 kk0 => XS.iconst X97.here hx rfl (hb hby at_440) kk0) ?_
                refine Go.of (mkF m 445 #[.val (.int mM), .val (.int pP), .val (.int cC), .val (.int eE), .val (.int wW), .val (.int mU), .val (.int kK), .val (.int p6), .val (.int mc), .val (.ref b1), .val (.ref b73), .val (.ref rd)] [(.int (1 : Int32))]) (fun tt0 kk0 => XS.goto X97.here hx rfl (pc0 := 441) (pc' := 445) rfl (hb hby at_441) (by decide) (by decide) kk0) ?_
                exact Go.retWC X97 hx hZ hEL rfl CL95 (t := .boolean) hret hlk rfl (Or.inl ⟨rfl, by simp, _, rfl⟩) (hb hby at_445) (by decide) (by decide) ⟨rfl, N97⟩
              ·
                refine Go.of (mkF m 419 #[.val (.int mM), .val (.int pP), .val (.int cC), .val (.int eE), .val (.int wW), .val (.int mU), .val (.int kK), .val (.int p6), .val (.int mc), .val (.ref b1), .val (.ref b73), .val .null] []) (fun tt0 kk0 => XS.ifNo X95.here hx rfl (hb hby at_416) rfl ((if0 _ _).trans (feq hc416).1) kk0) ?_
                have sgwr := (Sw.ext OLJ.2)
                obtain ⟨T99, X99, e99, st99⟩ := getS2 X95 hx hZ hown (host := "") (Or.inl (tw94 hw)) Via.refl rfl sgwr (g := (mkF m 419 #[.val (.int mM), .val (.int pP), .val (.int cC), .val (.int eE), .val (.int wW), .val (.int mU), .val (.int kK), .val (.int p6), .val (.int mc), .val (.ref b1), .val (.ref b73), .val .null] [])) rfl (hb hby at_419)
                refine Go.of (mkF m 422 #[.val (.int mM), .val (.int pP), .val (.int cC), .val (.int eE), .val (.int wW), .val (.int mU), .val (.int kK), .val (.int p6), .val (.int mc), .val (.ref b1), .val (.ref b73), .val .null] [(.ref wr)]) (st99) ?_
                refine Go.of (mkF m 428 #[.val (.int mM), .val (.int pP), .val (.int cC), .val (.int eE), .val (.int wW), .val (.int mU), .val (.int kK), .val (.int p6), .val (.int mc), .val (.ref b1), .val (.ref b73), .val .null] [(.ref wr)]) (fun tt0 kk0 => XS.goto X99.here hx rfl (pc0 := 422) (pc' := 428) rfl (hb hby at_422) (by decide) (by decide) kk0) ?_
                refine Go.of (mkF m 430 #[.val (.int mM), .val (.int pP), .val (.int cC), .val (.int eE), .val (.int wW), .val (.int mU), .val (.int kK), .val (.int p6), .val (.int mc), .val (.ref b1), .val (.ref b73), .val (.ref wr)] []) (fun tt0 kk0 => XS.astore X99.here hx rfl (hb hby at_428) rfl rfl (l' := #[.val (.int mM), .val (.int pP), .val (.int cC), .val (.int eE), .val (.int wW), .val (.int mU), .val (.int kK), .val (.int p6), .val (.int mc), .val (.ref b1), .val (.ref b73), .val (.ref wr)]) rfl kk0) ?_
                refine Go.of (mkF m 432 #[.val (.int mM), .val (.int pP), .val (.int cC), .val (.int eE), .val (.int wW), .val (.int mU), .val (.int kK), .val (.int p6), .val (.int mc), .val (.ref b1), .val (.ref b73), .val (.ref wr)] [(.ref b73)]) (fun tt0 kk0 => XS.aload X99.here hx rfl (hb hby at_430) rfl rfl kk0) ?_
                refine Go.callS X99 hx hZ (y := (⟨"com/example/sealed_ledger/sealedledger/http/Access$Role", "named", "(Ljava/lang/String;)Lcom/example/sealed_ledger/sealedledger/http/Access$Role;"⟩ : MethodName)) (argsL := [(.ref b73)]) (rest := []) hown (tw63 hw) (tw64 hw) (tw61 hw) (tw65 hw) (by decide) e99 (rmNa6 l Z a0 hw [] T95.heap n0 hzJ G1 (O2.ext OLJ.2) P3 va rd wr yv (Sv.ext OLJ.2) (Vv.ext OLJ.2) (Ev.ext OLJ.2) hy0 hy1 t1 d1 t2 d2 yR yW (Er.ext OLJ.2) (Fr1.ext OLJ.2) (E_t1.ext OLJ.2) (C_t1.ext OLJ.2) (V_t1.ext OLJ.2) (A_t1.ext OLJ.2) (Ew.ext OLJ.2) (Fw1.ext OLJ.2) (E_t2.ext OLJ.2) (C_t2.ext OLJ.2) (V_t2.ext OLJ.2) (A_t2.ext OLJ.2) b73 t87 6 (own_lit [((yF (0 : Int32))).toInt8.toInt32, ((yF (1 : Int32))).toInt8.toInt32, ((yF (2 : Int32))).toInt8.toInt32, ((yF (3 : Int32))).toInt8.toInt32, ((yF (4 : Int32))).toInt8.toInt32, ((yF (5 : Int32))).toInt8.toInt32]) A73 Fc87 Fv87 VB (Nat.ne_of_lt (Nat.lt_of_lt_of_le (Nat.lt_of_lt_of_eq E_t1.lt OLJ.1) gb_b73)) (Nat.ne_of_lt (Nat.lt_of_lt_of_le (Nat.lt_of_lt_of_eq E_t2.lt OLJ.1) gb_b73)) (by decide)) (g := (mkF m 432 #[.val (.int mM), .val (.int pP), .val (.int cC), .val (.int eE), .val (.int wW), .val (.int mU), .val (.int kK), .val (.int p6), .val (.int mc), .val (.ref b1), .val (.ref b73), .val (.ref wr)] [(.ref b73)])) rfl (by rw [hml]; rfl) (lenOf pd24 rfl) rfl (W := 0) (by show 2 * 0 + _ ≤ _; exact Nat.le_of_eq rfl) (hb hby at_432) (by decide) (by decide) (by decide) (by decide) ?_
                rintro T100 L100 v100 X100 ⟨rfl, NL100, K100⟩
                have N100 := Fr.app N95 NL100
                replace Sf_b73 := Safe.keep K100 sf0 CL95.1 Sf_b73
                replace CL95 := CL95.keep K100 sf0
                replace Fc87 := Fc87.keep K100 nin0
                replace Fv87 := Fv87.keep K100 nin0
                replace A73 := A73.keep K100
                replace Q74 := Q74.keep K100
                replace VF := VF.keep K100 nin0
                replace VB := VB.keep K100 nin0
                replace hzJ := Nat.le_trans hzJ K100.1
                replace OLJ := OLJ.keep K100 (all0)
                show Go pr ev below _ T100 (mkF m 435 #[.val (.int mM), .val (.int pP), .val (.int cC), .val (.int eE), .val (.int wW), .val (.int mU), .val (.int kK), .val (.int p6), .val (.int mc), .val (.ref b1), .val (.ref b73), .val (.ref wr)] [(own_named rd wr yR yW (own_lit [((yF (0 : Int32))).toInt8.toInt32, ((yF (1 : Int32))).toInt8.toInt32, ((yF (2 : Int32))).toInt8.toInt32, ((yF (3 : Int32))).toInt8.toInt32, ((yF (4 : Int32))).toInt8.toInt32, ((yF (5 : Int32))).toInt8.toInt32]))])
                refine Go.of (mkF m 437 #[.val (.int mM), .val (.int pP), .val (.int cC), .val (.int eE), .val (.int wW), .val (.int mU), .val (.int kK), .val (.int p6), .val (.int mc), .val (.ref b1), .val (.ref b73), .val (.ref wr)] [(.ref wr), (own_named rd wr yR yW (own_lit [((yF (0 : Int32))).toInt8.toInt32, ((yF (1 : Int32))).toInt8.toInt32, ((yF (2 : Int32))).toInt8.toInt32, ((yF (3 : Int32))).toInt8.toInt32, ((yF (4 : Int32))).toInt8.toInt32, ((yF (5 : Int32))).toInt8.toInt32]))]) (fun tt0 kk0 => XS.aload X100.here hx rfl (hb hby at_435) rfl rfl kk0) ?_
                refine Go.of (mkF m 440 #[.val (.int mM), .val (.int pP), .val (.int cC), .val (.int eE), .val (.int wW), .val (.int mU), .val (.int kK), .val (.int p6), .val (.int mc), .val (.ref b1), .val (.ref b73), .val (.ref wr)] []) (fun tt0 kk0 => Jvm.RoadKit.acmp (g := (mkF m 437 #[.val (.int mM), .val (.int pP), .val (.int cC), .val (.int eE), .val (.int wW), .val (.int mU), .val (.int kK), .val (.int p6), .val (.int mc), .val (.ref b1), .val (.ref b73), .val (.ref wr)] [(.ref wr), (own_named rd wr yR yW (own_lit [((yF (0 : Int32))).toInt8.toInt32, ((yF (1 : Int32))).toInt8.toInt32, ((yF (2 : Int32))).toInt8.toInt32, ((yF (3 : Int32))).toInt8.toInt32, ((yF (4 : Int32))).toInt8.toInt32, ((yF (5 : Int32))).toInt8.toInt32]))])) X100 hx rfl (x := (own_named rd wr yR yW (own_lit [((yF (0 : Int32))).toInt8.toInt32, ((yF (1 : Int32))).toInt8.toInt32, ((yF (2 : Int32))).toInt8.toInt32, ((yF (3 : Int32))).toInt8.toInt32, ((yF (4 : Int32))).toInt8.toInt32, ((yF (5 : Int32))).toInt8.toInt32]))) (y := (.ref wr)) (own_named_ref _ _ _ _ _) rfl (pc0 := 437) (pc' := 440) (same := true) rfl (hb hby at_437) rfl (decide_eq_true ((own_fin rd wr eR eW hmc hp6 hyF).trans (by simp [hc399, hc411, hc416]))) (by decide) (by decide) kk0) ?_
                refine Go.of (mkF m 441 #[.val (.int mM), .val (.int pP), .val (.int cC), .val (.int eE), .val (.int wW), .val (.int mU), .val (.int kK), .val (.int p6), .val (.int mc), .val (.ref b1), .val (.ref b73), .val (.ref wr)] [(.int (1 : Int32))]) (fun tt0 kk0 => XS.iconst X100.here hx rfl (hb hby at_440) kk0) ?_
                refine Go.of (mkF m 445 #[.val (.int mM), .val (.int pP), .val (.int cC), .val (.int eE), .val (.int wW), .val (.int mU), .val (.int kK), .val (.int p6), .val (.int mc), .val (.ref b1), .val (.ref b73), .val (.ref wr)] [(.int (1 : Int32))]) (fun tt0 kk0 => XS.goto X100.here hx rfl (pc0 := 441) (pc' := 445) rfl (hb hby at_441) (by decide) (by decide) kk0) ?_
                exact Go.retWC X100 hx hZ hEL rfl CL95 (t := .boolean) hret hlk rfl (Or.inl ⟨rfl, by simp, _, rfl⟩) (hb hby at_445) (by decide) (by decide) ⟨rfl, N100⟩
            ·
              refine Go.of (mkF m 430 #[.val (.int mM), .val (.int pP), .val (.int cC), .val (.int eE), .val (.int wW), .val (.int mU), .val (.int kK), .val (.int p6), .val (.int mc), .val (.ref b1), .val (.ref b73), .val .null] []) (fun tt0 kk0 => XS.icmpYes X95.here hx rfl (pc0 := 411) (pc' := 430) rfl (hb hby at_411) rfl (feq hc411).2 (by decide) (by decide) kk0) ?_
              refine Go.of (mkF m 432 #[.val (.int mM), .val (.int pP), .val (.int cC), .val (.int eE), .val (.int wW), .val (.int mU), .val (.int kK), .val (.int p6), .val (.int mc), .val (.ref b1), .val (.ref b73), .val .null] [(.ref b73)]) (fun tt0 kk0 => XS.aload X95.here hx rfl (hb hby at_430) rfl rfl kk0) ?_
              refine Go.callS X95 hx hZ (y := (⟨"com/example/sealed_ledger/sealedledger/http/Access$Role", "named", "(Ljava/lang/String;)Lcom/example/sealed_ledger/sealedledger/http/Access$Role;"⟩ : MethodName)) (argsL := [(.ref b73)]) (rest := []) hown (tw63 hw) (tw64 hw) (tw61 hw) (tw65 hw) (by decide) rfl (rmNa6 l Z a0 hw [] T95.heap n0 hzJ G1 (O2.ext OLJ.2) P3 va rd wr yv (Sv.ext OLJ.2) (Vv.ext OLJ.2) (Ev.ext OLJ.2) hy0 hy1 t1 d1 t2 d2 yR yW (Er.ext OLJ.2) (Fr1.ext OLJ.2) (E_t1.ext OLJ.2) (C_t1.ext OLJ.2) (V_t1.ext OLJ.2) (A_t1.ext OLJ.2) (Ew.ext OLJ.2) (Fw1.ext OLJ.2) (E_t2.ext OLJ.2) (C_t2.ext OLJ.2) (V_t2.ext OLJ.2) (A_t2.ext OLJ.2) b73 t87 6 (own_lit [((yF (0 : Int32))).toInt8.toInt32, ((yF (1 : Int32))).toInt8.toInt32, ((yF (2 : Int32))).toInt8.toInt32, ((yF (3 : Int32))).toInt8.toInt32, ((yF (4 : Int32))).toInt8.toInt32, ((yF (5 : Int32))).toInt8.toInt32]) A73 Fc87 Fv87 VB (Nat.ne_of_lt (Nat.lt_of_lt_of_le (Nat.lt_of_lt_of_eq E_t1.lt OLJ.1) gb_b73)) (Nat.ne_of_lt (Nat.lt_of_lt_of_le (Nat.lt_of_lt_of_eq E_t2.lt OLJ.1) gb_b73)) (by decide)) (g := (mkF m 432 #[.val (.int mM), .val (.int pP), .val (.int cC), .val (.int eE), .val (.int wW), .val (.int mU), .val (.int kK), .val (.int p6), .val (.int mc), .val (.ref b1), .val (.ref b73), .val .null] [(.ref b73)])) rfl (by rw [hml]; rfl) (lenOf pd24 rfl) rfl (W := 0) (by show 2 * 0 + _ ≤ _; exact Nat.le_of_eq rfl) (hb hby at_432) (by decide) (by decide) (by decide) (by decide) ?_
              rintro T102 L102 v102 X102 ⟨rfl, NL102, K102⟩
              have N102 := Fr.app N95 NL102
              replace Sf_b73 := Safe.keep K102 sf0 CL95.1 Sf_b73
              replace CL95 := CL95.keep K102 sf0
              replace Fc87 := Fc87.keep K102 nin0
              replace Fv87 := Fv87.keep K102 nin0
              replace A73 := A73.keep K102
              replace Q74 := Q74.keep K102
              replace VF := VF.keep K102 nin0
              replace VB := VB.keep K102 nin0
              replace hzJ := Nat.le_trans hzJ K102.1
              replace OLJ := OLJ.keep K102 (all0)
              show Go pr ev below _ T102 (mkF m 435 #[.val (.int mM), .val (.int pP), .val (.int cC), .val (.int eE), .val (.int wW), .val (.int mU), .val (.int kK), .val (.int p6), .val (.int mc), .val (.ref b1), .val (.ref b73), .val .null] [(own_named rd wr yR yW (own_lit [((yF (0 : Int32))).toInt8.toInt32, ((yF (1 : Int32))).toInt8.toInt32, ((yF (2 : Int32))).toInt8.toInt32, ((yF (3 : Int32))).toInt8.toInt32, ((yF (4 : Int32))).toInt8.toInt32, ((yF (5 : Int32))).toInt8.toInt32]))])
              refine Go.of (mkF m 437 #[.val (.int mM), .val (.int pP), .val (.int cC), .val (.int eE), .val (.int wW), .val (.int mU), .val (.int kK), .val (.int p6), .val (.int mc), .val (.ref b1), .val (.ref b73), .val .null] [.null, (own_named rd wr yR yW (own_lit [((yF (0 : Int32))).toInt8.toInt32, ((yF (1 : Int32))).toInt8.toInt32, ((yF (2 : Int32))).toInt8.toInt32, ((yF (3 : Int32))).toInt8.toInt32, ((yF (4 : Int32))).toInt8.toInt32, ((yF (5 : Int32))).toInt8.toInt32]))]) (fun tt0 kk0 => XS.aload X102.here hx rfl (hb hby at_435) rfl rfl kk0) ?_
              refine Go.of (mkF m 440 #[.val (.int mM), .val (.int pP), .val (.int cC), .val (.int eE), .val (.int wW), .val (.int mU), .val (.int kK), .val (.int p6), .val (.int mc), .val (.ref b1), .val (.ref b73), .val .null] []) (fun tt0 kk0 => Jvm.RoadKit.acmp (g := (mkF m 437 #[.val (.int mM), .val (.int pP), .val (.int cC), .val (.int eE), .val (.int wW), .val (.int mU), .val (.int kK), .val (.int p6), .val (.int mc), .val (.ref b1), .val (.ref b73), .val .null] [.null, (own_named rd wr yR yW (own_lit [((yF (0 : Int32))).toInt8.toInt32, ((yF (1 : Int32))).toInt8.toInt32, ((yF (2 : Int32))).toInt8.toInt32, ((yF (3 : Int32))).toInt8.toInt32, ((yF (4 : Int32))).toInt8.toInt32, ((yF (5 : Int32))).toInt8.toInt32]))])) X102 hx rfl (x := (own_named rd wr yR yW (own_lit [((yF (0 : Int32))).toInt8.toInt32, ((yF (1 : Int32))).toInt8.toInt32, ((yF (2 : Int32))).toInt8.toInt32, ((yF (3 : Int32))).toInt8.toInt32, ((yF (4 : Int32))).toInt8.toInt32, ((yF (5 : Int32))).toInt8.toInt32]))) (y := .null) (own_named_ref _ _ _ _ _) rfl (pc0 := 437) (pc' := 440) (same := true) rfl (hb hby at_437) rfl (decide_eq_true ((own_fin rd wr eR eW hmc hp6 hyF).trans (by simp [hc399, hc411]))) (by decide) (by decide) kk0) ?_
              refine Go.of (mkF m 441 #[.val (.int mM), .val (.int pP), .val (.int cC), .val (.int eE), .val (.int wW), .val (.int mU), .val (.int kK), .val (.int p6), .val (.int mc), .val (.ref b1), .val (.ref b73), .val .null] [(.int (1 : Int32))]) (fun tt0 kk0 => XS.iconst X102.here hx rfl (hb hby at_440) kk0) ?_
              refine Go.of (mkF m 445 #[.val (.int mM), .val (.int pP), .val (.int cC), .val (.int eE), .val (.int wW), .val (.int mU), .val (.int kK), .val (.int p6), .val (.int mc), .val (.ref b1), .val (.ref b73), .val .null] [(.int (1 : Int32))]) (fun tt0 kk0 => XS.goto X102.here hx rfl (pc0 := 441) (pc' := 445) rfl (hb hby at_441) (by decide) (by decide) kk0) ?_
              exact Go.retWC X102 hx hZ hEL rfl CL95 (t := .boolean) hret hlk rfl (Or.inl ⟨rfl, by simp, _, rfl⟩) (hb hby at_445) (by decide) (by decide) ⟨rfl, N102⟩
      by_cases hc132 : mU = (0 : Int32)
      ·
        refine Go.of (mkF m 142 #[.val (.int mM), .val (.int pP), .val (.int cC), .val (.int eE), .val (.int wW), .val (.int mU), .val (.int kK), .val (.int p6), .val (.int mc), .val (.ref b1), .unset, .unset] []) (fun tt0 kk0 => XS.ifYes X20.here hx rfl (pc0 := 132) (pc' := 142) rfl (hb hby at_132) rfl ((if0 _ _).trans (teq hc132).1) (by decide) (by decide) kk0) ?_
        exact J142 _ _ _ _ (fnup (fnup (fnup (fnup (fnup (fnup (fnup (fun _ => (0 : Int32)) (0 : Int32) (own_base wW (0 : Int32))) (1 : Int32) (own_base wW (1 : Int32))) (2 : Int32) (own_base wW (2 : Int32))) (3 : Int32) (own_base wW (3 : Int32))) (4 : Int32) (own_base wW (4 : Int32))) (5 : Int32) (own_base wW (5 : Int32))) (6 : Int32) (eE &&& (255 : Int32))) X20 e20 hZ hown CL17 N20 V_b1 OL hz (by simp only [own_fm, own_full, hc132, if_true, if_false])
      ·
        refine Go.of (mkF m 135 #[.val (.int mM), .val (.int pP), .val (.int cC), .val (.int eE), .val (.int wW), .val (.int mU), .val (.int kK), .val (.int p6), .val (.int mc), .val (.ref b1), .unset, .unset] []) (fun tt0 kk0 => XS.ifNo X20.here hx rfl (hb hby at_132) rfl ((if0 _ _).trans (feq hc132).1) kk0) ?_
        refine Go.of (mkF m 137 #[.val (.int mM), .val (.int pP), .val (.int cC), .val (.int eE), .val (.int wW), .val (.int mU), .val (.int kK), .val (.int p6), .val (.int mc), .val (.ref b1), .unset, .unset] [(.ref b1)]) (fun tt0 kk0 => XS.aload X20.here hx rfl (hb hby at_135) rfl rfl kk0) ?_
        refine Go.of (mkF m 139 #[.val (.int mM), .val (.int pP), .val (.int cC), .val (.int eE), .val (.int wW), .val (.int mU), .val (.int kK), .val (.int p6), .val (.int mc), .val (.ref b1), .unset, .unset] [(.int p6), (.ref b1)]) (fun tt0 kk0 => XS.iload X20.here hx rfl (hb hby at_137) rfl kk0) ?_
        refine Go.of (mkF m 141 #[.val (.int mM), .val (.int pP), .val (.int cC), .val (.int eE), .val (.int wW), .val (.int mU), .val (.int kK), .val (.int p6), .val (.int mc), .val (.ref b1), .unset, .unset] [(.int mc), (.int p6), (.ref b1)]) (fun tt0 kk0 => XS.iload X20.here hx rfl (hb hby at_139) rfl kk0) ?_
        refine Go.castore X20 hx hZ e20 V_b1 hp6.1 (own_lt7 hp6.2) (g := (mkF m 141 #[.val (.int mM), .val (.int pP), .val (.int cC), .val (.int eE), .val (.int wW), .val (.int mU), .val (.int kK), .val (.int p6), .val (.int mc), .val (.ref b1), .unset, .unset] [(.int mc), (.int p6), (.ref b1)])) rfl rfl (hb hby at_141) ?_
        rintro T104 h104 X104 e104 W104 V104
        have sw105 := (Fa.safe (EL := own_EL) hZ V_b1 (by decide))
        replace CL17 := CL17.wr W104 sw105
        replace Q1 := Q1.wr W104
        replace hz := Nat.le_trans hz (Nat.le_of_eq W104.size.symm)
        replace OL := OL.wr W104 gb_b1
        replace V_b1 := V104
        rw [show nar .char mc = mc from own_nar8 hmc] at V_b1
        have N104 := Fr.snoc X104 N20 gb_b1
        show Go pr ev below _ T104 (mkF m 142 #[.val (.int mM), .val (.int pP), .val (.int cC), .val (.int eE), .val (.int wW), .val (.int mU), .val (.int kK), .val (.int p6), .val (.int mc), .val (.ref b1), .unset, .unset] [])
        exact J142 _ _ _ _ (fnup (fnup (fnup (fnup (fnup (fnup (fnup (fnup (fun _ => (0 : Int32)) (0 : Int32) (own_base wW (0 : Int32))) (1 : Int32) (own_base wW (1 : Int32))) (2 : Int32) (own_base wW (2 : Int32))) (3 : Int32) (own_base wW (3 : Int32))) (4 : Int32) (own_base wW (4 : Int32))) (5 : Int32) (own_base wW (5 : Int32))) (6 : Int32) (eE &&& (255 : Int32))) p6 mc) X104 e104 hZ hown CL17 N104 V_b1 OL hz (by simp only [own_fm, own_full, hc132, if_true, if_false])
    by_cases hc18 : (((mM.toUInt32 >>> ((1 : Int32) &&& 31).toUInt32).toInt32) &&& (1 : Int32)) = (0 : Int32)
    ·
      refine Go.of (mkF m 25 #[.val (.int mM), .val (.int pP), .val (.int cC), .val (.int eE), .val (.int wW), .unset, .unset, .unset, .unset, .unset, .unset, .unset] []) (fun tt0 kk0 => XS.ifYes XJ.here hx rfl (pc0 := 18) (pc' := 25) rfl (hb hby at_18) rfl ((if0 _ _).trans (teq hc18).1) (by decide) (by decide) kk0) ?_
      refine Go.of (mkF m 26 #[.val (.int mM), .val (.int pP), .val (.int cC), .val (.int eE), .val (.int wW), .unset, .unset, .unset, .unset, .unset, .unset, .unset] [(.int (0 : Int32))]) (fun tt0 kk0 => XS.iconst XJ.here hx rfl (hb hby at_25) kk0) ?_
      exact J26 _ _ _ _ XJ eJ hZ hown CLJ NJ OL
    ·
      refine Go.of (mkF m 21 #[.val (.int mM), .val (.int pP), .val (.int cC), .val (.int eE), .val (.int wW), .unset, .unset, .unset, .unset, .unset, .unset, .unset] []) (fun tt0 kk0 => XS.ifNo XJ.here hx rfl (hb hby at_18) rfl ((if0 _ _).trans (feq hc18).1) kk0) ?_
      refine Go.of (mkF m 22 #[.val (.int mM), .val (.int pP), .val (.int cC), .val (.int eE), .val (.int wW), .unset, .unset, .unset, .unset, .unset, .unset, .unset] [(.int (1 : Int32))]) (fun tt0 kk0 => XS.iconst XJ.here hx rfl (hb hby at_21) kk0) ?_
      refine Go.of (mkF m 26 #[.val (.int mM), .val (.int pP), .val (.int cC), .val (.int eE), .val (.int wW), .unset, .unset, .unset, .unset, .unset, .unset, .unset] [(.int (1 : Int32))]) (fun tt0 kk0 => XS.goto XJ.here hx rfl (pc0 := 22) (pc' := 26) rfl (hb hby at_22) (by decide) (by decide) kk0) ?_
      exact J26 _ _ _ _ XJ eJ hZ hown CLJ NJ OL
  by_cases hc3 : (mM &&& (1 : Int32)) = (0 : Int32)
  ·
    refine Go.of (mkF m 10 #[.val (.int mM), .val (.int pP), .val (.int cC), .val (.int eE), .unset, .unset, .unset, .unset, .unset, .unset, .unset, .unset] []) (fun tt0 kk0 => XS.ifYes X0.here hx rfl (pc0 := 3) (pc' := 10) rfl (hb hby at_3) rfl ((if0 _ _).trans (teq hc3).1) (by decide) (by decide) kk0) ?_
    refine Go.of (mkF m 11 #[.val (.int mM), .val (.int pP), .val (.int cC), .val (.int eE), .unset, .unset, .unset, .unset, .unset, .unset, .unset, .unset] [(.int (0 : Int32))]) (fun tt0 kk0 => XS.iconst X0.here hx rfl (hb hby at_10) kk0) ?_
    exact J11 _ _ _ _ X0 e0 hZ hown CL0 N0 
  ·
    refine Go.of (mkF m 6 #[.val (.int mM), .val (.int pP), .val (.int cC), .val (.int eE), .unset, .unset, .unset, .unset, .unset, .unset, .unset, .unset] []) (fun tt0 kk0 => XS.ifNo X0.here hx rfl (hb hby at_3) rfl ((if0 _ _).trans (feq hc3).1) kk0) ?_
    refine Go.of (mkF m 7 #[.val (.int mM), .val (.int pP), .val (.int cC), .val (.int eE), .unset, .unset, .unset, .unset, .unset, .unset, .unset, .unset] [(.int (1 : Int32))]) (fun tt0 kk0 => XS.iconst X0.here hx rfl (hb hby at_6) kk0) ?_
    refine Go.of (mkF m 11 #[.val (.int mM), .val (.int pP), .val (.int cC), .val (.int eE), .unset, .unset, .unset, .unset, .unset, .unset, .unset, .unset] [(.int (1 : Int32))]) (fun tt0 kk0 => XS.goto X0.here hx rfl (pc0 := 7) (pc' := 11) rfl (hb hby at_7) (by decide) (by decide) kk0) ?_
    exact J11 _ _ _ _ X0 e0 hZ hown CL0 N0 
set_option maxRecDepth 65536 in
set_option maxHeartbeats 40000000 in
theorem comes_1 {Post : Tables → Env → Array Value → State → Outcome → State → Prop} (hpost : ∀ tb e args s v u, (limb_1_1.after args s (.returned v) u = true ∧ limb_1_2.after args s (.returned v) u = true ∧ True) → Jvm.D.FramedW s (.returned v) u (Jvm.fieldLocs frame_1_writes args s ++ Jvm.arrayLocs frame_1_arrays args s ++ Jvm.staticLocs frame_1_statics s) 24 3264 → Post tb e args s (.returned v) u) :
    ArmFor flags0 classFile x code maxLocals ret World_1 tables_1 room_1 Calls_1 rest_1 Pre_1 Post := by
  intro l hfl _ _ p e ha hc hk s m args below hf hA hF happ hP
  obtain ⟨hcalls, hrest, hpre⟩ := hP
  obtain ⟨-, -, -, hnamed, -, -, -, hat⟩ := (Spec.applies_iff hf).mp happ
  obtain ⟨hg, hn⟩ := and_e (Cond.before_iff.mp (show (Jvm.Cond.and given_1 narrow_1).before args s = true from hpre))
  obtain ⟨gc, gr⟩ := and_e hg
  obtain ⟨gi0, gr⟩ := and_e gr
  obtain ⟨gi1, gr⟩ := and_e gr
  obtain ⟨gi2, gr⟩ := and_e gr
  have gi3 := gr
  obtain ⟨w0, w1, w2, w3, rfl⟩ : ∃ w0 w1 w2 w3 : Value, args = #[w0, w1, w2, w3] := by
    have hs : args.size = 4 := by simpa [Cond.value, given_1] using gc
    obtain ⟨L⟩ := args
    match L, hs with
    | [w0, w1, w2, w3], _ => exact ⟨w0, w1, w2, w3, rfl⟩
  have hw := fun d (hd : d ∈ tables_1) => atoms_spec (ws := Jvm.Cond.code x code maxLocals ret :: tables_1) hat d (List.mem_cons_of_mem _ hd)
  have hfit : Fit s := fun {y c} hc i hi => by
    obtain ⟨ha, rfl⟩ := Array.getElem?_eq_some_iff.mp hc
    have q := List.all_eq_true.mp ((Array.all_eq_true_iff_forall_mem.mp hF) _ (Array.getElem_mem ha)) i (List.mem_range.mpr hi)
    simpa [Array.getElem?_eq_getElem hi] using q
  obtain ⟨hsets, hown0⟩ := atoms_of _ (rest_1_c_eq ▸ (show rest_1_c.before _ s = true from hrest))
  have hr0 := Cond.before_iff.mp hown0
  obtain ⟨i0, ei0⟩ := is_v gi0
  obtain rfl : w0 = (.int i0) := Option.some.inj ei0
  obtain ⟨i1, ei1⟩ := is_v gi1
  obtain rfl : w1 = (.int i1) := Option.some.inj ei1
  obtain ⟨i2, ei2⟩ := is_v gi2
  obtain rfl : w2 = (.int i2) := Option.some.inj ei2
  obtain ⟨i3, ei3⟩ := is_v gi3
  obtain rfl : w3 = (.int i3) := Option.some.inj ei3
  obtain ⟨G1, eG1⟩ := is_v (Cond.before_iff.mp (hsets _ (List.mem_of_getElem? (i := 1) rfl)))
  have O2 : Sta s s.heap "java/lang/String" "COMPACT_STRINGS" "Z" (.int G1) := Sta.start eG1 (Or.inl (hsets _ (List.mem_of_getElem? (i := 0) rfl)))
  have P3 : ¬ G1 = 0 := gotF (Cond.eq_ints eG1 (Term.int_eval 0)) (not_v (Cond.before_iff.mp (hsets _ (List.mem_of_getElem? (i := 2) rfl))))
  obtain ⟨m0, hn⟩ := and_e hn
  obtain ⟨m1, hn⟩ := and_e hn
  obtain ⟨m2, hn⟩ := and_e hn
  obtain ⟨m3, hn⟩ := and_e hn
  obtain ⟨m4, hn⟩ := and_e hn
  obtain ⟨m5, hn⟩ := and_e hn
  obtain ⟨m6, hn⟩ := and_e hn
  obtain ⟨m7, hn⟩ := and_e hn
  obtain ⟨m8, hn⟩ := and_e hn
  obtain ⟨m9, hn⟩ := and_e hn
  obtain ⟨m10, hn⟩ := and_e hn
  obtain ⟨m11, hn⟩ := and_e hn
  obtain ⟨m12, hn⟩ := and_e hn
  obtain ⟨m13, hn⟩ := and_e hn
  obtain ⟨m14, hn⟩ := and_e hn
  obtain ⟨m15, hn⟩ := and_e hn
  obtain ⟨m16, hn⟩ := and_e hn
  obtain ⟨m17, hn⟩ := and_e hn
  obtain ⟨m18, hn⟩ := and_e hn
  obtain ⟨m19, hn⟩ := and_e hn
  obtain ⟨m20, hn⟩ := and_e hn
  obtain ⟨m21, hn⟩ := and_e hn
  obtain ⟨m22, hn⟩ := and_e hn
  obtain ⟨m23, hn⟩ := and_e hn
  obtain ⟨m24, hn⟩ := and_e hn
  obtain ⟨m25, hn⟩ := and_e hn
  have m26 := hn
  obtain ⟨rd, qr⟩ := exa_v m0
  obtain ⟨wr, qw⟩ := exa_v m5
  obtain ⟨va, qv⟩ := exa_v m2
  have Sr := Sta.start qr (Or.inr ⟨(tw61 hw), (tw62 hw)⟩)
  have Sw := Sta.start qw (Or.inr ⟨(tw61 hw), (tw78 hw)⟩)
  have Sv := Sta.start qv (Or.inr ⟨(tw61 hw), (tw70 hw)⟩)
  have Er := Exa.start qr m0
  have Ew := Exa.start qw m5
  have Ev := Exa.start qv m2
  have Vv := own_two hfit qv m1 m3 qr qw m4 m6
  obtain ⟨t1, qt1⟩ := exa_v m7
  obtain ⟨t2, qt2⟩ := exa_v m11
  obtain ⟨d1, qd1⟩ := arr_v m9
  obtain ⟨d2, qd2⟩ := arr_v m13
  have Fr1 := Fld.start (by rw [← fld_at qr]; exact qt1)
  have Fw1 := Fld.start (by rw [← fld_at qw]; exact qt2)
  have E1 := Exa.start qt1 m7
  have E2 := Exa.start qt2 m11
  have C1 := own_fi m8 qt1
  have C2 := own_fi m12 qt2
  have V1 := Fld.start (by rw [← fld_at qt1]; exact qd1)
  have V2 := Fld.start (by rw [← fld_at qt2]; exact qd2)
  have A1 := own_six hfit qd1 m9 m10 m15 m16 m17 m18 m19 m20
  have A2 := own_six hfit qd2 m13 m14 m21 m22 m23 m24 m25 m26
  obtain ⟨fv, efv, hfv⟩ := isR_v (Cond.before_iff.mp (hsets _ (List.mem_of_getElem? (i := 8) rfl)))
  have O4 := Sta.start efv (Or.inl (hsets _ (List.mem_of_getElem? (i := 7) rfl)))
  have hEL : EW s _ own_EL := EW.cons (text := "writer") (tw93 hw) (by decide) (EW.cons (text := "reader") (tw6 hw) (by decide) (EW.cons (text := "") (tw95 hw) (by decide) EW.nil))
  have wS : ∀ a ∈ Bundle.stringAtoms, a.before _ s = true := fun d hd => hw d ((by decide +kernel : ∀ d ∈ Bundle.stringAtoms, d ∈ tables_1) d hd)
  have hCH := CHv.start hEL hcalls.1 (hsets _ (List.mem_of_getElem? (i := 2) rfl)) (tw9 hw) (tw8 hw)
  obtain ⟨n, o, h1, h2, h3, _, L, rfl, ⟨rfl, N⟩, -, hq⟩ := rm0 l s _ hw tables_1 i0 i1 i2 i3 s.heap s.heap.size (Nat.le_refl _) (Old.start s) G1 O2 P3 fv hfv O4 va rd wr _ Sv Vv Ev rfl rfl t1 d1 t2 d2 _ _ Er Fr1 E1 C1 V1 A1 Ew Fw1 E2 C2 V2 A2 Sr Sw ⟨rfl, rfl, rfl, rfl, rfl, rfl⟩ ⟨rfl, rfl, rfl, rfl, rfl, rfl⟩ hEL wS p e ha hc hk s m _ below hf ((Spec.applies_iff_loose hf).mp happ).1 ⟨rfl, State.Warmed39.refl s, rfl, hCH⟩ trivial
  refine ⟨n, _, h1, h2, h3, hpost _ _ _ _ _ _ ⟨Cond.after_iff.mpr rfl, Cond.after_iff.mpr (eq_i res_at (Term.int_eval (1)) rfl), trivial⟩ ⟨hq.1, hq.2.1, hq.2.2.1, (hq.2.2.2.sift fun y hy => Or.inr (N y hy)).mono (by decide) (by decide)⟩⟩
theorem main_1_1 : Claimed_1_1 := comes_1 fun _ _ _ _ _ _ h hF => ⟨h.1, hF⟩
theorem main_1_2 : Claimed_1_2 := comes_1 fun _ _ _ _ _ _ h hF => ⟨h.2.1, hF⟩
end Jvm.Pilot.@@N@@
namespace Jvm.Pilot.@@N@@
open Jvm Jvm.ClassFile Sem Op Lib Jvm.Free Jvm.Stand Jvm.Pilot.@@N@@.Jvm.D
/-! MADE BY PROGRAM (witnessworld.py) out of the Statement's table words and the real class files: 22 classes; the members and pool entries that the words name. The judged class is class 1, her method 1. -/
namespace start1
open Jvm.ClassFile
def u (s : String) : CpInfo := .utf8 (stringToUtf16 s)
/-- a pool by its gaps: so many unusable entries, then the entry; so many at the end -/
def gap : Nat → List CpInfo → List CpInfo
  | 0, r => r
  | n + 1, r => .unusable :: gap n r
def poolList (es : List (Nat × CpInfo)) (last : Nat) : List CpInfo := es.foldr (fun e r => gap e.1 (e.2 :: r)) (gap last [])
def pool (es : List (Nat × CpInfo)) (last : Nat) : Array CpInfo := ⟨poolList es last⟩
def fileOf (pool : Array CpInfo) (this : Nat) (attrs : Array Attribute := #[]) (ms : Array MethodInfo := #[]) (fl : Nat := 33) (sup : Nat := 0) (ifs : Array Nat := #[]) (fds : Array FieldInfo := #[]) : ClassFile where
  minorVersion := 0
  majorVersion := 65
  constantPool := pool
  accessFlags := fl
  thisClass := this
  superClass := sup
  interfaces := ifs
  fields := fds
  methods := ms
  attributes := attrs
def plain (name : String) (sup : Option ClassId) : Class where
  name := name
  kind := .ordinary
  loader := none
  accessFlags := 33
  super := sup
  interfaces := #[]
  cf := none
  fields := #[]
  methods := #[]
  instanceTypes := #[]
  staticTypes := #[]
  resolved := #[]
  callSites := []
  init := .initialized
  statics := none
  mirror := none

def pool0 : Array CpInfo := pool [(5, u "<init>"), (0, u "()V"), (1, .class_ 10), (1, u "java/lang/Object"), (85, u "clone"), (0, u "()Ljava/lang/Object;")] 26

def k0c0 : Code := { maxStack := 0, maxLocals := 1, code := object_method_1_code, exceptionTable := #[], attributes := #[] }
def k0m0 : Method := { name := "<init>", desc := "()V", sig := { parameters := [], returnType := none }, accessFlags := 1, code := some k0c0 }
def k0m1 : Method := { name := "clone", desc := "()Ljava/lang/Object;", sig := { parameters := [], returnType := some (.object "java/lang/Object") }, accessFlags := 260, code := none }
/-- java/lang/Object -/
def k0 : Class := { plain "java/lang/Object" none with
  accessFlags := 33
  interfaces := #[]
  cf := some (fileOf pool0 8 #[] #[{ accessFlags := 1, nameIndex := 5, descriptorIndex := 6, attributes := #[] }, { accessFlags := 260, nameIndex := 96, descriptorIndex := 97, attributes := #[] }] 33 0 #[] #[])
  fields := #[]
  methods := #[k0m0, k0m1]
  instanceTypes := #[]
  staticTypes := #[]
  resolved := Array.replicate 124 none
  statics := none }

def pool1 : Array CpInfo := pool [(2, .class_ 4), (1, u "java/lang/Object"), (0, u "<init>"), (0, u "()V"), (0, .integer 2147483647), (0, .methodref 9 10), (0, .class_ 11), (0, .nameAndType 12 13), (0, u "com/example/sealed_ledger/sealedledger/http/RoleNamedPinLaw"), (0, u "base"), (0, u "(ZI)C"), (0, .class_ 15), (0, u "java/lang/String"), (0, .methodref 14 17), (0, .nameAndType 5 18), (0, u "([C)V"), (0, .fieldref 20 21), (0, .class_ 22), (0, .nameAndType 23 24), (0, u "com/example/sealed_ledger/sealedledger/http/Access$Role"), (0, u "WRITER"), (0, u "Lcom/example/sealed_ledger/sealedledger/http/Access$Role;"), (0, .fieldref 20 26), (0, .nameAndType 27 24), (0, u "READER"), (0, .methodref 20 29), (0, .nameAndType 30 31), (0, u "named"), (0, u "(Ljava/lang/String;)Lcom/example/sealed_ledger/sealedledger/http/Access$Role;"), (0, .string 33), (0, u "writer"), (0, .string 35), (0, u "reader"), (0, .methodref 14 37), (0, .nameAndType 38 39), (0, u "charAt"), (0, u "(I)C"), (2, u "law"), (0, u "(IIII)Z")] 9

def k1m0 : Method := { name := "<init>", desc := "()V", sig := { parameters := [], returnType := none }, accessFlags := 1, code := none }
def k1c1 : Code := { maxStack := 7, maxLocals := 12, code := code, exceptionTable := #[], attributes := #[] }
def k1m1 : Method := { name := "law", desc := "(IIII)Z", sig := { parameters := [.int, .int, .int, .int], returnType := some .boolean }, accessFlags := 9, code := some k1c1 }
def k1c2 : Code := { maxStack := 2, maxLocals := 3, code := method_3_code, exceptionTable := #[], attributes := #[] }
def k1m2 : Method := { name := "base", desc := "(ZI)C", sig := { parameters := [.boolean, .int], returnType := some .char }, accessFlags := 10, code := some k1c2 }
/-- com/example/sealed_ledger/sealedledger/http/RoleNamedPinLaw -/
def k1 : Class := { plain "com/example/sealed_ledger/sealedledger/http/RoleNamedPinLaw" (some 0) with
  accessFlags := 49
  interfaces := #[]
  cf := some (fileOf pool1 9 #[] #[{ accessFlags := 1, nameIndex := 5, descriptorIndex := 6, attributes := #[] }, { accessFlags := 9, nameIndex := 42, descriptorIndex := 43, attributes := #[] }, { accessFlags := 10, nameIndex := 12, descriptorIndex := 13, attributes := #[] }] 49 2 #[] #[])
  fields := #[]
  methods := #[k1m0, k1m1, k1m2]
  instanceTypes := #[]
  staticTypes := #[]
  resolved := Array.replicate 53 none
  statics := none }

def pool2 : Array CpInfo := pool [(1, .class_ 2), (0, u "java/io/Serializable"), (0, .class_ 4), (0, u "java/lang/Object")] 2

/-- java/io/Serializable -/
def k2 : Class := { plain "java/io/Serializable" (some 0) with
  accessFlags := 1537
  interfaces := #[]
  cf := some (fileOf pool2 1 #[] #[] 1537 3 #[] #[])
  fields := #[]
  methods := #[]
  instanceTypes := #[]
  staticTypes := #[]
  resolved := Array.replicate 7 none
  statics := none }

def pool3 : Array CpInfo := pool [(1, .class_ 2), (0, u "java/lang/Comparable"), (0, .class_ 4), (0, u "java/lang/Object")] 7

/-- java/lang/Comparable -/
def k3 : Class := { plain "java/lang/Comparable" (some 0) with
  accessFlags := 1537
  interfaces := #[]
  cf := some (fileOf pool3 1 #[] #[] 1537 3 #[] #[])
  fields := #[]
  methods := #[]
  instanceTypes := #[]
  staticTypes := #[]
  resolved := Array.replicate 12 none
  statics := none }

def pool4 : Array CpInfo := pool [(2, .class_ 4), (1, u "java/lang/CharSequence"), (42, .class_ 48), (0, u "java/lang/CharSequence$1CodePointIterator"), (10, .class_ 60), (0, u "java/lang/CharSequence$1CharIterator"), (5, .class_ 67), (0, u "java/lang/Object")] 63

/-- java/lang/CharSequence -/
def k4 : Class := { plain "java/lang/CharSequence" (some 0) with
  accessFlags := 1537
  interfaces := #[]
  cf := some (fileOf pool4 2 #[.nestMembers #[47, 59]] #[] 1537 66 #[] #[])
  fields := #[]
  methods := #[]
  instanceTypes := #[]
  staticTypes := #[]
  resolved := Array.replicate 131 none
  statics := none }

def pool5 : Array CpInfo := pool [(1, .class_ 2), (0, u "java/lang/constant/Constable"), (0, .class_ 4), (0, u "java/lang/Object")] 6

/-- java/lang/constant/Constable -/
def k5 : Class := { plain "java/lang/constant/Constable" (some 0) with
  accessFlags := 1537
  interfaces := #[]
  cf := some (fileOf pool5 1 #[] #[] 1537 3 #[] #[])
  fields := #[]
  methods := #[]
  instanceTypes := #[]
  staticTypes := #[]
  resolved := Array.replicate 11 none
  statics := none }

def pool6 : Array CpInfo := pool [(1, .class_ 2), (0, u "java/lang/constant/ConstantDesc"), (0, .class_ 4), (0, u "java/lang/Object")] 32

/-- java/lang/constant/ConstantDesc -/
def k6 : Class := { plain "java/lang/constant/ConstantDesc" (some 0) with
  accessFlags := 1537
  interfaces := #[]
  cf := some (fileOf pool6 1 #[] #[] 1537 3 #[] #[])
  fields := #[]
  methods := #[]
  instanceTypes := #[]
  staticTypes := #[]
  resolved := Array.replicate 37 none
  statics := none }

def pool7 : Array CpInfo := pool [(1, .methodref 2 3), (0, .class_ 4), (0, .nameAndType 5 6), (0, u "java/lang/Object"), (0, u "<init>"), (0, u "()V"), (0, .string 8), (0, u ""), (0, .fieldref 10 11), (0, .class_ 12), (0, .nameAndType 13 14), (0, u "java/lang/String"), (0, u "value"), (0, u "[B"), (0, .fieldref 10 16), (0, .nameAndType 17 18), (0, u "coder"), (0, u "B"), (2, u "hash"), (0, u "I"), (2, u "hashIsZero"), (0, u "Z"), (0, .methodref 10 28), (0, .nameAndType 5 29), (0, u "([CIILjava/lang/Void;)V"), (8, .fieldref 10 39), (0, .nameAndType 40 26), (0, u "COMPACT_STRINGS"), (1, .class_ 44), (1, u "java/lang/StringUTF16"), (0, u "compress"), (1, .methodref 42 48), (0, .nameAndType 49 50), (0, u "coderFromArrayLen"), (0, u "([BI)B"), (56, .class_ 109), (1, u "java/lang/StringLatin1"), (32, u "()Z"), (34, .methodref 42 178), (0, .nameAndType 45 179), (0, u "([CII)[B"), (183, u "([BI)C"), (27, u "(II)V"), (35, u "(I)C"), (64, .methodref 10 493), (0, .nameAndType 494 142), (0, u "isLatin1"), (0, .methodref 107 496), (0, .nameAndType 497 363), (0, u "charAt"), (3, u "checkIndex"), (39, .methodref 107 542), (0, .nameAndType 543 544), (0, u "equals"), (0, u "([B[B)Z"), (28, u "(Ljava/lang/Object;)Z"), (1, .class_ 576), (0, u "java/lang/CharSequence"), (22, u "CASE_INSENSITIVE_ORDER"), (0, u "Ljava/util/Comparator;"), (409, u "([C)V"), (42, .fieldref 1054 1055), (0, .class_ 1056), (0, .nameAndType 1057 1058), (0, u "jdk/internal/util/Preconditions"), (0, u "SIOOBE_FORMATTER"), (0, u "Ljava/util/function/BiFunction;"), (0, .methodref 1054 1060), (0, .nameAndType 501 1061), (0, u "(IILjava/util/function/BiFunction;)I"), (39, u "serialPersistentFields"), (0, u "[Ljava/io/ObjectStreamField;"), (0, .class_ 1104), (0, u "java/lang/String$CaseInsensitiveComparator"), (1, .class_ 1107), (0, u "java/io/Serializable"), (0, .class_ 1109), (0, u "java/lang/Comparable"), (0, .class_ 1111), (0, u "java/lang/constant/Constable"), (0, .class_ 1113), (0, u "java/lang/constant/ConstantDesc"), (2, u "serialVersionUID"), (0, u "J"), (3, u "REPL"), (0, u "C"), (2, u "LATIN1"), (1, u "UTF16")] 323

def k7m0 : Method := { name := "<init>", desc := "()V", sig := { parameters := [], returnType := none }, accessFlags := 1, code := none }
def k7c1 : Code := { maxStack := 5, maxLocals := 2, code := jdk_42_method_3_code, exceptionTable := #[], attributes := #[] }
def k7m1 : Method := { name := "<init>", desc := "([C)V", sig := { parameters := [(.array .char)], returnType := none }, accessFlags := 1, code := some k7c1 }
def k7c2 : Code := { maxStack := 2, maxLocals := 2, code := jdk_42_method_56_code, exceptionTable := #[], attributes := #[] }
def k7m2 : Method := { name := "charAt", desc := "(I)C", sig := { parameters := [.int], returnType := some .char }, accessFlags := 1, code := some k7c2 }
def k7c3 : Code := { maxStack := 2, maxLocals := 3, code := jdk_42_method_66_code, exceptionTable := #[], attributes := #[] }
def k7m3 : Method := { name := "equals", desc := "(Ljava/lang/Object;)Z", sig := { parameters := [(.object "java/lang/Object")], returnType := some .boolean }, accessFlags := 1, code := some k7c3 }
def k7c4 : Code := { maxStack := 4, maxLocals := 6, code := jdk_42_method_149_code, exceptionTable := #[], attributes := #[] }
def k7m4 : Method := { name := "<init>", desc := "([CIILjava/lang/Void;)V", sig := { parameters := [(.array .char), .int, .int, (.object "java/lang/Void")], returnType := none }, accessFlags := 2, code := some k7c4 }
def k7c5 : Code := { maxStack := 1, maxLocals := 1, code := jdk_42_method_154_code, exceptionTable := #[], attributes := #[] }
def k7m5 : Method := { name := "isLatin1", desc := "()Z", sig := { parameters := [], returnType := some .boolean }, accessFlags := 0, code := some k7c5 }
def k7c6 : Code := { maxStack := 3, maxLocals := 2, code := jdk_42_method_155_code, exceptionTable := #[], attributes := #[] }
def k7m6 : Method := { name := "checkIndex", desc := "(II)V", sig := { parameters := [.int, .int], returnType := none }, accessFlags := 8, code := some k7c6 }
/-- java/lang/String -/
def k7 : Class := { plain "java/lang/String" (some 0) with
  accessFlags := 49
  interfaces := #[2, 3, 4, 5, 6]
  cf := some (fileOf pool7 10 #[.nestMembers #[1103]] #[{ accessFlags := 1, nameIndex := 5, descriptorIndex := 6, attributes := #[] }, { accessFlags := 1, nameIndex := 5, descriptorIndex := 1010, attributes := #[] }, { accessFlags := 1, nameIndex := 497, descriptorIndex := 427, attributes := #[] }, { accessFlags := 1, nameIndex := 543, descriptorIndex := 573, attributes := #[] }, { accessFlags := 2, nameIndex := 5, descriptorIndex := 29, attributes := #[] }, { accessFlags := 0, nameIndex := 494, descriptorIndex := 142, attributes := #[] }, { accessFlags := 8, nameIndex := 501, descriptorIndex := 391, attributes := #[] }] 49 2 #[1106, 1108, 575, 1110, 1112] #[{ accessFlags := 18, nameIndex := 13, descriptorIndex := 14, attributes := #[] }, { accessFlags := 18, nameIndex := 17, descriptorIndex := 18, attributes := #[] }, { accessFlags := 2, nameIndex := 21, descriptorIndex := 22, attributes := #[] }, { accessFlags := 2, nameIndex := 25, descriptorIndex := 26, attributes := #[] }, { accessFlags := 26, nameIndex := 1116, descriptorIndex := 1117, attributes := #[] }, { accessFlags := 24, nameIndex := 40, descriptorIndex := 26, attributes := #[] }, { accessFlags := 26, nameIndex := 1101, descriptorIndex := 1102, attributes := #[] }, { accessFlags := 26, nameIndex := 1121, descriptorIndex := 1122, attributes := #[] }, { accessFlags := 25, nameIndex := 599, descriptorIndex := 600, attributes := #[] }, { accessFlags := 24, nameIndex := 1125, descriptorIndex := 18, attributes := #[] }, { accessFlags := 24, nameIndex := 1127, descriptorIndex := 18, attributes := #[] }])
  fields := #[{ name := "value", type := (.array .byte), accessFlags := 18, slot := 0, constantValue := 0 }, { name := "coder", type := .byte, accessFlags := 18, slot := 1, constantValue := 0 }, { name := "hash", type := .int, accessFlags := 2, slot := 2, constantValue := 0 }, { name := "hashIsZero", type := .boolean, accessFlags := 2, slot := 3, constantValue := 0 }, { name := "serialVersionUID", type := .long, accessFlags := 26, slot := 0, constantValue := 0 }, { name := "COMPACT_STRINGS", type := .boolean, accessFlags := 24, slot := 1, constantValue := 0 }, { name := "serialPersistentFields", type := (.array (.object "java/io/ObjectStreamField")), accessFlags := 26, slot := 2, constantValue := 0 }, { name := "REPL", type := .char, accessFlags := 26, slot := 3, constantValue := 0 }, { name := "CASE_INSENSITIVE_ORDER", type := (.object "java/util/Comparator"), accessFlags := 25, slot := 4, constantValue := 0 }, { name := "LATIN1", type := .byte, accessFlags := 24, slot := 5, constantValue := 0 }, { name := "UTF16", type := .byte, accessFlags := 24, slot := 6, constantValue := 0 }]
  methods := #[k7m0, k7m1, k7m2, k7m3, k7m4, k7m5, k7m6]
  instanceTypes := #[(.array .byte), .byte, .int, .boolean]
  staticTypes := #[.long, .boolean, (.array (.object "java/io/ObjectStreamField")), .char, (.object "java/util/Comparator"), .byte, .byte]
  resolved := Array.replicate 1451 none
  statics := some 0 }

def pool8 : Array CpInfo := pool [(1, .class_ 2), (0, u "java/lang/String"), (1, .class_ 6), (1, u "java/lang/Object"), (0, u "<init>"), (0, u "()V"), (0, .methodref 1 10), (0, .nameAndType 11 12), (0, u "checkIndex"), (0, u "(II)V"), (1, .class_ 16), (1, u "java/lang/StringLatin1"), (36, u "([BI)C"), (67, u "$assertionsDisabled"), (0, u "Z"), (98, .class_ 223), (1, u "java/lang/StringLatin1$LinesSpliterator"), (28, u "charAt"), (28, u "equals"), (0, u "([B[B)Z"), (107, .class_ 391), (0, u "java/lang/StringLatin1$CharsSpliterator")] 3

def k8m0 : Method := { name := "<init>", desc := "()V", sig := { parameters := [], returnType := none }, accessFlags := 0, code := none }
def k8c1 : Code := { maxStack := 2, maxLocals := 2, code := jdk_43_method_2_code, exceptionTable := #[], attributes := #[] }
def k8m1 : Method := { name := "charAt", desc := "([BI)C", sig := { parameters := [(.array .byte), .int], returnType := some .char }, accessFlags := 9, code := some k8c1 }
def k8c2 : Code := { maxStack := 3, maxLocals := 3, code := jdk_43_method_13_code, exceptionTable := #[], attributes := #[] }
def k8m2 : Method := { name := "equals", desc := "([B[B)Z", sig := { parameters := [(.array .byte), (.array .byte)], returnType := some .boolean }, accessFlags := 9, code := some k8c2 }
/-- java/lang/StringLatin1 -/
def k8 : Class := { plain "java/lang/StringLatin1" (some 0) with
  accessFlags := 48
  interfaces := #[]
  cf := some (fileOf pool8 14 #[.nestMembers #[390, 221]] #[{ accessFlags := 0, nameIndex := 7, descriptorIndex := 8, attributes := #[] }, { accessFlags := 9, nameIndex := 252, descriptorIndex := 53, attributes := #[] }, { accessFlags := 9, nameIndex := 281, descriptorIndex := 282, attributes := #[] }] 48 4 #[] #[{ accessFlags := 4120, nameIndex := 121, descriptorIndex := 122, attributes := #[] }])
  fields := #[{ name := "$assertionsDisabled", type := .boolean, accessFlags := 4120, slot := 0, constantValue := 0 }]
  methods := #[k8m0, k8m1, k8m2]
  instanceTypes := #[]
  staticTypes := #[.boolean]
  resolved := Array.replicate 395 none
  statics := none }

def pool9 : Array CpInfo := pool [(2, .class_ 4), (1, u "java/lang/Object"), (0, u "<init>"), (0, u "()V"), (17, .class_ 26), (1, u "jdk/internal/util/Preconditions"), (6, u "checkIndex"), (21, .class_ 56), (0, u "jdk/internal/util/Preconditions$4"), (57, .class_ 115), (0, u "jdk/internal/util/Preconditions$1"), (7, u "SIOOBE_FORMATTER"), (0, u "Ljava/util/function/BiFunction;"), (0, .class_ 126), (0, u "jdk/internal/util/Preconditions$2"), (3, u "AIOOBE_FORMATTER"), (0, .class_ 132), (0, u "jdk/internal/util/Preconditions$3"), (3, u "IOOBE_FORMATTER"), (41, u "(IILjava/util/function/BiFunction;)I")] 15

def k9m0 : Method := { name := "<init>", desc := "()V", sig := { parameters := [], returnType := none }, accessFlags := 1, code := none }
def k9c1 : Code := { maxStack := 3, maxLocals := 3, code := jdk_41_method_11_code, exceptionTable := #[], attributes := #[] }
def k9m1 : Method := { name := "checkIndex", desc := "(IILjava/util/function/BiFunction;)I", sig := { parameters := [.int, .int, (.object "java/util/function/BiFunction")], returnType := some .int }, accessFlags := 9, code := some k9c1 }
/-- jdk/internal/util/Preconditions -/
def k9 : Class := { plain "jdk/internal/util/Preconditions" (some 0) with
  accessFlags := 33
  interfaces := #[]
  cf := some (fileOf pool9 24 #[.nestMembers #[55, 131, 125, 114]] #[{ accessFlags := 1, nameIndex := 5, descriptorIndex := 6, attributes := #[] }, { accessFlags := 9, nameIndex := 33, descriptorIndex := 178, attributes := #[] }] 33 2 #[] #[{ accessFlags := 25, nameIndex := 123, descriptorIndex := 124, attributes := #[] }, { accessFlags := 25, nameIndex := 130, descriptorIndex := 124, attributes := #[] }, { accessFlags := 25, nameIndex := 136, descriptorIndex := 124, attributes := #[] }])
  fields := #[{ name := "SIOOBE_FORMATTER", type := (.object "java/util/function/BiFunction"), accessFlags := 25, slot := 0, constantValue := 0 }, { name := "AIOOBE_FORMATTER", type := (.object "java/util/function/BiFunction"), accessFlags := 25, slot := 1, constantValue := 0 }, { name := "IOOBE_FORMATTER", type := (.object "java/util/function/BiFunction"), accessFlags := 25, slot := 2, constantValue := 0 }]
  methods := #[k9m0, k9m1]
  instanceTypes := #[]
  staticTypes := #[(.object "java/util/function/BiFunction"), (.object "java/util/function/BiFunction"), (.object "java/util/function/BiFunction")]
  resolved := Array.replicate 194 none
  statics := some 1 }

def pool10 : Array CpInfo := pool [(6, .class_ 8), (1, u "java/lang/Object"), (0, u "<init>"), (0, u "()V"), (1, .class_ 14), (1, u "java/lang/StringUTF16"), (31, u "$assertionsDisabled"), (0, u "Z"), (13, u "HI_BYTE_SHIFT"), (0, u "I"), (2, u "LO_BYTE_SHIFT"), (49, .methodref 12 116), (0, .nameAndType 117 118), (0, u "compress"), (0, u "([CI[BII)I"), (3, u "([CII)[B"), (138, u "coderFromArrayLen"), (0, u "([BI)B"), (106, .class_ 371), (1, u "java/lang/StringUTF16$LinesSpliterator"), (58, u "MAX_LENGTH"), (196, .class_ 628), (0, u "java/lang/StringUTF16$CodePointsSpliterator"), (0, .class_ 630), (0, u "java/lang/StringUTF16$CharsSpliterator")] 4

def k10m0 : Method := { name := "<init>", desc := "()V", sig := { parameters := [], returnType := none }, accessFlags := 0, code := none }
def k10c1 : Code := { maxStack := 2, maxLocals := 2, code := jdk_52_method_15_code, exceptionTable := #[], attributes := #[] }
def k10m1 : Method := { name := "coderFromArrayLen", desc := "([BI)B", sig := { parameters := [(.array .byte), .int], returnType := some .byte }, accessFlags := 8, code := some k10c1 }
def k10c2 : Code := { maxStack := 5, maxLocals := 6, code := jdk_52_method_16_code, exceptionTable := #[], attributes := #[] }
def k10m2 : Method := { name := "compress", desc := "([CII)[B", sig := { parameters := [(.array .char), .int, .int], returnType := some (.array .byte) }, accessFlags := 9, code := some k10c2 }
def k10c3 : Code := { maxStack := 3, maxLocals := 7, code := jdk_52_method_21_code, exceptionTable := #[], attributes := #[] }
def k10m3 : Method := { name := "compress", desc := "([CI[BII)I", sig := { parameters := [(.array .char), .int, (.array .byte), .int, .int], returnType := some .int }, accessFlags := 9, code := some k10c3 }
/-- java/lang/StringUTF16 -/
def k10 : Class := { plain "java/lang/StringUTF16" (some 0) with
  accessFlags := 48
  interfaces := #[]
  cf := some (fileOf pool10 12 #[.nestMembers #[627, 629, 369]] #[{ accessFlags := 0, nameIndex := 9, descriptorIndex := 10, attributes := #[] }, { accessFlags := 8, nameIndex := 261, descriptorIndex := 262, attributes := #[] }, { accessFlags := 9, nameIndex := 117, descriptorIndex := 122, attributes := #[] }, { accessFlags := 9, nameIndex := 117, descriptorIndex := 118, attributes := #[] }] 48 6 #[] #[{ accessFlags := 26, nameIndex := 61, descriptorIndex := 62, attributes := #[] }, { accessFlags := 26, nameIndex := 65, descriptorIndex := 62, attributes := #[] }, { accessFlags := 24, nameIndex := 430, descriptorIndex := 62, attributes := #[] }, { accessFlags := 4120, nameIndex := 46, descriptorIndex := 47, attributes := #[] }])
  fields := #[{ name := "HI_BYTE_SHIFT", type := .int, accessFlags := 26, slot := 0, constantValue := 0 }, { name := "LO_BYTE_SHIFT", type := .int, accessFlags := 26, slot := 1, constantValue := 0 }, { name := "MAX_LENGTH", type := .int, accessFlags := 24, slot := 2, constantValue := 0 }, { name := "$assertionsDisabled", type := .boolean, accessFlags := 4120, slot := 3, constantValue := 0 }]
  methods := #[k10m0, k10m1, k10m2, k10m3]
  instanceTypes := #[]
  staticTypes := #[.int, .int, .int, .boolean]
  resolved := Array.replicate 635 none
  statics := none }

def pool11 : Array CpInfo := pool [(2, .class_ 4), (1, u "java/lang/Enum"), (0, u "name"), (0, u "Ljava/lang/String;"), (2, u "ordinal"), (0, u "I"), (1, .class_ 14), (1, u "java/lang/Object"), (4, u "hash"), (86, .class_ 108), (1, u "java/lang/Enum$EnumDesc"), (2, .class_ 112), (0, u "java/lang/constant/Constable"), (0, .class_ 114), (0, u "java/lang/Comparable"), (0, .class_ 116), (0, u "java/io/Serializable")] 87

/-- java/lang/Enum -/
def k11 : Class := { plain "java/lang/Enum" (some 0) with
  accessFlags := 1057
  interfaces := #[5, 3, 2]
  cf := some (fileOf pool11 2 #[.nestMembers #[106]] #[] 1057 12 #[111, 113, 115] #[{ accessFlags := 18, nameIndex := 5, descriptorIndex := 6, attributes := #[] }, { accessFlags := 18, nameIndex := 9, descriptorIndex := 10, attributes := #[] }, { accessFlags := 2, nameIndex := 19, descriptorIndex := 10, attributes := #[] }])
  fields := #[{ name := "name", type := (.object "java/lang/String"), accessFlags := 18, slot := 0, constantValue := 0 }, { name := "ordinal", type := .int, accessFlags := 18, slot := 1, constantValue := 0 }, { name := "hash", type := .int, accessFlags := 2, slot := 2, constantValue := 0 }]
  methods := #[]
  instanceTypes := #[(.object "java/lang/String"), .int, .int]
  staticTypes := #[]
  resolved := Array.replicate 204 none
  statics := none }

def pool12 : Array CpInfo := pool [(1, .class_ 2), (0, u "com/example/sealed_ledger/sealedledger/http/Access$Role"), (2, u "READER"), (0, u "Lcom/example/sealed_ledger/sealedledger/http/Access$Role;"), (2, u "WRITER"), (0, .fieldref 1 11), (0, .nameAndType 12 13), (0, u "$VALUES"), (0, u "[Lcom/example/sealed_ledger/sealedledger/http/Access$Role;"), (0, .methodref 15 16), (0, .class_ 13), (0, .nameAndType 17 18), (0, u "clone"), (0, u "()Ljava/lang/Object;"), (1, .class_ 22), (1, u "java/lang/Enum"), (6, .fieldref 1 30), (0, .nameAndType 31 32), (0, u "text"), (0, u "Ljava/lang/String;"), (0, .methodref 1 34), (0, .nameAndType 35 36), (0, u "values"), (0, u "()[Lcom/example/sealed_ledger/sealedledger/http/Access$Role;"), (0, .methodref 38 39), (0, .class_ 40), (0, .nameAndType 41 42), (0, u "java/lang/String"), (0, u "equals"), (0, u "(Ljava/lang/Object;)Z"), (14, u "(Ljava/lang/String;)Lcom/example/sealed_ledger/sealedledger/http/Access$Role;"), (3, u "named"), (7, .class_ 70), (0, u "com/example/sealed_ledger/sealedledger/http/Access")] 2

def k12c0 : Code := { maxStack := 1, maxLocals := 0, code := prog_3_method_1_code, exceptionTable := #[], attributes := #[] }
def k12m0 : Method := { name := "values", desc := "()[Lcom/example/sealed_ledger/sealedledger/http/Access$Role;", sig := { parameters := [], returnType := some (.array (.object "com/example/sealed_ledger/sealedledger/http/Access$Role")) }, accessFlags := 9, code := some k12c0 }
def k12c1 : Code := { maxStack := 2, maxLocals := 5, code := prog_3_method_4_code, exceptionTable := #[], attributes := #[] }
def k12m1 : Method := { name := "named", desc := "(Ljava/lang/String;)Lcom/example/sealed_ledger/sealedledger/http/Access$Role;", sig := { parameters := [(.object "java/lang/String")], returnType := some (.object "com/example/sealed_ledger/sealedledger/http/Access$Role") }, accessFlags := 8, code := some k12c1 }
/-- com/example/sealed_ledger/sealedledger/http/Access$Role -/
def k12 : Class := { plain "com/example/sealed_ledger/sealedledger/http/Access$Role" (some 11) with
  accessFlags := 16432
  interfaces := #[]
  cf := some (fileOf pool12 1 #[.nestHost 69] #[{ accessFlags := 9, nameIndex := 35, descriptorIndex := 36, attributes := #[] }, { accessFlags := 8, nameIndex := 61, descriptorIndex := 57, attributes := #[] }] 16432 20 #[] #[{ accessFlags := 16409, nameIndex := 5, descriptorIndex := 6, attributes := #[] }, { accessFlags := 16409, nameIndex := 9, descriptorIndex := 6, attributes := #[] }, { accessFlags := 18, nameIndex := 31, descriptorIndex := 32, attributes := #[] }, { accessFlags := 4122, nameIndex := 12, descriptorIndex := 13, attributes := #[] }])
  fields := #[{ name := "READER", type := (.object "com/example/sealed_ledger/sealedledger/http/Access$Role"), accessFlags := 16409, slot := 0, constantValue := 0 }, { name := "WRITER", type := (.object "com/example/sealed_ledger/sealedledger/http/Access$Role"), accessFlags := 16409, slot := 1, constantValue := 0 }, { name := "text", type := (.object "java/lang/String"), accessFlags := 18, slot := 3, constantValue := 0 }, { name := "$VALUES", type := (.array (.object "com/example/sealed_ledger/sealedledger/http/Access$Role")), accessFlags := 4122, slot := 2, constantValue := 0 }]
  methods := #[k12m0, k12m1]
  instanceTypes := #[(.object "java/lang/String"), .int, .int, (.object "java/lang/String")]
  staticTypes := #[(.object "com/example/sealed_ledger/sealedledger/http/Access$Role"), (.object "com/example/sealed_ledger/sealedledger/http/Access$Role"), (.array (.object "com/example/sealed_ledger/sealedledger/http/Access$Role"))]
  resolved := Array.replicate 73 none
  statics := some 2 }

def pool13 : Array CpInfo := pool [(1, .class_ 2), (0, u "java/lang/Cloneable"), (0, .class_ 4), (0, u "java/lang/Object")] 2

/-- java/lang/Cloneable -/
def k13 : Class := { plain "java/lang/Cloneable" (some 0) with
  accessFlags := 1537
  interfaces := #[]
  cf := some (fileOf pool13 1 #[] #[] 1537 3 #[] #[])
  fields := #[]
  methods := #[]
  instanceTypes := #[]
  staticTypes := #[]
  resolved := Array.replicate 7 none
  statics := none }

def pool14 : Array CpInfo := pool [(9, u "<init>"), (6, .class_ 18), (1, u "java/lang/Object"), (0, u "()V"), (1, .class_ 23), (1, u "jdk/internal/util/ArraysSupport"), (0, u "LOG2_ARRAY_LONG_INDEX_SCALE"), (0, u "I"), (2, u "U"), (0, u "Ljdk/internal/misc/Unsafe;"), (8, u "BIG_ENDIAN"), (0, u "Z"), (8, u "LOG2_BYTE_BIT_SIZE"), (4, u "LOG2_ARRAY_INT_INDEX_SCALE"), (54, u "JLA"), (0, u "Ljdk/internal/access/JavaLangAccess;"), (11, u "LOG2_ARRAY_BOOLEAN_INDEX_SCALE"), (9, u "LOG2_ARRAY_BYTE_INDEX_SCALE"), (5, u "LOG2_ARRAY_CHAR_INDEX_SCALE"), (5, u "LOG2_ARRAY_SHORT_INDEX_SCALE"), (18, u "LOG2_ARRAY_FLOAT_INDEX_SCALE"), (24, u "LOG2_ARRAY_DOUBLE_INDEX_SCALE"), (89, u "T_BOOLEAN"), (2, u "T_CHAR"), (1, u "T_FLOAT"), (1, u "T_DOUBLE"), (1, u "T_BYTE"), (1, u "T_SHORT"), (1, u "T_INT"), (1, u "T_LONG"), (1, u "SOFT_MAX_ARRAY_LENGTH")] 83

def k14m0 : Method := { name := "<init>", desc := "()V", sig := { parameters := [], returnType := none }, accessFlags := 2, code := none }
/-- jdk/internal/util/ArraysSupport -/
def k14 : Class := { plain "jdk/internal/util/ArraysSupport" (some 0) with
  accessFlags := 33
  interfaces := #[]
  cf := some (fileOf pool14 21 #[] #[{ accessFlags := 2, nameIndex := 9, descriptorIndex := 19, attributes := #[] }] 33 16 #[] #[{ accessFlags := 24, nameIndex := 28, descriptorIndex := 29, attributes := #[] }, { accessFlags := 26, nameIndex := 38, descriptorIndex := 39, attributes := #[] }, { accessFlags := 25, nameIndex := 121, descriptorIndex := 25, attributes := #[] }, { accessFlags := 25, nameIndex := 131, descriptorIndex := 25, attributes := #[] }, { accessFlags := 25, nameIndex := 137, descriptorIndex := 25, attributes := #[] }, { accessFlags := 25, nameIndex := 143, descriptorIndex := 25, attributes := #[] }, { accessFlags := 25, nameIndex := 53, descriptorIndex := 25, attributes := #[] }, { accessFlags := 25, nameIndex := 24, descriptorIndex := 25, attributes := #[] }, { accessFlags := 25, nameIndex := 162, descriptorIndex := 25, attributes := #[] }, { accessFlags := 25, nameIndex := 187, descriptorIndex := 25, attributes := #[] }, { accessFlags := 26, nameIndex := 48, descriptorIndex := 25, attributes := #[] }, { accessFlags := 25, nameIndex := 277, descriptorIndex := 25, attributes := #[] }, { accessFlags := 25, nameIndex := 280, descriptorIndex := 25, attributes := #[] }, { accessFlags := 25, nameIndex := 282, descriptorIndex := 25, attributes := #[] }, { accessFlags := 25, nameIndex := 284, descriptorIndex := 25, attributes := #[] }, { accessFlags := 25, nameIndex := 286, descriptorIndex := 25, attributes := #[] }, { accessFlags := 25, nameIndex := 288, descriptorIndex := 25, attributes := #[] }, { accessFlags := 25, nameIndex := 290, descriptorIndex := 25, attributes := #[] }, { accessFlags := 25, nameIndex := 292, descriptorIndex := 25, attributes := #[] }, { accessFlags := 26, nameIndex := 108, descriptorIndex := 109, attributes := #[] }, { accessFlags := 25, nameIndex := 294, descriptorIndex := 25, attributes := #[] }])
  fields := #[{ name := "U", type := (.object "jdk/internal/misc/Unsafe"), accessFlags := 24, slot := 0, constantValue := 0 }, { name := "BIG_ENDIAN", type := .boolean, accessFlags := 26, slot := 1, constantValue := 0 }, { name := "LOG2_ARRAY_BOOLEAN_INDEX_SCALE", type := .int, accessFlags := 25, slot := 2, constantValue := 0 }, { name := "LOG2_ARRAY_BYTE_INDEX_SCALE", type := .int, accessFlags := 25, slot := 3, constantValue := 0 }, { name := "LOG2_ARRAY_CHAR_INDEX_SCALE", type := .int, accessFlags := 25, slot := 4, constantValue := 0 }, { name := "LOG2_ARRAY_SHORT_INDEX_SCALE", type := .int, accessFlags := 25, slot := 5, constantValue := 0 }, { name := "LOG2_ARRAY_INT_INDEX_SCALE", type := .int, accessFlags := 25, slot := 6, constantValue := 0 }, { name := "LOG2_ARRAY_LONG_INDEX_SCALE", type := .int, accessFlags := 25, slot := 7, constantValue := 0 }, { name := "LOG2_ARRAY_FLOAT_INDEX_SCALE", type := .int, accessFlags := 25, slot := 8, constantValue := 0 }, { name := "LOG2_ARRAY_DOUBLE_INDEX_SCALE", type := .int, accessFlags := 25, slot := 9, constantValue := 0 }, { name := "LOG2_BYTE_BIT_SIZE", type := .int, accessFlags := 26, slot := 10, constantValue := 0 }, { name := "T_BOOLEAN", type := .int, accessFlags := 25, slot := 11, constantValue := 0 }, { name := "T_CHAR", type := .int, accessFlags := 25, slot := 12, constantValue := 0 }, { name := "T_FLOAT", type := .int, accessFlags := 25, slot := 13, constantValue := 0 }, { name := "T_DOUBLE", type := .int, accessFlags := 25, slot := 14, constantValue := 0 }, { name := "T_BYTE", type := .int, accessFlags := 25, slot := 15, constantValue := 0 }, { name := "T_SHORT", type := .int, accessFlags := 25, slot := 16, constantValue := 0 }, { name := "T_INT", type := .int, accessFlags := 25, slot := 17, constantValue := 0 }, { name := "T_LONG", type := .int, accessFlags := 25, slot := 18, constantValue := 0 }, { name := "JLA", type := (.object "jdk/internal/access/JavaLangAccess"), accessFlags := 26, slot := 19, constantValue := 0 }, { name := "SOFT_MAX_ARRAY_LENGTH", type := .int, accessFlags := 25, slot := 20, constantValue := 0 }]
  methods := #[k14m0]
  instanceTypes := #[]
  staticTypes := #[(.object "jdk/internal/misc/Unsafe"), .boolean, .int, .int, .int, .int, .int, .int, .int, .int, .int, .int, .int, .int, .int, .int, .int, .int, .int, (.object "jdk/internal/access/JavaLangAccess"), .int]
  resolved := Array.replicate 378 none
  statics := none }

/-- the primitive byte -/
def k15 : Class := { plain "byte" none with kind := .primitive 'B', accessFlags := 0x411 }
/-- [B -/
def k16 : Class := { plain "[B" (some 0) with kind := .array 15 .byte, interfaces := #[13, 2], accessFlags := 1041 }

/-- the primitive char -/
def k17 : Class := { plain "char" none with kind := .primitive 'C', accessFlags := 0x411 }
/-- [C -/
def k18 : Class := { plain "[C" (some 0) with kind := .array 17 .char, interfaces := #[13, 2], accessFlags := 1041 }

/-- the primitive int -/
def k19 : Class := { plain "int" none with kind := .primitive 'I', accessFlags := 0x411 }
/-- [I -/
def k20 : Class := { plain "[I" (some 0) with kind := .array 19 .int, interfaces := #[13, 2], accessFlags := 1041 }

/-- [Lcom/example/sealed_ledger/sealedledger/http/Access$Role; -/
def k21 : Class := { plain "[Lcom/example/sealed_ledger/sealedledger/http/Access$Role;" (some 0) with kind := .array 12 (.object "com/example/sealed_ledger/sealedledger/http/Access$Role"), interfaces := #[13, 2], accessFlags := 1041 }

def heap : Heap := #[{ cls := 7, slots := #[.long 0, .int 1, .null, .int 0, .null, .int 0, .int 0], vm := .statics 7 },
  { cls := 9, slots := #[.null, .null, .null], vm := .statics 9 },
  { cls := 12, slots := #[.ref 4, .ref 5, .ref 3], vm := .statics 12 },
  { cls := 21, slots := #[.ref 4, .ref 5], vm := .none },
  { cls := 12, slots := #[.null, .int 0, .int 0, .ref 6], vm := .none },
  { cls := 12, slots := #[.null, .int 1, .int 0, .ref 7], vm := .none },
  { cls := 7, slots := #[.ref 8, .int 0, .int 0, .int 0], vm := .none },
  { cls := 7, slots := #[.ref 9, .int 0, .int 0, .int 0], vm := .none },
  { cls := 16, slots := #[.int 114, .int 101, .int 97, .int 100, .int 101, .int 114], vm := .none },
  { cls := 16, slots := #[.int 119, .int 114, .int 105, .int 116, .int 101, .int 114], vm := .none }]
def classes : Array Class := #[k0, k1, k2, k3, k4, k5, k6, k7, k8, k9, k10, k11, k12, k13, k14, k15, k16, k17, k18, k19, k20, k21]
def interned : List (Array UInt16 × Addr) := []
def slotsUsed : Nat := 43
def theMethod : MethodId := ⟨1, 1⟩
def args0 : Array Value := #[.int 5, .int 2, .int 7, .int 9]
def aboutOver (below : List Frame) : State where
  vm := { classes := classes, interned := interned.toArray }
  heap := heap
  slotsUsed := slotsUsed
  threads := #[{ frames := .invoking theMethod args0 :: below }]
def below0 : List Frame := [.native { method := ⟨0, 0⟩, args := #[] }]
def about1 : State := aboutOver below0
def p0 : Program := .bare "" "" ""
def e0 : Env := launch0.env 0 0 0
theorem w_frames : about1.frames = Frame.invoking theMethod args0 :: below0 := rfl
set_option maxRecDepth 65536 in
theorem w_args : argsFit about1.vm theMethod args0 = true := by decide +kernel
set_option maxRecDepth 65536 in
theorem w_heap : heapFits about1 = true := by decide +kernel
set_option maxRecDepth 65536 in
theorem w_runnable : about1.curStatus? = some .runnable := by decide +kernel
set_option maxRecDepth 65536 in
theorem w_alone : about1.alone = true := by decide +kernel
set_option maxRecDepth 65536 in
theorem w_named : about1.methodNamed? x = some theMethod := by decide +kernel
set_option maxRecDepth 65536 in
theorem w_hears : about1.hears theMethod below0 = true := by decide +kernel
set_option maxRecDepth 65536 in
theorem w_ripe : about1.ripe theMethod args0 below0 = true := by decide +kernel
theorem w_running : about1.status = .running := rfl
set_option maxRecDepth 65536 in
theorem w_room : about1.hasRoom e0.platform room_1 = true :=
  launch0.hasRoom_least _ room_1 (by decide +kernel) (by decide +kernel) (by decide +kernel) (by decide +kernel) (by decide +kernel) (by decide +kernel)
theorem allAtoms_all (ts : List Jvm.Cond) (a : Array Jvm.Value) (st : Jvm.State) : (allAtoms ts).before a st = ts.all (fun c => c.before a st) := by
  induction ts with
  | nil => rfl
  | cons c t ih =>
    show (Jvm.Cond.and c (allAtoms t)).before a st = _
    rw [Jvm.Cond.before_and, ih, List.all_cons]
def words1 : List Jvm.Cond := Jvm.Cond.code x code maxLocals ret :: tables_1
/-- a 'code' word, met by the world's own term for the bytes: nothing is compared byte by byte -/
theorem code_word {y : MethodName} {bytes : ByteArray} {mx : Nat} {rt : Option FieldType} {a : Array Value} {s : State} {m : MethodId} {meth : Method} {c : Code} (h1 : s.methodNamed? y = some m) (h2 : s.vm.method? m = some meth) (h3 : meth.code = some c) (h4 : c.code = bytes)
    (h5 : (c.maxLocals == mx && c.exceptionTable.isEmpty && decide (c.maxStack ≤ mostOperands) && decide (meth.sig.returnType = rt) && !meth.locks && decide (parseMethodDescriptor y.desc = some meth.sig)) = true) : (Jvm.Cond.code y bytes mx rt).before a s = true := by
  simp only [Bool.and_eq_true, beq_iff_eq, Bool.not_eq_true', decide_eq_true_eq] at h5
  obtain ⟨⟨⟨⟨⟨g1, g2⟩, g3⟩, g4⟩, g5⟩, g6⟩ := h5
  simp [Cond.before, Cond.holds, Cond.value, h1, h2, h3, h4, g1, g2, g3, g4, g5, g6]
def isCode : Jvm.Cond → Bool
  | .code _ _ _ _ => true
  | _ => false
theorem all_split {L : List Jvm.Cond} {P : Jvm.Cond → Bool} (h1 : L.all (fun c => isCode c || P c) = true) (h2 : ∀ c ∈ L.filter isCode, P c = true) : L.all P = true := by
  refine List.all_eq_true.mpr fun c hc => ?_
  have h := List.all_eq_true.mp h1 c hc
  rcases Bool.eq_false_or_eq_true (isCode c) with hi | hi
  · exact h2 c (List.mem_filter.mpr ⟨hc, hi⟩)
  · simpa [hi] using h
set_option maxRecDepth 65536 in
theorem w_c0 : (Jvm.Cond.code x code maxLocals ret).before args0 about1 = true := code_word (m := ⟨1, 1⟩) (meth := k1m1) (c := k1c1) (by decide +kernel) rfl rfl rfl (by decide +kernel)
set_option maxRecDepth 65536 in
theorem w_c1 : (Jvm.Cond.code ({ cls := "com/example/sealed_ledger/sealedledger/http/RoleNamedPinLaw", name := "base", desc := "(ZI)C" } : Jvm.MethodName) method_3_code (3 : Nat) (Option.some Jvm.ClassFile.FieldType.char)).before args0 about1 = true := code_word (m := ⟨1, 2⟩) (meth := k1m2) (c := k1c2) (by decide +kernel) rfl rfl rfl (by decide +kernel)
set_option maxRecDepth 65536 in
theorem w_c2 : (Jvm.Cond.code ({ cls := "java/lang/String", name := "charAt", desc := "(I)C" } : Jvm.MethodName) jdk_42_method_56_code (2 : Nat) (Option.some Jvm.ClassFile.FieldType.char)).before args0 about1 = true := code_word (m := ⟨7, 2⟩) (meth := k7m2) (c := k7c2) (by decide +kernel) rfl rfl rfl (by decide +kernel)
set_option maxRecDepth 65536 in
theorem w_c3 : (Jvm.Cond.code ({ cls := "java/lang/String", name := "isLatin1", desc := "()Z" } : Jvm.MethodName) jdk_42_method_154_code (1 : Nat) (Option.some Jvm.ClassFile.FieldType.boolean)).before args0 about1 = true := code_word (m := ⟨7, 5⟩) (meth := k7m5) (c := k7c5) (by decide +kernel) rfl rfl rfl (by decide +kernel)
set_option maxRecDepth 65536 in
theorem w_c4 : (Jvm.Cond.code ({ cls := "java/lang/StringLatin1", name := "charAt", desc := "([BI)C" } : Jvm.MethodName) jdk_43_method_2_code (2 : Nat) (Option.some Jvm.ClassFile.FieldType.char)).before args0 about1 = true := code_word (m := ⟨8, 1⟩) (meth := k8m1) (c := k8c1) (by decide +kernel) rfl rfl rfl (by decide +kernel)
set_option maxRecDepth 65536 in
theorem w_c5 : (Jvm.Cond.code ({ cls := "java/lang/String", name := "checkIndex", desc := "(II)V" } : Jvm.MethodName) jdk_42_method_155_code (2 : Nat) (Option.none : Option Jvm.ClassFile.FieldType)).before args0 about1 = true := code_word (m := ⟨7, 6⟩) (meth := k7m6) (c := k7c6) (by decide +kernel) rfl rfl rfl (by decide +kernel)
set_option maxRecDepth 65536 in
theorem w_c6 : (Jvm.Cond.code ({ cls := "jdk/internal/util/Preconditions", name := "checkIndex", desc := "(IILjava/util/function/BiFunction;)I" } : Jvm.MethodName) jdk_41_method_11_code (3 : Nat) (Option.some Jvm.ClassFile.FieldType.int)).before args0 about1 = true := code_word (m := ⟨9, 1⟩) (meth := k9m1) (c := k9c1) (by decide +kernel) rfl rfl rfl (by decide +kernel)
set_option maxRecDepth 65536 in
theorem w_c7 : (Jvm.Cond.code ({ cls := "java/lang/String", name := "<init>", desc := "([C)V" } : Jvm.MethodName) jdk_42_method_3_code (2 : Nat) (Option.none : Option Jvm.ClassFile.FieldType)).before args0 about1 = true := code_word (m := ⟨7, 1⟩) (meth := k7m1) (c := k7c1) (by decide +kernel) rfl rfl rfl (by decide +kernel)
set_option maxRecDepth 65536 in
theorem w_c8 : (Jvm.Cond.code ({ cls := "java/lang/String", name := "<init>", desc := "([CIILjava/lang/Void;)V" } : Jvm.MethodName) jdk_42_method_149_code (6 : Nat) (Option.none : Option Jvm.ClassFile.FieldType)).before args0 about1 = true := code_word (m := ⟨7, 4⟩) (meth := k7m4) (c := k7c4) (by decide +kernel) rfl rfl rfl (by decide +kernel)
set_option maxRecDepth 65536 in
theorem w_c9 : (Jvm.Cond.code ({ cls := "java/lang/Object", name := "<init>", desc := "()V" } : Jvm.MethodName) object_method_1_code (1 : Nat) (Option.none : Option Jvm.ClassFile.FieldType)).before args0 about1 = true := code_word (m := ⟨0, 0⟩) (meth := k0m0) (c := k0c0) (by decide +kernel) rfl rfl rfl (by decide +kernel)
set_option maxRecDepth 65536 in
theorem w_c10 : (Jvm.Cond.code ({ cls := "java/lang/StringUTF16", name := "compress", desc := "([CII)[B" } : Jvm.MethodName) jdk_52_method_16_code (6 : Nat) (Option.some (Jvm.ClassFile.FieldType.array Jvm.ClassFile.FieldType.byte))).before args0 about1 = true := code_word (m := ⟨10, 2⟩) (meth := k10m2) (c := k10c2) (by decide +kernel) rfl rfl rfl (by decide +kernel)
set_option maxRecDepth 65536 in
theorem w_c11 : (Jvm.Cond.code ({ cls := "java/lang/StringUTF16", name := "compress", desc := "([CI[BII)I" } : Jvm.MethodName) jdk_52_method_21_code (7 : Nat) (Option.some Jvm.ClassFile.FieldType.int)).before args0 about1 = true := code_word (m := ⟨10, 3⟩) (meth := k10m3) (c := k10c3) (by decide +kernel) rfl rfl rfl (by decide +kernel)
set_option maxRecDepth 65536 in
theorem w_c12 : (Jvm.Cond.code ({ cls := "java/lang/StringUTF16", name := "coderFromArrayLen", desc := "([BI)B" } : Jvm.MethodName) jdk_52_method_15_code (2 : Nat) (Option.some Jvm.ClassFile.FieldType.byte)).before args0 about1 = true := code_word (m := ⟨10, 1⟩) (meth := k10m1) (c := k10c1) (by decide +kernel) rfl rfl rfl (by decide +kernel)
set_option maxRecDepth 65536 in
theorem w_c13 : (Jvm.Cond.code ({ cls := "com/example/sealed_ledger/sealedledger/http/Access$Role", name := "named", desc := "(Ljava/lang/String;)Lcom/example/sealed_ledger/sealedledger/http/Access$Role;" } : Jvm.MethodName) prog_3_method_4_code (5 : Nat) (Option.some (Jvm.ClassFile.FieldType.object "com/example/sealed_ledger/sealedledger/http/Access$Role"))).before args0 about1 = true := code_word (m := ⟨12, 1⟩) (meth := k12m1) (c := k12c1) (by decide +kernel) rfl rfl rfl (by decide +kernel)
set_option maxRecDepth 65536 in
theorem w_c14 : (Jvm.Cond.code ({ cls := "com/example/sealed_ledger/sealedledger/http/Access$Role", name := "values", desc := "()[Lcom/example/sealed_ledger/sealedledger/http/Access$Role;" } : Jvm.MethodName) prog_3_method_1_code (0 : Nat) (Option.some (Jvm.ClassFile.FieldType.array (Jvm.ClassFile.FieldType.object "com/example/sealed_ledger/sealedledger/http/Access$Role")))).before args0 about1 = true := code_word (m := ⟨12, 0⟩) (meth := k12m0) (c := k12c0) (by decide +kernel) rfl rfl rfl (by decide +kernel)
set_option maxRecDepth 65536 in
theorem w_c15 : (Jvm.Cond.code ({ cls := "java/lang/String", name := "equals", desc := "(Ljava/lang/Object;)Z" } : Jvm.MethodName) jdk_42_method_66_code (3 : Nat) (Option.some Jvm.ClassFile.FieldType.boolean)).before args0 about1 = true := code_word (m := ⟨7, 3⟩) (meth := k7m3) (c := k7c3) (by decide +kernel) rfl rfl rfl (by decide +kernel)
set_option maxRecDepth 65536 in
theorem w_c16 : (Jvm.Cond.code ({ cls := "java/lang/StringLatin1", name := "equals", desc := "([B[B)Z" } : Jvm.MethodName) jdk_43_method_13_code (3 : Nat) (Option.some Jvm.ClassFile.FieldType.boolean)).before args0 about1 = true := code_word (m := ⟨8, 2⟩) (meth := k8m2) (c := k8c2) (by decide +kernel) rfl rfl rfl (by decide +kernel)
def codes1 : List Jvm.Cond := [Jvm.Cond.code x code maxLocals ret, Jvm.Cond.code ({ cls := "com/example/sealed_ledger/sealedledger/http/RoleNamedPinLaw", name := "base", desc := "(ZI)C" } : Jvm.MethodName) method_3_code (3 : Nat) (Option.some Jvm.ClassFile.FieldType.char), Jvm.Cond.code ({ cls := "java/lang/String", name := "charAt", desc := "(I)C" } : Jvm.MethodName) jdk_42_method_56_code (2 : Nat) (Option.some Jvm.ClassFile.FieldType.char), Jvm.Cond.code ({ cls := "java/lang/String", name := "isLatin1", desc := "()Z" } : Jvm.MethodName) jdk_42_method_154_code (1 : Nat) (Option.some Jvm.ClassFile.FieldType.boolean), Jvm.Cond.code ({ cls := "java/lang/StringLatin1", name := "charAt", desc := "([BI)C" } : Jvm.MethodName) jdk_43_method_2_code (2 : Nat) (Option.some Jvm.ClassFile.FieldType.char), Jvm.Cond.code ({ cls := "java/lang/String", name := "checkIndex", desc := "(II)V" } : Jvm.MethodName) jdk_42_method_155_code (2 : Nat) (Option.none : Option Jvm.ClassFile.FieldType), Jvm.Cond.code ({ cls := "jdk/internal/util/Preconditions", name := "checkIndex", desc := "(IILjava/util/function/BiFunction;)I" } : Jvm.MethodName) jdk_41_method_11_code (3 : Nat) (Option.some Jvm.ClassFile.FieldType.int), Jvm.Cond.code ({ cls := "java/lang/String", name := "<init>", desc := "([C)V" } : Jvm.MethodName) jdk_42_method_3_code (2 : Nat) (Option.none : Option Jvm.ClassFile.FieldType), Jvm.Cond.code ({ cls := "java/lang/String", name := "<init>", desc := "([CIILjava/lang/Void;)V" } : Jvm.MethodName) jdk_42_method_149_code (6 : Nat) (Option.none : Option Jvm.ClassFile.FieldType), Jvm.Cond.code ({ cls := "java/lang/Object", name := "<init>", desc := "()V" } : Jvm.MethodName) object_method_1_code (1 : Nat) (Option.none : Option Jvm.ClassFile.FieldType), Jvm.Cond.code ({ cls := "java/lang/StringUTF16", name := "compress", desc := "([CII)[B" } : Jvm.MethodName) jdk_52_method_16_code (6 : Nat) (Option.some (Jvm.ClassFile.FieldType.array Jvm.ClassFile.FieldType.byte)), Jvm.Cond.code ({ cls := "java/lang/StringUTF16", name := "compress", desc := "([CI[BII)I" } : Jvm.MethodName) jdk_52_method_21_code (7 : Nat) (Option.some Jvm.ClassFile.FieldType.int), Jvm.Cond.code ({ cls := "java/lang/StringUTF16", name := "coderFromArrayLen", desc := "([BI)B" } : Jvm.MethodName) jdk_52_method_15_code (2 : Nat) (Option.some Jvm.ClassFile.FieldType.byte), Jvm.Cond.code ({ cls := "com/example/sealed_ledger/sealedledger/http/Access$Role", name := "named", desc := "(Ljava/lang/String;)Lcom/example/sealed_ledger/sealedledger/http/Access$Role;" } : Jvm.MethodName) prog_3_method_4_code (5 : Nat) (Option.some (Jvm.ClassFile.FieldType.object "com/example/sealed_ledger/sealedledger/http/Access$Role")), Jvm.Cond.code ({ cls := "com/example/sealed_ledger/sealedledger/http/Access$Role", name := "values", desc := "()[Lcom/example/sealed_ledger/sealedledger/http/Access$Role;" } : Jvm.MethodName) prog_3_method_1_code (0 : Nat) (Option.some (Jvm.ClassFile.FieldType.array (Jvm.ClassFile.FieldType.object "com/example/sealed_ledger/sealedledger/http/Access$Role"))), Jvm.Cond.code ({ cls := "java/lang/String", name := "equals", desc := "(Ljava/lang/Object;)Z" } : Jvm.MethodName) jdk_42_method_66_code (3 : Nat) (Option.some Jvm.ClassFile.FieldType.boolean), Jvm.Cond.code ({ cls := "java/lang/StringLatin1", name := "equals", desc := "([B[B)Z" } : Jvm.MethodName) jdk_43_method_13_code (3 : Nat) (Option.some Jvm.ClassFile.FieldType.boolean)]
set_option maxRecDepth 65536 in
theorem codes_eq : words1.filter isCode = codes1 := rfl
theorem w_codes : ∀ c ∈ words1.filter isCode, c.before args0 about1 = true := by
  rw [codes_eq]
  intro c hc
  simp only [codes1, List.mem_cons, List.not_mem_nil, or_false] at hc
  rcases hc with rfl | rfl | rfl | rfl | rfl | rfl | rfl | rfl | rfl | rfl | rfl | rfl | rfl | rfl | rfl | rfl | rfl
  · exact w_c0
  · exact w_c1
  · exact w_c2
  · exact w_c3
  · exact w_c4
  · exact w_c5
  · exact w_c6
  · exact w_c7
  · exact w_c8
  · exact w_c9
  · exact w_c10
  · exact w_c11
  · exact w_c12
  · exact w_c13
  · exact w_c14
  · exact w_c15
  · exact w_c16
set_option maxRecDepth 65536 in
theorem w_t1 : (words1.take 24).all (fun c => isCode c || c.before args0 about1) = true := by decide +kernel
set_option maxRecDepth 65536 in
theorem w_t2 : ((words1.drop 24).take 24).all (fun c => isCode c || c.before args0 about1) = true := by decide +kernel
set_option maxRecDepth 65536 in
theorem w_t3 : (((words1.drop 24).drop 24).take 24).all (fun c => isCode c || c.before args0 about1) = true := by decide +kernel
set_option maxRecDepth 65536 in
theorem w_t4 : ((((words1.drop 24).drop 24).drop 24).take 24).all (fun c => isCode c || c.before args0 about1) = true := by decide +kernel
set_option maxRecDepth 65536 in
theorem w_t5 : ((((words1.drop 24).drop 24).drop 24).drop 24).all (fun c => isCode c || c.before args0 about1) = true := by decide +kernel
theorem w_tables : (allAtoms (Jvm.Cond.code x code maxLocals ret :: tables_1)).before args0 about1 = true := by
  rw [allAtoms_all]
  show words1.all (fun c => c.before args0 about1) = true
  refine all_split ?_ w_codes
  rw [← List.take_append_drop 24 words1, List.all_append, w_t1, ← List.take_append_drop 24 (words1.drop 24), List.all_append, w_t2, ← List.take_append_drop 24 ((words1.drop 24).drop 24), List.all_append, w_t3, ← List.take_append_drop 24 (((words1.drop 24).drop 24).drop 24), List.all_append, w_t4, w_t5]
  rfl
set_option maxRecDepth 65536 in
theorem w_rest : rest_1_c.before args0 about1 = true := by decide +kernel
set_option maxRecDepth 65536 in
theorem w_case : (Jvm.Cond.and given_1 narrow_1).before args0 about1 = true := by decide +kernel
set_option maxRecDepth 65536 in
theorem w_consts : constsHeld consts_1 about1 := Jvm.Lit.constsHeldB_iff.mp (by decide +kernel)
theorem w_applies : (headSpec (Jvm.Cond.code x code maxLocals ret :: tables_1) room_1).applies x e0.platform about1 = true :=
  (Spec.applies_iff w_frames).mpr ⟨w_running, w_runnable, w_alone, w_named, w_hears, w_ripe, w_room, w_tables⟩
theorem atStart : AtStart classFile x code maxLocals ret World_1 tables_1 room_1 Calls_1 rest_1 Pre_1 launch0 p0 e0 about1 theMethod args0 below0 :=
  ⟨lists_1, trivial, launch0.admits_env _ _ _, launch0.least_env, fairChoices_fair.cas, fairChoices_fair.clock, w_frames, w_args, w_heap, w_applies, ⟨w_consts, trivial⟩, w_rest, w_case⟩
end start1
theorem witness_1 : WitnessClaimed_1 := ⟨start1.p0, start1.e0, start1.about1, start1.theMethod, start1.args0, start1.below0, start1.atStart⟩
end Jvm.Pilot.@@N@@
