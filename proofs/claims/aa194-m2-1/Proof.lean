import JvmDerived
import JvmDerived.Pilot.@@N@@Statement
import JvmDerived.Pilot.@@N@@Code
set_option linter.unusedVariables false
set_option linter.unusedSimpArgs false
@@BLOCK:HandJ.lean.txt@@
@@BLOCK:SymMore.lean.txt@@
namespace Jvm.OwnGo
open Jvm Jvm.ClassFile Sem Op Lib Jvm.Free Jvm.Stand Jvm.LawKit Jvm.RoadKit
section Own
variable {p : Program} {l : Launch} {e : Env} {R : Room} {s : State} {m : MethodId} {args : Array Value} {below : List Frame} {meth : Method} {c : Code} {T T' : State} {locs : List Loc} {cells slots : Nat} {Z : State} {a0 : Array Value} {h : Heap} {g g' : JFrame} {P : Outcome → State → Prop}
/-- the run goes on from T with the frame g on top and comes to an end at which P holds -/
def Go (p : Program) (e : Env) (below : List Frame) (P : Outcome → State → Prop) (T : State) (g : JFrame) : Prop := ∃ t o, Steps p.tables e below (T.setTop g) t ∧ t.status = .running ∧ Ended t below o ∧ P o t
theorem Go.of (g' : JFrame) (st : ∀ t, Steps p.tables e below (T'.setTop g') t → Steps p.tables e below (T.setTop g) t) (k : Go p e below P T' g') : Go p e below P T g := by
  obtain ⟨t, o, h1, h2⟩ := k; exact ⟨t, o, st t h1, h2⟩
theorem Go.via (g' : JFrame) (st : Steps p.tables e below (T.setTop g) (T'.setTop g')) (k : Go p e below P T' g') : Go p e below P T g := by
  obtain ⟨t, o, h1, h2⟩ := k; exact ⟨t, o, st.trans h1, h2⟩
theorem Go.cast (q : g = g') (k : Go p e below P T g') : Go p e below P T g := q ▸ k
abbrev EndP (s : State) (rm : Room) (Q : Option Value → Heap → List Loc → Prop) : Outcome → State → Prop := fun o U' => ∃ v L, o = .returned v ∧ Q v U'.heap L ∧ FrameEnd s o U' L rm.cells rm.slots
def Met (l : Launch) (Z : State) (y : MethodName) (bytes : ByteArray) (maxL : Nat) (ret : Option FieldType) (ws : List Cond) (rm : Room) (as' : Array Value) (h0 : Heap) (Q : Option Value → Heap → List Loc → Prop) : Prop :=
  MetFree l y (head1 (Cond.code y bytes maxL ret :: ws) rm) (fun a U => a = as' ∧ Z.Warmed39 U.vm ∧ U.heap = h0) (fun _ _ _ _ _ => True) (fun _ U o U' => ∃ v L, o = .returned v ∧ Q v U'.heap L ∧ FrameEnd U o U' L rm.cells rm.slots)
variable {y : MethodName} {bytes : ByteArray} {maxL : Nat} {ret : Option FieldType} {ws : List Cond} {rm : Room} {as' : Array Value} {h0 : Heap} {Q : Option Value → Heap → List Loc → Prop}
theorem Met.intro (hpl : plainFor y = true)
    (body : ∀ p e s m below meth c s₁, Stand p l e rm s m as' below meth c s₁ [] 0 0 → p.tables.exec = Jvm.exec → Z.Warmed39 s.vm → s.vm.findClass y.cls = some m.cls → c.code = bytes → c.maxLocals = maxL →
      meth.sig.returnType = ret → meth.locks = false → meth.name = y.name → s₁.heap = h0 → Go p e below (EndP s rm Q) s₁ (entryFrame m as' maxL)) : Met l Z y bytes maxL ret ws rm as' h0 Q := by
  refine MetFree.of_bodySF hpl hisR ?_
  intro p e s m args below meth c s₁ Bd hml0 hP hK
  obtain ⟨rfl, hZ, hh⟩ := hP
  exact body p e s m below meth c s₁ (Stand.of_body Bd) Bd.exec hZ (findClass_of_methodNamed Bd.named) Bd.bytes hml0 Bd.returns Bd.notSynchronized (name_of_methodNamed Bd.named Bd.method).1 (by rw [← hh, Bd.state]; rfl)
theorem Met.mono {Q' : Option Value → Heap → List Loc → Prop} (h : Met l Z y bytes maxL ret ws rm as' h0 Q) (q : ∀ v h L, Q v h L → Q' v h L) : Met l Z y bytes maxL ret ws rm as' h0 Q' := by
  intro p e ha hc hk s m args below hf happ hP hK
  obtain ⟨n, o, h1, h2, h3, v, L, h4, h5, h6⟩ := h p e ha hc hk s m args below hf happ hP hK
  exact ⟨n, o, h1, h2, h3, v, L, h4, q _ _ _ h5, h6⟩
theorem Go.fin (X : Stand p l e R s m args below meth c T locs cells slots) {v : Option Value} (hv : meth.sig.returnType = none → v = none) (hlk : meth.locks = false) (hc : cells ≤ rm.cells) (hs : slots ≤ rm.slots)
    (st : ∀ fs, (∀ (f : JFrame) (acts : List Action), f.method = m → f.locked = none → f.entered = [] → (doReturn e (T.setTop f) acts v).1 = T.setFrames fs) → Steps p.tables e below (T.setTop g) (T.setFrames fs)) (hQ : Q v T.heap locs) : Go p e below (EndP s rm Q) T g := by
  obtain ⟨fs, hr, hrun, hended, hW, hsame⟩ := X.leave (v := v) hv hlk
  exact ⟨_, _, st fs hr, hrun, hended, v, locs, rfl, hQ, ⟨v, rfl⟩, hW, hsame.mono hc hs⟩
/-- a value is returned -/
theorem Go.retW (X : Stand p l e R s m args below meth c T locs cells slots) (hx : p.tables.exec = Jvm.exec) {pc : Nat} {Ls : Array Slot} {w : Value} {t : FieldType} {i : Instr} {rest : List Value} (hret : meth.sig.returnType = some t) (hlk : meth.locks = false) (hn : narrow t w = w)
    (hi : (i = .ireturn ∧ (t = .int ∨ t = .boolean ∨ t = .byte ∨ t = .char ∨ t = .short) ∧ ∃ z, w = .int z) ∨ (i = .lreturn ∧ t = .long ∧ ∃ z, w = .long z) ∨ (i = .dreturn ∧ t = .double ∧ ∃ z, w = .double z) ∨ (i = .freturn ∧ t = .float ∧ ∃ z, w = .float z) ∨ (i = .areturn ∧ t.isReference = true ∧ w.isRef = true))
    (hd : decode c.code pc = .ok (i, 1)) (hc : cells ≤ rm.cells) (hs : slots ≤ rm.slots) (hQ : Q (some w) T.heap locs) : Go p e below (EndP s rm Q) T (mkF m pc Ls (w :: rest)) :=
  Go.fin X (fun q => by rw [hret] at q; cases q) hlk hc hs (fun fs hr => retOut X hx hret hn hi hd hr) hQ
/-- nothing is returned -/
theorem Go.retV (X : Stand p l e R s m args below meth c T locs cells slots) (hx : p.tables.exec = Jvm.exec) {pc : Nat} {Ls : Array Slot} (hret : meth.sig.returnType = none) (hlk : meth.locks = false)
    (hd : decode c.code pc = .ok (.return_, 1)) (hc : cells ≤ rm.cells) (hs : slots ≤ rm.slots) (hQ : Q none T.heap locs) : Go p e below (EndP s rm Q) T (mkF m pc Ls []) :=
  Go.fin X (fun _ => rfl) hlk hc hs (fun fs hr => X.returnOut hx hret hd hr) hQ
theorem ri_int {z : Int32} {t : FieldType} (ht : t = .int ∨ t = .boolean ∨ t = .byte ∨ t = .char ∨ t = .short) : ((.ireturn : Instr) = .ireturn ∧ (t = .int ∨ t = .boolean ∨ t = .byte ∨ t = .char ∨ t = .short) ∧ ∃ z', (Value.int z) = .int z') ∨ ((.ireturn : Instr) = .lreturn ∧ t = .long ∧ ∃ z', (Value.int z) = .long z') ∨ ((.ireturn : Instr) = .dreturn ∧ t = .double ∧ ∃ z', (Value.int z) = .double z') ∨ ((.ireturn : Instr) = .freturn ∧ t = .float ∧ ∃ z', (Value.int z) = .float z') ∨ ((.ireturn : Instr) = .areturn ∧ t.isReference = true ∧ (Value.int z).isRef = true) := Or.inl ⟨rfl, ht, z, rfl⟩
/-- a static call, by the callee's contract -/
theorem Go.callS (X : Stand p l e R s m args below meth c T locs cells slots) (hx : p.tables.exec = Jvm.exec) (hZ : Z.Warmed39 s.vm) {own : String} {index W : Nat} {argsL rest : List Value} (hown : s.vm.findClass own = some m.cls)
    (w1 : (Cond.methodLink own index y).before a0 Z = true) (w2 : (Cond.static y).before a0 Z = true) (w3 : (Cond.initialized y.cls).before a0 Z = true) (w4 : (Cond.code y bytes maxL ret).before a0 Z = true)
    (hy : y.cls ≠ "java/lang/invoke/MethodHandle" ∧ y.cls ≠ "java/lang/invoke/VarHandle") (eT : T.heap = h) (hM : Met l Z y bytes maxL ret [] rm argsL.toArray h Q)
    (hg : g.method = m) (hsize : g.locals.size = c.maxLocals) (hlen : ∀ sig, parseMethodDescriptor y.desc = some sig → argsL.length = sig.parameters.length) (hs : g.stack = argsL.reverse ++ rest)
    (hW : 2 * g.monitorRoom + (rest.map fun v => v.category).sum ≤ W) (hd : decode c.code g.pc = .ok (.invokestatic index, 3)) (hf : rm.frames + 1 ≤ R.frames) (hl : W + (maxL + 11) + rm.locals ≤ R.locals) (hc : cells + rm.cells ≤ R.cells) (hsl : slots + rm.slots ≤ R.slots)
    (k : ∀ T' L v, Stand p l e R s m args below meth c T' (locs ++ L) (cells + rm.cells) (slots + rm.slots) → Q v T'.heap L → Go p e below P T' { g with pc := g.pc + 3, stack := v.toList ++ rest }) : Go p e below P T g := by
  obtain ⟨v, _, ⟨U, L, q1, q2⟩, -, X', ⟨Lc, hQ, l1, l2, l3⟩, st⟩ := Jvm.LawKit.callS X hx (y := y) hown (mvT hZ w1) (mvT hZ w2) (mvT hZ w3) (mvT hZ w4) hy (backOf (W := W) hM hZ w4 w3 hf hl) hg hsize hlen hs hW hd (fun _ _ => ⟨rfl, eT, hc, hsl⟩)
  dsimp only [Pt.U, Pt.locs, Pt.cells, Pt.slots] at X' l1 l2 l3 st hQ
  subst l1 l2 l3
  exact Go.of _ st (k _ _ _ X' hQ)
/-- a constructor, by its contract -/
theorem Go.init (X : Stand p l e R s m args below meth c T locs cells slots) (hx : p.tables.exec = Jvm.exec) (hZ : Z.Warmed39 s.vm) {own : String} {index W : Nat} {a : Addr} {argsL rest : List Value} (hown : s.vm.findClass own = some m.cls) (hy1 : y.name = "<init>")
    (w1 : (Cond.methodLink own index y).before a0 Z = true) (w2 : (Cond.instanceMethod y).before a0 Z = true) (w3 : (Cond.initialized y.cls).before a0 Z = true) (w4 : (Cond.code y bytes maxL none).before a0 Z = true)
    (hy : y.cls ≠ "java/lang/invoke/MethodHandle" ∧ y.cls ≠ "java/lang/invoke/VarHandle") (eT : T.heap = h) (hM : Met l Z y bytes maxL none [] rm (.ref a :: argsL).toArray h Q)
    (hg : g.method = m) (hsize : g.locals.size = c.maxLocals) (hlen : ∀ sig, parseMethodDescriptor y.desc = some sig → argsL.length = sig.parameters.length) (hs : g.stack = argsL.reverse ++ .ref a :: rest)
    (hW : 2 * g.monitorRoom + (rest.map fun v => v.category).sum ≤ W) (hd : decode c.code g.pc = .ok (.invokespecial index, 3)) (hf : rm.frames + 1 ≤ R.frames) (hl : W + (maxL + 11) + rm.locals ≤ R.locals) (hc : cells + rm.cells ≤ R.cells) (hsl : slots + rm.slots ≤ R.slots)
    (k : ∀ T' L v, Stand p l e R s m args below meth c T' (locs ++ L) (cells + rm.cells) (slots + rm.slots) → Q v T'.heap L → Go p e below P T' { g with pc := g.pc + 3, stack := v.toList ++ rest }) : Go p e below P T g := by
  obtain ⟨v, _, ⟨U, L, q1, q2⟩, -, X', ⟨Lc, hQ, l1, l2, l3⟩, st⟩ := X.specialBack hx (y := y) hy1 hown (mvT hZ w1) (mvT hZ w2) (mvT hZ w4) hy (backOf (W := W) hM hZ w4 w3 hf hl) hg hsize (Steps.refl _) hlen hs hW hd (fun _ _ => ⟨rfl, eT, hc, hsl⟩)
  dsimp only [Pt.U, Pt.locs, Pt.cells, Pt.slots] at X' l1 l2 l3 st hQ
  subst l1 l2 l3
  exact Go.via _ st (k _ _ _ X' hQ)
/-- an instance method, by the contract of the method that the receiver's class selects -/
theorem Go.virt (X : Stand p l e R s m args below meth c T locs cells slots) (hx : p.tables.exec = Jvm.exec) (hZ : Z.Warmed39 s.vm) {own C : String} {z : MethodName} {index W : Nat} {a : Addr} {argsL rest : List Value} (hown : s.vm.findClass own = some m.cls)
    (w1 : (Cond.methodLink own index z).before a0 Z = true) (w2 : (Cond.declares z).before a0 Z = true) (nf : NotFace s z) (w5 : (Cond.selects C z y).before a0 Z = true) (w6 : (Cond.instanceMethod y).before a0 Z = true) (w3 : (Cond.initialized y.cls).before a0 Z = true) (w4 : (Cond.code y bytes maxL ret).before a0 Z = true)
    (hy : z.cls ≠ "java/lang/invoke/MethodHandle" ∧ z.cls ≠ "java/lang/invoke/VarHandle") (eT : T.heap = h) (E : Exa Z h a C) (hM : Met l Z y bytes maxL ret [] rm (.ref a :: argsL).toArray h Q)
    (hg : g.method = m) (hsize : g.locals.size = c.maxLocals) (hlen : ∀ sig, parseMethodDescriptor z.desc = some sig → argsL.length = sig.parameters.length) (hs : g.stack = argsL.reverse ++ .ref a :: rest)
    (hW : 2 * g.monitorRoom + (rest.map fun v => v.category).sum ≤ W) (hd : decode c.code g.pc = .ok (.invokevirtual index, 3)) (hf : rm.frames + 1 ≤ R.frames) (hl : W + (maxL + 11) + rm.locals ≤ R.locals) (hc : cells + rm.cells ≤ R.cells) (hsl : slots + rm.slots ≤ R.slots)
    (k : ∀ T' L v, Stand p l e R s m args below meth c T' (locs ++ L) (cells + rm.cells) (slots + rm.slots) → Q v T'.heap L → Go p e below P T' { g with pc := g.pc + 3, stack := v.toList ++ rest }) : Go p e below P T g := by
  obtain ⟨cq, kq, qa, qb, qc⟩ := isOf hZ eT E
  obtain ⟨v, _, ⟨U, L, q1, q2⟩, -, X', ⟨Lc, hQ, l1, l2, l3⟩, st⟩ := X.virtualBack hx (y := z) (z := y) hown (mvT hZ w1) (mvT hZ w2) nf (mvT hZ w5) (mvT hZ w6) hy (backOf (W := W) hM hZ w4 w3 hf hl) qa qc hg hsize (Steps.refl _) hlen hs hW hd (fun _ _ => ⟨rfl, eT, hc, hsl⟩)
  dsimp only [Pt.U, Pt.locs, Pt.cells, Pt.slots] at X' l1 l2 l3 st hQ
  subst l1 l2 l3
  exact Go.via _ st (k _ _ _ X' hQ)
/-- a private method (invokevirtual) -/
theorem Go.priv (X : Stand p l e R s m args below meth c T locs cells slots) (hx : p.tables.exec = Jvm.exec) (hZ : Z.Warmed39 s.vm) {own C : String} {index W : Nat} {a : Addr} {argsL rest : List Value} (hown : s.vm.findClass own = some m.cls)
    (w1 : (Cond.methodLink own index y).before a0 Z = true) (w6 : (Cond.instanceMethod y).before a0 Z = true) (w5 : (Cond.selects y.cls y y).before a0 Z = true) (w7 : (Cond.privateMethod y).before a0 Z = true) (w3 : (Cond.initialized y.cls).before a0 Z = true) (w4 : (Cond.code y bytes maxL ret).before a0 Z = true)
    (hy : y.cls ≠ "java/lang/invoke/MethodHandle" ∧ y.cls ≠ "java/lang/invoke/VarHandle") (eT : T.heap = h) (E : Exa Z h a C) (hM : Met l Z y bytes maxL ret [] rm (.ref a :: argsL).toArray h Q)
    (hg : g.method = m) (hsize : g.locals.size = c.maxLocals) (hlen : ∀ sig, parseMethodDescriptor y.desc = some sig → argsL.length = sig.parameters.length) (hs : g.stack = argsL.reverse ++ .ref a :: rest)
    (hW : 2 * g.monitorRoom + (rest.map fun v => v.category).sum ≤ W) (hd : decode c.code g.pc = .ok (.invokevirtual index, 3)) (hf : rm.frames + 1 ≤ R.frames) (hl : W + (maxL + 11) + rm.locals ≤ R.locals) (hc : cells + rm.cells ≤ R.cells) (hsl : slots + rm.slots ≤ R.slots)
    (k : ∀ T' L v, Stand p l e R s m args below meth c T' (locs ++ L) (cells + rm.cells) (slots + rm.slots) → Q v T'.heap L → Go p e below P T' { g with pc := g.pc + 3, stack := v.toList ++ rest }) : Go p e below P T g := by
  obtain ⟨cq, q, q'⟩ := E.cell
  obtain ⟨v, _, ⟨U, L, q1, q2⟩, -, X', ⟨Lc, hQ, l1, l2, l3⟩, st⟩ := X.privateBack hx (y := y) hown (mvT hZ w1) (mvT hZ w6) (mvT hZ w5) (Cond.privateMethod_at (mvP hZ w7 (args := #[]))) (mvT hZ w4) hy (backOf (W := W) hM hZ w4 w3 hf hl) hg hsize (Steps.refl _) (a := a) (by rw [eT]; exact q) q' hlen hs hW hd (fun _ _ => ⟨rfl, eT, hc, hsl⟩)
  dsimp only [Pt.U, Pt.locs, Pt.cells, Pt.slots] at X' l1 l2 l3 st hQ
  subst l1 l2 l3
  exact Go.via _ st (k _ _ _ X' hQ)
/-! arrays by a function of the place -/
def fnup {α : Type} (y : Int32 → α) (j : Int32) (v : α) : Int32 → α := fun i => if i = j then v else y i
theorem fnup_same {α : Type} (y : Int32 → α) (j : Int32) (v : α) : fnup y j v j = v := if_pos rfl
theorem fnup_ne {α : Type} {y : Int32 → α} {i j : Int32} {v : α} (h : ¬ i = j) : fnup y j v i = y i := if_neg h
def Fa (Z : State) (h : Heap) (a : Addr) (ty : FieldType) (n : Int32) (y : Int32 → Value) : Prop :=
  ∃ c : Cell, Arr Z h a c ty ∧ c.slots.size = n.toNatClampNeg ∧ ¬ n < 0 ∧ ∀ j : Int32, ¬ j < 0 → j < n → c.slots[j.toNatClampNeg]? = some (y j) ∧ fits ty (y j) = true
variable {a b : Addr} {ty : FieldType} {n : Int32} {yv : Int32 → Value} {h' : Heap} {j : Int32} {v : Value} {sl : Nat} {hws : List Addr}
theorem Fa.lt (F : Fa Z h a ty n yv) : a < h.size := by obtain ⟨c, A, -⟩ := F; exact A.lt
theorem Fa.ext (F : Fa Z h a ty n yv) (E : Ext h h') : Fa Z h' a ty n yv := by obtain ⟨c, A, r⟩ := F; exact ⟨c, A.ext E, r⟩
theorem Fa.other (F : Fa Z h b ty n yv) (W : Wr h h' a sl v) (q : b ≠ a) : Fa Z h' b ty n yv := by obtain ⟨c, A, r⟩ := F; exact ⟨c, A.other W q, r⟩
theorem Fa.keep (F : Fa Z h a ty n yv) (K : Keep h h' hws) (q : a ∉ hws) : Fa Z h' a ty n yv := by obtain ⟨c, A, r⟩ := F; exact ⟨c, ⟨K.2.1 a c A.1 q, A.2⟩, r⟩
theorem Fa.new {k : ClassId} (A : Arr Z h a (newA k ty n) ty) (q : ¬ n < 0) : Fa Z h a ty n (fun _ => defaultValue ty) :=
  ⟨_, A, sz_new _ _ _, q, fun i h0 h1 => ⟨get_new (by have := inb_of (c := newA k ty n) (sz_new k ty n) ⟨h0, h1⟩; rwa [sz_new] at this), by cases ty <;> rfl⟩⟩
theorem Fa.set (F : Fa Z h a ty n yv) (W : Wr h h' a j.toNatClampNeg v) (hj : ¬ j < 0) (hv : fits ty v = true) : Fa Z h' a ty n (fnup yv j v) := by
  obtain ⟨c, A, S, M, H⟩ := F
  refine ⟨c.setSlot j.toNatClampNeg v, A.same W, by rw [sz_set]; exact S, M, fun i h0 h1 => ?_⟩
  by_cases e : i = j
  · subst e; rw [fnup_same]; exact ⟨get_hit (inb_of S ⟨h0, h1⟩) rfl, hv⟩
  · rw [fnup_ne e, get_miss hj h0 e]; exact H i h0 h1
theorem Fa.congr {yw : Int32 → Value} (F : Fa Z h a ty n yv) (q : ∀ j, ¬ j < 0 → j < n → yw j = yv j) : Fa Z h a ty n yw := by
  obtain ⟨c, A, S, M, H⟩ := F
  exact ⟨c, A, S, M, fun j h0 h1 => by rw [q j h0 h1]; exact H j h0 h1⟩
theorem Fa.pos (F : Fa Z h a ty n yv) : ¬ n < 0 := by obtain ⟨c, A, S, M, H⟩ := F; exact M
theorem Fa.ofArv {k : ClassId} {vs : List Value} {dv : Value} (F : Arv Z h a k ty n vs dv) : Fa Z h a ty n (fun j => vs.getD j.toNatClampNeg dv) := by
  obtain ⟨c, A, q1, S, M, H, G⟩ := F
  exact ⟨c, A, S, M, fun j h0 h1 => by
    have q : j.toNatClampNeg < c.slots.size := Nat.lt_of_not_le fun z => inb_of S ⟨h0, h1⟩ (Or.inr z)
    exact ⟨H _ q, G _ q⟩⟩
theorem fnup_int (y : Int32 → Int32) (j x : Int32) : fnup (fun i => Value.int (y i)) j (.int x) = fun i => Value.int (fnup y j x i) := by funext i; unfold fnup; split <;> rfl
theorem fnup_long (y : Int32 → Int64) (j : Int32) (x : Int64) : fnup (fun i => Value.long (y i)) j (.long x) = fun i => Value.long (fnup y j x i) := by funext i; unfold fnup; split <;> rfl
theorem fnup_dbl (y : Int32 → UInt64) (j : Int32) (x : UInt64) : fnup (fun i => Value.double (y i)) j (.double x) = fun i => Value.double (fnup y j x i) := by funext i; unfold fnup; split <;> rfl
variable {rest : List Value}
theorem Go.arraylength (X : Stand p l e R s m args below meth c T locs cells slots) (hx : p.tables.exec = Jvm.exec) (hZ : Z.Warmed39 s.vm) (eT : T.heap = h) (F : Fa Z h a ty n yv) (hg : g.method = m) (hs : g.stack = .ref a :: rest) (hd : decode c.code g.pc = .ok (.arraylength, 1))
    (k : Go p e below P T { g with pc := g.pc + 1, stack := .int n :: rest }) : Go p e below P T g := by
  obtain ⟨cl, A, S, M, H⟩ := F
  refine Go.of _ (fun t k => X.arraylength hx (by rw [eT]; exact A.1) (State.isArrayOf_alike hZ.alike A.2.1) hg hs hd _ k) ?_
  rw [len_of S M]; exact k
theorem Go.iaload (X : Stand p l e R s m args below meth c T locs cells slots) (hx : p.tables.exec = Jvm.exec) (hZ : Z.Warmed39 s.vm) (eT : T.heap = h) {y : Int32 → Int32} (F : Fa Z h a .int n (fun i => .int (y i))) (h0 : ¬ j < 0) (h1 : j < n) (hg : g.method = m) (hs : g.stack = .int j :: .ref a :: rest) (hd : decode c.code g.pc = .ok (.iaload, 1))
    (k : Go p e below P T { g with pc := g.pc + 1, stack := .int (y j) :: rest }) : Go p e below P T g := by
  obtain ⟨cl, A, S, M, H⟩ := F
  exact Go.of _ (fun t k => X.iaload hx (by rw [eT]; exact A.1) (State.isArrayOf_alike hZ.alike A.2.1) A.2.2 (inb_of S ⟨h0, h1⟩) (H j h0 h1).1 hg hs hd _ k) k
theorem Go.caload (X : Stand p l e R s m args below meth c T locs cells slots) (hx : p.tables.exec = Jvm.exec) (hZ : Z.Warmed39 s.vm) (eT : T.heap = h) {y : Int32 → Int32} (F : Fa Z h a .char n (fun i => .int (y i))) (h0 : ¬ j < 0) (h1 : j < n) (hg : g.method = m) (hs : g.stack = .int j :: .ref a :: rest) (hd : decode c.code g.pc = .ok (.caload, 1))
    (k : Go p e below P T { g with pc := g.pc + 1, stack := .int (y j) :: rest }) : Go p e below P T g := by
  obtain ⟨cl, A, S, M, H⟩ := F
  exact Go.of _ (fun t k => X.caload hx (by rw [eT]; exact A.1) (State.isArrayOf_alike hZ.alike A.2.1) A.2.2 (inb_of S ⟨h0, h1⟩) (H j h0 h1).1 hg hs hd _ k) k
theorem Go.saload (X : Stand p l e R s m args below meth c T locs cells slots) (hx : p.tables.exec = Jvm.exec) (hZ : Z.Warmed39 s.vm) (eT : T.heap = h) {y : Int32 → Int32} (F : Fa Z h a .short n (fun i => .int (y i))) (h0 : ¬ j < 0) (h1 : j < n) (hg : g.method = m) (hs : g.stack = .int j :: .ref a :: rest) (hd : decode c.code g.pc = .ok (.saload, 1))
    (k : Go p e below P T { g with pc := g.pc + 1, stack := .int (y j) :: rest }) : Go p e below P T g := by
  obtain ⟨cl, A, S, M, H⟩ := F
  exact Go.of _ (fun t k => X.saload hx (by rw [eT]; exact A.1) (State.isArrayOf_alike hZ.alike A.2.1) A.2.2 (inb_of S ⟨h0, h1⟩) (H j h0 h1).1 hg hs hd _ k) k
theorem Go.baload (X : Stand p l e R s m args below meth c T locs cells slots) (hx : p.tables.exec = Jvm.exec) (hZ : Z.Warmed39 s.vm) (eT : T.heap = h) {y : Int32 → Int32} (F : Fa Z h a .byte n (fun i => .int (y i))) (h0 : ¬ j < 0) (h1 : j < n) (hg : g.method = m) (hs : g.stack = .int j :: .ref a :: rest) (hd : decode c.code g.pc = .ok (.baload, 1))
    (k : Go p e below P T { g with pc := g.pc + 1, stack := .int (y j) :: rest }) : Go p e below P T g := by
  obtain ⟨cl, A, S, M, H⟩ := F
  exact Go.of _ (fun t k => X.baloadBytes hx (by rw [eT]; exact A.1) (State.isArrayOf_alike hZ.alike A.2.1) A.2.2 (inb_of S ⟨h0, h1⟩) (H j h0 h1).1 hg hs hd _ k) k
theorem Go.zaload (X : Stand p l e R s m args below meth c T locs cells slots) (hx : p.tables.exec = Jvm.exec) (hZ : Z.Warmed39 s.vm) (eT : T.heap = h) {y : Int32 → Int32} (F : Fa Z h a .boolean n (fun i => .int (y i))) (h0 : ¬ j < 0) (h1 : j < n) (hg : g.method = m) (hs : g.stack = .int j :: .ref a :: rest) (hd : decode c.code g.pc = .ok (.baload, 1))
    (k : Go p e below P T { g with pc := g.pc + 1, stack := .int (y j) :: rest }) : Go p e below P T g := by
  obtain ⟨cl, A, S, M, H⟩ := F
  exact Go.of _ (fun t k => X.baloadBooleans hx (by rw [eT]; exact A.1) (State.isArrayOf_alike hZ.alike A.2.1) A.2.2 (inb_of S ⟨h0, h1⟩) (H j h0 h1).1 hg hs hd _ k) k
theorem Go.laload (X : Stand p l e R s m args below meth c T locs cells slots) (hx : p.tables.exec = Jvm.exec) (hZ : Z.Warmed39 s.vm) (eT : T.heap = h) {y : Int32 → Int64} (F : Fa Z h a .long n (fun i => .long (y i))) (h0 : ¬ j < 0) (h1 : j < n) (hg : g.method = m) (hs : g.stack = .int j :: .ref a :: rest) (hd : decode c.code g.pc = .ok (.laload, 1))
    (k : Go p e below P T { g with pc := g.pc + 1, stack := .long (y j) :: rest }) : Go p e below P T g := by
  obtain ⟨cl, A, S, M, H⟩ := F
  exact Go.of _ (fun t k => X.laload hx (by rw [eT]; exact A.1) (State.isArrayOf_alike hZ.alike A.2.1) A.2.2 (inb_of S ⟨h0, h1⟩) (H j h0 h1).1 hg hs hd _ k) k
theorem Go.aaload (X : Stand p l e R s m args below meth c T locs cells slots) (hx : p.tables.exec = Jvm.exec) (hZ : Z.Warmed39 s.vm) (eT : T.heap = h) (F : Fa Z h a ty n yv) (hty : ty.isReference = true) (h0 : ¬ j < 0) (h1 : j < n) (hg : g.method = m) (hs : g.stack = .int j :: .ref a :: rest) (hd : decode c.code g.pc = .ok (.aaload, 1))
    (k : Go p e below P T { g with pc := g.pc + 1, stack := yv j :: rest }) : Go p e below P T g := by
  obtain ⟨cl, A, S, M, H⟩ := F
  exact Go.of _ (fun t k => X.aaload hx (by rw [eT]; exact A.1) (State.isArrayOf_alike hZ.alike A.2.1) hty A.2.2 (inb_of S ⟨h0, h1⟩) (H j h0 h1).1 hg hs hd _ k) k
theorem Go.iastore (X : Stand p l e R s m args below meth c T locs cells slots) (hx : p.tables.exec = Jvm.exec) (hZ : Z.Warmed39 s.vm) (eT : T.heap = h) {y : Int32 → Int32} {x : Int32} (F : Fa Z h a .int n (fun i => .int (y i))) (h0 : ¬ j < 0) (h1 : j < n) (hg : g.method = m) (hs : g.stack = .int x :: .int j :: .ref a :: rest) (hd : decode c.code g.pc = .ok (.iastore, 1))
    (k : ∀ T' h', Stand p l e R s m args below meth c T' (locs ++ [⟨a, j.toNatClampNeg⟩]) cells slots → T'.heap = h' → Wr h h' a j.toNatClampNeg (.int x) → Fa Z h' a .int n (fun i => .int (fnup y j x i)) → Go p e below P T' { g with pc := g.pc + 1, stack := rest }) : Go p e below P T g := by
  obtain ⟨cl, A, S, M, H⟩ := id F
  obtain ⟨T', h', X', e', W, st⟩ := stI X hx hZ eT A (inb_of S ⟨h0, h1⟩) hg hs hd
  exact Go.of _ st (k _ _ X' e' W (by have := F.set W h0 rfl; rwa [fnup_int] at this))
theorem Go.castore (X : Stand p l e R s m args below meth c T locs cells slots) (hx : p.tables.exec = Jvm.exec) (hZ : Z.Warmed39 s.vm) (eT : T.heap = h) {y : Int32 → Int32} {x : Int32} (F : Fa Z h a .char n (fun i => .int (y i))) (h0 : ¬ j < 0) (h1 : j < n) (hg : g.method = m) (hs : g.stack = .int x :: .int j :: .ref a :: rest) (hd : decode c.code g.pc = .ok (.castore, 1))
    (k : ∀ T' h', Stand p l e R s m args below meth c T' (locs ++ [⟨a, j.toNatClampNeg⟩]) cells slots → T'.heap = h' → Wr h h' a j.toNatClampNeg (.int (nar .char x)) → Fa Z h' a .char n (fun i => .int (fnup y j (nar .char x) i)) → Go p e below P T' { g with pc := g.pc + 1, stack := rest }) : Go p e below P T g := by
  obtain ⟨cl, A, S, M, H⟩ := id F
  obtain ⟨T', h', X', e', W, st⟩ := stC X hx hZ eT A (inb_of S ⟨h0, h1⟩) hg hs hd
  exact Go.of _ st (k _ _ X' e' W (by have := F.set W h0 (fits_nar_char _); rwa [fnup_int] at this))
theorem Go.bastore (X : Stand p l e R s m args below meth c T locs cells slots) (hx : p.tables.exec = Jvm.exec) (hZ : Z.Warmed39 s.vm) (eT : T.heap = h) {y : Int32 → Int32} {x : Int32} (F : Fa Z h a .byte n (fun i => .int (y i))) (h0 : ¬ j < 0) (h1 : j < n) (hg : g.method = m) (hs : g.stack = .int x :: .int j :: .ref a :: rest) (hd : decode c.code g.pc = .ok (.bastore, 1))
    (k : ∀ T' h', Stand p l e R s m args below meth c T' (locs ++ [⟨a, j.toNatClampNeg⟩]) cells slots → T'.heap = h' → Wr h h' a j.toNatClampNeg (.int (nar .byte x)) → Fa Z h' a .byte n (fun i => .int (fnup y j (nar .byte x) i)) → Go p e below P T' { g with pc := g.pc + 1, stack := rest }) : Go p e below P T g := by
  obtain ⟨cl, A, S, M, H⟩ := id F
  obtain ⟨T', h', X', e', W, st⟩ := stB X hx hZ eT A (inb_of S ⟨h0, h1⟩) hg hs hd
  exact Go.of _ st (k _ _ X' e' W (by have := F.set W h0 (fits_nar_byte _); rwa [fnup_int] at this))
theorem Go.zastore (X : Stand p l e R s m args below meth c T locs cells slots) (hx : p.tables.exec = Jvm.exec) (hZ : Z.Warmed39 s.vm) (eT : T.heap = h) {y : Int32 → Int32} {x : Int32} (F : Fa Z h a .boolean n (fun i => .int (y i))) (h0 : ¬ j < 0) (h1 : j < n) (hg : g.method = m) (hs : g.stack = .int x :: .int j :: .ref a :: rest) (hd : decode c.code g.pc = .ok (.bastore, 1))
    (k : ∀ T' h', Stand p l e R s m args below meth c T' (locs ++ [⟨a, j.toNatClampNeg⟩]) cells slots → T'.heap = h' → Wr h h' a j.toNatClampNeg (.int (nar .boolean x)) → Fa Z h' a .boolean n (fun i => .int (fnup y j (nar .boolean x) i)) → Go p e below P T' { g with pc := g.pc + 1, stack := rest }) : Go p e below P T g := by
  obtain ⟨cl, A, S, M, H⟩ := id F
  obtain ⟨T', h', X', e', W, st⟩ := stZ X hx hZ eT A (inb_of S ⟨h0, h1⟩) hg hs hd
  exact Go.of _ st (k _ _ X' e' W (by have := F.set W h0 (fits_nar_bool _); rwa [fnup_int] at this))
theorem Go.lastore (X : Stand p l e R s m args below meth c T locs cells slots) (hx : p.tables.exec = Jvm.exec) (hZ : Z.Warmed39 s.vm) (eT : T.heap = h) {y : Int32 → Int64} {x : Int64} (F : Fa Z h a .long n (fun i => .long (y i))) (h0 : ¬ j < 0) (h1 : j < n) (hg : g.method = m) (hs : g.stack = .long x :: .int j :: .ref a :: rest) (hd : decode c.code g.pc = .ok (.lastore, 1))
    (k : ∀ T' h', Stand p l e R s m args below meth c T' (locs ++ [⟨a, j.toNatClampNeg⟩]) cells slots → T'.heap = h' → Wr h h' a j.toNatClampNeg (.long x) → Fa Z h' a .long n (fun i => .long (fnup y j x i)) → Go p e below P T' { g with pc := g.pc + 1, stack := rest }) : Go p e below P T g := by
  obtain ⟨cl, A, S, M, H⟩ := id F
  obtain ⟨T', h', X', e', W, st⟩ := stJ X hx hZ eT A (inb_of S ⟨h0, h1⟩) hg hs hd
  exact Go.of _ st (k _ _ X' e' W (by have := F.set W h0 rfl; rwa [fnup_long] at this))
theorem Go.aastore (X : Stand p l e R s m args below meth c T locs cells slots) (hx : p.tables.exec = Jvm.exec) (hZ : Z.Warmed39 s.vm) (eT : T.heap = h) (F : Fa Z h a ty n yv) (hty : ty.isReference = true) (hf : fits ty v = true) (O : Sto Z h a v) (h0 : ¬ j < 0) (h1 : j < n) (hg : g.method = m) (hs : g.stack = v :: .int j :: .ref a :: rest) (hd : decode c.code g.pc = .ok (.aastore, 1))
    (k : ∀ T' h', Stand p l e R s m args below meth c T' (locs ++ [⟨a, j.toNatClampNeg⟩]) cells slots → T'.heap = h' → Wr h h' a j.toNatClampNeg v → Fa Z h' a ty n (fnup yv j v) → Go p e below P T' { g with pc := g.pc + 1, stack := rest }) : Go p e below P T g := by
  obtain ⟨cl, A, S, M, H⟩ := id F
  obtain ⟨T', h', X', e', W, st⟩ := stR X hx hZ eT A (inb_of S ⟨h0, h1⟩) hty O hg hs hd
  exact Go.of _ st (k _ _ X' e' W (F.set W h0 hf))
/-- the array's class is that of the arrays over C -/
def Uty (Z : State) (h : Heap) (a : Addr) (C : String) : Prop := ∃ c : Cell, h[a]? = some c ∧ Ovr Z c.cls C
theorem Uty.ext {C : String} (F : Uty Z h a C) (E : Ext h h') : Uty Z h' a C := by obtain ⟨c, A, r⟩ := F; exact ⟨c, E.2 _ _ A, r⟩
theorem Uty.wr {C : String} (F : Uty Z h b C) (W : Wr h h' a sl v) : Uty Z h' b C := by
  obtain ⟨c, A, r⟩ := F
  obtain ⟨c', e1, e2, -⟩ := wr_at W A
  exact ⟨c', e1, by rw [e2]; exact r⟩
theorem Uty.keep {C : String} (F : Uty Z h a C) (K : Keep h h' hws) : Uty Z h' a C := by
  obtain ⟨c, A, r⟩ := F
  obtain ⟨c', e1, e2, -⟩ := K.2.2 _ _ A
  exact ⟨c', e1, by rw [e2]; exact r⟩
theorem Fa.sto {C : String} (F : Fa Z h a ty n yv) (U : Uty Z h a C) (I : Ins Z h b C true) : Sto Z h a (.ref b) := by
  obtain ⟨c, A, -⟩ := F
  obtain ⟨c', A', O⟩ := U
  cases A.1.symm.trans A'
  exact Sto.of A O I
theorem nat_back {i : Nat} (hi : i < 2 ^ 31) : i.toInt32.toNatClampNeg = i ∧ ¬ i.toInt32 < 0 := by
  have e : i.toInt32.toInt = i := len_toInt hi
  refine ⟨?_, ?_⟩
  · show i.toInt32.toInt.toNat = i
    rw [e]; rfl
  · rw [Int32.lt_iff_toInt_lt, e]
    have z : (0 : Int32).toInt = 0 := by decide
    omega
theorem lt_of_nat {i : Nat} {z : Int32} (hz : ¬ z < 0) (hi : i < z.toNatClampNeg) : i.toInt32 < z ∧ i < 2 ^ 31 := by
  have q := nat_of hz
  have b := rng32 z
  have hb : i < 2 ^ 31 := by omega
  refine ⟨?_, hb⟩
  rw [Int32.lt_iff_toInt_lt, len_toInt hb]
  omega
theorem Fa.fitC {cl : Cell} (A : Arr Z h a cl ty) (S : cl.slots.size = n.toNatClampNeg) (M : ¬ n < 0) (H : ∀ j : Int32, ¬ j < 0 → j < n → cl.slots[j.toNatClampNeg]? = some (yv j) ∧ fits ty (yv j) = true) : FitC Z cl :=
  fitC_of A fun i hi w hw => by
    have q := lt_of_nat M (S ▸ hi)
    have r := nat_back q.2
    have u := H i.toInt32 r.2 q.1
    rw [r.1] at u
    cases hw.symm.trans u.1
    exact u.2
theorem Go.clone (X : Stand p l e R s m args below meth c T locs cells slots) (hx : p.tables.exec = Jvm.exec) (hZ : Z.Warmed39 s.vm) {own ad : String} {index : Nat} (hown : s.vm.findClass own = some m.cls)
    (w1 : (Cond.methodLink own index ⟨ad, "clone", "()Ljava/lang/Object;"⟩).before a0 Z = true) (w2 : (Cond.sameMethod ad "java/lang/Object" "clone" "()Ljava/lang/Object;").before a0 Z = true) (w3 : (Cond.native ⟨"java/lang/Object", "clone", "()Ljava/lang/Object;"⟩).before a0 Z = true)
    (w4 : (Cond.instanceMethod ⟨"java/lang/Object", "clone", "()Ljava/lang/Object;"⟩).before a0 Z = true) (w5 : (Cond.selects ad ⟨ad, "clone", "()Ljava/lang/Object;"⟩ ⟨"java/lang/Object", "clone", "()Ljava/lang/Object;"⟩).before a0 Z = true) (w6 : (Cond.castable ad "java/lang/Cloneable").before a0 Z = true)
    (eT : T.heap = h) (F : Fa Z h a ty n yv) (E : Exa Z h a ad) (hg : g.method = m) (hsize : g.locals.size = c.maxLocals) (hs : g.stack = .ref a :: rest) (hd : decode c.code g.pc = .ok (.invokevirtual index, 3))
    (hf : 1 ≤ R.frames) {W cap : Nat} (hW : 2 * g.monitorRoom + (rest.map fun v => v.category).sum ≤ W) (hl : W + 14 ≤ R.locals) (hcap : n.toNatClampNeg ≤ cap) (hc : cells + 1 ≤ R.cells) (hsl : slots + cap ≤ R.slots)
    (k : ∀ T' h' b, b = h.size → Stand p l e R s m args below meth c T' locs (cells + 1) (slots + cap) → T'.heap = h' → Ext h h' → Fa Z h' b ty n yv → Exa Z h' b ad → Go p e below P T' { g with pc := g.pc + 3, stack := .ref b :: rest }) : Go p e below P T g := by
  obtain ⟨cl, A, S, M, H⟩ := id F
  obtain ⟨T', h', X', e', ex, A', E', st⟩ := cloneA X hx hZ hown w1 w2 w3 w4 w5 w6 eT A E (Fa.fitC A S M H) hg hsize hs hd hf hW hl (by rw [S]; exact hcap) hc hsl
  exact Go.of _ st (k _ _ _ rfl X' e' ex ⟨cloneOf cl, A', S, M, H⟩ E')
theorem exa_ns {C : String} (E : Exa Z h a C) : ∀ c : Cell, h[a]? = some c → c.vm.isStatics = false := fun c hc => by
  obtain ⟨c', k, h1, -, -, h4, -⟩ := E
  cases h1.symm.trans hc; exact h4
theorem Sta.keep {C nn d : String} (F : Sta Z h C nn d v) (K : Keep h h' hws) (q : ∀ x ∈ hws, ∀ c : Cell, h[x]? = some c → c.vm.isStatics = false) : Sta Z h' C nn d v := by
  obtain ⟨cf, i, k, f, st, cell, h1, h2, h3, h4, h5, h6, h7⟩ := F
  refine ⟨cf, i, k, f, st, cell, h1, h2, h3, h4, K.2.1 _ _ h5 fun z => ?_, h6, h7⟩
  rw [q _ z _ h5] at h6; cases h6
/-- an inherited instance method (the entry names it through the subclass) -/
theorem Go.virtUp (X : Stand p l e R s m args below meth c T locs cells slots) (hx : p.tables.exec = Jvm.exec) (hZ : Z.Warmed39 s.vm) {own C owner : String} {z : MethodName} {index W : Nat} {argsL : List Value} (hown : s.vm.findClass own = some m.cls)
    (w1 : (Cond.methodLink own index z).before a0 Z = true) (w2 : (Cond.sameMethod z.cls owner z.name z.desc).before a0 Z = true) (w8 : (Cond.declares ⟨owner, z.name, z.desc⟩).before a0 Z = true) (hy : owner ≠ "java/lang/invoke/MethodHandle" ∧ owner ≠ "java/lang/invoke/VarHandle") (w5 : (Cond.selects C z y).before a0 Z = true) (w6 : (Cond.instanceMethod y).before a0 Z = true) (w3 : (Cond.initialized y.cls).before a0 Z = true) (w4 : (Cond.code y bytes maxL ret).before a0 Z = true)
    (eT : T.heap = h) (E : Exa Z h a C) (hM : Met l Z y bytes maxL ret [] rm (.ref a :: argsL).toArray h Q)
    (hg : g.method = m) (hsize : g.locals.size = c.maxLocals) (hlen : ∀ sig, parseMethodDescriptor z.desc = some sig → argsL.length = sig.parameters.length) (hs : g.stack = argsL.reverse ++ .ref a :: rest)
    (hW : 2 * g.monitorRoom + (rest.map fun v => v.category).sum ≤ W) (hd : decode c.code g.pc = .ok (.invokevirtual index, 3)) (hf : rm.frames + 1 ≤ R.frames) (hl : W + (maxL + 11) + rm.locals ≤ R.locals) (hc : cells + rm.cells ≤ R.cells) (hsl : slots + rm.slots ≤ R.slots)
    (k : ∀ T' L v, Stand p l e R s m args below meth c T' (locs ++ L) (cells + rm.cells) (slots + rm.slots) → Q v T'.heap L → Go p e below P T' { g with pc := g.pc + 3, stack := v.toList ++ rest }) : Go p e below P T g := by
  obtain ⟨cq, kq, qa, qb, qc⟩ := isOf hZ eT E
  obtain ⟨v, _, ⟨U, L, q1, q2⟩, -, X', ⟨Lc, hQ, l1, l2, l3⟩, st⟩ := X.virtualBackUp hx (x := z) (y := y) hown (mvT hZ w1) (mvT hZ w2) (mvT hZ w8) hy (mvT hZ w5) (mvT hZ w6) (backOf (W := W) hM hZ w4 w3 hf hl) qa qc hg hsize (Steps.refl _) hlen hs hW hd (fun _ _ => ⟨rfl, eT, hc, hsl⟩)
  dsimp only [Pt.U, Pt.locs, Pt.cells, Pt.slots] at X' l1 l2 l3 st hQ
  subst l1 l2 l3
  exact Go.via _ st (k _ _ _ X' hQ)
/-- the two sides of a call as the pasted laws of String have them -/
abbrev BPre (R : Room) (as' : Array Value) (h : Heap) (kc ks : Nat) : Pt → Array Value → Prop := fun P a => a = as' ∧ P.U.heap = h ∧ P.cells + kc ≤ R.cells ∧ P.slots + ks ≤ R.slots
abbrev BPost (Q : Option Value → Heap → List Loc → Prop) (kc ks : Nat) : Pt → Array Value → Option Value → Pt → Prop := fun P _ v B => ∃ L, Q v B.U.heap L ∧ B.locs = P.locs ++ L ∧ B.cells = P.cells + kc ∧ B.slots = P.slots + ks
theorem Go.initB (X : Stand p l e R s m args below meth c T locs cells slots) (hx : p.tables.exec = Jvm.exec) (hZ : Z.Warmed39 s.vm) {own : String} {index W kc ks : Nat} {argsL : List Value} (hown : s.vm.findClass own = some m.cls) (hy1 : y.name = "<init>")
    (w1 : (Cond.methodLink own index y).before a0 Z = true) (w2 : (Cond.instanceMethod y).before a0 Z = true) (w4 : (Cond.code y bytes maxL none).before a0 Z = true)
    (hy : y.cls ≠ "java/lang/invoke/MethodHandle" ∧ y.cls ≠ "java/lang/invoke/VarHandle") (eT : T.heap = h) (hK : Back l R p e below s args y 3 W (BPre R (.ref a :: argsL).toArray h kc ks) (BPost Q kc ks))
    (hg : g.method = m) (hsize : g.locals.size = c.maxLocals) (hlen : ∀ sig, parseMethodDescriptor y.desc = some sig → argsL.length = sig.parameters.length) (hs : g.stack = argsL.reverse ++ .ref a :: rest)
    (hW : 2 * g.monitorRoom + (rest.map fun v => v.category).sum ≤ W) (hd : decode c.code g.pc = .ok (.invokespecial index, 3)) (hc : cells + kc ≤ R.cells) (hsl : slots + ks ≤ R.slots)
    (k : ∀ T' L v, Stand p l e R s m args below meth c T' (locs ++ L) (cells + kc) (slots + ks) → Q v T'.heap L → Go p e below P T' { g with pc := g.pc + 3, stack := v.toList ++ rest }) : Go p e below P T g := by
  obtain ⟨v, _, ⟨U, L, q1, q2⟩, -, X', ⟨Lc, hQ, l1, l2, l3⟩, st⟩ := X.specialBack hx (y := y) hy1 hown (mvT hZ w1) (mvT hZ w2) (mvT hZ w4) hy hK hg hsize (Steps.refl _) hlen hs hW hd (fun _ _ => ⟨rfl, eT, hc, hsl⟩)
  dsimp only [Pt.U, Pt.locs, Pt.cells, Pt.slots] at X' l1 l2 l3 st hQ
  subst l1 l2 l3
  exact Go.via _ st (k _ _ _ X' hQ)
theorem Go.virtB (X : Stand p l e R s m args below meth c T locs cells slots) (hx : p.tables.exec = Jvm.exec) (hZ : Z.Warmed39 s.vm) {own C : String} {z : MethodName} {index W kc ks : Nat} {argsL : List Value} (hown : s.vm.findClass own = some m.cls)
    (w1 : (Cond.methodLink own index z).before a0 Z = true) (w2 : (Cond.declares z).before a0 Z = true) (nf : NotFace s z) (w5 : (Cond.selects C z y).before a0 Z = true) (w6 : (Cond.instanceMethod y).before a0 Z = true)
    (hy : z.cls ≠ "java/lang/invoke/MethodHandle" ∧ z.cls ≠ "java/lang/invoke/VarHandle") (eT : T.heap = h) (E : Exa Z h a C) (hK : Back l R p e below s args y 3 W (BPre R (.ref a :: argsL).toArray h kc ks) (BPost Q kc ks))
    (hg : g.method = m) (hsize : g.locals.size = c.maxLocals) (hlen : ∀ sig, parseMethodDescriptor z.desc = some sig → argsL.length = sig.parameters.length) (hs : g.stack = argsL.reverse ++ .ref a :: rest)
    (hW : 2 * g.monitorRoom + (rest.map fun v => v.category).sum ≤ W) (hd : decode c.code g.pc = .ok (.invokevirtual index, 3)) (hc : cells + kc ≤ R.cells) (hsl : slots + ks ≤ R.slots)
    (k : ∀ T' L v, Stand p l e R s m args below meth c T' (locs ++ L) (cells + kc) (slots + ks) → Q v T'.heap L → Go p e below P T' { g with pc := g.pc + 3, stack := v.toList ++ rest }) : Go p e below P T g := by
  obtain ⟨cq, kq, qa, qb, qc⟩ := isOf hZ eT E
  obtain ⟨v, _, ⟨U, L, q1, q2⟩, -, X', ⟨Lc, hQ, l1, l2, l3⟩, st⟩ := X.virtualBack hx (y := z) (z := y) hown (mvT hZ w1) (mvT hZ w2) nf (mvT hZ w5) (mvT hZ w6) hy hK qa qc hg hsize (Steps.refl _) hlen hs hW hd (fun _ _ => ⟨rfl, eT, hc, hsl⟩)
  dsimp only [Pt.U, Pt.locs, Pt.cells, Pt.slots] at X' l1 l2 l3 st hQ
  subst l1 l2 l3
  exact Go.via _ st (k _ _ _ X' hQ)
theorem Fa.toArv {vs : List Value} {dv : Value} (F : Fa Z h a ty n yv) (q : ∀ i : Nat, i < n.toNatClampNeg → vs.getD i dv = yv i.toInt32) : ∃ k, Arv Z h a k ty n vs dv := by
  obtain ⟨cl, A, S, M, H⟩ := F
  refine ⟨cl.cls, cl, A, rfl, S, M, fun i hi => ?_, fun i hi => ?_⟩
  · rw [S] at hi
    have b := lt_of_nat M hi
    have r := nat_back b.2
    have u := (H _ r.2 b.1).1
    rw [r.1] at u; rw [q i hi]; exact u
  · rw [S] at hi
    have b := lt_of_nat M hi
    have r := nat_back b.2
    rw [q i hi]; exact (H _ r.2 b.1).2
/-- the array's class is that of the arrays over an array class C of components ty -/
def UtA (Z : State) (h : Heap) (a : Addr) (ty : FieldType) (C : String) : Prop := ∃ c : Cell, h[a]? = some c ∧ OvrA Z c.cls ty C
theorem UtA.ext {C : String} (F : UtA Z h a ty C) (E : Ext h h') : UtA Z h' a ty C := by obtain ⟨c, A, r⟩ := F; exact ⟨c, E.2 _ _ A, r⟩
theorem UtA.wr {C : String} (F : UtA Z h b ty C) (W : Wr h h' a sl v) : UtA Z h' b ty C := by
  obtain ⟨c, A, r⟩ := F
  obtain ⟨c', e1, e2, -⟩ := wr_at W A
  exact ⟨c', e1, by rw [e2]; exact r⟩
theorem UtA.keep {C : String} (F : UtA Z h a ty C) (K : Keep h h' hws) : UtA Z h' a ty C := by
  obtain ⟨c, A, r⟩ := F
  obtain ⟨c', e1, e2, -⟩ := K.2.2 _ _ A
  exact ⟨c', e1, by rw [e2]; exact r⟩
theorem Fa.stoA {C : String} {ty' : FieldType} (F : Fa Z h a ty n yv) (U : UtA Z h a ty' C) (I : Ins Z h b C true) : Sto Z h a (.ref b) := by
  obtain ⟨c, A, -⟩ := F
  obtain ⟨c', A', O⟩ := U
  cases A.1.symm.trans A'
  exact Sto.ofVA A rfl O I
theorem Go.daload (X : Stand p l e R s m args below meth c T locs cells slots) (hx : p.tables.exec = Jvm.exec) (hZ : Z.Warmed39 s.vm) (eT : T.heap = h) {y : Int32 → UInt64} (F : Fa Z h a .double n (fun i => .double (y i))) (h0 : ¬ j < 0) (h1 : j < n) (hg : g.method = m) (hs : g.stack = .int j :: .ref a :: rest) (hd : decode c.code g.pc = .ok (.daload, 1))
    (k : Go p e below P T { g with pc := g.pc + 1, stack := .double (y j) :: rest }) : Go p e below P T g := by
  obtain ⟨cl, A, S, M, H⟩ := F
  exact Go.of _ (fun t k => X.daload hx (by rw [eT]; exact A.1) (State.isArrayOf_alike hZ.alike A.2.1) A.2.2 (inb_of S ⟨h0, h1⟩) (H j h0 h1).1 hg hs hd _ k) k
theorem Go.dastore (X : Stand p l e R s m args below meth c T locs cells slots) (hx : p.tables.exec = Jvm.exec) (hZ : Z.Warmed39 s.vm) (eT : T.heap = h) {y : Int32 → UInt64} {x : UInt64} (F : Fa Z h a .double n (fun i => .double (y i))) (h0 : ¬ j < 0) (h1 : j < n) (hg : g.method = m) (hs : g.stack = .double x :: .int j :: .ref a :: rest) (hd : decode c.code g.pc = .ok (.dastore, 1))
    (k : ∀ T' h', Stand p l e R s m args below meth c T' (locs ++ [⟨a, j.toNatClampNeg⟩]) cells slots → T'.heap = h' → Wr h h' a j.toNatClampNeg (.double x) → Fa Z h' a .double n (fun i => .double (fnup y j x i)) → Go p e below P T' { g with pc := g.pc + 1, stack := rest }) : Go p e below P T g := by
  obtain ⟨cl, A, S, M, H⟩ := id F
  obtain ⟨T', h', X', e', W, st⟩ := stD X hx hZ eT A (inb_of S ⟨h0, h1⟩) hg hs hd
  exact Go.of _ st (k _ _ X' e' W (by have := F.set W h0 rfl; rwa [fnup_dbl] at this))
end Own
end Jvm.OwnGo
namespace Jvm.Pilot.@@N@@
open Jvm Jvm.ClassFile Sem Op Lib Jvm.Free Jvm.Stand Jvm.LawKit Jvm.RoadKit Bundle Jvm.OwnGo Jvm.Pilot.@@N@@.Jvm.D

def own_ws (x : Int32) : Int32 := if x = 32 ∨ x = 10 ∨ x = 13 ∨ x = 9 then 1 else 0
def own_step (y : Int32 → Int32) (e i : Int32) : Int32 := if i < e then (if own_ws (y i) = 0 then i else i + 1) else i
def own_sk (y : Int32 → Int32) (e : Int32) : Nat → Int32 → Int32
  | 0, i => i
  | n + 1, i => own_sk y e n (own_step y e i)
def own_at (y : Int32 → Int32) (e i : Int32) : Int32 := if i < e then y i &&& 255 else -1
def own_ok (N e i : Int32) : Prop := 0 ≤ i.toInt ∧ i.toInt ≤ N.toInt ∧ e.toInt ≤ N.toInt ∧ N.toInt ≤ 100
theorem own_tlt {a b : Int32} (h : a < b) : a.toInt < b.toInt := Int32.lt_iff_toInt_lt.mp h
theorem own_tge {a b : Int32} (h : ¬ a < b) : b.toInt ≤ a.toInt := by rw [Int32.lt_iff_toInt_lt] at h; omega
theorem own_suc {N e i : Int32} (h : own_ok N e i) (hl : i < e) : (i + 1).toInt = i.toInt + 1 ∧ own_ok N e (i + 1) := by
  obtain ⟨h1, h2, h3, h4⟩ := h
  have q := c_iadd i 1
  have r := rng32 (i + 1)
  have o : (1 : Int32).toInt = 1 := by decide
  have t := own_tlt hl
  have k : (i + 1).toInt = i.toInt + 1 := by omega
  exact ⟨k, by unfold own_ok; omega⟩
theorem own_in0 {N e i : Int32} (h : own_ok N e i) : ¬ i < 0 := by
  rw [Int32.lt_iff_toInt_lt]; have z : (0 : Int32).toInt = 0 := by decide
  unfold own_ok at h; omega
theorem own_in1 {N e i : Int32} (h : own_ok N e i) (hl : i < e) : i < N := by
  rw [Int32.lt_iff_toInt_lt] at *; unfold own_ok at h; omega
theorem own_step_ok {N : Int32} {y : Int32 → Int32} {e i : Int32} (h : own_ok N e i) : own_ok N e (own_step y e i) := by
  unfold own_step
  split
  · rename_i hl
    split
    · exact h
    · exact (own_suc h hl).2
  · exact h
theorem own_sk_ok {N : Int32} {y : Int32 → Int32} {e : Int32} : ∀ (n : Nat) {i : Int32}, own_ok N e i → own_ok N e (own_sk y e n i)
  | 0, _, h => h
  | n + 1, _, h => own_sk_ok n (own_step_ok h)
theorem own_fix {y : Int32 → Int32} {e i : Int32} (h : own_step y e i = i) : ∀ n, own_sk y e n i = i
  | 0 => rfl
  | n + 1 => by show own_sk y e n (own_step y e i) = i; rw [h]; exact own_fix h n
theorem own_stop {N : Int32} {y : Int32 → Int32} {e : Int32} : ∀ (n : Nat) {i : Int32}, own_ok N e i → e.toInt - i.toInt ≤ n → own_step y e (own_sk y e n i) = own_sk y e n i
  | 0, i, h, hl => by
    show own_step y e i = i
    unfold own_step; rw [if_neg]
    rw [Int32.lt_iff_toInt_lt]; omega
  | n + 1, i, h, hl => by
    show own_step y e (own_sk y e n (own_step y e i)) = own_sk y e n (own_step y e i)
    by_cases hs : own_step y e i = i
    · rw [hs, own_fix hs]; exact hs
    · refine own_stop n (own_step_ok h) ?_
      unfold own_step at hs ⊢
      by_cases hi : i < e
      · rw [if_pos hi] at hs ⊢
        by_cases hw : own_ws (y i) = 0
        · rw [if_pos hw] at hs; exact absurd rfl hs
        · rw [if_neg hw]; have := (own_suc h hi).1; omega
      · rw [if_neg hi] at hs; exact absurd rfl hs
theorem own_sk2 {N : Int32} {y : Int32 → Int32} {e i : Int32} {n : Nat} (h : own_ok N e i) (hl : e.toInt - i.toInt ≤ n) : own_sk y e n (own_sk y e n i) = own_sk y e n i := own_fix (own_stop n h hl) n
theorem own_s1 {y : Int32 → Int32} {e i : Int32} (h1 : i < e) (h2 : own_ws (y i) = 0) : own_step y e i = i := by unfold own_step; rw [if_pos h1, if_pos h2]
theorem own_s2 {y : Int32 → Int32} {e i : Int32} (h1 : i < e) (h2 : ¬ own_ws (y i) = 0) : own_step y e i = i + 1 := by unfold own_step; rw [if_pos h1, if_neg h2]
theorem own_s3 {y : Int32 → Int32} {e i : Int32} (h1 : ¬ i < e) : own_step y e i = i := by unfold own_step; rw [if_neg h1]
theorem own_a1 {y : Int32 → Int32} {e i : Int32} (h1 : i < e) : own_at y e i = y i &&& 255 := if_pos h1
theorem own_a2 {y : Int32 → Int32} {e i : Int32} (h1 : ¬ i < e) : own_at y e i = -1 := if_neg h1
theorem own_lt {y : Int32 → Int32} {e i k : Int32} (h : own_at y e i = k) (hk : ¬ k = -1) : i < e := by
  by_cases hi : i < e
  · exact hi
  · rw [own_a2 hi] at h; exact absurd h.symm hk
theorem own_room {N e i : Int32} (h : own_ok N e i) {n : Nat} (hn : N.toInt ≤ n) : e.toInt - i.toInt ≤ n := by unfold own_ok at h; omega

theorem own_b8 (x : Int32) : narrow .byte (.int x.toInt8.toInt32) = .int x.toInt8.toInt32 := by
  show Value.int (x.toInt8.toInt32.toInt8.toInt32) = _
  simp
theorem own_off (p : Int32) : ((p &&& 1) = 0 ∨ (p &&& 1) = 1) := and_one p
theorem own_len (p k : Int32) (hk : 0 < k.toInt) : 0 ≤ ((((p.toUInt32 >>> ((1 : Int32) &&& 31).toUInt32).toInt32) &&& 2147483647) % k).toInt ∧ ((((p.toUInt32 >>> ((1 : Int32) &&& 31).toUInt32).toInt32) &&& 2147483647) % k).toInt < k.toInt := by
  have e : ((((p.toUInt32 >>> ((1 : Int32) &&& 31).toUInt32).toInt32) &&& 2147483647)).toInt = ((p.toUInt32 >>> ((1 : Int32) &&& 31).toUInt32).toInt32).toInt % (2 ^ 31 : Nat) := c_mask _ 2147483647 31 (by decide) (by decide)
  have r := (c_iremV ((((p.toUInt32 >>> ((1 : Int32) &&& 31).toUInt32).toInt32) &&& 2147483647)) k).1 (by rw [e]; omega) hk
  exact ⟨r.1, r.2.1⟩
theorem own_base {of ln : Int32} (h : of = 0 ∨ of = 1) (h1 : 0 ≤ ln.toInt) (h2 : ln.toInt < (6 - of).toInt) : own_ok 5 (of + ln) of := by
  have a := c_iadd of ln
  have r := rng32 (of + ln)
  have z0 : (0 : Int32).toInt = 0 := by decide
  have z1 : (1 : Int32).toInt = 1 := by decide
  have z5 : (5 : Int32).toInt = 5 := by decide
  have s := c_isub 6 of
  have z6 : (6 : Int32).toInt = 6 := by decide
  have r2 := rng32 (6 - of)
  unfold own_ok
  rcases h with rfl | rfl <;> omega
theorem own_six {of : Int32} (h : of = 0 ∨ of = 1) : 0 < (6 - of).toInt ∧ ¬ (6 - of) = 0 := by rcases h with rfl | rfl <;> decide
theorem own_next {N e i k : Int32} {y : Int32 → Int32} (h : own_ok N e i) (ha : own_at y e i = k) (hk : ¬ k = -1) : own_ok N e (i + 1) := (own_suc h (own_lt ha hk)).2
theorem tw0 {Z : State} {a0 : Array Value} (hw : ∀ d ∈ tables_1, d.before a0 Z = true) : (Jvm.Cond.arrayClass Jvm.ClassFile.FieldType.byte).before a0 Z = true := hw _ (List.mem_of_getElem? (i := 0) rfl)
theorem tw1 {Z : State} {a0 : Array Value} (hw : ∀ d ∈ tables_1, d.before a0 Z = true) : (Jvm.Cond.methodLink "com/example/tidemark/tidemark/io/JsonBytesBeginArrayPinLaw" (17 : Nat) ({ cls := "com/example/tidemark/tidemark/io/JsonBytesBeginArrayPinLaw", name := "pick", desc := "(I)B" } : Jvm.MethodName)).before a0 Z = true := hw _ (List.mem_of_getElem? (i := 1) rfl)
theorem tw2 {Z : State} {a0 : Array Value} (hw : ∀ d ∈ tables_1, d.before a0 Z = true) : (Jvm.Cond.static ({ cls := "com/example/tidemark/tidemark/io/JsonBytesBeginArrayPinLaw", name := "pick", desc := "(I)B" } : Jvm.MethodName)).before a0 Z = true := hw _ (List.mem_of_getElem? (i := 2) rfl)
theorem tw3 {Z : State} {a0 : Array Value} (hw : ∀ d ∈ tables_1, d.before a0 Z = true) : (Jvm.Cond.initialized "com/example/tidemark/tidemark/io/JsonBytesBeginArrayPinLaw").before a0 Z = true := hw _ (List.mem_of_getElem? (i := 3) rfl)
theorem tw4 {Z : State} {a0 : Array Value} (hw : ∀ d ∈ tables_1, d.before a0 Z = true) : (Jvm.Cond.code ({ cls := "com/example/tidemark/tidemark/io/JsonBytesBeginArrayPinLaw", name := "pick", desc := "(I)B" } : Jvm.MethodName) method_2_code (2 : Nat) (Option.some Jvm.ClassFile.FieldType.byte)).before a0 Z = true := hw _ (List.mem_of_getElem? (i := 4) rfl)
theorem tw5 {Z : State} {a0 : Array Value} (hw : ∀ d ∈ tables_1, d.before a0 Z = true) : (Jvm.Cond.constant "com/example/tidemark/tidemark/io/JsonBytesBeginArrayPinLaw" (21 : Nat) (2147483647 : Int32)).before a0 Z = true := hw _ (List.mem_of_getElem? (i := 5) rfl)
theorem tw6 {Z : State} {a0 : Array Value} (hw : ∀ d ∈ tables_1, d.before a0 Z = true) : (Jvm.Cond.classLink "com/example/tidemark/tidemark/io/JsonBytesBeginArrayPinLaw" (22 : Nat) "com/example/tidemark/tidemark/io/JsonBytes").before a0 Z = true := hw _ (List.mem_of_getElem? (i := 6) rfl)
theorem tw7 {Z : State} {a0 : Array Value} (hw : ∀ d ∈ tables_1, d.before a0 Z = true) : (Jvm.Cond.instantiable "com/example/tidemark/tidemark/io/JsonBytes" (8 : Nat)).before a0 Z = true := hw _ (List.mem_of_getElem? (i := 7) rfl)
theorem tw8 {Z : State} {a0 : Array Value} (hw : ∀ d ∈ tables_1, d.before a0 Z = true) : (Jvm.Cond.initialized "com/example/tidemark/tidemark/io/JsonBytes").before a0 Z = true := hw _ (List.mem_of_getElem? (i := 8) rfl)
theorem tw9 {Z : State} {a0 : Array Value} (hw : ∀ d ∈ tables_1, d.before a0 Z = true) : (Jvm.Cond.classLink "com/example/tidemark/tidemark/io/JsonBytesBeginArrayPinLaw" (24 : Nat) "com/example/tidemark/tidemark/io/JsonBytes$Fields").before a0 Z = true := hw _ (List.mem_of_getElem? (i := 9) rfl)
theorem tw10 {Z : State} {a0 : Array Value} (hw : ∀ d ∈ tables_1, d.before a0 Z = true) : (Jvm.Cond.instantiable "com/example/tidemark/tidemark/io/JsonBytes$Fields" (3 : Nat)).before a0 Z = true := hw _ (List.mem_of_getElem? (i := 10) rfl)
theorem tw11 {Z : State} {a0 : Array Value} (hw : ∀ d ∈ tables_1, d.before a0 Z = true) : (Jvm.Cond.initialized "com/example/tidemark/tidemark/io/JsonBytes$Fields").before a0 Z = true := hw _ (List.mem_of_getElem? (i := 11) rfl)
theorem tw12 {Z : State} {a0 : Array Value} (hw : ∀ d ∈ tables_1, d.before a0 Z = true) : (Jvm.Cond.classLink "com/example/tidemark/tidemark/io/JsonBytesBeginArrayPinLaw" (26 : Nat) "java/lang/String").before a0 Z = true := hw _ (List.mem_of_getElem? (i := 12) rfl)
theorem tw13 {Z : State} {a0 : Array Value} (hw : ∀ d ∈ tables_1, d.before a0 Z = true) : (Jvm.Cond.arrayOver (Jvm.ClassFile.FieldType.object "java/lang/String")).before a0 Z = true := hw _ (List.mem_of_getElem? (i := 13) rfl)
theorem tw14 {Z : State} {a0 : Array Value} (hw : ∀ d ∈ tables_1, d.before a0 Z = true) : (Jvm.Cond.methodLink "com/example/tidemark/tidemark/io/JsonBytesBeginArrayPinLaw" (28 : Nat) ({ cls := "com/example/tidemark/tidemark/io/JsonBytes$Fields", name := "<init>", desc := "([Ljava/lang/String;)V" } : Jvm.MethodName)).before a0 Z = true := hw _ (List.mem_of_getElem? (i := 14) rfl)
theorem tw15 {Z : State} {a0 : Array Value} (hw : ∀ d ∈ tables_1, d.before a0 Z = true) : (Jvm.Cond.instanceMethod ({ cls := "com/example/tidemark/tidemark/io/JsonBytes$Fields", name := "<init>", desc := "([Ljava/lang/String;)V" } : Jvm.MethodName)).before a0 Z = true := hw _ (List.mem_of_getElem? (i := 15) rfl)
theorem tw16 {Z : State} {a0 : Array Value} (hw : ∀ d ∈ tables_1, d.before a0 Z = true) : (Jvm.Cond.code ({ cls := "com/example/tidemark/tidemark/io/JsonBytes$Fields", name := "<init>", desc := "([Ljava/lang/String;)V" } : Jvm.MethodName) prog_3_method_1_code (5 : Nat) (Option.none : Option Jvm.ClassFile.FieldType)).before a0 Z = true := hw _ (List.mem_of_getElem? (i := 16) rfl)
theorem tw17 {Z : State} {a0 : Array Value} (hw : ∀ d ∈ tables_1, d.before a0 Z = true) : (Jvm.Cond.methodLink "com/example/tidemark/tidemark/io/JsonBytes$Fields" (1 : Nat) ({ cls := "java/lang/Object", name := "<init>", desc := "()V" } : Jvm.MethodName)).before a0 Z = true := hw _ (List.mem_of_getElem? (i := 17) rfl)
theorem tw18 {Z : State} {a0 : Array Value} (hw : ∀ d ∈ tables_1, d.before a0 Z = true) : (Jvm.Cond.instanceMethod ({ cls := "java/lang/Object", name := "<init>", desc := "()V" } : Jvm.MethodName)).before a0 Z = true := hw _ (List.mem_of_getElem? (i := 18) rfl)
theorem tw19 {Z : State} {a0 : Array Value} (hw : ∀ d ∈ tables_1, d.before a0 Z = true) : (Jvm.Cond.code ({ cls := "java/lang/Object", name := "<init>", desc := "()V" } : Jvm.MethodName) object_method_1_code (1 : Nat) (Option.none : Option Jvm.ClassFile.FieldType)).before a0 Z = true := hw _ (List.mem_of_getElem? (i := 19) rfl)
theorem tw20 {Z : State} {a0 : Array Value} (hw : ∀ d ∈ tables_1, d.before a0 Z = true) : (Jvm.Cond.methodLink "com/example/tidemark/tidemark/io/JsonBytes$Fields" (18 : Nat) ({ cls := "java/util/List", name := "of", desc := "([Ljava/lang/Object;)Ljava/util/List;" } : Jvm.MethodName)).before a0 Z = true := hw _ (List.mem_of_getElem? (i := 20) rfl)
theorem tw21 {Z : State} {a0 : Array Value} (hw : ∀ d ∈ tables_1, d.before a0 Z = true) : (Jvm.Cond.static ({ cls := "java/util/List", name := "of", desc := "([Ljava/lang/Object;)Ljava/util/List;" } : Jvm.MethodName)).before a0 Z = true := hw _ (List.mem_of_getElem? (i := 21) rfl)
theorem tw22 {Z : State} {a0 : Array Value} (hw : ∀ d ∈ tables_1, d.before a0 Z = true) : (Jvm.Cond.initialized "java/util/List").before a0 Z = true := hw _ (List.mem_of_getElem? (i := 22) rfl)
theorem tw23 {Z : State} {a0 : Array Value} (hw : ∀ d ∈ tables_1, d.before a0 Z = true) : (Jvm.Cond.code ({ cls := "java/util/List", name := "of", desc := "([Ljava/lang/Object;)Ljava/util/List;" } : Jvm.MethodName) jdk_40_method_47_code (2 : Nat) (Option.some (Jvm.ClassFile.FieldType.object "java/util/List"))).before a0 Z = true := hw _ (List.mem_of_getElem? (i := 23) rfl)
theorem tw24 {Z : State} {a0 : Array Value} (hw : ∀ d ∈ tables_1, d.before a0 Z = true) : (Jvm.Cond.fieldLink "java/util/List" (90 : Nat) "java/util/ImmutableCollections" "EMPTY_LIST" "Ljava/util/ImmutableCollections$ListN;").before a0 Z = true := hw _ (List.mem_of_getElem? (i := 24) rfl)
theorem tw25 {Z : State} {a0 : Array Value} (hw : ∀ d ∈ tables_1, d.before a0 Z = true) : (Jvm.Cond.initialized "java/util/ImmutableCollections").before a0 Z = true := hw _ (List.mem_of_getElem? (i := 25) rfl)
theorem tw26 {Z : State} {a0 : Array Value} (hw : ∀ d ∈ tables_1, d.before a0 Z = true) : (Jvm.Cond.fieldLink "com/example/tidemark/tidemark/io/JsonBytes$Fields" (24 : Nat) "com/example/tidemark/tidemark/io/JsonBytes$Fields" "names" "Ljava/util/List;").before a0 Z = true := hw _ (List.mem_of_getElem? (i := 26) rfl)
theorem tw27 {Z : State} {a0 : Array Value} (hw : ∀ d ∈ tables_1, d.before a0 Z = true) : (Jvm.Cond.laysFinal "com/example/tidemark/tidemark/io/JsonBytes$Fields" "com/example/tidemark/tidemark/io/JsonBytes$Fields" "names" "Ljava/util/List;").before a0 Z = true := hw _ (List.mem_of_getElem? (i := 27) rfl)
theorem tw28 {Z : State} {a0 : Array Value} (hw : ∀ d ∈ tables_1, d.before a0 Z = true) : (Jvm.Cond.classLink "com/example/tidemark/tidemark/io/JsonBytes$Fields" (30 : Nat) "[B").before a0 Z = true := hw _ (List.mem_of_getElem? (i := 28) rfl)
theorem tw29 {Z : State} {a0 : Array Value} (hw : ∀ d ∈ tables_1, d.before a0 Z = true) : (Jvm.Cond.arrayOver (Jvm.ClassFile.FieldType.array Jvm.ClassFile.FieldType.byte)).before a0 Z = true := hw _ (List.mem_of_getElem? (i := 29) rfl)
theorem tw30 {Z : State} {a0 : Array Value} (hw : ∀ d ∈ tables_1, d.before a0 Z = true) : (Jvm.Cond.fieldLink "com/example/tidemark/tidemark/io/JsonBytes$Fields" (32 : Nat) "com/example/tidemark/tidemark/io/JsonBytes$Fields" "spelled" "[[B").before a0 Z = true := hw _ (List.mem_of_getElem? (i := 30) rfl)
theorem tw31 {Z : State} {a0 : Array Value} (hw : ∀ d ∈ tables_1, d.before a0 Z = true) : (Jvm.Cond.laysFinal "com/example/tidemark/tidemark/io/JsonBytes$Fields" "com/example/tidemark/tidemark/io/JsonBytes$Fields" "spelled" "[[B").before a0 Z = true := hw _ (List.mem_of_getElem? (i := 31) rfl)
theorem tw32 {Z : State} {a0 : Array Value} (hw : ∀ d ∈ tables_1, d.before a0 Z = true) : (Jvm.Cond.classLink "com/example/tidemark/tidemark/io/JsonBytes$Fields" (54 : Nat) "[I").before a0 Z = true := hw _ (List.mem_of_getElem? (i := 32) rfl)
theorem tw33 {Z : State} {a0 : Array Value} (hw : ∀ d ∈ tables_1, d.before a0 Z = true) : (Jvm.Cond.arrayOver (Jvm.ClassFile.FieldType.array Jvm.ClassFile.FieldType.int)).before a0 Z = true := hw _ (List.mem_of_getElem? (i := 33) rfl)
theorem tw34 {Z : State} {a0 : Array Value} (hw : ∀ d ∈ tables_1, d.before a0 Z = true) : (Jvm.Cond.fieldLink "com/example/tidemark/tidemark/io/JsonBytes$Fields" (56 : Nat) "com/example/tidemark/tidemark/io/JsonBytes$Fields" "byLength" "[[I").before a0 Z = true := hw _ (List.mem_of_getElem? (i := 34) rfl)
theorem tw35 {Z : State} {a0 : Array Value} (hw : ∀ d ∈ tables_1, d.before a0 Z = true) : (Jvm.Cond.laysFinal "com/example/tidemark/tidemark/io/JsonBytes$Fields" "com/example/tidemark/tidemark/io/JsonBytes$Fields" "byLength" "[[I").before a0 Z = true := hw _ (List.mem_of_getElem? (i := 35) rfl)
theorem tw36 {Z : State} {a0 : Array Value} (hw : ∀ d ∈ tables_1, d.before a0 Z = true) : (Jvm.Cond.fieldLink "com/example/tidemark/tidemark/io/JsonBytes$Fields" (60 : Nat) "com/example/tidemark/tidemark/io/JsonBytes$Fields" "NO_PLACES" "[I").before a0 Z = true := hw _ (List.mem_of_getElem? (i := 36) rfl)
theorem tw37 {Z : State} {a0 : Array Value} (hw : ∀ d ∈ tables_1, d.before a0 Z = true) : (Jvm.Cond.laysStatic "com/example/tidemark/tidemark/io/JsonBytes$Fields" "NO_PLACES" "[I").before a0 Z = true := hw _ (List.mem_of_getElem? (i := 37) rfl)
theorem tw38 {Z : State} {a0 : Array Value} (hw : ∀ d ∈ tables_1, d.before a0 Z = true) : (Jvm.Cond.methodLink "com/example/tidemark/tidemark/io/JsonBytes$Fields" (63 : Nat) ({ cls := "java/util/Arrays", name := "fill", desc := "([Ljava/lang/Object;Ljava/lang/Object;)V" } : Jvm.MethodName)).before a0 Z = true := hw _ (List.mem_of_getElem? (i := 38) rfl)
theorem tw39 {Z : State} {a0 : Array Value} (hw : ∀ d ∈ tables_1, d.before a0 Z = true) : (Jvm.Cond.static ({ cls := "java/util/Arrays", name := "fill", desc := "([Ljava/lang/Object;Ljava/lang/Object;)V" } : Jvm.MethodName)).before a0 Z = true := hw _ (List.mem_of_getElem? (i := 39) rfl)
theorem tw40 {Z : State} {a0 : Array Value} (hw : ∀ d ∈ tables_1, d.before a0 Z = true) : (Jvm.Cond.initialized "java/util/Arrays").before a0 Z = true := hw _ (List.mem_of_getElem? (i := 40) rfl)
theorem tw41 {Z : State} {a0 : Array Value} (hw : ∀ d ∈ tables_1, d.before a0 Z = true) : (Jvm.Cond.code ({ cls := "java/util/Arrays", name := "fill", desc := "([Ljava/lang/Object;Ljava/lang/Object;)V" } : Jvm.MethodName) jdk_65_method_117_code (4 : Nat) (Option.none : Option Jvm.ClassFile.FieldType)).before a0 Z = true := hw _ (List.mem_of_getElem? (i := 41) rfl)
theorem tw43 {Z : State} {a0 : Array Value} (hw : ∀ d ∈ tables_1, d.before a0 Z = true) : (Jvm.Cond.methodLink "com/example/tidemark/tidemark/io/JsonBytesBeginArrayPinLaw" (31 : Nat) ({ cls := "com/example/tidemark/tidemark/io/JsonBytes", name := "<init>", desc := "([BIILcom/example/tidemark/tidemark/io/JsonBytes$Fields;)V" } : Jvm.MethodName)).before a0 Z = true := hw _ (List.mem_of_getElem? (i := 43) rfl)
theorem tw44 {Z : State} {a0 : Array Value} (hw : ∀ d ∈ tables_1, d.before a0 Z = true) : (Jvm.Cond.instanceMethod ({ cls := "com/example/tidemark/tidemark/io/JsonBytes", name := "<init>", desc := "([BIILcom/example/tidemark/tidemark/io/JsonBytes$Fields;)V" } : Jvm.MethodName)).before a0 Z = true := hw _ (List.mem_of_getElem? (i := 44) rfl)
theorem tw45 {Z : State} {a0 : Array Value} (hw : ∀ d ∈ tables_1, d.before a0 Z = true) : (Jvm.Cond.code ({ cls := "com/example/tidemark/tidemark/io/JsonBytes", name := "<init>", desc := "([BIILcom/example/tidemark/tidemark/io/JsonBytes$Fields;)V" } : Jvm.MethodName) prog_2_method_1_code (5 : Nat) (Option.none : Option Jvm.ClassFile.FieldType)).before a0 Z = true := hw _ (List.mem_of_getElem? (i := 45) rfl)
theorem tw46 {Z : State} {a0 : Array Value} (hw : ∀ d ∈ tables_1, d.before a0 Z = true) : (Jvm.Cond.methodLink "com/example/tidemark/tidemark/io/JsonBytes" (1 : Nat) ({ cls := "java/lang/Object", name := "<init>", desc := "()V" } : Jvm.MethodName)).before a0 Z = true := hw _ (List.mem_of_getElem? (i := 46) rfl)
theorem tw47 {Z : State} {a0 : Array Value} (hw : ∀ d ∈ tables_1, d.before a0 Z = true) : (Jvm.Cond.classLink "com/example/tidemark/tidemark/io/JsonBytes" (7 : Nat) "java/util/HashSet").before a0 Z = true := hw _ (List.mem_of_getElem? (i := 47) rfl)
theorem tw48 {Z : State} {a0 : Array Value} (hw : ∀ d ∈ tables_1, d.before a0 Z = true) : (Jvm.Cond.instantiable "java/util/HashSet" (1 : Nat)).before a0 Z = true := hw _ (List.mem_of_getElem? (i := 48) rfl)
theorem tw49 {Z : State} {a0 : Array Value} (hw : ∀ d ∈ tables_1, d.before a0 Z = true) : (Jvm.Cond.initialized "java/util/HashSet").before a0 Z = true := hw _ (List.mem_of_getElem? (i := 49) rfl)
theorem tw50 {Z : State} {a0 : Array Value} (hw : ∀ d ∈ tables_1, d.before a0 Z = true) : (Jvm.Cond.methodLink "com/example/tidemark/tidemark/io/JsonBytes" (9 : Nat) ({ cls := "java/util/HashSet", name := "<init>", desc := "()V" } : Jvm.MethodName)).before a0 Z = true := hw _ (List.mem_of_getElem? (i := 50) rfl)
theorem tw51 {Z : State} {a0 : Array Value} (hw : ∀ d ∈ tables_1, d.before a0 Z = true) : (Jvm.Cond.instanceMethod ({ cls := "java/util/HashSet", name := "<init>", desc := "()V" } : Jvm.MethodName)).before a0 Z = true := hw _ (List.mem_of_getElem? (i := 51) rfl)
theorem tw52 {Z : State} {a0 : Array Value} (hw : ∀ d ∈ tables_1, d.before a0 Z = true) : (Jvm.Cond.code ({ cls := "java/util/HashSet", name := "<init>", desc := "()V" } : Jvm.MethodName) jdk_93_method_1_code (1 : Nat) (Option.none : Option Jvm.ClassFile.FieldType)).before a0 Z = true := hw _ (List.mem_of_getElem? (i := 52) rfl)
theorem tw53 {Z : State} {a0 : Array Value} (hw : ∀ d ∈ tables_1, d.before a0 Z = true) : (Jvm.Cond.methodLink "java/util/HashSet" (1 : Nat) ({ cls := "java/util/AbstractSet", name := "<init>", desc := "()V" } : Jvm.MethodName)).before a0 Z = true := hw _ (List.mem_of_getElem? (i := 53) rfl)
theorem tw54 {Z : State} {a0 : Array Value} (hw : ∀ d ∈ tables_1, d.before a0 Z = true) : (Jvm.Cond.instanceMethod ({ cls := "java/util/AbstractSet", name := "<init>", desc := "()V" } : Jvm.MethodName)).before a0 Z = true := hw _ (List.mem_of_getElem? (i := 54) rfl)
theorem tw57 {Z : State} {a0 : Array Value} (hw : ∀ d ∈ tables_1, d.before a0 Z = true) : (Jvm.Cond.initialized "java/util/AbstractSet").before a0 Z = true := hw _ (List.mem_of_getElem? (i := 57) rfl)
theorem tw58 {Z : State} {a0 : Array Value} (hw : ∀ d ∈ tables_1, d.before a0 Z = true) : (Jvm.Cond.code ({ cls := "java/util/AbstractSet", name := "<init>", desc := "()V" } : Jvm.MethodName) jdk_91_method_1_code (1 : Nat) (Option.none : Option Jvm.ClassFile.FieldType)).before a0 Z = true := hw _ (List.mem_of_getElem? (i := 58) rfl)
theorem tw59 {Z : State} {a0 : Array Value} (hw : ∀ d ∈ tables_1, d.before a0 Z = true) : (Jvm.Cond.methodLink "java/util/AbstractSet" (1 : Nat) ({ cls := "java/util/AbstractCollection", name := "<init>", desc := "()V" } : Jvm.MethodName)).before a0 Z = true := hw _ (List.mem_of_getElem? (i := 59) rfl)
theorem tw60 {Z : State} {a0 : Array Value} (hw : ∀ d ∈ tables_1, d.before a0 Z = true) : (Jvm.Cond.instanceMethod ({ cls := "java/util/AbstractCollection", name := "<init>", desc := "()V" } : Jvm.MethodName)).before a0 Z = true := hw _ (List.mem_of_getElem? (i := 60) rfl)
theorem tw63 {Z : State} {a0 : Array Value} (hw : ∀ d ∈ tables_1, d.before a0 Z = true) : (Jvm.Cond.initialized "java/util/AbstractCollection").before a0 Z = true := hw _ (List.mem_of_getElem? (i := 63) rfl)
theorem tw64 {Z : State} {a0 : Array Value} (hw : ∀ d ∈ tables_1, d.before a0 Z = true) : (Jvm.Cond.code ({ cls := "java/util/AbstractCollection", name := "<init>", desc := "()V" } : Jvm.MethodName) jdk_22_method_1_code (1 : Nat) (Option.none : Option Jvm.ClassFile.FieldType)).before a0 Z = true := hw _ (List.mem_of_getElem? (i := 64) rfl)
theorem tw65 {Z : State} {a0 : Array Value} (hw : ∀ d ∈ tables_1, d.before a0 Z = true) : (Jvm.Cond.methodLink "java/util/AbstractCollection" (1 : Nat) ({ cls := "java/lang/Object", name := "<init>", desc := "()V" } : Jvm.MethodName)).before a0 Z = true := hw _ (List.mem_of_getElem? (i := 65) rfl)
theorem tw66 {Z : State} {a0 : Array Value} (hw : ∀ d ∈ tables_1, d.before a0 Z = true) : (Jvm.Cond.classLink "java/util/HashSet" (7 : Nat) "java/util/HashMap").before a0 Z = true := hw _ (List.mem_of_getElem? (i := 66) rfl)
theorem tw67 {Z : State} {a0 : Array Value} (hw : ∀ d ∈ tables_1, d.before a0 Z = true) : (Jvm.Cond.instantiable "java/util/HashMap" (8 : Nat)).before a0 Z = true := hw _ (List.mem_of_getElem? (i := 67) rfl)
theorem tw68 {Z : State} {a0 : Array Value} (hw : ∀ d ∈ tables_1, d.before a0 Z = true) : (Jvm.Cond.initialized "java/util/HashMap").before a0 Z = true := hw _ (List.mem_of_getElem? (i := 68) rfl)
theorem tw69 {Z : State} {a0 : Array Value} (hw : ∀ d ∈ tables_1, d.before a0 Z = true) : (Jvm.Cond.methodLink "java/util/HashSet" (9 : Nat) ({ cls := "java/util/HashMap", name := "<init>", desc := "()V" } : Jvm.MethodName)).before a0 Z = true := hw _ (List.mem_of_getElem? (i := 69) rfl)
theorem tw70 {Z : State} {a0 : Array Value} (hw : ∀ d ∈ tables_1, d.before a0 Z = true) : (Jvm.Cond.instanceMethod ({ cls := "java/util/HashMap", name := "<init>", desc := "()V" } : Jvm.MethodName)).before a0 Z = true := hw _ (List.mem_of_getElem? (i := 70) rfl)
theorem tw72 {Z : State} {a0 : Array Value} (hw : ∀ d ∈ tables_1, d.before a0 Z = true) : (Jvm.Cond.code ({ cls := "java/util/HashMap", name := "<init>", desc := "()V" } : Jvm.MethodName) jdk_69_method_7_code (1 : Nat) (Option.none : Option Jvm.ClassFile.FieldType)).before a0 Z = true := hw _ (List.mem_of_getElem? (i := 72) rfl)
theorem tw73 {Z : State} {a0 : Array Value} (hw : ∀ d ∈ tables_1, d.before a0 Z = true) : (Jvm.Cond.methodLink "java/util/HashMap" (43 : Nat) ({ cls := "java/util/AbstractMap", name := "<init>", desc := "()V" } : Jvm.MethodName)).before a0 Z = true := hw _ (List.mem_of_getElem? (i := 73) rfl)
theorem tw74 {Z : State} {a0 : Array Value} (hw : ∀ d ∈ tables_1, d.before a0 Z = true) : (Jvm.Cond.instanceMethod ({ cls := "java/util/AbstractMap", name := "<init>", desc := "()V" } : Jvm.MethodName)).before a0 Z = true := hw _ (List.mem_of_getElem? (i := 74) rfl)
theorem tw77 {Z : State} {a0 : Array Value} (hw : ∀ d ∈ tables_1, d.before a0 Z = true) : (Jvm.Cond.initialized "java/util/AbstractMap").before a0 Z = true := hw _ (List.mem_of_getElem? (i := 77) rfl)
theorem tw78 {Z : State} {a0 : Array Value} (hw : ∀ d ∈ tables_1, d.before a0 Z = true) : (Jvm.Cond.code ({ cls := "java/util/AbstractMap", name := "<init>", desc := "()V" } : Jvm.MethodName) jdk_71_method_1_code (1 : Nat) (Option.none : Option Jvm.ClassFile.FieldType)).before a0 Z = true := hw _ (List.mem_of_getElem? (i := 78) rfl)
theorem tw79 {Z : State} {a0 : Array Value} (hw : ∀ d ∈ tables_1, d.before a0 Z = true) : (Jvm.Cond.methodLink "java/util/AbstractMap" (1 : Nat) ({ cls := "java/lang/Object", name := "<init>", desc := "()V" } : Jvm.MethodName)).before a0 Z = true := hw _ (List.mem_of_getElem? (i := 79) rfl)
theorem tw80 {Z : State} {a0 : Array Value} (hw : ∀ d ∈ tables_1, d.before a0 Z = true) : (Jvm.Cond.constantFloat "java/util/HashMap" (92 : Nat) (1061158912 : UInt32)).before a0 Z = true := hw _ (List.mem_of_getElem? (i := 80) rfl)
theorem tw81 {Z : State} {a0 : Array Value} (hw : ∀ d ∈ tables_1, d.before a0 Z = true) : (Jvm.Cond.fieldLink "java/util/HashMap" (81 : Nat) "java/util/HashMap" "loadFactor" "F").before a0 Z = true := hw _ (List.mem_of_getElem? (i := 81) rfl)
theorem tw82 {Z : State} {a0 : Array Value} (hw : ∀ d ∈ tables_1, d.before a0 Z = true) : (Jvm.Cond.laysFinal "java/util/HashMap" "java/util/HashMap" "loadFactor" "F").before a0 Z = true := hw _ (List.mem_of_getElem? (i := 82) rfl)
theorem tw83 {Z : State} {a0 : Array Value} (hw : ∀ d ∈ tables_1, d.before a0 Z = true) : (Jvm.Cond.fieldLink "java/util/HashSet" (10 : Nat) "java/util/HashSet" "map" "Ljava/util/HashMap;").before a0 Z = true := hw _ (List.mem_of_getElem? (i := 83) rfl)
theorem tw84 {Z : State} {a0 : Array Value} (hw : ∀ d ∈ tables_1, d.before a0 Z = true) : (Jvm.Cond.lays "java/util/HashSet" "java/util/HashSet" "map" "Ljava/util/HashMap;").before a0 Z = true := hw _ (List.mem_of_getElem? (i := 84) rfl)
theorem tw85 {Z : State} {a0 : Array Value} (hw : ∀ d ∈ tables_1, d.before a0 Z = true) : (Jvm.Cond.fieldLink "com/example/tidemark/tidemark/io/JsonBytes" (10 : Nat) "com/example/tidemark/tidemark/io/JsonBytes" "othersSeen" "Ljava/util/Set;").before a0 Z = true := hw _ (List.mem_of_getElem? (i := 85) rfl)
theorem tw86 {Z : State} {a0 : Array Value} (hw : ∀ d ∈ tables_1, d.before a0 Z = true) : (Jvm.Cond.laysFinal "com/example/tidemark/tidemark/io/JsonBytes" "com/example/tidemark/tidemark/io/JsonBytes" "othersSeen" "Ljava/util/Set;").before a0 Z = true := hw _ (List.mem_of_getElem? (i := 86) rfl)
theorem tw87 {Z : State} {a0 : Array Value} (hw : ∀ d ∈ tables_1, d.before a0 Z = true) : (Jvm.Cond.fieldLink "com/example/tidemark/tidemark/io/JsonBytes" (16 : Nat) "com/example/tidemark/tidemark/io/JsonBytes" "bytes" "[B").before a0 Z = true := hw _ (List.mem_of_getElem? (i := 87) rfl)
theorem tw88 {Z : State} {a0 : Array Value} (hw : ∀ d ∈ tables_1, d.before a0 Z = true) : (Jvm.Cond.laysFinal "com/example/tidemark/tidemark/io/JsonBytes" "com/example/tidemark/tidemark/io/JsonBytes" "bytes" "[B").before a0 Z = true := hw _ (List.mem_of_getElem? (i := 88) rfl)
theorem tw89 {Z : State} {a0 : Array Value} (hw : ∀ d ∈ tables_1, d.before a0 Z = true) : (Jvm.Cond.fieldLink "com/example/tidemark/tidemark/io/JsonBytes" (20 : Nat) "com/example/tidemark/tidemark/io/JsonBytes" "position" "I").before a0 Z = true := hw _ (List.mem_of_getElem? (i := 89) rfl)
theorem tw90 {Z : State} {a0 : Array Value} (hw : ∀ d ∈ tables_1, d.before a0 Z = true) : (Jvm.Cond.lays "com/example/tidemark/tidemark/io/JsonBytes" "com/example/tidemark/tidemark/io/JsonBytes" "position" "I").before a0 Z = true := hw _ (List.mem_of_getElem? (i := 90) rfl)
theorem tw91 {Z : State} {a0 : Array Value} (hw : ∀ d ∈ tables_1, d.before a0 Z = true) : (Jvm.Cond.fieldLink "com/example/tidemark/tidemark/io/JsonBytes" (24 : Nat) "com/example/tidemark/tidemark/io/JsonBytes" "end" "I").before a0 Z = true := hw _ (List.mem_of_getElem? (i := 91) rfl)
theorem tw92 {Z : State} {a0 : Array Value} (hw : ∀ d ∈ tables_1, d.before a0 Z = true) : (Jvm.Cond.laysFinal "com/example/tidemark/tidemark/io/JsonBytes" "com/example/tidemark/tidemark/io/JsonBytes" "end" "I").before a0 Z = true := hw _ (List.mem_of_getElem? (i := 92) rfl)
theorem tw93 {Z : State} {a0 : Array Value} (hw : ∀ d ∈ tables_1, d.before a0 Z = true) : (Jvm.Cond.fieldLink "com/example/tidemark/tidemark/io/JsonBytes" (27 : Nat) "com/example/tidemark/tidemark/io/JsonBytes" "known" "Lcom/example/tidemark/tidemark/io/JsonBytes$Fields;").before a0 Z = true := hw _ (List.mem_of_getElem? (i := 93) rfl)
theorem tw94 {Z : State} {a0 : Array Value} (hw : ∀ d ∈ tables_1, d.before a0 Z = true) : (Jvm.Cond.laysFinal "com/example/tidemark/tidemark/io/JsonBytes" "com/example/tidemark/tidemark/io/JsonBytes" "known" "Lcom/example/tidemark/tidemark/io/JsonBytes$Fields;").before a0 Z = true := hw _ (List.mem_of_getElem? (i := 94) rfl)
theorem tw95 {Z : State} {a0 : Array Value} (hw : ∀ d ∈ tables_1, d.before a0 Z = true) : (Jvm.Cond.methodLink "com/example/tidemark/tidemark/io/JsonBytesBeginArrayPinLaw" (34 : Nat) ({ cls := "com/example/tidemark/tidemark/io/JsonBytesBeginArrayPinLaw", name := "skipWs", desc := "([BII)I" } : Jvm.MethodName)).before a0 Z = true := hw _ (List.mem_of_getElem? (i := 95) rfl)
theorem tw96 {Z : State} {a0 : Array Value} (hw : ∀ d ∈ tables_1, d.before a0 Z = true) : (Jvm.Cond.static ({ cls := "com/example/tidemark/tidemark/io/JsonBytesBeginArrayPinLaw", name := "skipWs", desc := "([BII)I" } : Jvm.MethodName)).before a0 Z = true := hw _ (List.mem_of_getElem? (i := 96) rfl)
theorem tw97 {Z : State} {a0 : Array Value} (hw : ∀ d ∈ tables_1, d.before a0 Z = true) : (Jvm.Cond.code ({ cls := "com/example/tidemark/tidemark/io/JsonBytesBeginArrayPinLaw", name := "skipWs", desc := "([BII)I" } : Jvm.MethodName) method_5_code (4 : Nat) (Option.some Jvm.ClassFile.FieldType.int)).before a0 Z = true := hw _ (List.mem_of_getElem? (i := 97) rfl)
theorem tw98 {Z : State} {a0 : Array Value} (hw : ∀ d ∈ tables_1, d.before a0 Z = true) : (Jvm.Cond.methodLink "com/example/tidemark/tidemark/io/JsonBytesBeginArrayPinLaw" (13 : Nat) ({ cls := "com/example/tidemark/tidemark/io/JsonBytesBeginArrayPinLaw", name := "step", desc := "([BII)I" } : Jvm.MethodName)).before a0 Z = true := hw _ (List.mem_of_getElem? (i := 98) rfl)
theorem tw99 {Z : State} {a0 : Array Value} (hw : ∀ d ∈ tables_1, d.before a0 Z = true) : (Jvm.Cond.static ({ cls := "com/example/tidemark/tidemark/io/JsonBytesBeginArrayPinLaw", name := "step", desc := "([BII)I" } : Jvm.MethodName)).before a0 Z = true := hw _ (List.mem_of_getElem? (i := 99) rfl)
theorem tw100 {Z : State} {a0 : Array Value} (hw : ∀ d ∈ tables_1, d.before a0 Z = true) : (Jvm.Cond.code ({ cls := "com/example/tidemark/tidemark/io/JsonBytesBeginArrayPinLaw", name := "step", desc := "([BII)I" } : Jvm.MethodName) method_4_code (3 : Nat) (Option.some Jvm.ClassFile.FieldType.int)).before a0 Z = true := hw _ (List.mem_of_getElem? (i := 100) rfl)
theorem tw101 {Z : State} {a0 : Array Value} (hw : ∀ d ∈ tables_1, d.before a0 Z = true) : (Jvm.Cond.methodLink "com/example/tidemark/tidemark/io/JsonBytesBeginArrayPinLaw" (7 : Nat) ({ cls := "com/example/tidemark/tidemark/io/JsonBytesBeginArrayPinLaw", name := "ws", desc := "(B)Z" } : Jvm.MethodName)).before a0 Z = true := hw _ (List.mem_of_getElem? (i := 101) rfl)
theorem tw102 {Z : State} {a0 : Array Value} (hw : ∀ d ∈ tables_1, d.before a0 Z = true) : (Jvm.Cond.static ({ cls := "com/example/tidemark/tidemark/io/JsonBytesBeginArrayPinLaw", name := "ws", desc := "(B)Z" } : Jvm.MethodName)).before a0 Z = true := hw _ (List.mem_of_getElem? (i := 102) rfl)
theorem tw103 {Z : State} {a0 : Array Value} (hw : ∀ d ∈ tables_1, d.before a0 Z = true) : (Jvm.Cond.code ({ cls := "com/example/tidemark/tidemark/io/JsonBytesBeginArrayPinLaw", name := "ws", desc := "(B)Z" } : Jvm.MethodName) method_3_code (1 : Nat) (Option.some Jvm.ClassFile.FieldType.boolean)).before a0 Z = true := hw _ (List.mem_of_getElem? (i := 103) rfl)
theorem tw104 {Z : State} {a0 : Array Value} (hw : ∀ d ∈ tables_1, d.before a0 Z = true) : (Jvm.Cond.methodLink "com/example/tidemark/tidemark/io/JsonBytesBeginArrayPinLaw" (37 : Nat) ({ cls := "com/example/tidemark/tidemark/io/JsonBytesBeginArrayPinLaw", name := "at", desc := "([BII)I" } : Jvm.MethodName)).before a0 Z = true := hw _ (List.mem_of_getElem? (i := 104) rfl)
theorem tw105 {Z : State} {a0 : Array Value} (hw : ∀ d ∈ tables_1, d.before a0 Z = true) : (Jvm.Cond.static ({ cls := "com/example/tidemark/tidemark/io/JsonBytesBeginArrayPinLaw", name := "at", desc := "([BII)I" } : Jvm.MethodName)).before a0 Z = true := hw _ (List.mem_of_getElem? (i := 105) rfl)
theorem tw106 {Z : State} {a0 : Array Value} (hw : ∀ d ∈ tables_1, d.before a0 Z = true) : (Jvm.Cond.code ({ cls := "com/example/tidemark/tidemark/io/JsonBytesBeginArrayPinLaw", name := "at", desc := "([BII)I" } : Jvm.MethodName) method_6_code (3 : Nat) (Option.some Jvm.ClassFile.FieldType.int)).before a0 Z = true := hw _ (List.mem_of_getElem? (i := 106) rfl)
theorem tw107 {Z : State} {a0 : Array Value} (hw : ∀ d ∈ tables_1, d.before a0 Z = true) : (Jvm.Cond.methodLink "com/example/tidemark/tidemark/io/JsonBytesBeginArrayPinLaw" (40 : Nat) ({ cls := "com/example/tidemark/tidemark/io/JsonBytes", name := "beginArray", desc := "()Z" } : Jvm.MethodName)).before a0 Z = true := hw _ (List.mem_of_getElem? (i := 107) rfl)
theorem tw108 {Z : State} {a0 : Array Value} (hw : ∀ d ∈ tables_1, d.before a0 Z = true) : (Jvm.Cond.declares ({ cls := "com/example/tidemark/tidemark/io/JsonBytes", name := "beginArray", desc := "()Z" } : Jvm.MethodName)).before a0 Z = true := hw _ (List.mem_of_getElem? (i := 108) rfl)
theorem tw109 {Z : State} {a0 : Array Value} (hw : ∀ d ∈ tables_1, d.before a0 Z = true) : (Jvm.Cond.instanceMethod ({ cls := "com/example/tidemark/tidemark/io/JsonBytes", name := "beginArray", desc := "()Z" } : Jvm.MethodName)).before a0 Z = true := hw _ (List.mem_of_getElem? (i := 109) rfl)
theorem tw110 {Z : State} {a0 : Array Value} (hw : ∀ d ∈ tables_1, d.before a0 Z = true) : (Jvm.Cond.selects "com/example/tidemark/tidemark/io/JsonBytes" ({ cls := "com/example/tidemark/tidemark/io/JsonBytes", name := "beginArray", desc := "()Z" } : Jvm.MethodName) ({ cls := "com/example/tidemark/tidemark/io/JsonBytes", name := "beginArray", desc := "()Z" } : Jvm.MethodName)).before a0 Z = true := hw _ (List.mem_of_getElem? (i := 110) rfl)
theorem tw111 {Z : State} {a0 : Array Value} (hw : ∀ d ∈ tables_1, d.before a0 Z = true) : (Jvm.Cond.code ({ cls := "com/example/tidemark/tidemark/io/JsonBytes", name := "beginArray", desc := "()Z" } : Jvm.MethodName) prog_2_method_6_code (2 : Nat) (Option.some Jvm.ClassFile.FieldType.boolean)).before a0 Z = true := hw _ (List.mem_of_getElem? (i := 111) rfl)
theorem tw112 {Z : State} {a0 : Array Value} (hw : ∀ d ∈ tables_1, d.before a0 Z = true) : (Jvm.Cond.methodLink "com/example/tidemark/tidemark/io/JsonBytes" (48 : Nat) ({ cls := "com/example/tidemark/tidemark/io/JsonBytes", name := "peek", desc := "()I" } : Jvm.MethodName)).before a0 Z = true := hw _ (List.mem_of_getElem? (i := 112) rfl)
theorem tw113 {Z : State} {a0 : Array Value} (hw : ∀ d ∈ tables_1, d.before a0 Z = true) : (Jvm.Cond.instanceMethod ({ cls := "com/example/tidemark/tidemark/io/JsonBytes", name := "peek", desc := "()I" } : Jvm.MethodName)).before a0 Z = true := hw _ (List.mem_of_getElem? (i := 113) rfl)
theorem tw114 {Z : State} {a0 : Array Value} (hw : ∀ d ∈ tables_1, d.before a0 Z = true) : (Jvm.Cond.privateMethod ({ cls := "com/example/tidemark/tidemark/io/JsonBytes", name := "peek", desc := "()I" } : Jvm.MethodName)).before a0 Z = true := hw _ (List.mem_of_getElem? (i := 114) rfl)
theorem tw115 {Z : State} {a0 : Array Value} (hw : ∀ d ∈ tables_1, d.before a0 Z = true) : (Jvm.Cond.code ({ cls := "com/example/tidemark/tidemark/io/JsonBytes", name := "peek", desc := "()I" } : Jvm.MethodName) prog_2_method_23_code (1 : Nat) (Option.some Jvm.ClassFile.FieldType.int)).before a0 Z = true := hw _ (List.mem_of_getElem? (i := 115) rfl)
theorem tw116 {Z : State} {a0 : Array Value} (hw : ∀ d ∈ tables_1, d.before a0 Z = true) : (Jvm.Cond.methodLink "com/example/tidemark/tidemark/io/JsonBytes" (180 : Nat) ({ cls := "com/example/tidemark/tidemark/io/JsonBytes", name := "isWhitespace", desc := "(B)Z" } : Jvm.MethodName)).before a0 Z = true := hw _ (List.mem_of_getElem? (i := 116) rfl)
theorem tw117 {Z : State} {a0 : Array Value} (hw : ∀ d ∈ tables_1, d.before a0 Z = true) : (Jvm.Cond.static ({ cls := "com/example/tidemark/tidemark/io/JsonBytes", name := "isWhitespace", desc := "(B)Z" } : Jvm.MethodName)).before a0 Z = true := hw _ (List.mem_of_getElem? (i := 117) rfl)
theorem tw118 {Z : State} {a0 : Array Value} (hw : ∀ d ∈ tables_1, d.before a0 Z = true) : (Jvm.Cond.code ({ cls := "com/example/tidemark/tidemark/io/JsonBytes", name := "isWhitespace", desc := "(B)Z" } : Jvm.MethodName) prog_2_method_28_code (1 : Nat) (Option.some Jvm.ClassFile.FieldType.boolean)).before a0 Z = true := hw _ (List.mem_of_getElem? (i := 118) rfl)
theorem tw119 {Z : State} {a0 : Array Value} (hw : ∀ d ∈ tables_1, d.before a0 Z = true) : (Jvm.Cond.fieldLink "com/example/tidemark/tidemark/io/JsonBytes" (57 : Nat) "com/example/tidemark/tidemark/io/JsonBytes" "depth" "I").before a0 Z = true := hw _ (List.mem_of_getElem? (i := 119) rfl)
theorem tw120 {Z : State} {a0 : Array Value} (hw : ∀ d ∈ tables_1, d.before a0 Z = true) : (Jvm.Cond.lays "com/example/tidemark/tidemark/io/JsonBytes" "com/example/tidemark/tidemark/io/JsonBytes" "depth" "I").before a0 Z = true := hw _ (List.mem_of_getElem? (i := 120) rfl)
theorem tw121 {Z : State} {a0 : Array Value} (hw : ∀ d ∈ tables_1, d.before a0 Z = true) : (Jvm.Cond.fieldLink "com/example/tidemark/tidemark/io/JsonBytes" (60 : Nat) "com/example/tidemark/tidemark/io/JsonBytes" "atStart" "Z").before a0 Z = true := hw _ (List.mem_of_getElem? (i := 121) rfl)
theorem tw122 {Z : State} {a0 : Array Value} (hw : ∀ d ∈ tables_1, d.before a0 Z = true) : (Jvm.Cond.lays "com/example/tidemark/tidemark/io/JsonBytes" "com/example/tidemark/tidemark/io/JsonBytes" "atStart" "Z").before a0 Z = true := hw _ (List.mem_of_getElem? (i := 122) rfl)
theorem tw123 {Z : State} {a0 : Array Value} (hw : ∀ d ∈ tables_1, d.before a0 Z = true) : (Jvm.Cond.methodLink "com/example/tidemark/tidemark/io/JsonBytesBeginArrayPinLaw" (44 : Nat) ({ cls := "com/example/tidemark/tidemark/io/JsonBytes", name := "nextElement", desc := "()Z" } : Jvm.MethodName)).before a0 Z = true := hw _ (List.mem_of_getElem? (i := 123) rfl)
theorem tw124 {Z : State} {a0 : Array Value} (hw : ∀ d ∈ tables_1, d.before a0 Z = true) : (Jvm.Cond.declares ({ cls := "com/example/tidemark/tidemark/io/JsonBytes", name := "nextElement", desc := "()Z" } : Jvm.MethodName)).before a0 Z = true := hw _ (List.mem_of_getElem? (i := 124) rfl)
theorem tw125 {Z : State} {a0 : Array Value} (hw : ∀ d ∈ tables_1, d.before a0 Z = true) : (Jvm.Cond.instanceMethod ({ cls := "com/example/tidemark/tidemark/io/JsonBytes", name := "nextElement", desc := "()Z" } : Jvm.MethodName)).before a0 Z = true := hw _ (List.mem_of_getElem? (i := 125) rfl)
theorem tw126 {Z : State} {a0 : Array Value} (hw : ∀ d ∈ tables_1, d.before a0 Z = true) : (Jvm.Cond.selects "com/example/tidemark/tidemark/io/JsonBytes" ({ cls := "com/example/tidemark/tidemark/io/JsonBytes", name := "nextElement", desc := "()Z" } : Jvm.MethodName) ({ cls := "com/example/tidemark/tidemark/io/JsonBytes", name := "nextElement", desc := "()Z" } : Jvm.MethodName)).before a0 Z = true := hw _ (List.mem_of_getElem? (i := 126) rfl)
theorem tw127 {Z : State} {a0 : Array Value} (hw : ∀ d ∈ tables_1, d.before a0 Z = true) : (Jvm.Cond.code ({ cls := "com/example/tidemark/tidemark/io/JsonBytes", name := "nextElement", desc := "()Z" } : Jvm.MethodName) prog_2_method_7_code (1 : Nat) (Option.some Jvm.ClassFile.FieldType.boolean)).before a0 Z = true := hw _ (List.mem_of_getElem? (i := 127) rfl)
theorem tw128 {Z : State} {a0 : Array Value} (hw : ∀ d ∈ tables_1, d.before a0 Z = true) : (Jvm.Cond.methodLink "com/example/tidemark/tidemark/io/JsonBytes" (64 : Nat) ({ cls := "com/example/tidemark/tidemark/io/JsonBytes", name := "nextMember", desc := "(C)Z" } : Jvm.MethodName)).before a0 Z = true := hw _ (List.mem_of_getElem? (i := 128) rfl)
theorem tw129 {Z : State} {a0 : Array Value} (hw : ∀ d ∈ tables_1, d.before a0 Z = true) : (Jvm.Cond.instanceMethod ({ cls := "com/example/tidemark/tidemark/io/JsonBytes", name := "nextMember", desc := "(C)Z" } : Jvm.MethodName)).before a0 Z = true := hw _ (List.mem_of_getElem? (i := 129) rfl)
theorem tw130 {Z : State} {a0 : Array Value} (hw : ∀ d ∈ tables_1, d.before a0 Z = true) : (Jvm.Cond.privateMethod ({ cls := "com/example/tidemark/tidemark/io/JsonBytes", name := "nextMember", desc := "(C)Z" } : Jvm.MethodName)).before a0 Z = true := hw _ (List.mem_of_getElem? (i := 130) rfl)
theorem tw131 {Z : State} {a0 : Array Value} (hw : ∀ d ∈ tables_1, d.before a0 Z = true) : (Jvm.Cond.code ({ cls := "com/example/tidemark/tidemark/io/JsonBytes", name := "nextMember", desc := "(C)Z" } : Jvm.MethodName) prog_2_method_11_code (3 : Nat) (Option.some Jvm.ClassFile.FieldType.boolean)).before a0 Z = true := hw _ (List.mem_of_getElem? (i := 131) rfl)
theorem tw132 {Z : State} {a0 : Array Value} (hw : ∀ d ∈ tables_1, d.before a0 Z = true) : (Jvm.Cond.methodLink "com/example/tidemark/tidemark/io/JsonBytes" (98 : Nat) ({ cls := "com/example/tidemark/tidemark/io/JsonBytes", name := "next", desc := "(CZ)Z" } : Jvm.MethodName)).before a0 Z = true := hw _ (List.mem_of_getElem? (i := 132) rfl)
theorem tw133 {Z : State} {a0 : Array Value} (hw : ∀ d ∈ tables_1, d.before a0 Z = true) : (Jvm.Cond.instanceMethod ({ cls := "com/example/tidemark/tidemark/io/JsonBytes", name := "next", desc := "(CZ)Z" } : Jvm.MethodName)).before a0 Z = true := hw _ (List.mem_of_getElem? (i := 133) rfl)
theorem tw134 {Z : State} {a0 : Array Value} (hw : ∀ d ∈ tables_1, d.before a0 Z = true) : (Jvm.Cond.privateMethod ({ cls := "com/example/tidemark/tidemark/io/JsonBytes", name := "next", desc := "(CZ)Z" } : Jvm.MethodName)).before a0 Z = true := hw _ (List.mem_of_getElem? (i := 134) rfl)
theorem tw135 {Z : State} {a0 : Array Value} (hw : ∀ d ∈ tables_1, d.before a0 Z = true) : (Jvm.Cond.code ({ cls := "com/example/tidemark/tidemark/io/JsonBytes", name := "next", desc := "(CZ)Z" } : Jvm.MethodName) prog_2_method_12_code (5 : Nat) (Option.some Jvm.ClassFile.FieldType.boolean)).before a0 Z = true := hw _ (List.mem_of_getElem? (i := 135) rfl)
theorem pn0 : plainFor (⟨"com/example/tidemark/tidemark/io/JsonBytesBeginArrayPinLaw", "pick", "(I)B"⟩ : MethodName) = true := plainFor_of_name (by first | (simp [plainName, overriddenIn]; done) | decide +kernel)
theorem d1_0 : decode method_2_code 0 = .ok (.iload_n 0, 1) := by decide +kernel
theorem d1_1 : decode method_2_code 1 = .ok (.bipush 7, 2) := by decide +kernel
theorem d1_3 : decode method_2_code 3 = .ok (.iand, 1) := by decide +kernel
theorem d1_4 : decode method_2_code 4 = .ok (.istore_n 1, 1) := by decide +kernel
theorem d1_5 : decode method_2_code 5 = .ok (.iload_n 1, 1) := by decide +kernel
theorem d1_6 : decode method_2_code 6 = .ok (.ifCond .ne 6, 3) := by decide +kernel
theorem d1_9 : decode method_2_code 9 = .ok (.bipush 32, 2) := by decide +kernel
theorem d1_11 : decode method_2_code 11 = .ok (.ireturn, 1) := by decide +kernel
theorem d1_12 : decode method_2_code 12 = .ok (.iload_n 1, 1) := by decide +kernel
theorem d1_13 : decode method_2_code 13 = .ok (.iconst 1, 1) := by decide +kernel
theorem d1_14 : decode method_2_code 14 = .ok (.if_icmp .ne 6, 3) := by decide +kernel
theorem d1_17 : decode method_2_code 17 = .ok (.bipush 10, 2) := by decide +kernel
theorem d1_19 : decode method_2_code 19 = .ok (.ireturn, 1) := by decide +kernel
theorem d1_20 : decode method_2_code 20 = .ok (.iload_n 1, 1) := by decide +kernel
theorem d1_21 : decode method_2_code 21 = .ok (.iconst 2, 1) := by decide +kernel
theorem d1_22 : decode method_2_code 22 = .ok (.if_icmp .ne 6, 3) := by decide +kernel
theorem d1_25 : decode method_2_code 25 = .ok (.bipush 13, 2) := by decide +kernel
theorem d1_27 : decode method_2_code 27 = .ok (.ireturn, 1) := by decide +kernel
theorem d1_28 : decode method_2_code 28 = .ok (.iload_n 1, 1) := by decide +kernel
theorem d1_29 : decode method_2_code 29 = .ok (.iconst 3, 1) := by decide +kernel
theorem d1_30 : decode method_2_code 30 = .ok (.if_icmp .ne 6, 3) := by decide +kernel
theorem d1_33 : decode method_2_code 33 = .ok (.bipush 9, 2) := by decide +kernel
theorem d1_35 : decode method_2_code 35 = .ok (.ireturn, 1) := by decide +kernel
theorem d1_36 : decode method_2_code 36 = .ok (.iload_n 1, 1) := by decide +kernel
theorem d1_37 : decode method_2_code 37 = .ok (.iconst 4, 1) := by decide +kernel
theorem d1_38 : decode method_2_code 38 = .ok (.if_icmp .ne 6, 3) := by decide +kernel
theorem d1_41 : decode method_2_code 41 = .ok (.bipush 91, 2) := by decide +kernel
theorem d1_43 : decode method_2_code 43 = .ok (.ireturn, 1) := by decide +kernel
theorem d1_44 : decode method_2_code 44 = .ok (.iload_n 1, 1) := by decide +kernel
theorem d1_45 : decode method_2_code 45 = .ok (.iconst 5, 1) := by decide +kernel
theorem d1_46 : decode method_2_code 46 = .ok (.if_icmp .ne 6, 3) := by decide +kernel
theorem d1_49 : decode method_2_code 49 = .ok (.bipush 93, 2) := by decide +kernel
theorem d1_51 : decode method_2_code 51 = .ok (.ireturn, 1) := by decide +kernel
theorem d1_52 : decode method_2_code 52 = .ok (.iload_n 0, 1) := by decide +kernel
theorem d1_53 : decode method_2_code 53 = .ok (.iconst 3, 1) := by decide +kernel
theorem d1_54 : decode method_2_code 54 = .ok (.ishr, 1) := by decide +kernel
theorem d1_55 : decode method_2_code 55 = .ok (.i2b, 1) := by decide +kernel
theorem d1_56 : decode method_2_code 56 = .ok (.ireturn, 1) := by decide +kernel
theorem pn1 : plainFor (⟨"com/example/tidemark/tidemark/io/JsonBytesBeginArrayPinLaw", "ws", "(B)Z"⟩ : MethodName) = true := plainFor_of_name (by first | (simp [plainName, overriddenIn]; done) | decide +kernel)
theorem d14_0 : decode method_3_code 0 = .ok (.iload_n 0, 1) := by decide +kernel
theorem d14_1 : decode method_3_code 1 = .ok (.bipush 32, 2) := by decide +kernel
theorem d14_3 : decode method_3_code 3 = .ok (.if_icmp .eq 21, 3) := by decide +kernel
theorem d14_24 : decode method_3_code 24 = .ok (.iconst 1, 1) := by decide +kernel
theorem d14_25 : decode method_3_code 25 = .ok (.goto 4, 3) := by decide +kernel
theorem d14_29 : decode method_3_code 29 = .ok (.ireturn, 1) := by decide +kernel
theorem d14_6 : decode method_3_code 6 = .ok (.iload_n 0, 1) := by decide +kernel
theorem d14_7 : decode method_3_code 7 = .ok (.bipush 10, 2) := by decide +kernel
theorem d14_9 : decode method_3_code 9 = .ok (.if_icmp .eq 15, 3) := by decide +kernel
theorem d14_12 : decode method_3_code 12 = .ok (.iload_n 0, 1) := by decide +kernel
theorem d14_13 : decode method_3_code 13 = .ok (.bipush 13, 2) := by decide +kernel
theorem d14_15 : decode method_3_code 15 = .ok (.if_icmp .eq 9, 3) := by decide +kernel
theorem d14_18 : decode method_3_code 18 = .ok (.iload_n 0, 1) := by decide +kernel
theorem d14_19 : decode method_3_code 19 = .ok (.bipush 9, 2) := by decide +kernel
theorem d14_21 : decode method_3_code 21 = .ok (.if_icmp .ne 7, 3) := by decide +kernel
theorem d14_28 : decode method_3_code 28 = .ok (.iconst 0, 1) := by decide +kernel
theorem pn2 : plainFor (⟨"com/example/tidemark/tidemark/io/JsonBytesBeginArrayPinLaw", "step", "([BII)I"⟩ : MethodName) = true := plainFor_of_name (by first | (simp [plainName, overriddenIn]; done) | decide +kernel)
theorem d13_0 : decode method_4_code 0 = .ok (.iload_n 1, 1) := by decide +kernel
theorem d13_1 : decode method_4_code 1 = .ok (.iload_n 2, 1) := by decide +kernel
theorem d13_2 : decode method_4_code 2 = .ok (.if_icmp .ge 18, 3) := by decide +kernel
theorem d13_5 : decode method_4_code 5 = .ok (.aload_n 0, 1) := by decide +kernel
theorem d13_6 : decode method_4_code 6 = .ok (.iload_n 1, 1) := by decide +kernel
theorem d13_7 : decode method_4_code 7 = .ok (.baload, 1) := by decide +kernel
theorem d13_8 : decode method_4_code 8 = .ok (.invokestatic 7, 3) := by decide +kernel
theorem pd3 : parseMethodDescriptor "(B)Z" = some ⟨[.byte], some .boolean⟩ := by decide +kernel
theorem d13_11 : decode method_4_code 11 = .ok (.ifCond .eq 9, 3) := by decide +kernel
theorem d13_20 : decode method_4_code 20 = .ok (.iload_n 1, 1) := by decide +kernel
theorem d13_21 : decode method_4_code 21 = .ok (.ireturn, 1) := by decide +kernel
theorem d13_14 : decode method_4_code 14 = .ok (.iload_n 1, 1) := by decide +kernel
theorem d13_15 : decode method_4_code 15 = .ok (.iconst 1, 1) := by decide +kernel
theorem d13_16 : decode method_4_code 16 = .ok (.iadd, 1) := by decide +kernel
theorem d13_17 : decode method_4_code 17 = .ok (.goto 4, 3) := by decide +kernel
theorem pn4 : plainFor (⟨"com/example/tidemark/tidemark/io/JsonBytesBeginArrayPinLaw", "at", "([BII)I"⟩ : MethodName) = true := plainFor_of_name (by first | (simp [plainName, overriddenIn]; done) | decide +kernel)
theorem d15_0 : decode method_6_code 0 = .ok (.iload_n 1, 1) := by decide +kernel
theorem d15_1 : decode method_6_code 1 = .ok (.iload_n 2, 1) := by decide +kernel
theorem d15_2 : decode method_6_code 2 = .ok (.if_icmp .ge 13, 3) := by decide +kernel
theorem d15_5 : decode method_6_code 5 = .ok (.aload_n 0, 1) := by decide +kernel
theorem d15_6 : decode method_6_code 6 = .ok (.iload_n 1, 1) := by decide +kernel
theorem d15_7 : decode method_6_code 7 = .ok (.baload, 1) := by decide +kernel
theorem d15_8 : decode method_6_code 8 = .ok (.sipush 255, 3) := by decide +kernel
theorem d15_11 : decode method_6_code 11 = .ok (.iand, 1) := by decide +kernel
theorem d15_12 : decode method_6_code 12 = .ok (.goto 4, 3) := by decide +kernel
theorem d15_16 : decode method_6_code 16 = .ok (.ireturn, 1) := by decide +kernel
theorem d15_15 : decode method_6_code 15 = .ok (.iconst (-1), 1) := by decide +kernel
theorem pn5 : plainFor (⟨"com/example/tidemark/tidemark/io/JsonBytesBeginArrayPinLaw", "skipWs", "([BII)I"⟩ : MethodName) = true := plainFor_of_name (by first | (simp [plainName, overriddenIn]; done) | decide +kernel)
theorem d12_0 : decode method_5_code 0 = .ok (.aload_n 0, 1) := by decide +kernel
theorem d12_1 : decode method_5_code 1 = .ok (.iload_n 1, 1) := by decide +kernel
theorem d12_2 : decode method_5_code 2 = .ok (.iload_n 2, 1) := by decide +kernel
theorem d12_3 : decode method_5_code 3 = .ok (.invokestatic 13, 3) := by decide +kernel
theorem pd6 : parseMethodDescriptor "([BII)I" = some ⟨[(.array .byte), .int, .int], some .int⟩ := by decide +kernel
theorem d12_6 : decode method_5_code 6 = .ok (.istore_n 3, 1) := by decide +kernel
theorem d12_7 : decode method_5_code 7 = .ok (.aload_n 0, 1) := by decide +kernel
theorem d12_8 : decode method_5_code 8 = .ok (.iload_n 3, 1) := by decide +kernel
theorem d12_9 : decode method_5_code 9 = .ok (.iload_n 2, 1) := by decide +kernel
theorem d12_10 : decode method_5_code 10 = .ok (.invokestatic 13, 3) := by decide +kernel
theorem d12_13 : decode method_5_code 13 = .ok (.istore_n 3, 1) := by decide +kernel
theorem d12_14 : decode method_5_code 14 = .ok (.aload_n 0, 1) := by decide +kernel
theorem d12_15 : decode method_5_code 15 = .ok (.iload_n 3, 1) := by decide +kernel
theorem d12_16 : decode method_5_code 16 = .ok (.iload_n 2, 1) := by decide +kernel
theorem d12_17 : decode method_5_code 17 = .ok (.invokestatic 13, 3) := by decide +kernel
theorem d12_20 : decode method_5_code 20 = .ok (.istore_n 3, 1) := by decide +kernel
theorem d12_21 : decode method_5_code 21 = .ok (.aload_n 0, 1) := by decide +kernel
theorem d12_22 : decode method_5_code 22 = .ok (.iload_n 3, 1) := by decide +kernel
theorem d12_23 : decode method_5_code 23 = .ok (.iload_n 2, 1) := by decide +kernel
theorem d12_24 : decode method_5_code 24 = .ok (.invokestatic 13, 3) := by decide +kernel
theorem d12_27 : decode method_5_code 27 = .ok (.istore_n 3, 1) := by decide +kernel
theorem d12_28 : decode method_5_code 28 = .ok (.aload_n 0, 1) := by decide +kernel
theorem d12_29 : decode method_5_code 29 = .ok (.iload_n 3, 1) := by decide +kernel
theorem d12_30 : decode method_5_code 30 = .ok (.iload_n 2, 1) := by decide +kernel
theorem d12_31 : decode method_5_code 31 = .ok (.invokestatic 13, 3) := by decide +kernel
theorem d12_34 : decode method_5_code 34 = .ok (.istore_n 3, 1) := by decide +kernel
theorem d12_35 : decode method_5_code 35 = .ok (.iload_n 3, 1) := by decide +kernel
theorem d12_36 : decode method_5_code 36 = .ok (.ireturn, 1) := by decide +kernel
theorem pn7 : plainFor (⟨"java/util/AbstractCollection", "<init>", "()V"⟩ : MethodName) = true := plainFor_of_name (by first | (simp [plainName, overriddenIn]; done) | decide +kernel)
theorem d9_0 : decode jdk_22_method_1_code 0 = .ok (.aload_n 0, 1) := by decide +kernel
theorem d9_1 : decode jdk_22_method_1_code 1 = .ok (.invokespecial 1, 3) := by decide +kernel
theorem d9_4 : decode jdk_22_method_1_code 4 = .ok (.return_, 1) := by decide +kernel
theorem pn8 : plainFor (⟨"java/util/AbstractMap", "<init>", "()V"⟩ : MethodName) = true := plainFor_of_name (by first | (simp [plainName, overriddenIn]; done) | decide +kernel)
theorem d11_0 : decode jdk_71_method_1_code 0 = .ok (.aload_n 0, 1) := by decide +kernel
theorem d11_1 : decode jdk_71_method_1_code 1 = .ok (.invokespecial 1, 3) := by decide +kernel
theorem d11_4 : decode jdk_71_method_1_code 4 = .ok (.return_, 1) := by decide +kernel
theorem pn9 : plainFor (⟨"java/util/AbstractSet", "<init>", "()V"⟩ : MethodName) = true := plainFor_of_name (by first | (simp [plainName, overriddenIn]; done) | decide +kernel)
theorem d8_0 : decode jdk_91_method_1_code 0 = .ok (.aload_n 0, 1) := by decide +kernel
theorem d8_1 : decode jdk_91_method_1_code 1 = .ok (.invokespecial 1, 3) := by decide +kernel
theorem pd10 : parseMethodDescriptor "()V" = some ⟨[], none⟩ := by decide +kernel
theorem d8_4 : decode jdk_91_method_1_code 4 = .ok (.return_, 1) := by decide +kernel
theorem pn11 : plainFor (⟨"java/util/HashMap", "<init>", "()V"⟩ : MethodName) = true := plainFor_of_name (by first | (simp [plainName, overriddenIn]; done) | decide +kernel)
theorem d10_0 : decode jdk_69_method_7_code 0 = .ok (.aload_n 0, 1) := by decide +kernel
theorem d10_1 : decode jdk_69_method_7_code 1 = .ok (.invokespecial 43, 3) := by decide +kernel
theorem d10_4 : decode jdk_69_method_7_code 4 = .ok (.aload_n 0, 1) := by decide +kernel
theorem d10_5 : decode jdk_69_method_7_code 5 = .ok (.ldc 92, 2) := by decide +kernel
theorem d10_7 : decode jdk_69_method_7_code 7 = .ok (.putfield 81, 3) := by decide +kernel
theorem d10_10 : decode jdk_69_method_7_code 10 = .ok (.return_, 1) := by decide +kernel
theorem pn12 : plainFor (⟨"java/util/HashSet", "<init>", "()V"⟩ : MethodName) = true := plainFor_of_name (by first | (simp [plainName, overriddenIn]; done) | decide +kernel)
theorem d7_0 : decode jdk_93_method_1_code 0 = .ok (.aload_n 0, 1) := by decide +kernel
theorem d7_1 : decode jdk_93_method_1_code 1 = .ok (.invokespecial 1, 3) := by decide +kernel
theorem d7_4 : decode jdk_93_method_1_code 4 = .ok (.aload_n 0, 1) := by decide +kernel
theorem d7_5 : decode jdk_93_method_1_code 5 = .ok (.new 7, 3) := by decide +kernel
theorem d7_8 : decode jdk_93_method_1_code 8 = .ok (.dup, 1) := by decide +kernel
theorem d7_9 : decode jdk_93_method_1_code 9 = .ok (.invokespecial 9, 3) := by decide +kernel
theorem d7_12 : decode jdk_93_method_1_code 12 = .ok (.putfield 10, 3) := by decide +kernel
theorem d7_15 : decode jdk_93_method_1_code 15 = .ok (.return_, 1) := by decide +kernel
theorem pn13 : plainFor (⟨"java/util/List", "of", "([Ljava/lang/Object;)Ljava/util/List;"⟩ : MethodName) = true := plainFor_of_name (by first | (simp [plainName, overriddenIn]; done) | decide +kernel)
theorem d4_0 : decode jdk_40_method_47_code 0 = .ok (.aload_n 0, 1) := by decide +kernel
theorem d4_1 : decode jdk_40_method_47_code 1 = .ok (.arraylength, 1) := by decide +kernel
theorem d4_2 : decode jdk_40_method_47_code 2 = .ok (.tableswitch 57 0 2 #[26, 32, 43], 26) := by decide +kernel
theorem d4_28 : decode jdk_40_method_47_code 28 = .ok (.getstatic 90, 3) := by decide +kernel
theorem d4_31 : decode jdk_40_method_47_code 31 = .ok (.astore_n 1, 1) := by decide +kernel
theorem d4_32 : decode jdk_40_method_47_code 32 = .ok (.aload_n 1, 1) := by decide +kernel
theorem d4_33 : decode jdk_40_method_47_code 33 = .ok (.areturn, 1) := by decide +kernel
theorem pn14 : plainFor (⟨"java/util/Arrays", "fill", "([Ljava/lang/Object;Ljava/lang/Object;)V"⟩ : MethodName) = true := plainFor_of_name (by first | (simp [plainName, overriddenIn]; done) | decide +kernel)
theorem d5_0 : decode jdk_65_method_117_code 0 = .ok (.iconst 0, 1) := by decide +kernel
theorem d5_1 : decode jdk_65_method_117_code 1 = .ok (.istore_n 2, 1) := by decide +kernel
theorem d5_2 : decode jdk_65_method_117_code 2 = .ok (.aload_n 0, 1) := by decide +kernel
theorem d5_3 : decode jdk_65_method_117_code 3 = .ok (.arraylength, 1) := by decide +kernel
theorem d5_4 : decode jdk_65_method_117_code 4 = .ok (.istore_n 3, 1) := by decide +kernel
theorem d5_5 : decode jdk_65_method_117_code 5 = .ok (.iload_n 2, 1) := by decide +kernel
theorem d5_6 : decode jdk_65_method_117_code 6 = .ok (.iload_n 3, 1) := by decide +kernel
theorem d5_7 : decode jdk_65_method_117_code 7 = .ok (.if_icmp .ge 13, 3) := by decide +kernel
theorem d5_10 : decode jdk_65_method_117_code 10 = .ok (.aload_n 0, 1) := by decide +kernel
theorem d5_11 : decode jdk_65_method_117_code 11 = .ok (.iload_n 2, 1) := by decide +kernel
theorem d5_12 : decode jdk_65_method_117_code 12 = .ok (.aload_n 1, 1) := by decide +kernel
theorem d5_13 : decode jdk_65_method_117_code 13 = .ok (.aastore, 1) := by decide +kernel
theorem d5_14 : decode jdk_65_method_117_code 14 = .ok (.iinc 2 1, 3) := by decide +kernel
theorem d5_17 : decode jdk_65_method_117_code 17 = .ok (.goto (-12), 3) := by decide +kernel
theorem d5_20 : decode jdk_65_method_117_code 20 = .ok (.return_, 1) := by decide +kernel
theorem pn15 : plainFor (⟨"com/example/tidemark/tidemark/io/JsonBytes$Fields", "<init>", "([Ljava/lang/String;)V"⟩ : MethodName) = true := plainFor_of_name (by first | (simp [plainName, overriddenIn]; done) | decide +kernel)
theorem d2_0 : decode prog_3_method_1_code 0 = .ok (.aload_n 0, 1) := by decide +kernel
theorem d2_1 : decode prog_3_method_1_code 1 = .ok (.invokespecial 1, 3) := by decide +kernel
theorem d2_4 : decode prog_3_method_1_code 4 = .ok (.aload_n 1, 1) := by decide +kernel
theorem d2_5 : decode prog_3_method_1_code 5 = .ok (.arraylength, 1) := by decide +kernel
theorem d2_6 : decode prog_3_method_1_code 6 = .ok (.bipush 64, 2) := by decide +kernel
theorem d2_8 : decode prog_3_method_1_code 8 = .ok (.if_icmp .le 18, 3) := by decide +kernel
theorem d2_26 : decode prog_3_method_1_code 26 = .ok (.aload_n 0, 1) := by decide +kernel
theorem d2_27 : decode prog_3_method_1_code 27 = .ok (.aload_n 1, 1) := by decide +kernel
theorem d2_28 : decode prog_3_method_1_code 28 = .ok (.invokestatic 18, 3) := by decide +kernel
theorem pd16 : parseMethodDescriptor "([Ljava/lang/Object;)Ljava/util/List;" = some ⟨[(.array (.object "java/lang/Object"))], some (.object "java/util/List")⟩ := by decide +kernel
theorem d2_31 : decode prog_3_method_1_code 31 = .ok (.putfield 24, 3) := by decide +kernel
theorem d2_34 : decode prog_3_method_1_code 34 = .ok (.aload_n 0, 1) := by decide +kernel
theorem d2_35 : decode prog_3_method_1_code 35 = .ok (.aload_n 1, 1) := by decide +kernel
theorem d2_36 : decode prog_3_method_1_code 36 = .ok (.arraylength, 1) := by decide +kernel
theorem d2_37 : decode prog_3_method_1_code 37 = .ok (.anewarray 30, 3) := by decide +kernel
theorem d2_40 : decode prog_3_method_1_code 40 = .ok (.putfield 32, 3) := by decide +kernel
theorem d2_43 : decode prog_3_method_1_code 43 = .ok (.iconst 0, 1) := by decide +kernel
theorem d2_44 : decode prog_3_method_1_code 44 = .ok (.istore_n 2, 1) := by decide +kernel
theorem d2_45 : decode prog_3_method_1_code 45 = .ok (.iconst 0, 1) := by decide +kernel
theorem d2_46 : decode prog_3_method_1_code 46 = .ok (.istore_n 3, 1) := by decide +kernel
theorem d2_47 : decode prog_3_method_1_code 47 = .ok (.iload_n 3, 1) := by decide +kernel
theorem d2_48 : decode prog_3_method_1_code 48 = .ok (.aload_n 1, 1) := by decide +kernel
theorem d2_49 : decode prog_3_method_1_code 49 = .ok (.arraylength, 1) := by decide +kernel
theorem d2_50 : decode prog_3_method_1_code 50 = .ok (.if_icmp .ge 36, 3) := by decide +kernel
theorem d2_86 : decode prog_3_method_1_code 86 = .ok (.aload_n 0, 1) := by decide +kernel
theorem d2_87 : decode prog_3_method_1_code 87 = .ok (.iload_n 2, 1) := by decide +kernel
theorem d2_88 : decode prog_3_method_1_code 88 = .ok (.iconst 1, 1) := by decide +kernel
theorem d2_89 : decode prog_3_method_1_code 89 = .ok (.iadd, 1) := by decide +kernel
theorem d2_90 : decode prog_3_method_1_code 90 = .ok (.anewarray 54, 3) := by decide +kernel
theorem d2_93 : decode prog_3_method_1_code 93 = .ok (.putfield 56, 3) := by decide +kernel
theorem d2_96 : decode prog_3_method_1_code 96 = .ok (.aload_n 0, 1) := by decide +kernel
theorem d2_97 : decode prog_3_method_1_code 97 = .ok (.getfield 56, 3) := by decide +kernel
theorem d2_100 : decode prog_3_method_1_code 100 = .ok (.getstatic 60, 3) := by decide +kernel
theorem d2_103 : decode prog_3_method_1_code 103 = .ok (.invokestatic 63, 3) := by decide +kernel
theorem pd17 : parseMethodDescriptor "([Ljava/lang/Object;Ljava/lang/Object;)V" = some ⟨[(.array (.object "java/lang/Object")), (.object "java/lang/Object")], none⟩ := by decide +kernel
theorem d2_106 : decode prog_3_method_1_code 106 = .ok (.iconst 0, 1) := by decide +kernel
theorem d2_107 : decode prog_3_method_1_code 107 = .ok (.istore_n 3, 1) := by decide +kernel
theorem d2_108 : decode prog_3_method_1_code 108 = .ok (.iload_n 3, 1) := by decide +kernel
theorem d2_109 : decode prog_3_method_1_code 109 = .ok (.aload_n 1, 1) := by decide +kernel
theorem d2_110 : decode prog_3_method_1_code 110 = .ok (.arraylength, 1) := by decide +kernel
theorem d2_111 : decode prog_3_method_1_code 111 = .ok (.if_icmp .ge 58, 3) := by decide +kernel
theorem d2_169 : decode prog_3_method_1_code 169 = .ok (.return_, 1) := by decide +kernel
theorem pn18 : plainFor (⟨"com/example/tidemark/tidemark/io/JsonBytes", "<init>", "([BIILcom/example/tidemark/tidemark/io/JsonBytes$Fields;)V"⟩ : MethodName) = true := plainFor_of_name (by first | (simp [plainName, overriddenIn]; done) | decide +kernel)
theorem d6_0 : decode prog_2_method_1_code 0 = .ok (.aload_n 0, 1) := by decide +kernel
theorem d6_1 : decode prog_2_method_1_code 1 = .ok (.invokespecial 1, 3) := by decide +kernel
theorem d6_4 : decode prog_2_method_1_code 4 = .ok (.aload_n 0, 1) := by decide +kernel
theorem d6_5 : decode prog_2_method_1_code 5 = .ok (.new 7, 3) := by decide +kernel
theorem d6_8 : decode prog_2_method_1_code 8 = .ok (.dup, 1) := by decide +kernel
theorem d6_9 : decode prog_2_method_1_code 9 = .ok (.invokespecial 9, 3) := by decide +kernel
theorem d6_12 : decode prog_2_method_1_code 12 = .ok (.putfield 10, 3) := by decide +kernel
theorem d6_15 : decode prog_2_method_1_code 15 = .ok (.aload_n 0, 1) := by decide +kernel
theorem d6_16 : decode prog_2_method_1_code 16 = .ok (.aload_n 1, 1) := by decide +kernel
theorem d6_17 : decode prog_2_method_1_code 17 = .ok (.putfield 16, 3) := by decide +kernel
theorem d6_20 : decode prog_2_method_1_code 20 = .ok (.aload_n 0, 1) := by decide +kernel
theorem d6_21 : decode prog_2_method_1_code 21 = .ok (.iload_n 2, 1) := by decide +kernel
theorem d6_22 : decode prog_2_method_1_code 22 = .ok (.putfield 20, 3) := by decide +kernel
theorem d6_25 : decode prog_2_method_1_code 25 = .ok (.aload_n 0, 1) := by decide +kernel
theorem d6_26 : decode prog_2_method_1_code 26 = .ok (.iload_n 2, 1) := by decide +kernel
theorem d6_27 : decode prog_2_method_1_code 27 = .ok (.iload_n 3, 1) := by decide +kernel
theorem d6_28 : decode prog_2_method_1_code 28 = .ok (.iadd, 1) := by decide +kernel
theorem d6_29 : decode prog_2_method_1_code 29 = .ok (.putfield 24, 3) := by decide +kernel
theorem d6_32 : decode prog_2_method_1_code 32 = .ok (.aload_n 0, 1) := by decide +kernel
theorem d6_33 : decode prog_2_method_1_code 33 = .ok (.aload 4, 2) := by decide +kernel
theorem d6_35 : decode prog_2_method_1_code 35 = .ok (.putfield 27, 3) := by decide +kernel
theorem d6_38 : decode prog_2_method_1_code 38 = .ok (.return_, 1) := by decide +kernel
theorem pn19 : plainFor (⟨"com/example/tidemark/tidemark/io/JsonBytes", "isWhitespace", "(B)Z"⟩ : MethodName) = true := plainFor_of_name (by first | (simp [plainName, overriddenIn]; done) | decide +kernel)
theorem d18_0 : decode prog_2_method_28_code 0 = .ok (.iload_n 0, 1) := by decide +kernel
theorem d18_1 : decode prog_2_method_28_code 1 = .ok (.bipush 32, 2) := by decide +kernel
theorem d18_3 : decode prog_2_method_28_code 3 = .ok (.if_icmp .eq 21, 3) := by decide +kernel
theorem d18_24 : decode prog_2_method_28_code 24 = .ok (.iconst 1, 1) := by decide +kernel
theorem d18_25 : decode prog_2_method_28_code 25 = .ok (.goto 4, 3) := by decide +kernel
theorem d18_29 : decode prog_2_method_28_code 29 = .ok (.ireturn, 1) := by decide +kernel
theorem d18_6 : decode prog_2_method_28_code 6 = .ok (.iload_n 0, 1) := by decide +kernel
theorem d18_7 : decode prog_2_method_28_code 7 = .ok (.bipush 10, 2) := by decide +kernel
theorem d18_9 : decode prog_2_method_28_code 9 = .ok (.if_icmp .eq 15, 3) := by decide +kernel
theorem d18_12 : decode prog_2_method_28_code 12 = .ok (.iload_n 0, 1) := by decide +kernel
theorem d18_13 : decode prog_2_method_28_code 13 = .ok (.bipush 13, 2) := by decide +kernel
theorem d18_15 : decode prog_2_method_28_code 15 = .ok (.if_icmp .eq 9, 3) := by decide +kernel
theorem d18_18 : decode prog_2_method_28_code 18 = .ok (.iload_n 0, 1) := by decide +kernel
theorem d18_19 : decode prog_2_method_28_code 19 = .ok (.bipush 9, 2) := by decide +kernel
theorem d18_21 : decode prog_2_method_28_code 21 = .ok (.if_icmp .ne 7, 3) := by decide +kernel
theorem d18_28 : decode prog_2_method_28_code 28 = .ok (.iconst 0, 1) := by decide +kernel
theorem pn20 : plainFor (⟨"com/example/tidemark/tidemark/io/JsonBytes", "peek", "()I"⟩ : MethodName) = true := plainFor_of_name (by first | (simp [plainName, overriddenIn]; done) | decide +kernel)
theorem d17_0 : decode prog_2_method_23_code 0 = .ok (.aload_n 0, 1) := by decide +kernel
theorem d17_1 : decode prog_2_method_23_code 1 = .ok (.getfield 20, 3) := by decide +kernel
theorem d17_4 : decode prog_2_method_23_code 4 = .ok (.aload_n 0, 1) := by decide +kernel
theorem d17_5 : decode prog_2_method_23_code 5 = .ok (.getfield 24, 3) := by decide +kernel
theorem d17_8 : decode prog_2_method_23_code 8 = .ok (.if_icmp .ge 31, 3) := by decide +kernel
theorem d17_39 : decode prog_2_method_23_code 39 = .ok (.aload_n 0, 1) := by decide +kernel
theorem d17_40 : decode prog_2_method_23_code 40 = .ok (.getfield 20, 3) := by decide +kernel
theorem d17_43 : decode prog_2_method_23_code 43 = .ok (.aload_n 0, 1) := by decide +kernel
theorem d17_44 : decode prog_2_method_23_code 44 = .ok (.getfield 24, 3) := by decide +kernel
theorem d17_47 : decode prog_2_method_23_code 47 = .ok (.if_icmp .ge 19, 3) := by decide +kernel
theorem d17_66 : decode prog_2_method_23_code 66 = .ok (.iconst (-1), 1) := by decide +kernel
theorem d17_67 : decode prog_2_method_23_code 67 = .ok (.ireturn, 1) := by decide +kernel
theorem d17_11 : decode prog_2_method_23_code 11 = .ok (.aload_n 0, 1) := by decide +kernel
theorem d17_12 : decode prog_2_method_23_code 12 = .ok (.getfield 16, 3) := by decide +kernel
theorem d17_15 : decode prog_2_method_23_code 15 = .ok (.aload_n 0, 1) := by decide +kernel
theorem d17_16 : decode prog_2_method_23_code 16 = .ok (.getfield 20, 3) := by decide +kernel
theorem d17_19 : decode prog_2_method_23_code 19 = .ok (.baload, 1) := by decide +kernel
theorem d17_20 : decode prog_2_method_23_code 20 = .ok (.invokestatic 180, 3) := by decide +kernel
theorem d17_23 : decode prog_2_method_23_code 23 = .ok (.ifCond .eq 16, 3) := by decide +kernel
theorem d17_50 : decode prog_2_method_23_code 50 = .ok (.aload_n 0, 1) := by decide +kernel
theorem d17_51 : decode prog_2_method_23_code 51 = .ok (.getfield 16, 3) := by decide +kernel
theorem d17_54 : decode prog_2_method_23_code 54 = .ok (.aload_n 0, 1) := by decide +kernel
theorem d17_55 : decode prog_2_method_23_code 55 = .ok (.getfield 20, 3) := by decide +kernel
theorem d17_58 : decode prog_2_method_23_code 58 = .ok (.baload, 1) := by decide +kernel
theorem d17_59 : decode prog_2_method_23_code 59 = .ok (.sipush 255, 3) := by decide +kernel
theorem d17_62 : decode prog_2_method_23_code 62 = .ok (.iand, 1) := by decide +kernel
theorem d17_63 : decode prog_2_method_23_code 63 = .ok (.goto 4, 3) := by decide +kernel
theorem d17_26 : decode prog_2_method_23_code 26 = .ok (.aload_n 0, 1) := by decide +kernel
theorem d17_27 : decode prog_2_method_23_code 27 = .ok (.dup, 1) := by decide +kernel
theorem d17_28 : decode prog_2_method_23_code 28 = .ok (.getfield 20, 3) := by decide +kernel
theorem d17_31 : decode prog_2_method_23_code 31 = .ok (.iconst 1, 1) := by decide +kernel
theorem d17_32 : decode prog_2_method_23_code 32 = .ok (.iadd, 1) := by decide +kernel
theorem d17_33 : decode prog_2_method_23_code 33 = .ok (.putfield 20, 3) := by decide +kernel
theorem d17_36 : decode prog_2_method_23_code 36 = .ok (.goto (-36), 3) := by decide +kernel
theorem pn21 : plainFor (⟨"com/example/tidemark/tidemark/io/JsonBytes", "beginArray", "()Z"⟩ : MethodName) = true := plainFor_of_name (by first | (simp [plainName, overriddenIn]; done) | decide +kernel)
theorem d16_0 : decode prog_2_method_6_code 0 = .ok (.aload_n 0, 1) := by decide +kernel
theorem d16_1 : decode prog_2_method_6_code 1 = .ok (.invokevirtual 48, 3) := by decide +kernel
theorem pd22 : parseMethodDescriptor "()I" = some ⟨[], some .int⟩ := by decide +kernel
theorem d16_4 : decode prog_2_method_6_code 4 = .ok (.bipush 91, 2) := by decide +kernel
theorem d16_6 : decode prog_2_method_6_code 6 = .ok (.if_icmp .ne 7, 3) := by decide +kernel
theorem d16_9 : decode prog_2_method_6_code 9 = .ok (.iconst 1, 1) := by decide +kernel
theorem d16_10 : decode prog_2_method_6_code 10 = .ok (.goto 4, 3) := by decide +kernel
theorem d16_14 : decode prog_2_method_6_code 14 = .ok (.istore_n 1, 1) := by decide +kernel
theorem d16_15 : decode prog_2_method_6_code 15 = .ok (.iload_n 1, 1) := by decide +kernel
theorem d16_16 : decode prog_2_method_6_code 16 = .ok (.ifCond .eq 48, 3) := by decide +kernel
theorem d16_19 : decode prog_2_method_6_code 19 = .ok (.aload_n 0, 1) := by decide +kernel
theorem d16_20 : decode prog_2_method_6_code 20 = .ok (.getfield 57, 3) := by decide +kernel
theorem d16_23 : decode prog_2_method_6_code 23 = .ok (.sipush 255, 3) := by decide +kernel
theorem d16_26 : decode prog_2_method_6_code 26 = .ok (.if_icmp .ne 13, 3) := by decide +kernel
theorem d16_39 : decode prog_2_method_6_code 39 = .ok (.aload_n 0, 1) := by decide +kernel
theorem d16_40 : decode prog_2_method_6_code 40 = .ok (.dup, 1) := by decide +kernel
theorem d16_41 : decode prog_2_method_6_code 41 = .ok (.getfield 20, 3) := by decide +kernel
theorem d16_44 : decode prog_2_method_6_code 44 = .ok (.iconst 1, 1) := by decide +kernel
theorem d16_45 : decode prog_2_method_6_code 45 = .ok (.iadd, 1) := by decide +kernel
theorem d16_46 : decode prog_2_method_6_code 46 = .ok (.putfield 20, 3) := by decide +kernel
theorem d16_49 : decode prog_2_method_6_code 49 = .ok (.aload_n 0, 1) := by decide +kernel
theorem d16_50 : decode prog_2_method_6_code 50 = .ok (.dup, 1) := by decide +kernel
theorem d16_51 : decode prog_2_method_6_code 51 = .ok (.getfield 57, 3) := by decide +kernel
theorem d16_54 : decode prog_2_method_6_code 54 = .ok (.iconst 1, 1) := by decide +kernel
theorem d16_55 : decode prog_2_method_6_code 55 = .ok (.iadd, 1) := by decide +kernel
theorem d16_56 : decode prog_2_method_6_code 56 = .ok (.putfield 57, 3) := by decide +kernel
theorem d16_59 : decode prog_2_method_6_code 59 = .ok (.aload_n 0, 1) := by decide +kernel
theorem d16_60 : decode prog_2_method_6_code 60 = .ok (.iconst 1, 1) := by decide +kernel
theorem d16_61 : decode prog_2_method_6_code 61 = .ok (.putfield 60, 3) := by decide +kernel
theorem d16_64 : decode prog_2_method_6_code 64 = .ok (.iload_n 1, 1) := by decide +kernel
theorem d16_65 : decode prog_2_method_6_code 65 = .ok (.ireturn, 1) := by decide +kernel
theorem d16_13 : decode prog_2_method_6_code 13 = .ok (.iconst 0, 1) := by decide +kernel
theorem pn23 : plainFor (⟨"com/example/tidemark/tidemark/io/JsonBytes", "next", "(CZ)Z"⟩ : MethodName) = true := plainFor_of_name (by first | (simp [plainName, overriddenIn]; done) | decide +kernel)
theorem d21_0 : decode prog_2_method_12_code 0 = .ok (.aload_n 0, 1) := by decide +kernel
theorem d21_1 : decode prog_2_method_12_code 1 = .ok (.invokevirtual 48, 3) := by decide +kernel
theorem d21_4 : decode prog_2_method_12_code 4 = .ok (.istore_n 3, 1) := by decide +kernel
theorem d21_5 : decode prog_2_method_12_code 5 = .ok (.iload_n 3, 1) := by decide +kernel
theorem d21_6 : decode prog_2_method_12_code 6 = .ok (.iload_n 1, 1) := by decide +kernel
theorem d21_7 : decode prog_2_method_12_code 7 = .ok (.if_icmp .ne 19, 3) := by decide +kernel
theorem d21_10 : decode prog_2_method_12_code 10 = .ok (.aload_n 0, 1) := by decide +kernel
theorem d21_11 : decode prog_2_method_12_code 11 = .ok (.dup, 1) := by decide +kernel
theorem d21_12 : decode prog_2_method_12_code 12 = .ok (.getfield 20, 3) := by decide +kernel
theorem d21_15 : decode prog_2_method_12_code 15 = .ok (.iconst 1, 1) := by decide +kernel
theorem d21_16 : decode prog_2_method_12_code 16 = .ok (.iadd, 1) := by decide +kernel
theorem d21_17 : decode prog_2_method_12_code 17 = .ok (.putfield 20, 3) := by decide +kernel
theorem d21_20 : decode prog_2_method_12_code 20 = .ok (.iconst 0, 1) := by decide +kernel
theorem d21_21 : decode prog_2_method_12_code 21 = .ok (.istore 4, 2) := by decide +kernel
theorem d21_23 : decode prog_2_method_12_code 23 = .ok (.goto 45, 3) := by decide +kernel
theorem d21_68 : decode prog_2_method_12_code 68 = .ok (.iload 4, 2) := by decide +kernel
theorem d21_70 : decode prog_2_method_12_code 70 = .ok (.ireturn, 1) := by decide +kernel
theorem pn24 : plainFor (⟨"com/example/tidemark/tidemark/io/JsonBytes", "nextMember", "(C)Z"⟩ : MethodName) = true := plainFor_of_name (by first | (simp [plainName, overriddenIn]; done) | decide +kernel)
theorem d20_0 : decode prog_2_method_11_code 0 = .ok (.aload_n 0, 1) := by decide +kernel
theorem d20_1 : decode prog_2_method_11_code 1 = .ok (.iload_n 1, 1) := by decide +kernel
theorem d20_2 : decode prog_2_method_11_code 2 = .ok (.aload_n 0, 1) := by decide +kernel
theorem d20_3 : decode prog_2_method_11_code 3 = .ok (.getfield 60, 3) := by decide +kernel
theorem d20_6 : decode prog_2_method_11_code 6 = .ok (.invokevirtual 98, 3) := by decide +kernel
theorem pd25 : parseMethodDescriptor "(CZ)Z" = some ⟨[.char, .boolean], some .boolean⟩ := by decide +kernel
theorem d20_9 : decode prog_2_method_11_code 9 = .ok (.istore_n 2, 1) := by decide +kernel
theorem d20_10 : decode prog_2_method_11_code 10 = .ok (.aload_n 0, 1) := by decide +kernel
theorem d20_11 : decode prog_2_method_11_code 11 = .ok (.iconst 0, 1) := by decide +kernel
theorem d20_12 : decode prog_2_method_11_code 12 = .ok (.putfield 60, 3) := by decide +kernel
theorem d20_15 : decode prog_2_method_11_code 15 = .ok (.iload_n 2, 1) := by decide +kernel
theorem d20_16 : decode prog_2_method_11_code 16 = .ok (.ifCond .ne 13, 3) := by decide +kernel
theorem d20_19 : decode prog_2_method_11_code 19 = .ok (.aload_n 0, 1) := by decide +kernel
theorem d20_20 : decode prog_2_method_11_code 20 = .ok (.dup, 1) := by decide +kernel
theorem d20_21 : decode prog_2_method_11_code 21 = .ok (.getfield 57, 3) := by decide +kernel
theorem d20_24 : decode prog_2_method_11_code 24 = .ok (.iconst 1, 1) := by decide +kernel
theorem d20_25 : decode prog_2_method_11_code 25 = .ok (.isub, 1) := by decide +kernel
theorem d20_26 : decode prog_2_method_11_code 26 = .ok (.putfield 57, 3) := by decide +kernel
theorem d20_29 : decode prog_2_method_11_code 29 = .ok (.iload_n 2, 1) := by decide +kernel
theorem d20_30 : decode prog_2_method_11_code 30 = .ok (.ireturn, 1) := by decide +kernel
theorem pn26 : plainFor (⟨"com/example/tidemark/tidemark/io/JsonBytes", "nextElement", "()Z"⟩ : MethodName) = true := plainFor_of_name (by first | (simp [plainName, overriddenIn]; done) | decide +kernel)
theorem d19_0 : decode prog_2_method_7_code 0 = .ok (.aload_n 0, 1) := by decide +kernel
theorem d19_1 : decode prog_2_method_7_code 1 = .ok (.bipush 93, 2) := by decide +kernel
theorem d19_3 : decode prog_2_method_7_code 3 = .ok (.invokevirtual 64, 3) := by decide +kernel
theorem pd27 : parseMethodDescriptor "(C)Z" = some ⟨[.char], some .boolean⟩ := by decide +kernel
theorem d19_6 : decode prog_2_method_7_code 6 = .ok (.ireturn, 1) := by decide +kernel
theorem d21_26 : decode prog_2_method_12_code 26 = .ok (.iload_n 2, 1) := by decide +kernel
theorem d21_27 : decode prog_2_method_12_code 27 = .ok (.ifCond .eq 9, 3) := by decide +kernel
theorem d21_30 : decode prog_2_method_12_code 30 = .ok (.iconst 1, 1) := by decide +kernel
theorem d21_31 : decode prog_2_method_12_code 31 = .ok (.istore 4, 2) := by decide +kernel
theorem d21_33 : decode prog_2_method_12_code 33 = .ok (.goto 35, 3) := by decide +kernel
theorem pn28 : plainFor (⟨"com/example/tidemark/tidemark/io/JsonBytesBeginArrayPinLaw", "law", "(IIIIII)Z"⟩ : MethodName) = true := plainFor_of_name (by first | (simp [plainName, overriddenIn]; done) | decide +kernel)
theorem pd29 : parseMethodDescriptor "(I)B" = some ⟨[.int], some .byte⟩ := by decide +kernel
theorem pd30 : parseMethodDescriptor "([Ljava/lang/String;)V" = some ⟨[(.array (.object "java/lang/String"))], none⟩ := by decide +kernel
theorem pd31 : parseMethodDescriptor "([BIILcom/example/tidemark/tidemark/io/JsonBytes$Fields;)V" = some ⟨[(.array .byte), .int, .int, (.object "com/example/tidemark/tidemark/io/JsonBytes$Fields")], none⟩ := by decide +kernel
theorem pd32 : parseMethodDescriptor "()Z" = some ⟨[], some .boolean⟩ := by decide +kernel
theorem ef_rmPick (m : MethodId) (x0 : Int32) : entryFrame m #[(.int x0)] 2 = mkF m 0 #[.val (.int x0), .unset] [] := by first | (simp [entryFrame, mkF, argsToLocals, Value.category]; done) | rfl
set_option maxRecDepth 65536 in
set_option maxHeartbeats 40000000 in
theorem rmPick (l : Launch) (Z : State) (a0 : Array Value) (hw : ∀ d ∈ tables_1, d.before a0 Z = true) (ws : List Jvm.Cond) (p : Int32) (h0 : Heap) :
    Met l Z (⟨"com/example/tidemark/tidemark/io/JsonBytesBeginArrayPinLaw", "pick", "(I)B"⟩ : MethodName) method_2_code 2 (some .byte) ws ({ frames := 0, cells := 0, slots := 0, locals := 0 } : Room) #[(.int p)] h0 (fun v h L => ∃ r : Int32, v = some (.int r) ∧ L = [] ∧ h = h0) := by
  refine Met.intro pn0 ?_
  intro pr ev s m below meth c T0 X0 hx hZ hown hby hml hret hlk hnm e0
  refine Go.cast (ef_rmPick m p) ?_
  refine Go.of (mkF m 1 #[.val (.int p), .unset] [(.int p)]) (fun tt0 kk0 => XS.iloadN X0.here hx rfl (hb hby d1_0) rfl kk0) ?_
  refine Go.of (mkF m 3 #[.val (.int p), .unset] [(.int (7 : Int32)), (.int p)]) (fun tt0 kk0 => XS.bipush X0.here hx rfl (hb hby d1_1) kk0) ?_
  refine Go.of (mkF m 4 #[.val (.int p), .unset] [(.int (p &&& (7 : Int32)))]) (fun tt0 kk0 => XS.iand X0.here hx rfl (hb hby d1_3) rfl kk0) ?_
  refine Go.of (mkF m 5 #[.val (.int p), .val (.int (p &&& (7 : Int32)))] []) (fun tt0 kk0 => XS.istoreN X0.here hx rfl (hb hby d1_4) rfl (l' := #[.val (.int p), .val (.int (p &&& (7 : Int32)))]) rfl kk0) ?_
  refine Go.of (mkF m 6 #[.val (.int p), .val (.int (p &&& (7 : Int32)))] [(.int (p &&& (7 : Int32)))]) (fun tt0 kk0 => XS.iloadN X0.here hx rfl (hb hby d1_5) rfl kk0) ?_
  by_cases hc6 : (p &&& (7 : Int32)) = (0 : Int32)
  ·
    refine Go.of (mkF m 9 #[.val (.int p), .val (.int (p &&& (7 : Int32)))] []) (fun tt0 kk0 => XS.ifNo X0.here hx rfl (hb hby d1_6) rfl ((if0 _ _).trans (teq hc6).2) kk0) ?_
    refine Go.of (mkF m 11 #[.val (.int p), .val (.int (p &&& (7 : Int32)))] [(.int (32 : Int32))]) (fun tt0 kk0 => XS.bipush X0.here hx rfl (hb hby d1_9) kk0) ?_
    exact Go.retW X0 hx (t := .byte) hret hlk rfl (Or.inl ⟨rfl, by simp, _, rfl⟩) (hb hby d1_11) (by decide) (by decide) ⟨_, rfl, rfl, e0⟩
  ·
    refine Go.of (mkF m 12 #[.val (.int p), .val (.int (p &&& (7 : Int32)))] []) (fun tt0 kk0 => XS.ifYes X0.here hx rfl (pc0 := 6) (pc' := 12) rfl (hb hby d1_6) rfl ((if0 _ _).trans (feq hc6).2) (by decide) (by decide) kk0) ?_
    refine Go.of (mkF m 13 #[.val (.int p), .val (.int (p &&& (7 : Int32)))] [(.int (p &&& (7 : Int32)))]) (fun tt0 kk0 => XS.iloadN X0.here hx rfl (hb hby d1_12) rfl kk0) ?_
    refine Go.of (mkF m 14 #[.val (.int p), .val (.int (p &&& (7 : Int32)))] [(.int (1 : Int32)), (.int (p &&& (7 : Int32)))]) (fun tt0 kk0 => XS.iconst X0.here hx rfl (hb hby d1_13) kk0) ?_
    by_cases hc14 : (p &&& (7 : Int32)) = (1 : Int32)
    ·
      refine Go.of (mkF m 17 #[.val (.int p), .val (.int (p &&& (7 : Int32)))] []) (fun tt0 kk0 => XS.icmpNo X0.here hx rfl (hb hby d1_14) rfl (teq hc14).2 kk0) ?_
      refine Go.of (mkF m 19 #[.val (.int p), .val (.int (p &&& (7 : Int32)))] [(.int (10 : Int32))]) (fun tt0 kk0 => XS.bipush X0.here hx rfl (hb hby d1_17) kk0) ?_
      exact Go.retW X0 hx (t := .byte) hret hlk rfl (Or.inl ⟨rfl, by simp, _, rfl⟩) (hb hby d1_19) (by decide) (by decide) ⟨_, rfl, rfl, e0⟩
    ·
      refine Go.of (mkF m 20 #[.val (.int p), .val (.int (p &&& (7 : Int32)))] []) (fun tt0 kk0 => XS.icmpYes X0.here hx rfl (pc0 := 14) (pc' := 20) rfl (hb hby d1_14) rfl (feq hc14).2 (by decide) (by decide) kk0) ?_
      refine Go.of (mkF m 21 #[.val (.int p), .val (.int (p &&& (7 : Int32)))] [(.int (p &&& (7 : Int32)))]) (fun tt0 kk0 => XS.iloadN X0.here hx rfl (hb hby d1_20) rfl kk0) ?_
      refine Go.of (mkF m 22 #[.val (.int p), .val (.int (p &&& (7 : Int32)))] [(.int (2 : Int32)), (.int (p &&& (7 : Int32)))]) (fun tt0 kk0 => XS.iconst X0.here hx rfl (hb hby d1_21) kk0) ?_
      by_cases hc22 : (p &&& (7 : Int32)) = (2 : Int32)
      ·
        refine Go.of (mkF m 25 #[.val (.int p), .val (.int (p &&& (7 : Int32)))] []) (fun tt0 kk0 => XS.icmpNo X0.here hx rfl (hb hby d1_22) rfl (teq hc22).2 kk0) ?_
        refine Go.of (mkF m 27 #[.val (.int p), .val (.int (p &&& (7 : Int32)))] [(.int (13 : Int32))]) (fun tt0 kk0 => XS.bipush X0.here hx rfl (hb hby d1_25) kk0) ?_
        exact Go.retW X0 hx (t := .byte) hret hlk rfl (Or.inl ⟨rfl, by simp, _, rfl⟩) (hb hby d1_27) (by decide) (by decide) ⟨_, rfl, rfl, e0⟩
      ·
        refine Go.of (mkF m 28 #[.val (.int p), .val (.int (p &&& (7 : Int32)))] []) (fun tt0 kk0 => XS.icmpYes X0.here hx rfl (pc0 := 22) (pc' := 28) rfl (hb hby d1_22) rfl (feq hc22).2 (by decide) (by decide) kk0) ?_
        refine Go.of (mkF m 29 #[.val (.int p), .val (.int (p &&& (7 : Int32)))] [(.int (p &&& (7 : Int32)))]) (fun tt0 kk0 => XS.iloadN X0.here hx rfl (hb hby d1_28) rfl kk0) ?_
        refine Go.of (mkF m 30 #[.val (.int p), .val (.int (p &&& (7 : Int32)))] [(.int (3 : Int32)), (.int (p &&& (7 : Int32)))]) (fun tt0 kk0 => XS.iconst X0.here hx rfl (hb hby d1_29) kk0) ?_
        by_cases hc30 : (p &&& (7 : Int32)) = (3 : Int32)
        ·
          refine Go.of (mkF m 33 #[.val (.int p), .val (.int (p &&& (7 : Int32)))] []) (fun tt0 kk0 => XS.icmpNo X0.here hx rfl (hb hby d1_30) rfl (teq hc30).2 kk0) ?_
          refine Go.of (mkF m 35 #[.val (.int p), .val (.int (p &&& (7 : Int32)))] [(.int (9 : Int32))]) (fun tt0 kk0 => XS.bipush X0.here hx rfl (hb hby d1_33) kk0) ?_
          exact Go.retW X0 hx (t := .byte) hret hlk rfl (Or.inl ⟨rfl, by simp, _, rfl⟩) (hb hby d1_35) (by decide) (by decide) ⟨_, rfl, rfl, e0⟩
        ·
          refine Go.of (mkF m 36 #[.val (.int p), .val (.int (p &&& (7 : Int32)))] []) (fun tt0 kk0 => XS.icmpYes X0.here hx rfl (pc0 := 30) (pc' := 36) rfl (hb hby d1_30) rfl (feq hc30).2 (by decide) (by decide) kk0) ?_
          refine Go.of (mkF m 37 #[.val (.int p), .val (.int (p &&& (7 : Int32)))] [(.int (p &&& (7 : Int32)))]) (fun tt0 kk0 => XS.iloadN X0.here hx rfl (hb hby d1_36) rfl kk0) ?_
          refine Go.of (mkF m 38 #[.val (.int p), .val (.int (p &&& (7 : Int32)))] [(.int (4 : Int32)), (.int (p &&& (7 : Int32)))]) (fun tt0 kk0 => XS.iconst X0.here hx rfl (hb hby d1_37) kk0) ?_
          by_cases hc38 : (p &&& (7 : Int32)) = (4 : Int32)
          ·
            refine Go.of (mkF m 41 #[.val (.int p), .val (.int (p &&& (7 : Int32)))] []) (fun tt0 kk0 => XS.icmpNo X0.here hx rfl (hb hby d1_38) rfl (teq hc38).2 kk0) ?_
            refine Go.of (mkF m 43 #[.val (.int p), .val (.int (p &&& (7 : Int32)))] [(.int (91 : Int32))]) (fun tt0 kk0 => XS.bipush X0.here hx rfl (hb hby d1_41) kk0) ?_
            exact Go.retW X0 hx (t := .byte) hret hlk rfl (Or.inl ⟨rfl, by simp, _, rfl⟩) (hb hby d1_43) (by decide) (by decide) ⟨_, rfl, rfl, e0⟩
          ·
            refine Go.of (mkF m 44 #[.val (.int p), .val (.int (p &&& (7 : Int32)))] []) (fun tt0 kk0 => XS.icmpYes X0.here hx rfl (pc0 := 38) (pc' := 44) rfl (hb hby d1_38) rfl (feq hc38).2 (by decide) (by decide) kk0) ?_
            refine Go.of (mkF m 45 #[.val (.int p), .val (.int (p &&& (7 : Int32)))] [(.int (p &&& (7 : Int32)))]) (fun tt0 kk0 => XS.iloadN X0.here hx rfl (hb hby d1_44) rfl kk0) ?_
            refine Go.of (mkF m 46 #[.val (.int p), .val (.int (p &&& (7 : Int32)))] [(.int (5 : Int32)), (.int (p &&& (7 : Int32)))]) (fun tt0 kk0 => XS.iconst X0.here hx rfl (hb hby d1_45) kk0) ?_
            by_cases hc46 : (p &&& (7 : Int32)) = (5 : Int32)
            ·
              refine Go.of (mkF m 49 #[.val (.int p), .val (.int (p &&& (7 : Int32)))] []) (fun tt0 kk0 => XS.icmpNo X0.here hx rfl (hb hby d1_46) rfl (teq hc46).2 kk0) ?_
              refine Go.of (mkF m 51 #[.val (.int p), .val (.int (p &&& (7 : Int32)))] [(.int (93 : Int32))]) (fun tt0 kk0 => XS.bipush X0.here hx rfl (hb hby d1_49) kk0) ?_
              exact Go.retW X0 hx (t := .byte) hret hlk rfl (Or.inl ⟨rfl, by simp, _, rfl⟩) (hb hby d1_51) (by decide) (by decide) ⟨_, rfl, rfl, e0⟩
            ·
              refine Go.of (mkF m 52 #[.val (.int p), .val (.int (p &&& (7 : Int32)))] []) (fun tt0 kk0 => XS.icmpYes X0.here hx rfl (pc0 := 46) (pc' := 52) rfl (hb hby d1_46) rfl (feq hc46).2 (by decide) (by decide) kk0) ?_
              refine Go.of (mkF m 53 #[.val (.int p), .val (.int (p &&& (7 : Int32)))] [(.int p)]) (fun tt0 kk0 => XS.iloadN X0.here hx rfl (hb hby d1_52) rfl kk0) ?_
              refine Go.of (mkF m 54 #[.val (.int p), .val (.int (p &&& (7 : Int32)))] [(.int (3 : Int32)), (.int p)]) (fun tt0 kk0 => XS.iconst X0.here hx rfl (hb hby d1_53) kk0) ?_
              refine Go.of (mkF m 55 #[.val (.int p), .val (.int (p &&& (7 : Int32)))] [(.int (p >>> ((3 : Int32) &&& 31)))]) (fun tt0 kk0 => XS.ishr X0.here hx rfl (hb hby d1_54) rfl kk0) ?_
              refine Go.of (mkF m 56 #[.val (.int p), .val (.int (p &&& (7 : Int32)))] [(.int ((p >>> ((3 : Int32) &&& 31)).toInt8.toInt32))]) (fun tt0 kk0 => XS.i2b X0.here hx rfl (hb hby d1_55) rfl kk0) ?_
              exact Go.retW X0 hx (t := .byte) hret hlk (own_b8 _) (Or.inl ⟨rfl, by simp, _, rfl⟩) (hb hby d1_56) (by decide) (by decide) ⟨_, rfl, rfl, e0⟩
theorem ef_rmWsL (m : MethodId) (x0 : Int32) : entryFrame m #[(.int x0)] 1 = mkF m 0 #[.val (.int x0)] [] := by first | (simp [entryFrame, mkF, argsToLocals, Value.category]; done) | rfl
set_option maxRecDepth 65536 in
set_option maxHeartbeats 40000000 in
theorem rmWsL (l : Launch) (Z : State) (a0 : Array Value) (hw : ∀ d ∈ tables_1, d.before a0 Z = true) (ws : List Jvm.Cond) (p : Int32) (h0 : Heap) :
    Met l Z (⟨"com/example/tidemark/tidemark/io/JsonBytesBeginArrayPinLaw", "ws", "(B)Z"⟩ : MethodName) method_3_code 1 (some .boolean) ws ({ frames := 0, cells := 0, slots := 0, locals := 0 } : Room) #[(.int p)] h0 (fun v h L => v = some (.int (own_ws p)) ∧ L = [] ∧ h = h0) := by
  refine Met.intro pn1 ?_
  intro pr ev s m below meth c T0 X0 hx hZ hown hby hml hret hlk hnm e0
  refine Go.cast (ef_rmWsL m p) ?_
  refine Go.of (mkF m 1 #[.val (.int p)] [(.int p)]) (fun tt0 kk0 => XS.iloadN X0.here hx rfl (hb hby d14_0) rfl kk0) ?_
  refine Go.of (mkF m 3 #[.val (.int p)] [(.int (32 : Int32)), (.int p)]) (fun tt0 kk0 => XS.bipush X0.here hx rfl (hb hby d14_1) kk0) ?_
  by_cases hc3 : p = (32 : Int32)
  ·
    refine Go.of (mkF m 24 #[.val (.int p)] []) (fun tt0 kk0 => XS.icmpYes X0.here hx rfl (pc0 := 3) (pc' := 24) rfl (hb hby d14_3) rfl (teq hc3).1 (by decide) (by decide) kk0) ?_
    refine Go.of (mkF m 25 #[.val (.int p)] [(.int (1 : Int32))]) (fun tt0 kk0 => XS.iconst X0.here hx rfl (hb hby d14_24) kk0) ?_
    refine Go.of (mkF m 29 #[.val (.int p)] [(.int (1 : Int32))]) (fun tt0 kk0 => XS.goto X0.here hx rfl (pc0 := 25) (pc' := 29) rfl (hb hby d14_25) (by decide) (by decide) kk0) ?_
    exact Go.retW X0 hx (t := .boolean) hret hlk rfl (Or.inl ⟨rfl, by simp, _, rfl⟩) (hb hby d14_29) (by decide) (by decide) ⟨by simp [own_ws, hc3], rfl, e0⟩
  ·
    refine Go.of (mkF m 6 #[.val (.int p)] []) (fun tt0 kk0 => XS.icmpNo X0.here hx rfl (hb hby d14_3) rfl (feq hc3).1 kk0) ?_
    refine Go.of (mkF m 7 #[.val (.int p)] [(.int p)]) (fun tt0 kk0 => XS.iloadN X0.here hx rfl (hb hby d14_6) rfl kk0) ?_
    refine Go.of (mkF m 9 #[.val (.int p)] [(.int (10 : Int32)), (.int p)]) (fun tt0 kk0 => XS.bipush X0.here hx rfl (hb hby d14_7) kk0) ?_
    by_cases hc9 : p = (10 : Int32)
    ·
      refine Go.of (mkF m 24 #[.val (.int p)] []) (fun tt0 kk0 => XS.icmpYes X0.here hx rfl (pc0 := 9) (pc' := 24) rfl (hb hby d14_9) rfl (teq hc9).1 (by decide) (by decide) kk0) ?_
      refine Go.of (mkF m 25 #[.val (.int p)] [(.int (1 : Int32))]) (fun tt0 kk0 => XS.iconst X0.here hx rfl (hb hby d14_24) kk0) ?_
      refine Go.of (mkF m 29 #[.val (.int p)] [(.int (1 : Int32))]) (fun tt0 kk0 => XS.goto X0.here hx rfl (pc0 := 25) (pc' := 29) rfl (hb hby d14_25) (by decide) (by decide) kk0) ?_
      exact Go.retW X0 hx (t := .boolean) hret hlk rfl (Or.inl ⟨rfl, by simp, _, rfl⟩) (hb hby d14_29) (by decide) (by decide) ⟨by simp [own_ws, hc3, hc9], rfl, e0⟩
    ·
      refine Go.of (mkF m 12 #[.val (.int p)] []) (fun tt0 kk0 => XS.icmpNo X0.here hx rfl (hb hby d14_9) rfl (feq hc9).1 kk0) ?_
      refine Go.of (mkF m 13 #[.val (.int p)] [(.int p)]) (fun tt0 kk0 => XS.iloadN X0.here hx rfl (hb hby d14_12) rfl kk0) ?_
      refine Go.of (mkF m 15 #[.val (.int p)] [(.int (13 : Int32)), (.int p)]) (fun tt0 kk0 => XS.bipush X0.here hx rfl (hb hby d14_13) kk0) ?_
      by_cases hc15 : p = (13 : Int32)
      ·
        refine Go.of (mkF m 24 #[.val (.int p)] []) (fun tt0 kk0 => XS.icmpYes X0.here hx rfl (pc0 := 15) (pc' := 24) rfl (hb hby d14_15) rfl (teq hc15).1 (by decide) (by decide) kk0) ?_
        refine Go.of (mkF m 25 #[.val (.int p)] [(.int (1 : Int32))]) (fun tt0 kk0 => XS.iconst X0.here hx rfl (hb hby d14_24) kk0) ?_
        refine Go.of (mkF m 29 #[.val (.int p)] [(.int (1 : Int32))]) (fun tt0 kk0 => XS.goto X0.here hx rfl (pc0 := 25) (pc' := 29) rfl (hb hby d14_25) (by decide) (by decide) kk0) ?_
        exact Go.retW X0 hx (t := .boolean) hret hlk rfl (Or.inl ⟨rfl, by simp, _, rfl⟩) (hb hby d14_29) (by decide) (by decide) ⟨by simp [own_ws, hc3, hc9, hc15], rfl, e0⟩
      ·
        refine Go.of (mkF m 18 #[.val (.int p)] []) (fun tt0 kk0 => XS.icmpNo X0.here hx rfl (hb hby d14_15) rfl (feq hc15).1 kk0) ?_
        refine Go.of (mkF m 19 #[.val (.int p)] [(.int p)]) (fun tt0 kk0 => XS.iloadN X0.here hx rfl (hb hby d14_18) rfl kk0) ?_
        refine Go.of (mkF m 21 #[.val (.int p)] [(.int (9 : Int32)), (.int p)]) (fun tt0 kk0 => XS.bipush X0.here hx rfl (hb hby d14_19) kk0) ?_
        by_cases hc21 : p = (9 : Int32)
        ·
          refine Go.of (mkF m 24 #[.val (.int p)] []) (fun tt0 kk0 => XS.icmpNo X0.here hx rfl (hb hby d14_21) rfl (teq hc21).2 kk0) ?_
          refine Go.of (mkF m 25 #[.val (.int p)] [(.int (1 : Int32))]) (fun tt0 kk0 => XS.iconst X0.here hx rfl (hb hby d14_24) kk0) ?_
          refine Go.of (mkF m 29 #[.val (.int p)] [(.int (1 : Int32))]) (fun tt0 kk0 => XS.goto X0.here hx rfl (pc0 := 25) (pc' := 29) rfl (hb hby d14_25) (by decide) (by decide) kk0) ?_
          exact Go.retW X0 hx (t := .boolean) hret hlk rfl (Or.inl ⟨rfl, by simp, _, rfl⟩) (hb hby d14_29) (by decide) (by decide) ⟨by simp [own_ws, hc3, hc9, hc15, hc21], rfl, e0⟩
        ·
          refine Go.of (mkF m 28 #[.val (.int p)] []) (fun tt0 kk0 => XS.icmpYes X0.here hx rfl (pc0 := 21) (pc' := 28) rfl (hb hby d14_21) rfl (feq hc21).2 (by decide) (by decide) kk0) ?_
          refine Go.of (mkF m 29 #[.val (.int p)] [(.int (0 : Int32))]) (fun tt0 kk0 => XS.iconst X0.here hx rfl (hb hby d14_28) kk0) ?_
          exact Go.retW X0 hx (t := .boolean) hret hlk rfl (Or.inl ⟨rfl, by simp, _, rfl⟩) (hb hby d14_29) (by decide) (by decide) ⟨by simp [own_ws, hc3, hc9, hc15, hc21], rfl, e0⟩
theorem ef_rmStep (m : MethodId) (x0 : Addr) (x1 : Int32) (x2 : Int32) : entryFrame m #[(.ref x0), (.int x1), (.int x2)] 3 = mkF m 0 #[.val (.ref x0), .val (.int x1), .val (.int x2)] [] := by first | (simp [entryFrame, mkF, argsToLocals, Value.category]; done) | rfl
set_option maxRecDepth 65536 in
set_option maxHeartbeats 40000000 in
theorem rmStep (l : Launch) (Z : State) (a0 : Array Value) (hw : ∀ d ∈ tables_1, d.before a0 Z = true) (ws : List Jvm.Cond) (d : Addr) (N en i : Int32) (y : Int32 → Int32) (h0 : Heap) (V : Fa Z h0 d .byte N (fun i => .int (y i))) (hok : own_ok N en i) :
    Met l Z (⟨"com/example/tidemark/tidemark/io/JsonBytesBeginArrayPinLaw", "step", "([BII)I"⟩ : MethodName) method_4_code 3 (some .int) ws ({ frames := 1, cells := 0, slots := 0, locals := 12 } : Room) #[(.ref d), (.int i), (.int en)] h0 (fun v h L => v = some (.int (own_step y en i)) ∧ L = [] ∧ h = h0) := by
  refine Met.intro pn2 ?_
  intro pr ev s m below meth c T0 X0 hx hZ hown hby hml hret hlk hnm e0
  refine Go.cast (ef_rmStep m d i en) ?_
  refine Go.of (mkF m 1 #[.val (.ref d), .val (.int i), .val (.int en)] [(.int i)]) (fun tt0 kk0 => XS.iloadN X0.here hx rfl (hb hby d13_0) rfl kk0) ?_
  refine Go.of (mkF m 2 #[.val (.ref d), .val (.int i), .val (.int en)] [(.int en), (.int i)]) (fun tt0 kk0 => XS.iloadN X0.here hx rfl (hb hby d13_1) rfl kk0) ?_
  by_cases hc2 : i < en
  ·
    refine Go.of (mkF m 5 #[.val (.ref d), .val (.int i), .val (.int en)] []) (fun tt0 kk0 => XS.icmpNo X0.here hx rfl (hb hby d13_2) rfl (tlt hc2).2.1 kk0) ?_
    refine Go.of (mkF m 6 #[.val (.ref d), .val (.int i), .val (.int en)] [(.ref d)]) (fun tt0 kk0 => XS.aloadN X0.here hx rfl (hb hby d13_5) rfl rfl kk0) ?_
    refine Go.of (mkF m 7 #[.val (.ref d), .val (.int i), .val (.int en)] [(.int i), (.ref d)]) (fun tt0 kk0 => XS.iloadN X0.here hx rfl (hb hby d13_6) rfl kk0) ?_
    refine Go.baload X0 hx hZ e0 V (own_in0 hok) (own_in1 hok hc2) (g := (mkF m 7 #[.val (.ref d), .val (.int i), .val (.int en)] [(.int i), (.ref d)])) rfl rfl (hb hby d13_7) ?_
    show Go pr ev below _ T0 (mkF m 8 #[.val (.ref d), .val (.int i), .val (.int en)] [(.int (y i))])
    refine Go.callS X0 hx hZ (y := (⟨"com/example/tidemark/tidemark/io/JsonBytesBeginArrayPinLaw", "ws", "(B)Z"⟩ : MethodName)) (argsL := [(.int (y i))]) (rest := []) hown (tw101 hw) (tw102 hw) (tw3 hw) (tw103 hw) (by decide) e0 (rmWsL l Z a0 hw [] (y i) h0) (g := (mkF m 8 #[.val (.ref d), .val (.int i), .val (.int en)] [(.int (y i))])) rfl (by rw [hml]; rfl) (lenOf pd3 rfl) rfl (W := 0) (by show 2 * 0 + _ ≤ _; exact Nat.le_of_eq rfl) (hb hby d13_8) (by decide) (by decide) (by decide) (by decide) ?_
    rintro T1 L1 v1 X1 ⟨rfl, rfl, hh1⟩
    show Go pr ev below _ T1 (mkF m 11 #[.val (.ref d), .val (.int i), .val (.int en)] [(.int (own_ws (y i)))])
    by_cases hc11 : (own_ws (y i)) = (0 : Int32)
    ·
      refine Go.of (mkF m 20 #[.val (.ref d), .val (.int i), .val (.int en)] []) (fun tt0 kk0 => XS.ifYes X1.here hx rfl (pc0 := 11) (pc' := 20) rfl (hb hby d13_11) rfl ((if0 _ _).trans (teq hc11).1) (by decide) (by decide) kk0) ?_
      refine Go.of (mkF m 21 #[.val (.ref d), .val (.int i), .val (.int en)] [(.int i)]) (fun tt0 kk0 => XS.iloadN X1.here hx rfl (hb hby d13_20) rfl kk0) ?_
      exact Go.retW X1 hx (t := .int) hret hlk rfl (Or.inl ⟨rfl, by simp, _, rfl⟩) (hb hby d13_21) (by decide) (by decide) ⟨by rw [own_s1 hc2 hc11], by simp, hh1⟩
    ·
      refine Go.of (mkF m 14 #[.val (.ref d), .val (.int i), .val (.int en)] []) (fun tt0 kk0 => XS.ifNo X1.here hx rfl (hb hby d13_11) rfl ((if0 _ _).trans (feq hc11).1) kk0) ?_
      refine Go.of (mkF m 15 #[.val (.ref d), .val (.int i), .val (.int en)] [(.int i)]) (fun tt0 kk0 => XS.iloadN X1.here hx rfl (hb hby d13_14) rfl kk0) ?_
      refine Go.of (mkF m 16 #[.val (.ref d), .val (.int i), .val (.int en)] [(.int (1 : Int32)), (.int i)]) (fun tt0 kk0 => XS.iconst X1.here hx rfl (hb hby d13_15) kk0) ?_
      refine Go.of (mkF m 17 #[.val (.ref d), .val (.int i), .val (.int en)] [(.int (i + (1 : Int32)))]) (fun tt0 kk0 => XS.iadd X1.here hx rfl (hb hby d13_16) rfl kk0) ?_
      refine Go.of (mkF m 21 #[.val (.ref d), .val (.int i), .val (.int en)] [(.int (i + (1 : Int32)))]) (fun tt0 kk0 => XS.goto X1.here hx rfl (pc0 := 17) (pc' := 21) rfl (hb hby d13_17) (by decide) (by decide) kk0) ?_
      exact Go.retW X1 hx (t := .int) hret hlk rfl (Or.inl ⟨rfl, by simp, _, rfl⟩) (hb hby d13_21) (by decide) (by decide) ⟨by rw [own_s2 hc2 hc11], by simp, hh1⟩
  ·
    refine Go.of (mkF m 20 #[.val (.ref d), .val (.int i), .val (.int en)] []) (fun tt0 kk0 => XS.icmpYes X0.here hx rfl (pc0 := 2) (pc' := 20) rfl (hb hby d13_2) rfl (flt hc2).2.1 (by decide) (by decide) kk0) ?_
    refine Go.of (mkF m 21 #[.val (.ref d), .val (.int i), .val (.int en)] [(.int i)]) (fun tt0 kk0 => XS.iloadN X0.here hx rfl (hb hby d13_20) rfl kk0) ?_
    exact Go.retW X0 hx (t := .int) hret hlk rfl (Or.inl ⟨rfl, by simp, _, rfl⟩) (hb hby d13_21) (by decide) (by decide) ⟨by rw [own_s3 hc2], by simp, e0⟩
theorem ef_rmAt (m : MethodId) (x0 : Addr) (x1 : Int32) (x2 : Int32) : entryFrame m #[(.ref x0), (.int x1), (.int x2)] 3 = mkF m 0 #[.val (.ref x0), .val (.int x1), .val (.int x2)] [] := by first | (simp [entryFrame, mkF, argsToLocals, Value.category]; done) | rfl
set_option maxRecDepth 65536 in
set_option maxHeartbeats 40000000 in
theorem rmAt (l : Launch) (Z : State) (a0 : Array Value) (hw : ∀ d ∈ tables_1, d.before a0 Z = true) (ws : List Jvm.Cond) (d : Addr) (N en i : Int32) (y : Int32 → Int32) (h0 : Heap) (V : Fa Z h0 d .byte N (fun i => .int (y i))) (hok : own_ok N en i) :
    Met l Z (⟨"com/example/tidemark/tidemark/io/JsonBytesBeginArrayPinLaw", "at", "([BII)I"⟩ : MethodName) method_6_code 3 (some .int) ws ({ frames := 0, cells := 0, slots := 0, locals := 0 } : Room) #[(.ref d), (.int i), (.int en)] h0 (fun v h L => v = some (.int (own_at y en i)) ∧ L = [] ∧ h = h0) := by
  refine Met.intro pn4 ?_
  intro pr ev s m below meth c T0 X0 hx hZ hown hby hml hret hlk hnm e0
  refine Go.cast (ef_rmAt m d i en) ?_
  refine Go.of (mkF m 1 #[.val (.ref d), .val (.int i), .val (.int en)] [(.int i)]) (fun tt0 kk0 => XS.iloadN X0.here hx rfl (hb hby d15_0) rfl kk0) ?_
  refine Go.of (mkF m 2 #[.val (.ref d), .val (.int i), .val (.int en)] [(.int en), (.int i)]) (fun tt0 kk0 => XS.iloadN X0.here hx rfl (hb hby d15_1) rfl kk0) ?_
  by_cases hc2 : i < en
  ·
    refine Go.of (mkF m 5 #[.val (.ref d), .val (.int i), .val (.int en)] []) (fun tt0 kk0 => XS.icmpNo X0.here hx rfl (hb hby d15_2) rfl (tlt hc2).2.1 kk0) ?_
    refine Go.of (mkF m 6 #[.val (.ref d), .val (.int i), .val (.int en)] [(.ref d)]) (fun tt0 kk0 => XS.aloadN X0.here hx rfl (hb hby d15_5) rfl rfl kk0) ?_
    refine Go.of (mkF m 7 #[.val (.ref d), .val (.int i), .val (.int en)] [(.int i), (.ref d)]) (fun tt0 kk0 => XS.iloadN X0.here hx rfl (hb hby d15_6) rfl kk0) ?_
    refine Go.baload X0 hx hZ e0 V (own_in0 hok) (own_in1 hok hc2) (g := (mkF m 7 #[.val (.ref d), .val (.int i), .val (.int en)] [(.int i), (.ref d)])) rfl rfl (hb hby d15_7) ?_
    show Go pr ev below _ T0 (mkF m 8 #[.val (.ref d), .val (.int i), .val (.int en)] [(.int (y i))])
    refine Go.of (mkF m 11 #[.val (.ref d), .val (.int i), .val (.int en)] [(.int (255 : Int32)), (.int (y i))]) (fun tt0 kk0 => XS.sipush X0.here hx rfl (hb hby d15_8) kk0) ?_
    refine Go.of (mkF m 12 #[.val (.ref d), .val (.int i), .val (.int en)] [(.int ((y i) &&& (255 : Int32)))]) (fun tt0 kk0 => XS.iand X0.here hx rfl (hb hby d15_11) rfl kk0) ?_
    refine Go.of (mkF m 16 #[.val (.ref d), .val (.int i), .val (.int en)] [(.int ((y i) &&& (255 : Int32)))]) (fun tt0 kk0 => XS.goto X0.here hx rfl (pc0 := 12) (pc' := 16) rfl (hb hby d15_12) (by decide) (by decide) kk0) ?_
    exact Go.retW X0 hx (t := .int) hret hlk rfl (Or.inl ⟨rfl, by simp, _, rfl⟩) (hb hby d15_16) (by decide) (by decide) ⟨by rw [own_a1 hc2], by simp, e0⟩
  ·
    refine Go.of (mkF m 15 #[.val (.ref d), .val (.int i), .val (.int en)] []) (fun tt0 kk0 => XS.icmpYes X0.here hx rfl (pc0 := 2) (pc' := 15) rfl (hb hby d15_2) rfl (flt hc2).2.1 (by decide) (by decide) kk0) ?_
    refine Go.of (mkF m 16 #[.val (.ref d), .val (.int i), .val (.int en)] [(.int (-1 : Int32))]) (fun tt0 kk0 => XS.iconst X0.here hx rfl (hb hby d15_15) kk0) ?_
    exact Go.retW X0 hx (t := .int) hret hlk rfl (Or.inl ⟨rfl, by simp, _, rfl⟩) (hb hby d15_16) (by decide) (by decide) ⟨by rw [own_a2 hc2], by simp, e0⟩
theorem ef_rmSkip (m : MethodId) (x0 : Addr) (x1 : Int32) (x2 : Int32) : entryFrame m #[(.ref x0), (.int x1), (.int x2)] 4 = mkF m 0 #[.val (.ref x0), .val (.int x1), .val (.int x2), .unset] [] := by first | (simp [entryFrame, mkF, argsToLocals, Value.category]; done) | rfl
set_option maxRecDepth 65536 in
set_option maxHeartbeats 40000000 in
theorem rmSkip (l : Launch) (Z : State) (a0 : Array Value) (hw : ∀ d ∈ tables_1, d.before a0 Z = true) (ws : List Jvm.Cond) (d : Addr) (N en i : Int32) (y : Int32 → Int32) (h0 : Heap) (V : Fa Z h0 d .byte N (fun i => .int (y i))) (hok : own_ok N en i) :
    Met l Z (⟨"com/example/tidemark/tidemark/io/JsonBytesBeginArrayPinLaw", "skipWs", "([BII)I"⟩ : MethodName) method_5_code 4 (some .int) ws ({ frames := 2, cells := 0, slots := 0, locals := 26 } : Room) #[(.ref d), (.int i), (.int en)] h0 (fun v h L => v = some (.int (own_sk y en 5 i)) ∧ L = [] ∧ h = h0) := by
  refine Met.intro pn5 ?_
  intro pr ev s m below meth c T0 X0 hx hZ hown hby hml hret hlk hnm e0
  refine Go.cast (ef_rmSkip m d i en) ?_
  refine Go.of (mkF m 1 #[.val (.ref d), .val (.int i), .val (.int en), .unset] [(.ref d)]) (fun tt0 kk0 => XS.aloadN X0.here hx rfl (hb hby d12_0) rfl rfl kk0) ?_
  refine Go.of (mkF m 2 #[.val (.ref d), .val (.int i), .val (.int en), .unset] [(.int i), (.ref d)]) (fun tt0 kk0 => XS.iloadN X0.here hx rfl (hb hby d12_1) rfl kk0) ?_
  refine Go.of (mkF m 3 #[.val (.ref d), .val (.int i), .val (.int en), .unset] [(.int en), (.int i), (.ref d)]) (fun tt0 kk0 => XS.iloadN X0.here hx rfl (hb hby d12_2) rfl kk0) ?_
  refine Go.callS X0 hx hZ (y := (⟨"com/example/tidemark/tidemark/io/JsonBytesBeginArrayPinLaw", "step", "([BII)I"⟩ : MethodName)) (argsL := [(.ref d), (.int i), (.int en)]) (rest := []) hown (tw98 hw) (tw99 hw) (tw3 hw) (tw100 hw) (by decide) e0 (rmStep l Z a0 hw [] d N en i y h0 V hok) (g := (mkF m 3 #[.val (.ref d), .val (.int i), .val (.int en), .unset] [(.int en), (.int i), (.ref d)])) rfl (by rw [hml]; rfl) (lenOf pd6 rfl) rfl (W := 0) (by show 2 * 0 + _ ≤ _; exact Nat.le_of_eq rfl) (hb hby d12_3) (by decide) (by decide) (by decide) (by decide) ?_
  rintro T1 L1 v1 X1 ⟨rfl, rfl, hh1⟩
  show Go pr ev below _ T1 (mkF m 6 #[.val (.ref d), .val (.int i), .val (.int en), .unset] [(.int (own_step y en i))])
  refine Go.of (mkF m 7 #[.val (.ref d), .val (.int i), .val (.int en), .val (.int (own_step y en i))] []) (fun tt0 kk0 => XS.istoreN X1.here hx rfl (hb hby d12_6) rfl (l' := #[.val (.ref d), .val (.int i), .val (.int en), .val (.int (own_step y en i))]) rfl kk0) ?_
  refine Go.of (mkF m 8 #[.val (.ref d), .val (.int i), .val (.int en), .val (.int (own_step y en i))] [(.ref d)]) (fun tt0 kk0 => XS.aloadN X1.here hx rfl (hb hby d12_7) rfl rfl kk0) ?_
  refine Go.of (mkF m 9 #[.val (.ref d), .val (.int i), .val (.int en), .val (.int (own_step y en i))] [(.int (own_step y en i)), (.ref d)]) (fun tt0 kk0 => XS.iloadN X1.here hx rfl (hb hby d12_8) rfl kk0) ?_
  refine Go.of (mkF m 10 #[.val (.ref d), .val (.int i), .val (.int en), .val (.int (own_step y en i))] [(.int en), (.int (own_step y en i)), (.ref d)]) (fun tt0 kk0 => XS.iloadN X1.here hx rfl (hb hby d12_9) rfl kk0) ?_
  refine Go.callS X1 hx hZ (y := (⟨"com/example/tidemark/tidemark/io/JsonBytesBeginArrayPinLaw", "step", "([BII)I"⟩ : MethodName)) (argsL := [(.ref d), (.int (own_step y en i)), (.int en)]) (rest := []) hown (tw98 hw) (tw99 hw) (tw3 hw) (tw100 hw) (by decide) hh1 (rmStep l Z a0 hw [] d N en (own_step y en i) y h0 V (own_step_ok hok)) (g := (mkF m 10 #[.val (.ref d), .val (.int i), .val (.int en), .val (.int (own_step y en i))] [(.int en), (.int (own_step y en i)), (.ref d)])) rfl (by rw [hml]; rfl) (lenOf pd6 rfl) rfl (W := 0) (by show 2 * 0 + _ ≤ _; exact Nat.le_of_eq rfl) (hb hby d12_10) (by decide) (by decide) (by decide) (by decide) ?_
  rintro T2 L2 v2 X2 ⟨rfl, rfl, hh2⟩
  show Go pr ev below _ T2 (mkF m 13 #[.val (.ref d), .val (.int i), .val (.int en), .val (.int (own_step y en i))] [(.int (own_step y en (own_step y en i)))])
  refine Go.of (mkF m 14 #[.val (.ref d), .val (.int i), .val (.int en), .val (.int (own_step y en (own_step y en i)))] []) (fun tt0 kk0 => XS.istoreN X2.here hx rfl (hb hby d12_13) rfl (l' := #[.val (.ref d), .val (.int i), .val (.int en), .val (.int (own_step y en (own_step y en i)))]) rfl kk0) ?_
  refine Go.of (mkF m 15 #[.val (.ref d), .val (.int i), .val (.int en), .val (.int (own_step y en (own_step y en i)))] [(.ref d)]) (fun tt0 kk0 => XS.aloadN X2.here hx rfl (hb hby d12_14) rfl rfl kk0) ?_
  refine Go.of (mkF m 16 #[.val (.ref d), .val (.int i), .val (.int en), .val (.int (own_step y en (own_step y en i)))] [(.int (own_step y en (own_step y en i))), (.ref d)]) (fun tt0 kk0 => XS.iloadN X2.here hx rfl (hb hby d12_15) rfl kk0) ?_
  refine Go.of (mkF m 17 #[.val (.ref d), .val (.int i), .val (.int en), .val (.int (own_step y en (own_step y en i)))] [(.int en), (.int (own_step y en (own_step y en i))), (.ref d)]) (fun tt0 kk0 => XS.iloadN X2.here hx rfl (hb hby d12_16) rfl kk0) ?_
  refine Go.callS X2 hx hZ (y := (⟨"com/example/tidemark/tidemark/io/JsonBytesBeginArrayPinLaw", "step", "([BII)I"⟩ : MethodName)) (argsL := [(.ref d), (.int (own_step y en (own_step y en i))), (.int en)]) (rest := []) hown (tw98 hw) (tw99 hw) (tw3 hw) (tw100 hw) (by decide) hh2 (rmStep l Z a0 hw [] d N en (own_step y en (own_step y en i)) y h0 V (own_step_ok (own_step_ok hok))) (g := (mkF m 17 #[.val (.ref d), .val (.int i), .val (.int en), .val (.int (own_step y en (own_step y en i)))] [(.int en), (.int (own_step y en (own_step y en i))), (.ref d)])) rfl (by rw [hml]; rfl) (lenOf pd6 rfl) rfl (W := 0) (by show 2 * 0 + _ ≤ _; exact Nat.le_of_eq rfl) (hb hby d12_17) (by decide) (by decide) (by decide) (by decide) ?_
  rintro T3 L3 v3 X3 ⟨rfl, rfl, hh3⟩
  show Go pr ev below _ T3 (mkF m 20 #[.val (.ref d), .val (.int i), .val (.int en), .val (.int (own_step y en (own_step y en i)))] [(.int (own_step y en (own_step y en (own_step y en i))))])
  refine Go.of (mkF m 21 #[.val (.ref d), .val (.int i), .val (.int en), .val (.int (own_step y en (own_step y en (own_step y en i))))] []) (fun tt0 kk0 => XS.istoreN X3.here hx rfl (hb hby d12_20) rfl (l' := #[.val (.ref d), .val (.int i), .val (.int en), .val (.int (own_step y en (own_step y en (own_step y en i))))]) rfl kk0) ?_
  refine Go.of (mkF m 22 #[.val (.ref d), .val (.int i), .val (.int en), .val (.int (own_step y en (own_step y en (own_step y en i))))] [(.ref d)]) (fun tt0 kk0 => XS.aloadN X3.here hx rfl (hb hby d12_21) rfl rfl kk0) ?_
  refine Go.of (mkF m 23 #[.val (.ref d), .val (.int i), .val (.int en), .val (.int (own_step y en (own_step y en (own_step y en i))))] [(.int (own_step y en (own_step y en (own_step y en i)))), (.ref d)]) (fun tt0 kk0 => XS.iloadN X3.here hx rfl (hb hby d12_22) rfl kk0) ?_
  refine Go.of (mkF m 24 #[.val (.ref d), .val (.int i), .val (.int en), .val (.int (own_step y en (own_step y en (own_step y en i))))] [(.int en), (.int (own_step y en (own_step y en (own_step y en i)))), (.ref d)]) (fun tt0 kk0 => XS.iloadN X3.here hx rfl (hb hby d12_23) rfl kk0) ?_
  refine Go.callS X3 hx hZ (y := (⟨"com/example/tidemark/tidemark/io/JsonBytesBeginArrayPinLaw", "step", "([BII)I"⟩ : MethodName)) (argsL := [(.ref d), (.int (own_step y en (own_step y en (own_step y en i)))), (.int en)]) (rest := []) hown (tw98 hw) (tw99 hw) (tw3 hw) (tw100 hw) (by decide) hh3 (rmStep l Z a0 hw [] d N en (own_step y en (own_step y en (own_step y en i))) y h0 V (own_step_ok (own_step_ok (own_step_ok hok)))) (g := (mkF m 24 #[.val (.ref d), .val (.int i), .val (.int en), .val (.int (own_step y en (own_step y en (own_step y en i))))] [(.int en), (.int (own_step y en (own_step y en (own_step y en i)))), (.ref d)])) rfl (by rw [hml]; rfl) (lenOf pd6 rfl) rfl (W := 0) (by show 2 * 0 + _ ≤ _; exact Nat.le_of_eq rfl) (hb hby d12_24) (by decide) (by decide) (by decide) (by decide) ?_
  rintro T4 L4 v4 X4 ⟨rfl, rfl, hh4⟩
  show Go pr ev below _ T4 (mkF m 27 #[.val (.ref d), .val (.int i), .val (.int en), .val (.int (own_step y en (own_step y en (own_step y en i))))] [(.int (own_step y en (own_step y en (own_step y en (own_step y en i)))))])
  refine Go.of (mkF m 28 #[.val (.ref d), .val (.int i), .val (.int en), .val (.int (own_step y en (own_step y en (own_step y en (own_step y en i)))))] []) (fun tt0 kk0 => XS.istoreN X4.here hx rfl (hb hby d12_27) rfl (l' := #[.val (.ref d), .val (.int i), .val (.int en), .val (.int (own_step y en (own_step y en (own_step y en (own_step y en i)))))]) rfl kk0) ?_
  refine Go.of (mkF m 29 #[.val (.ref d), .val (.int i), .val (.int en), .val (.int (own_step y en (own_step y en (own_step y en (own_step y en i)))))] [(.ref d)]) (fun tt0 kk0 => XS.aloadN X4.here hx rfl (hb hby d12_28) rfl rfl kk0) ?_
  refine Go.of (mkF m 30 #[.val (.ref d), .val (.int i), .val (.int en), .val (.int (own_step y en (own_step y en (own_step y en (own_step y en i)))))] [(.int (own_step y en (own_step y en (own_step y en (own_step y en i))))), (.ref d)]) (fun tt0 kk0 => XS.iloadN X4.here hx rfl (hb hby d12_29) rfl kk0) ?_
  refine Go.of (mkF m 31 #[.val (.ref d), .val (.int i), .val (.int en), .val (.int (own_step y en (own_step y en (own_step y en (own_step y en i)))))] [(.int en), (.int (own_step y en (own_step y en (own_step y en (own_step y en i))))), (.ref d)]) (fun tt0 kk0 => XS.iloadN X4.here hx rfl (hb hby d12_30) rfl kk0) ?_
  refine Go.callS X4 hx hZ (y := (⟨"com/example/tidemark/tidemark/io/JsonBytesBeginArrayPinLaw", "step", "([BII)I"⟩ : MethodName)) (argsL := [(.ref d), (.int (own_step y en (own_step y en (own_step y en (own_step y en i))))), (.int en)]) (rest := []) hown (tw98 hw) (tw99 hw) (tw3 hw) (tw100 hw) (by decide) hh4 (rmStep l Z a0 hw [] d N en (own_step y en (own_step y en (own_step y en (own_step y en i)))) y h0 V (own_step_ok (own_step_ok (own_step_ok (own_step_ok hok))))) (g := (mkF m 31 #[.val (.ref d), .val (.int i), .val (.int en), .val (.int (own_step y en (own_step y en (own_step y en (own_step y en i)))))] [(.int en), (.int (own_step y en (own_step y en (own_step y en (own_step y en i))))), (.ref d)])) rfl (by rw [hml]; rfl) (lenOf pd6 rfl) rfl (W := 0) (by show 2 * 0 + _ ≤ _; exact Nat.le_of_eq rfl) (hb hby d12_31) (by decide) (by decide) (by decide) (by decide) ?_
  rintro T5 L5 v5 X5 ⟨rfl, rfl, hh5⟩
  show Go pr ev below _ T5 (mkF m 34 #[.val (.ref d), .val (.int i), .val (.int en), .val (.int (own_step y en (own_step y en (own_step y en (own_step y en i)))))] [(.int (own_step y en (own_step y en (own_step y en (own_step y en (own_step y en i))))))])
  refine Go.of (mkF m 35 #[.val (.ref d), .val (.int i), .val (.int en), .val (.int (own_step y en (own_step y en (own_step y en (own_step y en (own_step y en i))))))] []) (fun tt0 kk0 => XS.istoreN X5.here hx rfl (hb hby d12_34) rfl (l' := #[.val (.ref d), .val (.int i), .val (.int en), .val (.int (own_step y en (own_step y en (own_step y en (own_step y en (own_step y en i))))))]) rfl kk0) ?_
  refine Go.of (mkF m 36 #[.val (.ref d), .val (.int i), .val (.int en), .val (.int (own_step y en (own_step y en (own_step y en (own_step y en (own_step y en i))))))] [(.int (own_step y en (own_step y en (own_step y en (own_step y en (own_step y en i))))))]) (fun tt0 kk0 => XS.iloadN X5.here hx rfl (hb hby d12_35) rfl kk0) ?_
  exact Go.retW X5 hx (t := .int) hret hlk rfl (Or.inl ⟨rfl, by simp, _, rfl⟩) (hb hby d12_36) (by decide) (by decide) ⟨rfl, by simp, hh5⟩
theorem ef_rmAC (m : MethodId) (x0 : Addr) : entryFrame m #[(.ref x0)] 1 = mkF m 0 #[.val (.ref x0)] [] := by first | (simp [entryFrame, mkF, argsToLocals, Value.category]; done) | rfl
set_option maxRecDepth 65536 in
set_option maxHeartbeats 40000000 in
theorem rmAC (l : Launch) (Z : State) (a0 : Array Value) (hw : ∀ d ∈ tables_1, d.before a0 Z = true) (ws : List Jvm.Cond) (a : Addr) (h0 : Heap) :
    Met l Z (⟨"java/util/AbstractCollection", "<init>", "()V"⟩ : MethodName) jdk_22_method_1_code 1 none ws ({ frames := 1, cells := 0, slots := 0, locals := 12 } : Room) #[(.ref a)] h0 (fun v h L => v = none ∧ L = [] ∧ h = h0) := by
  refine Met.intro pn7 ?_
  intro pr ev s m below meth c T0 X0 hx hZ hown hby hml hret hlk hnm e0
  refine Go.cast (ef_rmAC m a) ?_
  refine Go.of (mkF m 1 #[.val (.ref a)] [(.ref a)]) (fun tt0 kk0 => XS.aloadN X0.here hx rfl (hb hby d9_0) rfl rfl kk0) ?_
  obtain ⟨T1, X1, e1, st1⟩ := initO X0 hx hZ hown (tw65 hw) (tw18 hw) (tw19 hw) e0 (g := (mkF m 1 #[.val (.ref a)] [(.ref a)])) rfl (by rw [hml]; rfl) rfl (hb hby d9_1) (by decide) (W := 0) (by show 2 * 0 + _ ≤ _; exact Nat.le_of_eq rfl) (by decide)
  refine Go.of (mkF m 4 #[.val (.ref a)] []) (st1) ?_
  exact Go.retV X1 hx hret hlk (hb hby d9_4) (by decide) (by decide) ⟨rfl, rfl, e1⟩
theorem ef_rmAM (m : MethodId) (x0 : Addr) : entryFrame m #[(.ref x0)] 1 = mkF m 0 #[.val (.ref x0)] [] := by first | (simp [entryFrame, mkF, argsToLocals, Value.category]; done) | rfl
set_option maxRecDepth 65536 in
set_option maxHeartbeats 40000000 in
theorem rmAM (l : Launch) (Z : State) (a0 : Array Value) (hw : ∀ d ∈ tables_1, d.before a0 Z = true) (ws : List Jvm.Cond) (a : Addr) (h0 : Heap) :
    Met l Z (⟨"java/util/AbstractMap", "<init>", "()V"⟩ : MethodName) jdk_71_method_1_code 1 none ws ({ frames := 1, cells := 0, slots := 0, locals := 12 } : Room) #[(.ref a)] h0 (fun v h L => v = none ∧ L = [] ∧ h = h0) := by
  refine Met.intro pn8 ?_
  intro pr ev s m below meth c T0 X0 hx hZ hown hby hml hret hlk hnm e0
  refine Go.cast (ef_rmAM m a) ?_
  refine Go.of (mkF m 1 #[.val (.ref a)] [(.ref a)]) (fun tt0 kk0 => XS.aloadN X0.here hx rfl (hb hby d11_0) rfl rfl kk0) ?_
  obtain ⟨T1, X1, e1, st1⟩ := initO X0 hx hZ hown (tw79 hw) (tw18 hw) (tw19 hw) e0 (g := (mkF m 1 #[.val (.ref a)] [(.ref a)])) rfl (by rw [hml]; rfl) rfl (hb hby d11_1) (by decide) (W := 0) (by show 2 * 0 + _ ≤ _; exact Nat.le_of_eq rfl) (by decide)
  refine Go.of (mkF m 4 #[.val (.ref a)] []) (st1) ?_
  exact Go.retV X1 hx hret hlk (hb hby d11_4) (by decide) (by decide) ⟨rfl, rfl, e1⟩
theorem ef_rmAS (m : MethodId) (x0 : Addr) : entryFrame m #[(.ref x0)] 1 = mkF m 0 #[.val (.ref x0)] [] := by first | (simp [entryFrame, mkF, argsToLocals, Value.category]; done) | rfl
set_option maxRecDepth 65536 in
set_option maxHeartbeats 40000000 in
theorem rmAS (l : Launch) (Z : State) (a0 : Array Value) (hw : ∀ d ∈ tables_1, d.before a0 Z = true) (ws : List Jvm.Cond) (a : Addr) (h0 : Heap) :
    Met l Z (⟨"java/util/AbstractSet", "<init>", "()V"⟩ : MethodName) jdk_91_method_1_code 1 none ws ({ frames := 2, cells := 0, slots := 0, locals := 24 } : Room) #[(.ref a)] h0 (fun v h L => v = none ∧ L = [] ∧ h = h0) := by
  refine Met.intro pn9 ?_
  intro pr ev s m below meth c T0 X0 hx hZ hown hby hml hret hlk hnm e0
  refine Go.cast (ef_rmAS m a) ?_
  refine Go.of (mkF m 1 #[.val (.ref a)] [(.ref a)]) (fun tt0 kk0 => XS.aloadN X0.here hx rfl (hb hby d8_0) rfl rfl kk0) ?_
  refine Go.init X0 hx hZ (y := (⟨"java/util/AbstractCollection", "<init>", "()V"⟩ : MethodName)) (a := a) (argsL := []) (rest := []) hown rfl (tw59 hw) (tw60 hw) (tw63 hw) (tw64 hw) (by decide) e0 (rmAC l Z a0 hw [] a h0) (g := (mkF m 1 #[.val (.ref a)] [(.ref a)])) rfl (by rw [hml]; rfl) (lenOf pd10 rfl) rfl (W := 0) (by show 2 * 0 + _ ≤ _; exact Nat.le_of_eq rfl) (hb hby d8_1) (by decide) (by decide) (by decide) (by decide) ?_
  rintro T1 L1 v1 X1 ⟨rfl, rfl, hh1⟩
  show Go pr ev below _ T1 (mkF m 4 #[.val (.ref a)] [])
  exact Go.retV X1 hx hret hlk (hb hby d8_4) (by decide) (by decide) ⟨rfl, by simp, hh1⟩
theorem ef_rmHM (m : MethodId) (x0 : Addr) : entryFrame m #[(.ref x0)] 1 = mkF m 0 #[.val (.ref x0)] [] := by first | (simp [entryFrame, mkF, argsToLocals, Value.category]; done) | rfl
set_option maxRecDepth 65536 in
set_option maxHeartbeats 40000000 in
theorem rmHM (l : Launch) (Z : State) (a0 : Array Value) (hw : ∀ d ∈ tables_1, d.before a0 Z = true) (ws : List Jvm.Cond) (a : Addr) (h0 : Heap) (n0 : Nat) (hz0 : n0 ≤ h0.size) (E : Exa Z h0 a "java/util/HashMap") (ga : n0 ≤ a) (F : Fld Z h0 a "java/util/HashMap" "loadFactor" "F" (.float (0 : UInt32))) :
    Met l Z (⟨"java/util/HashMap", "<init>", "()V"⟩ : MethodName) jdk_69_method_7_code 1 none ws ({ frames := 2, cells := 0, slots := 0, locals := 24 } : Room) #[(.ref a)] h0 (fun v h L => v = none ∧ Fr n0 L ∧ Keep h0 h [a]) := by
  refine Met.intro pn11 ?_
  intro pr ev s m below meth c T0 X0 hx hZ hown hby hml hret hlk hnm e0
  refine Go.cast (ef_rmHM m a) ?_
  have N0 := Fr.nil n0
  have hz := hz0
  have K0 : Keep h0 h0 [a] := Keep.refl h0 _
  refine Go.of (mkF m 1 #[.val (.ref a)] [(.ref a)]) (fun tt0 kk0 => XS.aloadN X0.here hx rfl (hb hby d10_0) rfl rfl kk0) ?_
  refine Go.init X0 hx hZ (y := (⟨"java/util/AbstractMap", "<init>", "()V"⟩ : MethodName)) (a := a) (argsL := []) (rest := []) hown rfl (tw73 hw) (tw74 hw) (tw77 hw) (tw78 hw) (by decide) e0 (rmAM l Z a0 hw [] a h0) (g := (mkF m 1 #[.val (.ref a)] [(.ref a)])) rfl (by rw [hml]; rfl) (lenOf pd10 rfl) rfl (W := 0) (by show 2 * 0 + _ ≤ _; exact Nat.le_of_eq rfl) (hb hby d10_1) (by decide) (by decide) (by decide) (by decide) ?_
  rintro T1 L1 v1 X1 ⟨rfl, rfl, hh1⟩
  have N1 := Fr.app N0 (Fr.nil n0)
  show Go pr ev below _ T1 (mkF m 4 #[.val (.ref a)] [])
  refine Go.of (mkF m 5 #[.val (.ref a)] [(.ref a)]) (fun tt0 kk0 => XS.aloadN X1.here hx rfl (hb hby d10_4) rfl rfl kk0) ?_
  refine Go.of (mkF m 7 #[.val (.ref a)] [(.float (1061158912 : UInt32)), (.ref a)]) (fun tt0 kk0 => X1.ldcFloatC hx hown (mvT hZ (tw80 hw)) (g := (mkF m 5 #[.val (.ref a)] [(.ref a)])) rfl (hb hby d10_5) _ kk0) ?_
  obtain ⟨T2, h2, X2, e2, W2, st2⟩ := putF X1 hx hZ hown (host := "") (Or.inl (tw81 hw)) Via.refl hh1 F E (Or.inr ⟨(tw82 hw), rfl, hnm⟩) (tw67 hw) (ty := .float) (by decide) rfl rfl (g := (mkF m 7 #[.val (.ref a)] [(.float (1061158912 : UInt32)), (.ref a)])) rfl rfl (hb hby d10_7)
  replace F := F.same W2
  replace E := E.wr W2
  replace hz := Nat.le_trans hz (Nat.le_of_eq W2.size.symm)
  replace K0 := K0.wr W2 (Or.inl (by simp))
  have N2 := Fr.snoc X2 N1 ga
  refine Go.of (mkF m 10 #[.val (.ref a)] []) (st2) ?_
  exact Go.retV X2 hx hret hlk (hb hby d10_10) (by decide) (by decide) (by rw [e2]; exact ⟨rfl, N2, K0⟩)
theorem ef_rmHS (m : MethodId) (x0 : Addr) : entryFrame m #[(.ref x0)] 1 = mkF m 0 #[.val (.ref x0)] [] := by first | (simp [entryFrame, mkF, argsToLocals, Value.category]; done) | rfl
set_option maxRecDepth 65536 in
set_option maxHeartbeats 40000000 in
theorem rmHS (l : Launch) (Z : State) (a0 : Array Value) (hw : ∀ d ∈ tables_1, d.before a0 Z = true) (ws : List Jvm.Cond) (a : Addr) (h0 : Heap) (n0 : Nat) (hz0 : n0 ≤ h0.size) (E : Exa Z h0 a "java/util/HashSet") (ga : n0 ≤ a) (F : Fld Z h0 a "java/util/HashSet" "map" "Ljava/util/HashMap;" .null) :
    Met l Z (⟨"java/util/HashSet", "<init>", "()V"⟩ : MethodName) jdk_93_method_1_code 1 none ws ({ frames := 3, cells := 1, slots := 8, locals := 38 } : Room) #[(.ref a)] h0 (fun v h L => v = none ∧ Fr n0 L ∧ Keep h0 h [a]) := by
  refine Met.intro pn12 ?_
  intro pr ev s m below meth c T0 X0 hx hZ hown hby hml hret hlk hnm e0
  refine Go.cast (ef_rmHS m a) ?_
  have N0 := Fr.nil n0
  have hz := hz0
  have K0 : Keep h0 h0 [a] := Keep.refl h0 _
  refine Go.of (mkF m 1 #[.val (.ref a)] [(.ref a)]) (fun tt0 kk0 => XS.aloadN X0.here hx rfl (hb hby d7_0) rfl rfl kk0) ?_
  refine Go.init X0 hx hZ (y := (⟨"java/util/AbstractSet", "<init>", "()V"⟩ : MethodName)) (a := a) (argsL := []) (rest := []) hown rfl (tw53 hw) (tw54 hw) (tw57 hw) (tw58 hw) (by decide) e0 (rmAS l Z a0 hw [] a h0) (g := (mkF m 1 #[.val (.ref a)] [(.ref a)])) rfl (by rw [hml]; rfl) (lenOf pd10 rfl) rfl (W := 0) (by show 2 * 0 + _ ≤ _; exact Nat.le_of_eq rfl) (hb hby d7_1) (by decide) (by decide) (by decide) (by decide) ?_
  rintro T1 L1 v1 X1 ⟨rfl, rfl, hh1⟩
  have N1 := Fr.app N0 (Fr.nil n0)
  show Go pr ev below _ T1 (mkF m 4 #[.val (.ref a)] [])
  refine Go.of (mkF m 5 #[.val (.ref a)] [(.ref a)]) (fun tt0 kk0 => XS.aloadN X1.here hx rfl (hb hby d7_4) rfl rfl kk0) ?_
  obtain ⟨T2, h2, X2, e2, E2, A2, D2, -, st2⟩ := newO X1 hx hZ hown (tw66 hw) (tw67 hw) (tw68 hw) hh1 (g := (mkF m 5 #[.val (.ref a)] [(.ref a)])) rfl (hb hby d7_5) (by decide) (by decide)
  obtain ⟨b2, g2⟩ : ∃ z, z = h0.size := ⟨_, rfl⟩
  rw [← g2] at A2 D2 st2
  have ne_a_b2 : a ≠ b2 := Nat.ne_of_lt (Nat.lt_of_lt_of_le E.lt (Nat.le_of_eq g2.symm))
  have gb_b2 : n0 ≤ b2 := Nat.le_trans hz (Nat.le_of_eq g2.symm)
  have sz_b2 : h0.size ≤ b2 := Nat.le_trans K0.1 (Nat.le_of_eq g2.symm)
  replace F := F.ext E2
  replace E := E.ext E2
  replace hz := Nat.le_trans hz E2.1
  replace K0 := K0.ext E2
  have F_b2_loadFactor : Fld Z h2 b2 "java/util/HashMap" "loadFactor" "F" (.float (0 : UInt32)) := D2 (Or.inr (tw82 hw)) (ty := .float) (by decide)
  refine Go.of (mkF m 8 #[.val (.ref a)] [(.ref b2), (.ref a)]) (st2) ?_
  refine Go.of (mkF m 9 #[.val (.ref a)] [(.ref b2), (.ref b2), (.ref a)]) (fun tt0 kk0 => XS.dup X2.here hx rfl (hb hby d7_8) rfl rfl kk0) ?_
  refine Go.init X2 hx hZ (y := (⟨"java/util/HashMap", "<init>", "()V"⟩ : MethodName)) (a := b2) (argsL := []) (rest := [(.ref b2), (.ref a)]) hown rfl (tw69 hw) (tw70 hw) (tw68 hw) (tw72 hw) (by decide) e2 (rmHM l Z a0 hw [] b2 h2 n0 hz A2 gb_b2 F_b2_loadFactor) (g := (mkF m 9 #[.val (.ref a)] [(.ref b2), (.ref b2), (.ref a)])) rfl (by rw [hml]; rfl) (lenOf pd10 rfl) rfl (W := 2) (by show 2 * 0 + _ ≤ _; exact Nat.le_of_eq rfl) (hb hby d7_9) (by decide) (by decide) (by decide) (by decide) ?_
  rintro T3 L3 v3 X3 ⟨rfl, NL3, K3⟩
  have N3 := Fr.app N1 NL3
  replace F := F.keep K3 (ninS ne_a_b2 nin0)
  replace E := E.keep K3
  replace A2 := A2.keep K3
  replace hz := Nat.le_trans hz K3.1
  replace K0 := K0.trans K3 (((allS (Or.inr sz_b2) all0)))
  show Go pr ev below _ T3 (mkF m 12 #[.val (.ref a)] [(.ref b2), (.ref a)])
  obtain ⟨T4, h4, X4, e4, W4, st4⟩ := putF X3 hx hZ hown (host := "") (Or.inl (tw83 hw)) Via.refl rfl F E (Or.inl (tw84 hw)) (tw48 hw) (ty := (.object "java/util/HashMap")) (by decide) rfl rfl (g := (mkF m 12 #[.val (.ref a)] [(.ref b2), (.ref a)])) rfl rfl (hb hby d7_12)
  replace F := F.same W4
  replace E := E.wr W4
  replace A2 := A2.wr W4
  replace hz := Nat.le_trans hz (Nat.le_of_eq W4.size.symm)
  replace K0 := K0.wr W4 (Or.inl (by simp))
  have N4 := Fr.snoc X4 N3 ga
  refine Go.of (mkF m 15 #[.val (.ref a)] []) (st4) ?_
  exact Go.retV X4 hx hret hlk (hb hby d7_15) (by decide) (by decide) (by rw [e4]; exact ⟨rfl, N4, K0⟩)
theorem ef_rmLO (m : MethodId) (x0 : Addr) : entryFrame m #[(.ref x0)] 2 = mkF m 0 #[.val (.ref x0), .unset] [] := by first | (simp [entryFrame, mkF, argsToLocals, Value.category]; done) | rfl
set_option maxRecDepth 65536 in
set_option maxHeartbeats 40000000 in
theorem rmLO (l : Launch) (Z : State) (a0 : Array Value) (hw : ∀ d ∈ tables_1, d.before a0 Z = true) (ws : List Jvm.Cond) (a u : Addr) (ty : FieldType) (yv : Int32 → Value) (h0 : Heap) (V : Fa Z h0 a ty 0 yv) (S1 : Sta Z h0 "java/util/ImmutableCollections" "EMPTY_LIST" "Ljava/util/ImmutableCollections$ListN;" (.ref u)) :
    Met l Z (⟨"java/util/List", "of", "([Ljava/lang/Object;)Ljava/util/List;"⟩ : MethodName) jdk_40_method_47_code 2 (some (.object "java/util/List")) ws ({ frames := 0, cells := 0, slots := 0, locals := 0 } : Room) #[(.ref a)] h0 (fun v h L => v = some (.ref u) ∧ L = [] ∧ h = h0) := by
  refine Met.intro pn13 ?_
  intro pr ev s m below meth c T0 X0 hx hZ hown hby hml hret hlk hnm e0
  refine Go.cast (ef_rmLO m a) ?_
  refine Go.of (mkF m 1 #[.val (.ref a), .unset] [(.ref a)]) (fun tt0 kk0 => XS.aloadN X0.here hx rfl (hb hby d4_0) rfl rfl kk0) ?_
  refine Go.arraylength X0 hx hZ e0 V (g := (mkF m 1 #[.val (.ref a), .unset] [(.ref a)])) rfl rfl (hb hby d4_1) ?_
  show Go pr ev below _ T0 (mkF m 2 #[.val (.ref a), .unset] [(.int (0 : Int32))])
  refine Go.of (mkF m 28 #[.val (.ref a), .unset] []) (fun t kk => X0.tableswitchIn hx (g := (mkF m 2 #[.val (.ref a), .unset] [(.int (0 : Int32))])) rfl rfl (hb hby d4_2) (by decide) (off := 26) rfl (by show (0 : Int) ≤ ((2 : Nat) : Int) + 26; decide) _ kk) ?_
  obtain ⟨T1, X1, e1, st1⟩ := getS2 X0 hx hZ hown (host := "") (Or.inl (tw24 hw)) Via.refl e0 S1 (g := (mkF m 28 #[.val (.ref a), .unset] [])) rfl (hb hby d4_28)
  refine Go.of (mkF m 31 #[.val (.ref a), .unset] [(.ref u)]) (st1) ?_
  refine Go.of (mkF m 32 #[.val (.ref a), .val (.ref u)] []) (fun tt0 kk0 => XS.astoreN X1.here hx rfl (hb hby d4_31) rfl rfl (l' := #[.val (.ref a), .val (.ref u)]) rfl kk0) ?_
  refine Go.of (mkF m 33 #[.val (.ref a), .val (.ref u)] [(.ref u)]) (fun tt0 kk0 => XS.aloadN X1.here hx rfl (hb hby d4_32) rfl rfl kk0) ?_
  exact Go.retW X1 hx (t := (.object "java/util/List")) hret hlk rfl (Or.inr (Or.inr (Or.inr (Or.inr ⟨rfl, rfl, rfl⟩)))) (hb hby d4_33) (by decide) (by decide) ⟨rfl, rfl, e1⟩
theorem ef_rmFill (m : MethodId) (x0 : Addr) (x1 : Addr) : entryFrame m #[(.ref x0), (.ref x1)] 4 = mkF m 0 #[.val (.ref x0), .val (.ref x1), .unset, .unset] [] := by first | (simp [entryFrame, mkF, argsToLocals, Value.category]; done) | rfl
set_option maxRecDepth 65536 in
set_option maxHeartbeats 40000000 in
theorem rmFill (l : Launch) (Z : State) (a0 : Array Value) (hw : ∀ d ∈ tables_1, d.before a0 Z = true) (ws : List Jvm.Cond) (a u : Addr) (yv : Int32 → Value) (h0 : Heap) (n0 : Nat) (hz0 : n0 ≤ h0.size) (ga : n0 ≤ a) (V : Fa Z h0 a (.array .int) 1 yv) (SO : Sto Z h0 a (.ref u)) :
    Met l Z (⟨"java/util/Arrays", "fill", "([Ljava/lang/Object;Ljava/lang/Object;)V"⟩ : MethodName) jdk_65_method_117_code 4 none ws ({ frames := 0, cells := 0, slots := 0, locals := 0 } : Room) #[(.ref a), (.ref u)] h0 (fun v h L => v = none ∧ Fr n0 L ∧ Keep h0 h [a]) := by
  refine Met.intro pn14 ?_
  intro pr ev s m below meth c T0 X0 hx hZ hown hby hml hret hlk hnm e0
  refine Go.cast (ef_rmFill m a u) ?_
  have N0 := Fr.nil n0
  have hz := hz0
  have K0 : Keep h0 h0 [a] := Keep.refl h0 _
  refine Go.of (mkF m 1 #[.val (.ref a), .val (.ref u), .unset, .unset] [(.int (0 : Int32))]) (fun tt0 kk0 => XS.iconst X0.here hx rfl (hb hby d5_0) kk0) ?_
  refine Go.of (mkF m 2 #[.val (.ref a), .val (.ref u), .val (.int (0 : Int32)), .unset] []) (fun tt0 kk0 => XS.istoreN X0.here hx rfl (hb hby d5_1) rfl (l' := #[.val (.ref a), .val (.ref u), .val (.int (0 : Int32)), .unset]) rfl kk0) ?_
  refine Go.of (mkF m 3 #[.val (.ref a), .val (.ref u), .val (.int (0 : Int32)), .unset] [(.ref a)]) (fun tt0 kk0 => XS.aloadN X0.here hx rfl (hb hby d5_2) rfl rfl kk0) ?_
  refine Go.arraylength X0 hx hZ e0 V (g := (mkF m 3 #[.val (.ref a), .val (.ref u), .val (.int (0 : Int32)), .unset] [(.ref a)])) rfl rfl (hb hby d5_3) ?_
  show Go pr ev below _ T0 (mkF m 4 #[.val (.ref a), .val (.ref u), .val (.int (0 : Int32)), .unset] [(.int (1 : Int32))])
  refine Go.of (mkF m 5 #[.val (.ref a), .val (.ref u), .val (.int (0 : Int32)), .val (.int (1 : Int32))] []) (fun tt0 kk0 => XS.istoreN X0.here hx rfl (hb hby d5_4) rfl (l' := #[.val (.ref a), .val (.ref u), .val (.int (0 : Int32)), .val (.int (1 : Int32))]) rfl kk0) ?_
  refine Go.of (mkF m 6 #[.val (.ref a), .val (.ref u), .val (.int (0 : Int32)), .val (.int (1 : Int32))] [(.int (0 : Int32))]) (fun tt0 kk0 => XS.iloadN X0.here hx rfl (hb hby d5_5) rfl kk0) ?_
  refine Go.of (mkF m 7 #[.val (.ref a), .val (.ref u), .val (.int (0 : Int32)), .val (.int (1 : Int32))] [(.int (1 : Int32)), (.int (0 : Int32))]) (fun tt0 kk0 => XS.iloadN X0.here hx rfl (hb hby d5_6) rfl kk0) ?_
  refine Go.of (mkF m 10 #[.val (.ref a), .val (.ref u), .val (.int (0 : Int32)), .val (.int (1 : Int32))] []) (fun tt0 kk0 => XS.icmpNo X0.here hx rfl (hb hby d5_7) rfl (tlt (by decide)).2.1 kk0) ?_
  refine Go.of (mkF m 11 #[.val (.ref a), .val (.ref u), .val (.int (0 : Int32)), .val (.int (1 : Int32))] [(.ref a)]) (fun tt0 kk0 => XS.aloadN X0.here hx rfl (hb hby d5_10) rfl rfl kk0) ?_
  refine Go.of (mkF m 12 #[.val (.ref a), .val (.ref u), .val (.int (0 : Int32)), .val (.int (1 : Int32))] [(.int (0 : Int32)), (.ref a)]) (fun tt0 kk0 => XS.iloadN X0.here hx rfl (hb hby d5_11) rfl kk0) ?_
  refine Go.of (mkF m 13 #[.val (.ref a), .val (.ref u), .val (.int (0 : Int32)), .val (.int (1 : Int32))] [(.ref u), (.int (0 : Int32)), (.ref a)]) (fun tt0 kk0 => XS.aloadN X0.here hx rfl (hb hby d5_12) rfl rfl kk0) ?_
  refine Go.aastore X0 hx hZ e0 V rfl rfl SO (by decide) (by decide) (g := (mkF m 13 #[.val (.ref a), .val (.ref u), .val (.int (0 : Int32)), .val (.int (1 : Int32))] [(.ref u), (.int (0 : Int32)), (.ref a)])) rfl rfl (hb hby d5_13) ?_
  rintro T1 h1 X1 e1 W1 V1
  replace hz := Nat.le_trans hz (Nat.le_of_eq W1.size.symm)
  replace K0 := K0.wr W1 (Or.inl (by simp))
  replace V := V1
  have N1 := Fr.snoc X1 N0 ga
  show Go pr ev below _ T1 (mkF m 14 #[.val (.ref a), .val (.ref u), .val (.int (0 : Int32)), .val (.int (1 : Int32))] [])
  refine Go.of (mkF m 17 #[.val (.ref a), .val (.ref u), .val (.int ((0 : Int32) + (1 : Int32))), .val (.int (1 : Int32))] []) (fun tt0 kk0 => XS.iinc X1.here hx rfl (hb hby d5_14) rfl (l' := #[.val (.ref a), .val (.ref u), .val (.int ((0 : Int32) + (1 : Int32))), .val (.int (1 : Int32))]) rfl kk0) ?_
  rw [show ((0 : Int32) + (1 : Int32)) = (1 : Int32) from by decide]
  refine Go.of (mkF m 5 #[.val (.ref a), .val (.ref u), .val (.int (1 : Int32)), .val (.int (1 : Int32))] []) (fun tt0 kk0 => XS.goto X1.here hx rfl (pc0 := 17) (pc' := 5) rfl (hb hby d5_17) (by decide) (by decide) kk0) ?_
  refine Go.of (mkF m 6 #[.val (.ref a), .val (.ref u), .val (.int (1 : Int32)), .val (.int (1 : Int32))] [(.int (1 : Int32))]) (fun tt0 kk0 => XS.iloadN X1.here hx rfl (hb hby d5_5) rfl kk0) ?_
  refine Go.of (mkF m 7 #[.val (.ref a), .val (.ref u), .val (.int (1 : Int32)), .val (.int (1 : Int32))] [(.int (1 : Int32)), (.int (1 : Int32))]) (fun tt0 kk0 => XS.iloadN X1.here hx rfl (hb hby d5_6) rfl kk0) ?_
  refine Go.of (mkF m 20 #[.val (.ref a), .val (.ref u), .val (.int (1 : Int32)), .val (.int (1 : Int32))] []) (fun tt0 kk0 => XS.icmpYes X1.here hx rfl (pc0 := 7) (pc' := 20) rfl (hb hby d5_7) rfl (flt (by decide)).2.1 (by decide) (by decide) kk0) ?_
  exact Go.retV X1 hx hret hlk (hb hby d5_20) (by decide) (by decide) (by rw [e1]; exact ⟨rfl, N1, K0⟩)
theorem ef_rmF (m : MethodId) (x0 : Addr) (x1 : Addr) : entryFrame m #[(.ref x0), (.ref x1)] 5 = mkF m 0 #[.val (.ref x0), .val (.ref x1), .unset, .unset, .unset] [] := by first | (simp [entryFrame, mkF, argsToLocals, Value.category]; done) | rfl
set_option maxRecDepth 65536 in
set_option maxHeartbeats 40000000 in
theorem rmF (l : Launch) (Z : State) (a0 : Array Value) (hw : ∀ d ∈ tables_1, d.before a0 Z = true) (ws : List Jvm.Cond) (a d u np : Addr) (yv : Int32 → Value) (h0 : Heap) (n0 : Nat) (hz0 : n0 ≤ h0.size) (E : Exa Z h0 a "com/example/tidemark/tidemark/io/JsonBytes$Fields") (ga : n0 ≤ a) (G0 : Fld Z h0 a "com/example/tidemark/tidemark/io/JsonBytes$Fields" "names" "Ljava/util/List;" .null) (G1 : Fld Z h0 a "com/example/tidemark/tidemark/io/JsonBytes$Fields" "spelled" "[[B" .null) (G2 : Fld Z h0 a "com/example/tidemark/tidemark/io/JsonBytes$Fields" "byLength" "[[I" .null) (V : Fa Z h0 d (.object "java/lang/String") 0 yv) (ne : a ≠ d) (S1 : Sta Z h0 "java/util/ImmutableCollections" "EMPTY_LIST" "Ljava/util/ImmutableCollections$ListN;" (.ref u)) (S2 : Sta Z h0 "com/example/tidemark/tidemark/io/JsonBytes$Fields" "NO_PLACES" "[I" (.ref np)) (En : Exa Z h0 np "[I") :
    Met l Z (⟨"com/example/tidemark/tidemark/io/JsonBytes$Fields", "<init>", "([Ljava/lang/String;)V"⟩ : MethodName) prog_3_method_1_code 5 none ws ({ frames := 1, cells := 2, slots := 1, locals := 15 } : Room) #[(.ref a), (.ref d)] h0 (fun v h L => v = none ∧ Fr n0 L ∧ Keep h0 h [a]) := by
  refine Met.intro pn15 ?_
  intro pr ev s m below meth c T0 X0 hx hZ hown hby hml hret hlk hnm e0
  refine Go.cast (ef_rmF m a d) ?_
  have N0 := Fr.nil n0
  have hz := hz0
  have K0 : Keep h0 h0 [a] := Keep.refl h0 _
  refine Go.of (mkF m 1 #[.val (.ref a), .val (.ref d), .unset, .unset, .unset] [(.ref a)]) (fun tt0 kk0 => XS.aloadN X0.here hx rfl (hb hby d2_0) rfl rfl kk0) ?_
  obtain ⟨T1, X1, e1, st1⟩ := initO X0 hx hZ hown (tw17 hw) (tw18 hw) (tw19 hw) e0 (g := (mkF m 1 #[.val (.ref a), .val (.ref d), .unset, .unset, .unset] [(.ref a)])) rfl (by rw [hml]; rfl) rfl (hb hby d2_1) (by decide) (W := 0) (by show 2 * 0 + _ ≤ _; exact Nat.le_of_eq rfl) (by decide)
  refine Go.of (mkF m 4 #[.val (.ref a), .val (.ref d), .unset, .unset, .unset] []) (st1) ?_
  refine Go.of (mkF m 5 #[.val (.ref a), .val (.ref d), .unset, .unset, .unset] [(.ref d)]) (fun tt0 kk0 => XS.aloadN X1.here hx rfl (hb hby d2_4) rfl rfl kk0) ?_
  refine Go.arraylength X1 hx hZ e1 V (g := (mkF m 5 #[.val (.ref a), .val (.ref d), .unset, .unset, .unset] [(.ref d)])) rfl rfl (hb hby d2_5) ?_
  show Go pr ev below _ T1 (mkF m 6 #[.val (.ref a), .val (.ref d), .unset, .unset, .unset] [(.int (0 : Int32))])
  refine Go.of (mkF m 8 #[.val (.ref a), .val (.ref d), .unset, .unset, .unset] [(.int (64 : Int32)), (.int (0 : Int32))]) (fun tt0 kk0 => XS.bipush X1.here hx rfl (hb hby d2_6) kk0) ?_
  refine Go.of (mkF m 26 #[.val (.ref a), .val (.ref d), .unset, .unset, .unset] []) (fun tt0 kk0 => XS.icmpYes X1.here hx rfl (pc0 := 8) (pc' := 26) rfl (hb hby d2_8) rfl (flt (by decide)).2.2.2 (by decide) (by decide) kk0) ?_
  refine Go.of (mkF m 27 #[.val (.ref a), .val (.ref d), .unset, .unset, .unset] [(.ref a)]) (fun tt0 kk0 => XS.aloadN X1.here hx rfl (hb hby d2_26) rfl rfl kk0) ?_
  refine Go.of (mkF m 28 #[.val (.ref a), .val (.ref d), .unset, .unset, .unset] [(.ref d), (.ref a)]) (fun tt0 kk0 => XS.aloadN X1.here hx rfl (hb hby d2_27) rfl rfl kk0) ?_
  refine Go.callS X1 hx hZ (y := (⟨"java/util/List", "of", "([Ljava/lang/Object;)Ljava/util/List;"⟩ : MethodName)) (argsL := [(.ref d)]) (rest := [(.ref a)]) hown (tw20 hw) (tw21 hw) (tw22 hw) (tw23 hw) (by decide) e1 (rmLO l Z a0 hw [] d u _ yv h0 V S1) (g := (mkF m 28 #[.val (.ref a), .val (.ref d), .unset, .unset, .unset] [(.ref d), (.ref a)])) rfl (by rw [hml]; rfl) (lenOf pd16 rfl) rfl (W := 1) (by show 2 * 0 + _ ≤ _; exact Nat.le_of_eq rfl) (hb hby d2_28) (by decide) (by decide) (by decide) (by decide) ?_
  rintro T2 L2 v2 X2 ⟨rfl, rfl, hh2⟩
  have N2 := Fr.app N0 (Fr.nil n0)
  show Go pr ev below _ T2 (mkF m 31 #[.val (.ref a), .val (.ref d), .unset, .unset, .unset] [(.ref u), (.ref a)])
  obtain ⟨T3, h3, X3, e3, W3, st3⟩ := putF X2 hx hZ hown (host := "") (Or.inl (tw26 hw)) Via.refl hh2 G0 E (Or.inr ⟨(tw27 hw), rfl, hnm⟩) (tw10 hw) (ty := (.object "java/util/List")) (by decide) rfl rfl (g := (mkF m 31 #[.val (.ref a), .val (.ref d), .unset, .unset, .unset] [(.ref u), (.ref a)])) rfl rfl (hb hby d2_31)
  replace G0 := G0.same W3
  replace G1 := G1.other W3 (Or.inr (slot_ne (Or.inr (tw31 hw)) (Or.inr (tw27 hw)) (by decide) (t := (.array (.array .byte))) (t' := (.object "java/util/List")) (by decide) (by decide)))
  replace G2 := G2.other W3 (Or.inr (slot_ne (Or.inr (tw35 hw)) (Or.inr (tw27 hw)) (by decide) (t := (.array (.array .int))) (t' := (.object "java/util/List")) (by decide) (by decide)))
  replace E := E.wr W3
  replace En := En.wr W3
  replace S1 := S1.wr W3
  replace S2 := S2.wr W3
  replace V := V.other W3 (Ne.symm ne)
  replace hz := Nat.le_trans hz (Nat.le_of_eq W3.size.symm)
  replace K0 := K0.wr W3 (Or.inl (by simp))
  have N3 := Fr.snoc X3 N2 ga
  refine Go.of (mkF m 34 #[.val (.ref a), .val (.ref d), .unset, .unset, .unset] []) (st3) ?_
  refine Go.of (mkF m 35 #[.val (.ref a), .val (.ref d), .unset, .unset, .unset] [(.ref a)]) (fun tt0 kk0 => XS.aloadN X3.here hx rfl (hb hby d2_34) rfl rfl kk0) ?_
  refine Go.of (mkF m 36 #[.val (.ref a), .val (.ref d), .unset, .unset, .unset] [(.ref d), (.ref a)]) (fun tt0 kk0 => XS.aloadN X3.here hx rfl (hb hby d2_35) rfl rfl kk0) ?_
  refine Go.arraylength X3 hx hZ e3 V (g := (mkF m 36 #[.val (.ref a), .val (.ref d), .unset, .unset, .unset] [(.ref d), (.ref a)])) rfl rfl (hb hby d2_36) ?_
  show Go pr ev below _ T3 (mkF m 37 #[.val (.ref a), .val (.ref d), .unset, .unset, .unset] [(.int (0 : Int32)), (.ref a)])
  obtain ⟨T4, h4, k4, X4, e4, E4, A4, Q4, O4, st4⟩ := newRA X3 hx hZ (ty := .byte) (C := "[B") hown (by decide +kernel) (tw28 hw) (tw29 hw) e3 (g := (mkF m 37 #[.val (.ref a), .val (.ref d), .unset, .unset, .unset] [(.int (0 : Int32)), (.ref a)])) rfl (hb hby d2_37) rfl (by decide) (cap := 0) (by decide) (by decide) (by decide) (by decide) (ad := "[[B") (by decide +kernel)
  obtain ⟨b4, g4⟩ : ∃ z, z = h3.size := ⟨_, rfl⟩
  rw [← g4] at A4 Q4 st4
  have ne_a_b4 : a ≠ b4 := Nat.ne_of_lt (Nat.lt_of_lt_of_le E.lt (Nat.le_of_eq g4.symm))
  have ne_np_b4 : np ≠ b4 := Nat.ne_of_lt (Nat.lt_of_lt_of_le En.lt (Nat.le_of_eq g4.symm))
  have ne_d_b4 : d ≠ b4 := Nat.ne_of_lt (Nat.lt_of_lt_of_le V.lt (Nat.le_of_eq g4.symm))
  have gb_b4 : n0 ≤ b4 := Nat.le_trans hz (Nat.le_of_eq g4.symm)
  have sz_b4 : h0.size ≤ b4 := Nat.le_trans K0.1 (Nat.le_of_eq g4.symm)
  replace G0 := G0.ext E4
  replace G1 := G1.ext E4
  replace G2 := G2.ext E4
  replace E := E.ext E4
  replace En := En.ext E4
  replace V := V.ext E4
  replace S1 := S1.ext E4
  replace S2 := S2.ext E4
  replace hz := Nat.le_trans hz E4.1
  replace K0 := K0.ext E4
  have V_b4 : Fa Z h4 b4 (.array .byte) (0 : Int32) (fun _ => Value.null) := Fa.new A4 (by decide)
  have U_b4 : UtA Z h4 b4 .byte "[B" := ⟨_, A4.1, O4⟩
  refine Go.of (mkF m 40 #[.val (.ref a), .val (.ref d), .unset, .unset, .unset] [(.ref b4), (.ref a)]) (st4) ?_
  obtain ⟨T5, h5, X5, e5, W5, st5⟩ := putF X4 hx hZ hown (host := "") (Or.inl (tw30 hw)) Via.refl e4 G1 E (Or.inr ⟨(tw31 hw), rfl, hnm⟩) (tw10 hw) (ty := (.array (.array .byte))) (by decide) rfl rfl (g := (mkF m 40 #[.val (.ref a), .val (.ref d), .unset, .unset, .unset] [(.ref b4), (.ref a)])) rfl rfl (hb hby d2_40)
  replace G0 := G0.other W5 (Or.inr (slot_ne (Or.inr (tw27 hw)) (Or.inr (tw31 hw)) (by decide) (t := (.object "java/util/List")) (t' := (.array (.array .byte))) (by decide) (by decide)))
  replace G1 := G1.same W5
  replace G2 := G2.other W5 (Or.inr (slot_ne (Or.inr (tw35 hw)) (Or.inr (tw31 hw)) (by decide) (t := (.array (.array .int))) (t' := (.array (.array .byte))) (by decide) (by decide)))
  replace E := E.wr W5
  replace En := En.wr W5
  replace Q4 := Q4.wr W5
  replace S1 := S1.wr W5
  replace S2 := S2.wr W5
  replace U_b4 := U_b4.wr W5
  replace V := V.other W5 (Ne.symm ne)
  replace V_b4 := V_b4.other W5 (Ne.symm ne_a_b4)
  replace hz := Nat.le_trans hz (Nat.le_of_eq W5.size.symm)
  replace K0 := K0.wr W5 (Or.inl (by simp))
  have N5 := Fr.snoc X5 N3 ga
  refine Go.of (mkF m 43 #[.val (.ref a), .val (.ref d), .unset, .unset, .unset] []) (st5) ?_
  refine Go.of (mkF m 44 #[.val (.ref a), .val (.ref d), .unset, .unset, .unset] [(.int (0 : Int32))]) (fun tt0 kk0 => XS.iconst X5.here hx rfl (hb hby d2_43) kk0) ?_
  refine Go.of (mkF m 45 #[.val (.ref a), .val (.ref d), .val (.int (0 : Int32)), .unset, .unset] []) (fun tt0 kk0 => XS.istoreN X5.here hx rfl (hb hby d2_44) rfl (l' := #[.val (.ref a), .val (.ref d), .val (.int (0 : Int32)), .unset, .unset]) rfl kk0) ?_
  refine Go.of (mkF m 46 #[.val (.ref a), .val (.ref d), .val (.int (0 : Int32)), .unset, .unset] [(.int (0 : Int32))]) (fun tt0 kk0 => XS.iconst X5.here hx rfl (hb hby d2_45) kk0) ?_
  refine Go.of (mkF m 47 #[.val (.ref a), .val (.ref d), .val (.int (0 : Int32)), .val (.int (0 : Int32)), .unset] []) (fun tt0 kk0 => XS.istoreN X5.here hx rfl (hb hby d2_46) rfl (l' := #[.val (.ref a), .val (.ref d), .val (.int (0 : Int32)), .val (.int (0 : Int32)), .unset]) rfl kk0) ?_
  refine Go.of (mkF m 48 #[.val (.ref a), .val (.ref d), .val (.int (0 : Int32)), .val (.int (0 : Int32)), .unset] [(.int (0 : Int32))]) (fun tt0 kk0 => XS.iloadN X5.here hx rfl (hb hby d2_47) rfl kk0) ?_
  refine Go.of (mkF m 49 #[.val (.ref a), .val (.ref d), .val (.int (0 : Int32)), .val (.int (0 : Int32)), .unset] [(.ref d), (.int (0 : Int32))]) (fun tt0 kk0 => XS.aloadN X5.here hx rfl (hb hby d2_48) rfl rfl kk0) ?_
  refine Go.arraylength X5 hx hZ e5 V (g := (mkF m 49 #[.val (.ref a), .val (.ref d), .val (.int (0 : Int32)), .val (.int (0 : Int32)), .unset] [(.ref d), (.int (0 : Int32))])) rfl rfl (hb hby d2_49) ?_
  show Go pr ev below _ T5 (mkF m 50 #[.val (.ref a), .val (.ref d), .val (.int (0 : Int32)), .val (.int (0 : Int32)), .unset] [(.int (0 : Int32)), (.int (0 : Int32))])
  refine Go.of (mkF m 86 #[.val (.ref a), .val (.ref d), .val (.int (0 : Int32)), .val (.int (0 : Int32)), .unset] []) (fun tt0 kk0 => XS.icmpYes X5.here hx rfl (pc0 := 50) (pc' := 86) rfl (hb hby d2_50) rfl (flt (by decide)).2.1 (by decide) (by decide) kk0) ?_
  refine Go.of (mkF m 87 #[.val (.ref a), .val (.ref d), .val (.int (0 : Int32)), .val (.int (0 : Int32)), .unset] [(.ref a)]) (fun tt0 kk0 => XS.aloadN X5.here hx rfl (hb hby d2_86) rfl rfl kk0) ?_
  refine Go.of (mkF m 88 #[.val (.ref a), .val (.ref d), .val (.int (0 : Int32)), .val (.int (0 : Int32)), .unset] [(.int (0 : Int32)), (.ref a)]) (fun tt0 kk0 => XS.iloadN X5.here hx rfl (hb hby d2_87) rfl kk0) ?_
  refine Go.of (mkF m 89 #[.val (.ref a), .val (.ref d), .val (.int (0 : Int32)), .val (.int (0 : Int32)), .unset] [(.int (1 : Int32)), (.int (0 : Int32)), (.ref a)]) (fun tt0 kk0 => XS.iconst X5.here hx rfl (hb hby d2_88) kk0) ?_
  refine Go.of (mkF m 90 #[.val (.ref a), .val (.ref d), .val (.int (0 : Int32)), .val (.int (0 : Int32)), .unset] [(.int ((0 : Int32) + (1 : Int32))), (.ref a)]) (fun tt0 kk0 => XS.iadd X5.here hx rfl (hb hby d2_89) rfl kk0) ?_
  rw [show ((0 : Int32) + (1 : Int32)) = (1 : Int32) from by decide]
  obtain ⟨T6, h6, k6, X6, e6, E6, A6, Q6, O6, st6⟩ := newRA X5 hx hZ (ty := .int) (C := "[I") hown (by decide +kernel) (tw32 hw) (tw33 hw) e5 (g := (mkF m 90 #[.val (.ref a), .val (.ref d), .val (.int (0 : Int32)), .val (.int (0 : Int32)), .unset] [(.int (1 : Int32)), (.ref a)])) rfl (hb hby d2_90) rfl (by decide) (cap := 1) (by decide) (by decide) (by decide) (by decide) (ad := "[[I") (by decide +kernel)
  obtain ⟨b6, g6⟩ : ∃ z, z = h5.size := ⟨_, rfl⟩
  rw [← g6] at A6 Q6 st6
  have ne_a_b6 : a ≠ b6 := Nat.ne_of_lt (Nat.lt_of_lt_of_le E.lt (Nat.le_of_eq g6.symm))
  have ne_np_b6 : np ≠ b6 := Nat.ne_of_lt (Nat.lt_of_lt_of_le En.lt (Nat.le_of_eq g6.symm))
  have ne_b4_b6 : b4 ≠ b6 := Nat.ne_of_lt (Nat.lt_of_lt_of_le Q4.lt (Nat.le_of_eq g6.symm))
  have ne_d_b6 : d ≠ b6 := Nat.ne_of_lt (Nat.lt_of_lt_of_le V.lt (Nat.le_of_eq g6.symm))
  have gb_b6 : n0 ≤ b6 := Nat.le_trans hz (Nat.le_of_eq g6.symm)
  have sz_b6 : h0.size ≤ b6 := Nat.le_trans K0.1 (Nat.le_of_eq g6.symm)
  replace G0 := G0.ext E6
  replace G1 := G1.ext E6
  replace G2 := G2.ext E6
  replace E := E.ext E6
  replace En := En.ext E6
  replace Q4 := Q4.ext E6
  replace V := V.ext E6
  replace V_b4 := V_b4.ext E6
  replace S1 := S1.ext E6
  replace S2 := S2.ext E6
  replace U_b4 := U_b4.ext E6
  replace hz := Nat.le_trans hz E6.1
  replace K0 := K0.ext E6
  have V_b6 : Fa Z h6 b6 (.array .int) (1 : Int32) (fun _ => Value.null) := Fa.new A6 (by decide)
  have U_b6 : UtA Z h6 b6 .int "[I" := ⟨_, A6.1, O6⟩
  refine Go.of (mkF m 93 #[.val (.ref a), .val (.ref d), .val (.int (0 : Int32)), .val (.int (0 : Int32)), .unset] [(.ref b6), (.ref a)]) (st6) ?_
  obtain ⟨T7, h7, X7, e7, W7, st7⟩ := putF X6 hx hZ hown (host := "") (Or.inl (tw34 hw)) Via.refl e6 G2 E (Or.inr ⟨(tw35 hw), rfl, hnm⟩) (tw10 hw) (ty := (.array (.array .int))) (by decide) rfl rfl (g := (mkF m 93 #[.val (.ref a), .val (.ref d), .val (.int (0 : Int32)), .val (.int (0 : Int32)), .unset] [(.ref b6), (.ref a)])) rfl rfl (hb hby d2_93)
  replace G0 := G0.other W7 (Or.inr (slot_ne (Or.inr (tw27 hw)) (Or.inr (tw35 hw)) (by decide) (t := (.object "java/util/List")) (t' := (.array (.array .int))) (by decide) (by decide)))
  replace G1 := G1.other W7 (Or.inr (slot_ne (Or.inr (tw31 hw)) (Or.inr (tw35 hw)) (by decide) (t := (.array (.array .byte))) (t' := (.array (.array .int))) (by decide) (by decide)))
  replace G2 := G2.same W7
  replace E := E.wr W7
  replace En := En.wr W7
  replace Q4 := Q4.wr W7
  replace Q6 := Q6.wr W7
  replace S1 := S1.wr W7
  replace S2 := S2.wr W7
  replace U_b4 := U_b4.wr W7
  replace U_b6 := U_b6.wr W7
  replace V := V.other W7 (Ne.symm ne)
  replace V_b4 := V_b4.other W7 (Ne.symm ne_a_b4)
  replace V_b6 := V_b6.other W7 (Ne.symm ne_a_b6)
  replace hz := Nat.le_trans hz (Nat.le_of_eq W7.size.symm)
  replace K0 := K0.wr W7 (Or.inl (by simp))
  have N7 := Fr.snoc X7 N5 ga
  refine Go.of (mkF m 96 #[.val (.ref a), .val (.ref d), .val (.int (0 : Int32)), .val (.int (0 : Int32)), .unset] []) (st7) ?_
  refine Go.of (mkF m 97 #[.val (.ref a), .val (.ref d), .val (.int (0 : Int32)), .val (.int (0 : Int32)), .unset] [(.ref a)]) (fun tt0 kk0 => XS.aloadN X7.here hx rfl (hb hby d2_96) rfl rfl kk0) ?_
  obtain ⟨T8, X8, e8, st8⟩ := getF X7 hx hZ hown (host := "") (Or.inl (tw34 hw)) Via.refl e7 G2 (g := (mkF m 97 #[.val (.ref a), .val (.ref d), .val (.int (0 : Int32)), .val (.int (0 : Int32)), .unset] [(.ref a)])) rfl rfl (hb hby d2_97)
  refine Go.of (mkF m 100 #[.val (.ref a), .val (.ref d), .val (.int (0 : Int32)), .val (.int (0 : Int32)), .unset] [(.ref b6)]) (st8) ?_
  obtain ⟨T9, X9, e9, st9⟩ := getS2 X8 hx hZ hown (host := "") (Or.inl (tw36 hw)) Via.refl e8 S2 (g := (mkF m 100 #[.val (.ref a), .val (.ref d), .val (.int (0 : Int32)), .val (.int (0 : Int32)), .unset] [(.ref b6)])) rfl (hb hby d2_100)
  refine Go.of (mkF m 103 #[.val (.ref a), .val (.ref d), .val (.int (0 : Int32)), .val (.int (0 : Int32)), .unset] [(.ref np), (.ref b6)]) (st9) ?_
  refine Go.callS X9 hx hZ (y := (⟨"java/util/Arrays", "fill", "([Ljava/lang/Object;Ljava/lang/Object;)V"⟩ : MethodName)) (argsL := [(.ref b6), (.ref np)]) (rest := []) hown (tw38 hw) (tw39 hw) (tw40 hw) (tw41 hw) (by decide) e9 (rmFill l Z a0 hw [] b6 np _ h7 n0 hz gb_b6 V_b6 (Fa.stoA V_b6 U_b6 (Ins.self En))) (g := (mkF m 103 #[.val (.ref a), .val (.ref d), .val (.int (0 : Int32)), .val (.int (0 : Int32)), .unset] [(.ref np), (.ref b6)])) rfl (by rw [hml]; rfl) (lenOf pd17 rfl) rfl (W := 0) (by show 2 * 0 + _ ≤ _; exact Nat.le_of_eq rfl) (hb hby d2_103) (by decide) (by decide) (by decide) (by decide) ?_
  rintro T10 L10 v10 X10 ⟨rfl, NL10, K10⟩
  have N10 := Fr.app N7 NL10
  replace S1 := Sta.keep S1 K10 (allS (exa_ns Q6) (all0))
  replace S2 := Sta.keep S2 K10 (allS (exa_ns Q6) (all0))
  replace G0 := G0.keep K10 (ninS ne_a_b6 nin0)
  replace G1 := G1.keep K10 (ninS ne_a_b6 nin0)
  replace G2 := G2.keep K10 (ninS ne_a_b6 nin0)
  replace E := E.keep K10
  replace En := En.keep K10
  replace Q4 := Q4.keep K10
  replace Q6 := Q6.keep K10
  replace U_b4 := U_b4.keep K10
  replace U_b6 := U_b6.keep K10
  replace V := V.keep K10 (ninS ne_d_b6 nin0)
  replace V_b4 := V_b4.keep K10 (ninS ne_b4_b6 nin0)
  replace hz := Nat.le_trans hz K10.1
  replace K0 := K0.trans K10 (((allS (Or.inr sz_b6) all0)))
  show Go pr ev below _ T10 (mkF m 106 #[.val (.ref a), .val (.ref d), .val (.int (0 : Int32)), .val (.int (0 : Int32)), .unset] [])
  refine Go.of (mkF m 107 #[.val (.ref a), .val (.ref d), .val (.int (0 : Int32)), .val (.int (0 : Int32)), .unset] [(.int (0 : Int32))]) (fun tt0 kk0 => XS.iconst X10.here hx rfl (hb hby d2_106) kk0) ?_
  refine Go.of (mkF m 108 #[.val (.ref a), .val (.ref d), .val (.int (0 : Int32)), .val (.int (0 : Int32)), .unset] []) (fun tt0 kk0 => XS.istoreN X10.here hx rfl (hb hby d2_107) rfl (l' := #[.val (.ref a), .val (.ref d), .val (.int (0 : Int32)), .val (.int (0 : Int32)), .unset]) rfl kk0) ?_
  refine Go.of (mkF m 109 #[.val (.ref a), .val (.ref d), .val (.int (0 : Int32)), .val (.int (0 : Int32)), .unset] [(.int (0 : Int32))]) (fun tt0 kk0 => XS.iloadN X10.here hx rfl (hb hby d2_108) rfl kk0) ?_
  refine Go.of (mkF m 110 #[.val (.ref a), .val (.ref d), .val (.int (0 : Int32)), .val (.int (0 : Int32)), .unset] [(.ref d), (.int (0 : Int32))]) (fun tt0 kk0 => XS.aloadN X10.here hx rfl (hb hby d2_109) rfl rfl kk0) ?_
  refine Go.arraylength X10 hx hZ rfl V (g := (mkF m 110 #[.val (.ref a), .val (.ref d), .val (.int (0 : Int32)), .val (.int (0 : Int32)), .unset] [(.ref d), (.int (0 : Int32))])) rfl rfl (hb hby d2_110) ?_
  show Go pr ev below _ T10 (mkF m 111 #[.val (.ref a), .val (.ref d), .val (.int (0 : Int32)), .val (.int (0 : Int32)), .unset] [(.int (0 : Int32)), (.int (0 : Int32))])
  refine Go.of (mkF m 169 #[.val (.ref a), .val (.ref d), .val (.int (0 : Int32)), .val (.int (0 : Int32)), .unset] []) (fun tt0 kk0 => XS.icmpYes X10.here hx rfl (pc0 := 111) (pc' := 169) rfl (hb hby d2_111) rfl (flt (by decide)).2.1 (by decide) (by decide) kk0) ?_
  exact Go.retV X10 hx hret hlk (hb hby d2_169) (by decide) (by decide) ⟨rfl, N10, K0⟩
theorem ef_rmJ (m : MethodId) (x0 : Addr) (x1 : Addr) (x2 : Int32) (x3 : Int32) (x4 : Addr) : entryFrame m #[(.ref x0), (.ref x1), (.int x2), (.int x3), (.ref x4)] 5 = mkF m 0 #[.val (.ref x0), .val (.ref x1), .val (.int x2), .val (.int x3), .val (.ref x4)] [] := by first | (simp [entryFrame, mkF, argsToLocals, Value.category]; done) | rfl
set_option maxRecDepth 65536 in
set_option maxHeartbeats 40000000 in
theorem rmJ (l : Launch) (Z : State) (a0 : Array Value) (hw : ∀ d ∈ tables_1, d.before a0 Z = true) (ws : List Jvm.Cond) (a d : Addr) (p q : Int32) (k : Addr) (h0 : Heap) (n0 : Nat) (hz0 : n0 ≤ h0.size) (E : Exa Z h0 a "com/example/tidemark/tidemark/io/JsonBytes") (ga : n0 ≤ a) (G0 : Fld Z h0 a "com/example/tidemark/tidemark/io/JsonBytes" "othersSeen" "Ljava/util/Set;" .null) (Fb : Fld Z h0 a "com/example/tidemark/tidemark/io/JsonBytes" "bytes" "[B" .null) (Fp : Fld Z h0 a "com/example/tidemark/tidemark/io/JsonBytes" "position" "I" (.int (0 : Int32))) (Fe : Fld Z h0 a "com/example/tidemark/tidemark/io/JsonBytes" "end" "I" (.int (0 : Int32))) (G1 : Fld Z h0 a "com/example/tidemark/tidemark/io/JsonBytes" "known" "Lcom/example/tidemark/tidemark/io/JsonBytes$Fields;" .null) (Fd : Fld Z h0 a "com/example/tidemark/tidemark/io/JsonBytes" "depth" "I" (.int (0 : Int32))) (Fs : Fld Z h0 a "com/example/tidemark/tidemark/io/JsonBytes" "atStart" "Z" (.int (0 : Int32))) :
    Met l Z (⟨"com/example/tidemark/tidemark/io/JsonBytes", "<init>", "([BIILcom/example/tidemark/tidemark/io/JsonBytes$Fields;)V"⟩ : MethodName) prog_2_method_1_code 5 none ws ({ frames := 4, cells := 2, slots := 9, locals := 52 } : Room) #[(.ref a), (.ref d), (.int p), (.int q), (.ref k)] h0 (fun v h L => v = none ∧ Fr n0 L ∧ Keep h0 h [a] ∧ Fld Z h a "com/example/tidemark/tidemark/io/JsonBytes" "bytes" "[B" (.ref d) ∧ Fld Z h a "com/example/tidemark/tidemark/io/JsonBytes" "end" "I" (.int (p + q)) ∧ Fld Z h a "com/example/tidemark/tidemark/io/JsonBytes" "position" "I" (.int p) ∧ Fld Z h a "com/example/tidemark/tidemark/io/JsonBytes" "depth" "I" (.int (0 : Int32)) ∧ Fld Z h a "com/example/tidemark/tidemark/io/JsonBytes" "atStart" "Z" (.int (0 : Int32))) := by
  refine Met.intro pn18 ?_
  intro pr ev s m below meth c T0 X0 hx hZ hown hby hml hret hlk hnm e0
  refine Go.cast (ef_rmJ m a d p q k) ?_
  have N0 := Fr.nil n0
  have hz := hz0
  have K0 : Keep h0 h0 [a] := Keep.refl h0 _
  refine Go.of (mkF m 1 #[.val (.ref a), .val (.ref d), .val (.int p), .val (.int q), .val (.ref k)] [(.ref a)]) (fun tt0 kk0 => XS.aloadN X0.here hx rfl (hb hby d6_0) rfl rfl kk0) ?_
  obtain ⟨T1, X1, e1, st1⟩ := initO X0 hx hZ hown (tw46 hw) (tw18 hw) (tw19 hw) e0 (g := (mkF m 1 #[.val (.ref a), .val (.ref d), .val (.int p), .val (.int q), .val (.ref k)] [(.ref a)])) rfl (by rw [hml]; rfl) rfl (hb hby d6_1) (by decide) (W := 0) (by show 2 * 0 + _ ≤ _; exact Nat.le_of_eq rfl) (by decide)
  refine Go.of (mkF m 4 #[.val (.ref a), .val (.ref d), .val (.int p), .val (.int q), .val (.ref k)] []) (st1) ?_
  refine Go.of (mkF m 5 #[.val (.ref a), .val (.ref d), .val (.int p), .val (.int q), .val (.ref k)] [(.ref a)]) (fun tt0 kk0 => XS.aloadN X1.here hx rfl (hb hby d6_4) rfl rfl kk0) ?_
  obtain ⟨T2, h2, X2, e2, E2, A2, D2, -, st2⟩ := newO X1 hx hZ hown (tw47 hw) (tw48 hw) (tw49 hw) e1 (g := (mkF m 5 #[.val (.ref a), .val (.ref d), .val (.int p), .val (.int q), .val (.ref k)] [(.ref a)])) rfl (hb hby d6_5) (by decide) (by decide)
  obtain ⟨b2, g2⟩ : ∃ z, z = h0.size := ⟨_, rfl⟩
  rw [← g2] at A2 D2 st2
  have ne_a_b2 : a ≠ b2 := Nat.ne_of_lt (Nat.lt_of_lt_of_le E.lt (Nat.le_of_eq g2.symm))
  have gb_b2 : n0 ≤ b2 := Nat.le_trans hz (Nat.le_of_eq g2.symm)
  have sz_b2 : h0.size ≤ b2 := Nat.le_trans K0.1 (Nat.le_of_eq g2.symm)
  replace G0 := G0.ext E2
  replace Fb := Fb.ext E2
  replace Fp := Fp.ext E2
  replace Fe := Fe.ext E2
  replace G1 := G1.ext E2
  replace Fd := Fd.ext E2
  replace Fs := Fs.ext E2
  replace E := E.ext E2
  replace hz := Nat.le_trans hz E2.1
  replace K0 := K0.ext E2
  have F_b2_map : Fld Z h2 b2 "java/util/HashSet" "map" "Ljava/util/HashMap;" .null := D2 (Or.inl (tw84 hw)) (ty := (.object "java/util/HashMap")) (by decide)
  refine Go.of (mkF m 8 #[.val (.ref a), .val (.ref d), .val (.int p), .val (.int q), .val (.ref k)] [(.ref b2), (.ref a)]) (st2) ?_
  refine Go.of (mkF m 9 #[.val (.ref a), .val (.ref d), .val (.int p), .val (.int q), .val (.ref k)] [(.ref b2), (.ref b2), (.ref a)]) (fun tt0 kk0 => XS.dup X2.here hx rfl (hb hby d6_8) rfl rfl kk0) ?_
  refine Go.init X2 hx hZ (y := (⟨"java/util/HashSet", "<init>", "()V"⟩ : MethodName)) (a := b2) (argsL := []) (rest := [(.ref b2), (.ref a)]) hown rfl (tw50 hw) (tw51 hw) (tw49 hw) (tw52 hw) (by decide) e2 (rmHS l Z a0 hw [] b2 h2 n0 hz A2 gb_b2 F_b2_map) (g := (mkF m 9 #[.val (.ref a), .val (.ref d), .val (.int p), .val (.int q), .val (.ref k)] [(.ref b2), (.ref b2), (.ref a)])) rfl (by rw [hml]; rfl) (lenOf pd10 rfl) rfl (W := 2) (by show 2 * 0 + _ ≤ _; exact Nat.le_of_eq rfl) (hb hby d6_9) (by decide) (by decide) (by decide) (by decide) ?_
  rintro T3 L3 v3 X3 ⟨rfl, NL3, K3⟩
  have N3 := Fr.app N0 NL3
  replace G0 := G0.keep K3 (ninS ne_a_b2 nin0)
  replace Fb := Fb.keep K3 (ninS ne_a_b2 nin0)
  replace Fp := Fp.keep K3 (ninS ne_a_b2 nin0)
  replace Fe := Fe.keep K3 (ninS ne_a_b2 nin0)
  replace G1 := G1.keep K3 (ninS ne_a_b2 nin0)
  replace Fd := Fd.keep K3 (ninS ne_a_b2 nin0)
  replace Fs := Fs.keep K3 (ninS ne_a_b2 nin0)
  replace E := E.keep K3
  replace A2 := A2.keep K3
  replace hz := Nat.le_trans hz K3.1
  replace K0 := K0.trans K3 (((allS (Or.inr sz_b2) all0)))
  show Go pr ev below _ T3 (mkF m 12 #[.val (.ref a), .val (.ref d), .val (.int p), .val (.int q), .val (.ref k)] [(.ref b2), (.ref a)])
  obtain ⟨T4, h4, X4, e4, W4, st4⟩ := putF X3 hx hZ hown (host := "") (Or.inl (tw85 hw)) Via.refl rfl G0 E (Or.inr ⟨(tw86 hw), rfl, hnm⟩) (tw7 hw) (ty := (.object "java/util/Set")) (by decide) rfl rfl (g := (mkF m 12 #[.val (.ref a), .val (.ref d), .val (.int p), .val (.int q), .val (.ref k)] [(.ref b2), (.ref a)])) rfl rfl (hb hby d6_12)
  replace G0 := G0.same W4
  replace Fb := Fb.other W4 (Or.inr (slot_ne (Or.inr (tw88 hw)) (Or.inr (tw86 hw)) (by decide) (t := (.array .byte)) (t' := (.object "java/util/Set")) (by decide) (by decide)))
  replace Fp := Fp.other W4 (Or.inr (slot_ne (Or.inl (tw90 hw)) (Or.inr (tw86 hw)) (by decide) (t := .int) (t' := (.object "java/util/Set")) (by decide) (by decide)))
  replace Fe := Fe.other W4 (Or.inr (slot_ne (Or.inr (tw92 hw)) (Or.inr (tw86 hw)) (by decide) (t := .int) (t' := (.object "java/util/Set")) (by decide) (by decide)))
  replace G1 := G1.other W4 (Or.inr (slot_ne (Or.inr (tw94 hw)) (Or.inr (tw86 hw)) (by decide) (t := (.object "com/example/tidemark/tidemark/io/JsonBytes$Fields")) (t' := (.object "java/util/Set")) (by decide) (by decide)))
  replace Fd := Fd.other W4 (Or.inr (slot_ne (Or.inl (tw120 hw)) (Or.inr (tw86 hw)) (by decide) (t := .int) (t' := (.object "java/util/Set")) (by decide) (by decide)))
  replace Fs := Fs.other W4 (Or.inr (slot_ne (Or.inl (tw122 hw)) (Or.inr (tw86 hw)) (by decide) (t := .boolean) (t' := (.object "java/util/Set")) (by decide) (by decide)))
  replace E := E.wr W4
  replace A2 := A2.wr W4
  replace hz := Nat.le_trans hz (Nat.le_of_eq W4.size.symm)
  replace K0 := K0.wr W4 (Or.inl (by simp))
  have N4 := Fr.snoc X4 N3 ga
  refine Go.of (mkF m 15 #[.val (.ref a), .val (.ref d), .val (.int p), .val (.int q), .val (.ref k)] []) (st4) ?_
  refine Go.of (mkF m 16 #[.val (.ref a), .val (.ref d), .val (.int p), .val (.int q), .val (.ref k)] [(.ref a)]) (fun tt0 kk0 => XS.aloadN X4.here hx rfl (hb hby d6_15) rfl rfl kk0) ?_
  refine Go.of (mkF m 17 #[.val (.ref a), .val (.ref d), .val (.int p), .val (.int q), .val (.ref k)] [(.ref d), (.ref a)]) (fun tt0 kk0 => XS.aloadN X4.here hx rfl (hb hby d6_16) rfl rfl kk0) ?_
  obtain ⟨T5, h5, X5, e5, W5, st5⟩ := putF X4 hx hZ hown (host := "") (Or.inl (tw87 hw)) Via.refl e4 Fb E (Or.inr ⟨(tw88 hw), rfl, hnm⟩) (tw7 hw) (ty := (.array .byte)) (by decide) rfl rfl (g := (mkF m 17 #[.val (.ref a), .val (.ref d), .val (.int p), .val (.int q), .val (.ref k)] [(.ref d), (.ref a)])) rfl rfl (hb hby d6_17)
  replace G0 := G0.other W5 (Or.inr (slot_ne (Or.inr (tw86 hw)) (Or.inr (tw88 hw)) (by decide) (t := (.object "java/util/Set")) (t' := (.array .byte)) (by decide) (by decide)))
  replace Fb := Fb.same W5
  replace Fp := Fp.other W5 (Or.inr (slot_ne (Or.inl (tw90 hw)) (Or.inr (tw88 hw)) (by decide) (t := .int) (t' := (.array .byte)) (by decide) (by decide)))
  replace Fe := Fe.other W5 (Or.inr (slot_ne (Or.inr (tw92 hw)) (Or.inr (tw88 hw)) (by decide) (t := .int) (t' := (.array .byte)) (by decide) (by decide)))
  replace G1 := G1.other W5 (Or.inr (slot_ne (Or.inr (tw94 hw)) (Or.inr (tw88 hw)) (by decide) (t := (.object "com/example/tidemark/tidemark/io/JsonBytes$Fields")) (t' := (.array .byte)) (by decide) (by decide)))
  replace Fd := Fd.other W5 (Or.inr (slot_ne (Or.inl (tw120 hw)) (Or.inr (tw88 hw)) (by decide) (t := .int) (t' := (.array .byte)) (by decide) (by decide)))
  replace Fs := Fs.other W5 (Or.inr (slot_ne (Or.inl (tw122 hw)) (Or.inr (tw88 hw)) (by decide) (t := .boolean) (t' := (.array .byte)) (by decide) (by decide)))
  replace E := E.wr W5
  replace A2 := A2.wr W5
  replace hz := Nat.le_trans hz (Nat.le_of_eq W5.size.symm)
  replace K0 := K0.wr W5 (Or.inl (by simp))
  have N5 := Fr.snoc X5 N4 ga
  refine Go.of (mkF m 20 #[.val (.ref a), .val (.ref d), .val (.int p), .val (.int q), .val (.ref k)] []) (st5) ?_
  refine Go.of (mkF m 21 #[.val (.ref a), .val (.ref d), .val (.int p), .val (.int q), .val (.ref k)] [(.ref a)]) (fun tt0 kk0 => XS.aloadN X5.here hx rfl (hb hby d6_20) rfl rfl kk0) ?_
  refine Go.of (mkF m 22 #[.val (.ref a), .val (.ref d), .val (.int p), .val (.int q), .val (.ref k)] [(.int p), (.ref a)]) (fun tt0 kk0 => XS.iloadN X5.here hx rfl (hb hby d6_21) rfl kk0) ?_
  obtain ⟨T6, h6, X6, e6, W6, st6⟩ := putF X5 hx hZ hown (host := "") (Or.inl (tw89 hw)) Via.refl e5 Fp E (Or.inl (tw90 hw)) (tw7 hw) (ty := .int) (by decide) rfl rfl (g := (mkF m 22 #[.val (.ref a), .val (.ref d), .val (.int p), .val (.int q), .val (.ref k)] [(.int p), (.ref a)])) rfl rfl (hb hby d6_22)
  replace G0 := G0.other W6 (Or.inr (slot_ne (Or.inr (tw86 hw)) (Or.inl (tw90 hw)) (by decide) (t := (.object "java/util/Set")) (t' := .int) (by decide) (by decide)))
  replace Fb := Fb.other W6 (Or.inr (slot_ne (Or.inr (tw88 hw)) (Or.inl (tw90 hw)) (by decide) (t := (.array .byte)) (t' := .int) (by decide) (by decide)))
  replace Fp := Fp.same W6
  replace Fe := Fe.other W6 (Or.inr (slot_ne (Or.inr (tw92 hw)) (Or.inl (tw90 hw)) (by decide) (t := .int) (t' := .int) (by decide) (by decide)))
  replace G1 := G1.other W6 (Or.inr (slot_ne (Or.inr (tw94 hw)) (Or.inl (tw90 hw)) (by decide) (t := (.object "com/example/tidemark/tidemark/io/JsonBytes$Fields")) (t' := .int) (by decide) (by decide)))
  replace Fd := Fd.other W6 (Or.inr (slot_ne (Or.inl (tw120 hw)) (Or.inl (tw90 hw)) (by decide) (t := .int) (t' := .int) (by decide) (by decide)))
  replace Fs := Fs.other W6 (Or.inr (slot_ne (Or.inl (tw122 hw)) (Or.inl (tw90 hw)) (by decide) (t := .boolean) (t' := .int) (by decide) (by decide)))
  replace E := E.wr W6
  replace A2 := A2.wr W6
  replace hz := Nat.le_trans hz (Nat.le_of_eq W6.size.symm)
  replace K0 := K0.wr W6 (Or.inl (by simp))
  have N6 := Fr.snoc X6 N5 ga
  refine Go.of (mkF m 25 #[.val (.ref a), .val (.ref d), .val (.int p), .val (.int q), .val (.ref k)] []) (st6) ?_
  refine Go.of (mkF m 26 #[.val (.ref a), .val (.ref d), .val (.int p), .val (.int q), .val (.ref k)] [(.ref a)]) (fun tt0 kk0 => XS.aloadN X6.here hx rfl (hb hby d6_25) rfl rfl kk0) ?_
  refine Go.of (mkF m 27 #[.val (.ref a), .val (.ref d), .val (.int p), .val (.int q), .val (.ref k)] [(.int p), (.ref a)]) (fun tt0 kk0 => XS.iloadN X6.here hx rfl (hb hby d6_26) rfl kk0) ?_
  refine Go.of (mkF m 28 #[.val (.ref a), .val (.ref d), .val (.int p), .val (.int q), .val (.ref k)] [(.int q), (.int p), (.ref a)]) (fun tt0 kk0 => XS.iloadN X6.here hx rfl (hb hby d6_27) rfl kk0) ?_
  refine Go.of (mkF m 29 #[.val (.ref a), .val (.ref d), .val (.int p), .val (.int q), .val (.ref k)] [(.int (p + q)), (.ref a)]) (fun tt0 kk0 => XS.iadd X6.here hx rfl (hb hby d6_28) rfl kk0) ?_
  obtain ⟨T7, h7, X7, e7, W7, st7⟩ := putF X6 hx hZ hown (host := "") (Or.inl (tw91 hw)) Via.refl e6 Fe E (Or.inr ⟨(tw92 hw), rfl, hnm⟩) (tw7 hw) (ty := .int) (by decide) rfl rfl (g := (mkF m 29 #[.val (.ref a), .val (.ref d), .val (.int p), .val (.int q), .val (.ref k)] [(.int (p + q)), (.ref a)])) rfl rfl (hb hby d6_29)
  replace G0 := G0.other W7 (Or.inr (slot_ne (Or.inr (tw86 hw)) (Or.inr (tw92 hw)) (by decide) (t := (.object "java/util/Set")) (t' := .int) (by decide) (by decide)))
  replace Fb := Fb.other W7 (Or.inr (slot_ne (Or.inr (tw88 hw)) (Or.inr (tw92 hw)) (by decide) (t := (.array .byte)) (t' := .int) (by decide) (by decide)))
  replace Fp := Fp.other W7 (Or.inr (slot_ne (Or.inl (tw90 hw)) (Or.inr (tw92 hw)) (by decide) (t := .int) (t' := .int) (by decide) (by decide)))
  replace Fe := Fe.same W7
  replace G1 := G1.other W7 (Or.inr (slot_ne (Or.inr (tw94 hw)) (Or.inr (tw92 hw)) (by decide) (t := (.object "com/example/tidemark/tidemark/io/JsonBytes$Fields")) (t' := .int) (by decide) (by decide)))
  replace Fd := Fd.other W7 (Or.inr (slot_ne (Or.inl (tw120 hw)) (Or.inr (tw92 hw)) (by decide) (t := .int) (t' := .int) (by decide) (by decide)))
  replace Fs := Fs.other W7 (Or.inr (slot_ne (Or.inl (tw122 hw)) (Or.inr (tw92 hw)) (by decide) (t := .boolean) (t' := .int) (by decide) (by decide)))
  replace E := E.wr W7
  replace A2 := A2.wr W7
  replace hz := Nat.le_trans hz (Nat.le_of_eq W7.size.symm)
  replace K0 := K0.wr W7 (Or.inl (by simp))
  have N7 := Fr.snoc X7 N6 ga
  refine Go.of (mkF m 32 #[.val (.ref a), .val (.ref d), .val (.int p), .val (.int q), .val (.ref k)] []) (st7) ?_
  refine Go.of (mkF m 33 #[.val (.ref a), .val (.ref d), .val (.int p), .val (.int q), .val (.ref k)] [(.ref a)]) (fun tt0 kk0 => XS.aloadN X7.here hx rfl (hb hby d6_32) rfl rfl kk0) ?_
  refine Go.of (mkF m 35 #[.val (.ref a), .val (.ref d), .val (.int p), .val (.int q), .val (.ref k)] [(.ref k), (.ref a)]) (fun tt0 kk0 => XS.aload X7.here hx rfl (hb hby d6_33) rfl rfl kk0) ?_
  obtain ⟨T8, h8, X8, e8, W8, st8⟩ := putF X7 hx hZ hown (host := "") (Or.inl (tw93 hw)) Via.refl e7 G1 E (Or.inr ⟨(tw94 hw), rfl, hnm⟩) (tw7 hw) (ty := (.object "com/example/tidemark/tidemark/io/JsonBytes$Fields")) (by decide) rfl rfl (g := (mkF m 35 #[.val (.ref a), .val (.ref d), .val (.int p), .val (.int q), .val (.ref k)] [(.ref k), (.ref a)])) rfl rfl (hb hby d6_35)
  replace G0 := G0.other W8 (Or.inr (slot_ne (Or.inr (tw86 hw)) (Or.inr (tw94 hw)) (by decide) (t := (.object "java/util/Set")) (t' := (.object "com/example/tidemark/tidemark/io/JsonBytes$Fields")) (by decide) (by decide)))
  replace Fb := Fb.other W8 (Or.inr (slot_ne (Or.inr (tw88 hw)) (Or.inr (tw94 hw)) (by decide) (t := (.array .byte)) (t' := (.object "com/example/tidemark/tidemark/io/JsonBytes$Fields")) (by decide) (by decide)))
  replace Fp := Fp.other W8 (Or.inr (slot_ne (Or.inl (tw90 hw)) (Or.inr (tw94 hw)) (by decide) (t := .int) (t' := (.object "com/example/tidemark/tidemark/io/JsonBytes$Fields")) (by decide) (by decide)))
  replace Fe := Fe.other W8 (Or.inr (slot_ne (Or.inr (tw92 hw)) (Or.inr (tw94 hw)) (by decide) (t := .int) (t' := (.object "com/example/tidemark/tidemark/io/JsonBytes$Fields")) (by decide) (by decide)))
  replace G1 := G1.same W8
  replace Fd := Fd.other W8 (Or.inr (slot_ne (Or.inl (tw120 hw)) (Or.inr (tw94 hw)) (by decide) (t := .int) (t' := (.object "com/example/tidemark/tidemark/io/JsonBytes$Fields")) (by decide) (by decide)))
  replace Fs := Fs.other W8 (Or.inr (slot_ne (Or.inl (tw122 hw)) (Or.inr (tw94 hw)) (by decide) (t := .boolean) (t' := (.object "com/example/tidemark/tidemark/io/JsonBytes$Fields")) (by decide) (by decide)))
  replace E := E.wr W8
  replace A2 := A2.wr W8
  replace hz := Nat.le_trans hz (Nat.le_of_eq W8.size.symm)
  replace K0 := K0.wr W8 (Or.inl (by simp))
  have N8 := Fr.snoc X8 N7 ga
  refine Go.of (mkF m 38 #[.val (.ref a), .val (.ref d), .val (.int p), .val (.int q), .val (.ref k)] []) (st8) ?_
  exact Go.retV X8 hx hret hlk (hb hby d6_38) (by decide) (by decide) (by rw [e8]; exact ⟨rfl, N8, K0, Fb, Fe, Fp, Fd, Fs⟩)
theorem ef_rmW (m : MethodId) (x0 : Int32) : entryFrame m #[(.int x0)] 1 = mkF m 0 #[.val (.int x0)] [] := by first | (simp [entryFrame, mkF, argsToLocals, Value.category]; done) | rfl
set_option maxRecDepth 65536 in
set_option maxHeartbeats 40000000 in
theorem rmW (l : Launch) (Z : State) (a0 : Array Value) (hw : ∀ d ∈ tables_1, d.before a0 Z = true) (ws : List Jvm.Cond) (p : Int32) (h0 : Heap) :
    Met l Z (⟨"com/example/tidemark/tidemark/io/JsonBytes", "isWhitespace", "(B)Z"⟩ : MethodName) prog_2_method_28_code 1 (some .boolean) ws ({ frames := 0, cells := 0, slots := 0, locals := 0 } : Room) #[(.int p)] h0 (fun v h L => v = some (.int (own_ws p)) ∧ L = [] ∧ h = h0) := by
  refine Met.intro pn19 ?_
  intro pr ev s m below meth c T0 X0 hx hZ hown hby hml hret hlk hnm e0
  refine Go.cast (ef_rmW m p) ?_
  refine Go.of (mkF m 1 #[.val (.int p)] [(.int p)]) (fun tt0 kk0 => XS.iloadN X0.here hx rfl (hb hby d18_0) rfl kk0) ?_
  refine Go.of (mkF m 3 #[.val (.int p)] [(.int (32 : Int32)), (.int p)]) (fun tt0 kk0 => XS.bipush X0.here hx rfl (hb hby d18_1) kk0) ?_
  by_cases hc3 : p = (32 : Int32)
  ·
    refine Go.of (mkF m 24 #[.val (.int p)] []) (fun tt0 kk0 => XS.icmpYes X0.here hx rfl (pc0 := 3) (pc' := 24) rfl (hb hby d18_3) rfl (teq hc3).1 (by decide) (by decide) kk0) ?_
    refine Go.of (mkF m 25 #[.val (.int p)] [(.int (1 : Int32))]) (fun tt0 kk0 => XS.iconst X0.here hx rfl (hb hby d18_24) kk0) ?_
    refine Go.of (mkF m 29 #[.val (.int p)] [(.int (1 : Int32))]) (fun tt0 kk0 => XS.goto X0.here hx rfl (pc0 := 25) (pc' := 29) rfl (hb hby d18_25) (by decide) (by decide) kk0) ?_
    exact Go.retW X0 hx (t := .boolean) hret hlk rfl (Or.inl ⟨rfl, by simp, _, rfl⟩) (hb hby d18_29) (by decide) (by decide) ⟨by simp [own_ws, hc3], rfl, e0⟩
  ·
    refine Go.of (mkF m 6 #[.val (.int p)] []) (fun tt0 kk0 => XS.icmpNo X0.here hx rfl (hb hby d18_3) rfl (feq hc3).1 kk0) ?_
    refine Go.of (mkF m 7 #[.val (.int p)] [(.int p)]) (fun tt0 kk0 => XS.iloadN X0.here hx rfl (hb hby d18_6) rfl kk0) ?_
    refine Go.of (mkF m 9 #[.val (.int p)] [(.int (10 : Int32)), (.int p)]) (fun tt0 kk0 => XS.bipush X0.here hx rfl (hb hby d18_7) kk0) ?_
    by_cases hc9 : p = (10 : Int32)
    ·
      refine Go.of (mkF m 24 #[.val (.int p)] []) (fun tt0 kk0 => XS.icmpYes X0.here hx rfl (pc0 := 9) (pc' := 24) rfl (hb hby d18_9) rfl (teq hc9).1 (by decide) (by decide) kk0) ?_
      refine Go.of (mkF m 25 #[.val (.int p)] [(.int (1 : Int32))]) (fun tt0 kk0 => XS.iconst X0.here hx rfl (hb hby d18_24) kk0) ?_
      refine Go.of (mkF m 29 #[.val (.int p)] [(.int (1 : Int32))]) (fun tt0 kk0 => XS.goto X0.here hx rfl (pc0 := 25) (pc' := 29) rfl (hb hby d18_25) (by decide) (by decide) kk0) ?_
      exact Go.retW X0 hx (t := .boolean) hret hlk rfl (Or.inl ⟨rfl, by simp, _, rfl⟩) (hb hby d18_29) (by decide) (by decide) ⟨by simp [own_ws, hc3, hc9], rfl, e0⟩
    ·
      refine Go.of (mkF m 12 #[.val (.int p)] []) (fun tt0 kk0 => XS.icmpNo X0.here hx rfl (hb hby d18_9) rfl (feq hc9).1 kk0) ?_
      refine Go.of (mkF m 13 #[.val (.int p)] [(.int p)]) (fun tt0 kk0 => XS.iloadN X0.here hx rfl (hb hby d18_12) rfl kk0) ?_
      refine Go.of (mkF m 15 #[.val (.int p)] [(.int (13 : Int32)), (.int p)]) (fun tt0 kk0 => XS.bipush X0.here hx rfl (hb hby d18_13) kk0) ?_
      by_cases hc15 : p = (13 : Int32)
      ·
        refine Go.of (mkF m 24 #[.val (.int p)] []) (fun tt0 kk0 => XS.icmpYes X0.here hx rfl (pc0 := 15) (pc' := 24) rfl (hb hby d18_15) rfl (teq hc15).1 (by decide) (by decide) kk0) ?_
        refine Go.of (mkF m 25 #[.val (.int p)] [(.int (1 : Int32))]) (fun tt0 kk0 => XS.iconst X0.here hx rfl (hb hby d18_24) kk0) ?_
        refine Go.of (mkF m 29 #[.val (.int p)] [(.int (1 : Int32))]) (fun tt0 kk0 => XS.goto X0.here hx rfl (pc0 := 25) (pc' := 29) rfl (hb hby d18_25) (by decide) (by decide) kk0) ?_
        exact Go.retW X0 hx (t := .boolean) hret hlk rfl (Or.inl ⟨rfl, by simp, _, rfl⟩) (hb hby d18_29) (by decide) (by decide) ⟨by simp [own_ws, hc3, hc9, hc15], rfl, e0⟩
      ·
        refine Go.of (mkF m 18 #[.val (.int p)] []) (fun tt0 kk0 => XS.icmpNo X0.here hx rfl (hb hby d18_15) rfl (feq hc15).1 kk0) ?_
        refine Go.of (mkF m 19 #[.val (.int p)] [(.int p)]) (fun tt0 kk0 => XS.iloadN X0.here hx rfl (hb hby d18_18) rfl kk0) ?_
        refine Go.of (mkF m 21 #[.val (.int p)] [(.int (9 : Int32)), (.int p)]) (fun tt0 kk0 => XS.bipush X0.here hx rfl (hb hby d18_19) kk0) ?_
        by_cases hc21 : p = (9 : Int32)
        ·
          refine Go.of (mkF m 24 #[.val (.int p)] []) (fun tt0 kk0 => XS.icmpNo X0.here hx rfl (hb hby d18_21) rfl (teq hc21).2 kk0) ?_
          refine Go.of (mkF m 25 #[.val (.int p)] [(.int (1 : Int32))]) (fun tt0 kk0 => XS.iconst X0.here hx rfl (hb hby d18_24) kk0) ?_
          refine Go.of (mkF m 29 #[.val (.int p)] [(.int (1 : Int32))]) (fun tt0 kk0 => XS.goto X0.here hx rfl (pc0 := 25) (pc' := 29) rfl (hb hby d18_25) (by decide) (by decide) kk0) ?_
          exact Go.retW X0 hx (t := .boolean) hret hlk rfl (Or.inl ⟨rfl, by simp, _, rfl⟩) (hb hby d18_29) (by decide) (by decide) ⟨by simp [own_ws, hc3, hc9, hc15, hc21], rfl, e0⟩
        ·
          refine Go.of (mkF m 28 #[.val (.int p)] []) (fun tt0 kk0 => XS.icmpYes X0.here hx rfl (pc0 := 21) (pc' := 28) rfl (hb hby d18_21) rfl (feq hc21).2 (by decide) (by decide) kk0) ?_
          refine Go.of (mkF m 29 #[.val (.int p)] [(.int (0 : Int32))]) (fun tt0 kk0 => XS.iconst X0.here hx rfl (hb hby d18_28) kk0) ?_
          exact Go.retW X0 hx (t := .boolean) hret hlk rfl (Or.inl ⟨rfl, by simp, _, rfl⟩) (hb hby d18_29) (by decide) (by decide) ⟨by simp [own_ws, hc3, hc9, hc15, hc21], rfl, e0⟩
theorem ef_rmP (m : MethodId) (x0 : Addr) : entryFrame m #[(.ref x0)] 1 = mkF m 0 #[.val (.ref x0)] [] := by first | (simp [entryFrame, mkF, argsToLocals, Value.category]; done) | rfl
set_option maxRecDepth 65536 in
set_option maxHeartbeats 40000000 in
theorem rmP (l : Launch) (Z : State) (a0 : Array Value) (hw : ∀ d ∈ tables_1, d.before a0 Z = true) (ws : List Jvm.Cond) (a d : Addr) (N en i dp st : Int32) (y : Int32 → Int32) (h0 : Heap) (n0 : Nat) (hz0 : n0 ≤ h0.size) (E : Exa Z h0 a "com/example/tidemark/tidemark/io/JsonBytes") (ga : n0 ≤ a) (ne : a ≠ d) (Fb : Fld Z h0 a "com/example/tidemark/tidemark/io/JsonBytes" "bytes" "[B" (.ref d)) (Fe : Fld Z h0 a "com/example/tidemark/tidemark/io/JsonBytes" "end" "I" (.int en)) (Fp : Fld Z h0 a "com/example/tidemark/tidemark/io/JsonBytes" "position" "I" (.int i)) (Fd : Fld Z h0 a "com/example/tidemark/tidemark/io/JsonBytes" "depth" "I" (.int dp)) (Fs : Fld Z h0 a "com/example/tidemark/tidemark/io/JsonBytes" "atStart" "Z" (.int st)) (V : Fa Z h0 d .byte N (fun i => .int (y i))) (hok : own_ok N en i) (hN : N.toInt ≤ 5) :
    Met l Z (⟨"com/example/tidemark/tidemark/io/JsonBytes", "peek", "()I"⟩ : MethodName) prog_2_method_23_code 1 (some .int) ws ({ frames := 1, cells := 0, slots := 0, locals := 12 } : Room) #[(.ref a)] h0 (fun v h L => v = some (.int (own_at y en (own_sk y en 5 i))) ∧ Fr n0 L ∧ Keep h0 h [a] ∧ Fld Z h a "com/example/tidemark/tidemark/io/JsonBytes" "bytes" "[B" (.ref d) ∧ Fld Z h a "com/example/tidemark/tidemark/io/JsonBytes" "end" "I" (.int en) ∧ Fld Z h a "com/example/tidemark/tidemark/io/JsonBytes" "position" "I" (.int (own_sk y en 5 i)) ∧ Fld Z h a "com/example/tidemark/tidemark/io/JsonBytes" "depth" "I" (.int dp) ∧ Fld Z h a "com/example/tidemark/tidemark/io/JsonBytes" "atStart" "Z" (.int st)) := by
  refine Met.intro pn20 ?_
  intro pr ev s m below meth c T0 X0 hx hZ hown hby hml hret hlk hnm e0
  refine Go.cast (ef_rmP m a) ?_
  have N0 := Fr.nil n0
  have hz := hz0
  have K0 : Keep h0 h0 [a] := Keep.refl h0 _
  have J0 : ∀ (k : Nat) (TJ : State) (LJ : List Loc) (hJ : Heap) (j : Int32), Stand pr l ev ({ frames := 1, cells := 0, slots := 0, locals := 12 } : Room) s m #[(.ref a)] below meth c TJ LJ 0 0 → TJ.heap = hJ → Fr n0 LJ → Keep h0 hJ [a] → own_ok N en j → en.toInt - j.toInt ≤ k → own_sk y en k j = (own_sk y en 5 i) → Exa Z hJ a "com/example/tidemark/tidemark/io/JsonBytes" → Fld Z hJ a "com/example/tidemark/tidemark/io/JsonBytes" "bytes" "[B" (.ref d) → Fld Z hJ a "com/example/tidemark/tidemark/io/JsonBytes" "end" "I" (.int en) → Fld Z hJ a "com/example/tidemark/tidemark/io/JsonBytes" "position" "I" (.int j) → Fld Z hJ a "com/example/tidemark/tidemark/io/JsonBytes" "depth" "I" (.int dp) → Fld Z hJ a "com/example/tidemark/tidemark/io/JsonBytes" "atStart" "Z" (.int st) → Fa Z hJ d .byte N (fun i => .int (y i)) → n0 ≤ hJ.size → Go pr ev below (EndP s ({ frames := 1, cells := 0, slots := 0, locals := 12 } : Room) (fun v h L => v = some (.int (own_at y en (own_sk y en 5 i))) ∧ Fr n0 L ∧ Keep h0 h [a] ∧ Fld Z h a "com/example/tidemark/tidemark/io/JsonBytes" "bytes" "[B" (.ref d) ∧ Fld Z h a "com/example/tidemark/tidemark/io/JsonBytes" "end" "I" (.int en) ∧ Fld Z h a "com/example/tidemark/tidemark/io/JsonBytes" "position" "I" (.int (own_sk y en 5 i)) ∧ Fld Z h a "com/example/tidemark/tidemark/io/JsonBytes" "depth" "I" (.int dp) ∧ Fld Z h a "com/example/tidemark/tidemark/io/JsonBytes" "atStart" "Z" (.int st))) TJ (mkF m 0 #[.val (.ref a)] []) := by
    intro k
    induction k with
    | zero =>
      intro TJ LJ hJ j XJ eJ NJ KJ okJ leJ skJ E Fb Fe Fp Fd Fs V hz
      refine Go.of (mkF m 1 #[.val (.ref a)] [(.ref a)]) (fun tt0 kk0 => XS.aloadN XJ.here hx rfl (hb hby d17_0) rfl rfl kk0) ?_
      obtain ⟨T1, X1, e1, st1⟩ := getF XJ hx hZ hown (host := "") (Or.inl (tw89 hw)) Via.refl eJ Fp (g := (mkF m 1 #[.val (.ref a)] [(.ref a)])) rfl rfl (hb hby d17_1)
      refine Go.of (mkF m 4 #[.val (.ref a)] [(.int j)]) (st1) ?_
      refine Go.of (mkF m 5 #[.val (.ref a)] [(.ref a), (.int j)]) (fun tt0 kk0 => XS.aloadN X1.here hx rfl (hb hby d17_4) rfl rfl kk0) ?_
      obtain ⟨T2, X2, e2, st2⟩ := getF X1 hx hZ hown (host := "") (Or.inl (tw91 hw)) Via.refl e1 Fe (g := (mkF m 5 #[.val (.ref a)] [(.ref a), (.int j)])) rfl rfl (hb hby d17_5)
      refine Go.of (mkF m 8 #[.val (.ref a)] [(.int en), (.int j)]) (st2) ?_
      refine Go.of (mkF m 39 #[.val (.ref a)] []) (fun tt0 kk0 => XS.icmpYes X2.here hx rfl (pc0 := 8) (pc' := 39) rfl (hb hby d17_8) rfl (flt (show ¬ j < en by rw [Int32.lt_iff_toInt_lt]; omega)).2.1 (by decide) (by decide) kk0) ?_
      have fx : j = (own_sk y en 5 i) := by rw [← skJ]; exact (own_fix (own_s3 (show ¬ j < en by rw [Int32.lt_iff_toInt_lt]; omega)) _).symm
      rw [← fx]
      refine Go.of (mkF m 40 #[.val (.ref a)] [(.ref a)]) (fun tt0 kk0 => XS.aloadN X2.here hx rfl (hb hby d17_39) rfl rfl kk0) ?_
      obtain ⟨T3, X3, e3, st3⟩ := getF X2 hx hZ hown (host := "") (Or.inl (tw89 hw)) Via.refl e2 Fp (g := (mkF m 40 #[.val (.ref a)] [(.ref a)])) rfl rfl (hb hby d17_40)
      refine Go.of (mkF m 43 #[.val (.ref a)] [(.int j)]) (st3) ?_
      refine Go.of (mkF m 44 #[.val (.ref a)] [(.ref a), (.int j)]) (fun tt0 kk0 => XS.aloadN X3.here hx rfl (hb hby d17_43) rfl rfl kk0) ?_
      obtain ⟨T4, X4, e4, st4⟩ := getF X3 hx hZ hown (host := "") (Or.inl (tw91 hw)) Via.refl e3 Fe (g := (mkF m 44 #[.val (.ref a)] [(.ref a), (.int j)])) rfl rfl (hb hby d17_44)
      refine Go.of (mkF m 47 #[.val (.ref a)] [(.int en), (.int j)]) (st4) ?_
      refine Go.of (mkF m 66 #[.val (.ref a)] []) (fun tt0 kk0 => XS.icmpYes X4.here hx rfl (pc0 := 47) (pc' := 66) rfl (hb hby d17_47) rfl (flt (show ¬ j < en by rw [Int32.lt_iff_toInt_lt]; omega)).2.1 (by decide) (by decide) kk0) ?_
      refine Go.of (mkF m 67 #[.val (.ref a)] [(.int (-1 : Int32))]) (fun tt0 kk0 => XS.iconst X4.here hx rfl (hb hby d17_66) kk0) ?_
      exact Go.retW X4 hx (t := .int) hret hlk rfl (Or.inl ⟨rfl, by simp, _, rfl⟩) (hb hby d17_67) (by decide) (by decide) (by rw [e4]; exact ⟨by rw [own_a2 (show ¬ j < en by rw [Int32.lt_iff_toInt_lt]; omega)], NJ, KJ, Fb, Fe, Fp, Fd, Fs⟩)
    | succ k ih =>
      intro TJ LJ hJ j XJ eJ NJ KJ okJ leJ skJ E Fb Fe Fp Fd Fs V hz
      refine Go.of (mkF m 1 #[.val (.ref a)] [(.ref a)]) (fun tt0 kk0 => XS.aloadN XJ.here hx rfl (hb hby d17_0) rfl rfl kk0) ?_
      obtain ⟨T5, X5, e5, st5⟩ := getF XJ hx hZ hown (host := "") (Or.inl (tw89 hw)) Via.refl eJ Fp (g := (mkF m 1 #[.val (.ref a)] [(.ref a)])) rfl rfl (hb hby d17_1)
      refine Go.of (mkF m 4 #[.val (.ref a)] [(.int j)]) (st5) ?_
      refine Go.of (mkF m 5 #[.val (.ref a)] [(.ref a), (.int j)]) (fun tt0 kk0 => XS.aloadN X5.here hx rfl (hb hby d17_4) rfl rfl kk0) ?_
      obtain ⟨T6, X6, e6, st6⟩ := getF X5 hx hZ hown (host := "") (Or.inl (tw91 hw)) Via.refl e5 Fe (g := (mkF m 5 #[.val (.ref a)] [(.ref a), (.int j)])) rfl rfl (hb hby d17_5)
      refine Go.of (mkF m 8 #[.val (.ref a)] [(.int en), (.int j)]) (st6) ?_
      by_cases hc8 : j < en
      ·
        refine Go.of (mkF m 11 #[.val (.ref a)] []) (fun tt0 kk0 => XS.icmpNo X6.here hx rfl (hb hby d17_8) rfl (tlt hc8).2.1 kk0) ?_
        refine Go.of (mkF m 12 #[.val (.ref a)] [(.ref a)]) (fun tt0 kk0 => XS.aloadN X6.here hx rfl (hb hby d17_11) rfl rfl kk0) ?_
        obtain ⟨T7, X7, e7, st7⟩ := getF X6 hx hZ hown (host := "") (Or.inl (tw87 hw)) Via.refl e6 Fb (g := (mkF m 12 #[.val (.ref a)] [(.ref a)])) rfl rfl (hb hby d17_12)
        refine Go.of (mkF m 15 #[.val (.ref a)] [(.ref d)]) (st7) ?_
        refine Go.of (mkF m 16 #[.val (.ref a)] [(.ref a), (.ref d)]) (fun tt0 kk0 => XS.aloadN X7.here hx rfl (hb hby d17_15) rfl rfl kk0) ?_
        obtain ⟨T8, X8, e8, st8⟩ := getF X7 hx hZ hown (host := "") (Or.inl (tw89 hw)) Via.refl e7 Fp (g := (mkF m 16 #[.val (.ref a)] [(.ref a), (.ref d)])) rfl rfl (hb hby d17_16)
        refine Go.of (mkF m 19 #[.val (.ref a)] [(.int j), (.ref d)]) (st8) ?_
        refine Go.baload X8 hx hZ e8 V (own_in0 okJ) (own_in1 okJ hc8) (g := (mkF m 19 #[.val (.ref a)] [(.int j), (.ref d)])) rfl rfl (hb hby d17_19) ?_
        show Go pr ev below _ T8 (mkF m 20 #[.val (.ref a)] [(.int (y j))])
        refine Go.callS X8 hx hZ (y := (⟨"com/example/tidemark/tidemark/io/JsonBytes", "isWhitespace", "(B)Z"⟩ : MethodName)) (argsL := [(.int (y j))]) (rest := []) hown (tw116 hw) (tw117 hw) (tw8 hw) (tw118 hw) (by decide) e8 (rmW l Z a0 hw [] (y j) hJ) (g := (mkF m 20 #[.val (.ref a)] [(.int (y j))])) rfl (by rw [hml]; rfl) (lenOf pd3 rfl) rfl (W := 0) (by show 2 * 0 + _ ≤ _; exact Nat.le_of_eq rfl) (hb hby d17_20) (by decide) (by decide) (by decide) (by decide) ?_
        rintro T9 L9 v9 X9 ⟨rfl, rfl, hh9⟩
        have N9 := Fr.app NJ (Fr.nil n0)
        show Go pr ev below _ T9 (mkF m 23 #[.val (.ref a)] [(.int (own_ws (y j)))])
        by_cases hc23 : (own_ws (y j)) = (0 : Int32)
        ·
          refine Go.of (mkF m 39 #[.val (.ref a)] []) (fun tt0 kk0 => XS.ifYes X9.here hx rfl (pc0 := 23) (pc' := 39) rfl (hb hby d17_23) rfl ((if0 _ _).trans (teq hc23).1) (by decide) (by decide) kk0) ?_
          have fx : j = (own_sk y en 5 i) := by rw [← skJ]; exact (own_fix (own_s1 hc8 hc23) _).symm
          rw [← fx]
          refine Go.of (mkF m 40 #[.val (.ref a)] [(.ref a)]) (fun tt0 kk0 => XS.aloadN X9.here hx rfl (hb hby d17_39) rfl rfl kk0) ?_
          obtain ⟨T10, X10, e10, st10⟩ := getF X9 hx hZ hown (host := "") (Or.inl (tw89 hw)) Via.refl hh9 Fp (g := (mkF m 40 #[.val (.ref a)] [(.ref a)])) rfl rfl (hb hby d17_40)
          refine Go.of (mkF m 43 #[.val (.ref a)] [(.int j)]) (st10) ?_
          refine Go.of (mkF m 44 #[.val (.ref a)] [(.ref a), (.int j)]) (fun tt0 kk0 => XS.aloadN X10.here hx rfl (hb hby d17_43) rfl rfl kk0) ?_
          obtain ⟨T11, X11, e11, st11⟩ := getF X10 hx hZ hown (host := "") (Or.inl (tw91 hw)) Via.refl e10 Fe (g := (mkF m 44 #[.val (.ref a)] [(.ref a), (.int j)])) rfl rfl (hb hby d17_44)
          refine Go.of (mkF m 47 #[.val (.ref a)] [(.int en), (.int j)]) (st11) ?_
          refine Go.of (mkF m 50 #[.val (.ref a)] []) (fun tt0 kk0 => XS.icmpNo X11.here hx rfl (hb hby d17_47) rfl (tlt hc8).2.1 kk0) ?_
          refine Go.of (mkF m 51 #[.val (.ref a)] [(.ref a)]) (fun tt0 kk0 => XS.aloadN X11.here hx rfl (hb hby d17_50) rfl rfl kk0) ?_
          obtain ⟨T12, X12, e12, st12⟩ := getF X11 hx hZ hown (host := "") (Or.inl (tw87 hw)) Via.refl e11 Fb (g := (mkF m 51 #[.val (.ref a)] [(.ref a)])) rfl rfl (hb hby d17_51)
          refine Go.of (mkF m 54 #[.val (.ref a)] [(.ref d)]) (st12) ?_
          refine Go.of (mkF m 55 #[.val (.ref a)] [(.ref a), (.ref d)]) (fun tt0 kk0 => XS.aloadN X12.here hx rfl (hb hby d17_54) rfl rfl kk0) ?_
          obtain ⟨T13, X13, e13, st13⟩ := getF X12 hx hZ hown (host := "") (Or.inl (tw89 hw)) Via.refl e12 Fp (g := (mkF m 55 #[.val (.ref a)] [(.ref a), (.ref d)])) rfl rfl (hb hby d17_55)
          refine Go.of (mkF m 58 #[.val (.ref a)] [(.int j), (.ref d)]) (st13) ?_
          refine Go.baload X13 hx hZ e13 V (own_in0 okJ) (own_in1 okJ hc8) (g := (mkF m 58 #[.val (.ref a)] [(.int j), (.ref d)])) rfl rfl (hb hby d17_58) ?_
          show Go pr ev below _ T13 (mkF m 59 #[.val (.ref a)] [(.int (y j))])
          refine Go.of (mkF m 62 #[.val (.ref a)] [(.int (255 : Int32)), (.int (y j))]) (fun tt0 kk0 => XS.sipush X13.here hx rfl (hb hby d17_59) kk0) ?_
          refine Go.of (mkF m 63 #[.val (.ref a)] [(.int ((y j) &&& (255 : Int32)))]) (fun tt0 kk0 => XS.iand X13.here hx rfl (hb hby d17_62) rfl kk0) ?_
          refine Go.of (mkF m 67 #[.val (.ref a)] [(.int ((y j) &&& (255 : Int32)))]) (fun tt0 kk0 => XS.goto X13.here hx rfl (pc0 := 63) (pc' := 67) rfl (hb hby d17_63) (by decide) (by decide) kk0) ?_
          exact Go.retW X13 hx (t := .int) hret hlk rfl (Or.inl ⟨rfl, by simp, _, rfl⟩) (hb hby d17_67) (by decide) (by decide) (by rw [e13]; exact ⟨by rw [own_a1 hc8], N9, KJ, Fb, Fe, Fp, Fd, Fs⟩)
        ·
          refine Go.of (mkF m 26 #[.val (.ref a)] []) (fun tt0 kk0 => XS.ifNo X9.here hx rfl (hb hby d17_23) rfl ((if0 _ _).trans (feq hc23).1) kk0) ?_
          refine Go.of (mkF m 27 #[.val (.ref a)] [(.ref a)]) (fun tt0 kk0 => XS.aloadN X9.here hx rfl (hb hby d17_26) rfl rfl kk0) ?_
          refine Go.of (mkF m 28 #[.val (.ref a)] [(.ref a), (.ref a)]) (fun tt0 kk0 => XS.dup X9.here hx rfl (hb hby d17_27) rfl rfl kk0) ?_
          obtain ⟨T14, X14, e14, st14⟩ := getF X9 hx hZ hown (host := "") (Or.inl (tw89 hw)) Via.refl hh9 Fp (g := (mkF m 28 #[.val (.ref a)] [(.ref a), (.ref a)])) rfl rfl (hb hby d17_28)
          refine Go.of (mkF m 31 #[.val (.ref a)] [(.int j), (.ref a)]) (st14) ?_
          refine Go.of (mkF m 32 #[.val (.ref a)] [(.int (1 : Int32)), (.int j), (.ref a)]) (fun tt0 kk0 => XS.iconst X14.here hx rfl (hb hby d17_31) kk0) ?_
          refine Go.of (mkF m 33 #[.val (.ref a)] [(.int (j + (1 : Int32))), (.ref a)]) (fun tt0 kk0 => XS.iadd X14.here hx rfl (hb hby d17_32) rfl kk0) ?_
          obtain ⟨T15, h15, X15, e15, W15, st15⟩ := putF X14 hx hZ hown (host := "") (Or.inl (tw89 hw)) Via.refl e14 Fp E (Or.inl (tw90 hw)) (tw7 hw) (ty := .int) (by decide) rfl rfl (g := (mkF m 33 #[.val (.ref a)] [(.int (j + (1 : Int32))), (.ref a)])) rfl rfl (hb hby d17_33)
          replace Fb := Fb.other W15 (Or.inr (slot_ne (Or.inr (tw88 hw)) (Or.inl (tw90 hw)) (by decide) (t := (.array .byte)) (t' := .int) (by decide) (by decide)))
          replace Fe := Fe.other W15 (Or.inr (slot_ne (Or.inr (tw92 hw)) (Or.inl (tw90 hw)) (by decide) (t := .int) (t' := .int) (by decide) (by decide)))
          replace Fp := Fp.same W15
          replace Fd := Fd.other W15 (Or.inr (slot_ne (Or.inl (tw120 hw)) (Or.inl (tw90 hw)) (by decide) (t := .int) (t' := .int) (by decide) (by decide)))
          replace Fs := Fs.other W15 (Or.inr (slot_ne (Or.inl (tw122 hw)) (Or.inl (tw90 hw)) (by decide) (t := .boolean) (t' := .int) (by decide) (by decide)))
          replace E := E.wr W15
          replace V := V.other W15 (Ne.symm ne)
          replace hz := Nat.le_trans hz (Nat.le_of_eq W15.size.symm)
          replace KJ := KJ.wr W15 (Or.inl (by simp))
          have N15 := Fr.snoc X15 N9 ga
          refine Go.of (mkF m 36 #[.val (.ref a)] []) (st15) ?_
          refine Go.of (mkF m 0 #[.val (.ref a)] []) (fun tt0 kk0 => XS.goto X15.here hx rfl (pc0 := 36) (pc' := 0) rfl (hb hby d17_36) (by decide) (by decide) kk0) ?_
          exact ih _ _ _ _ X15 e15 N15 KJ (own_suc okJ hc8).2 (by have := (own_suc okJ hc8).1; omega) (by rw [← skJ]; show _ = own_sk y en k (own_step y en j); rw [own_s2 hc8 hc23]) E Fb Fe Fp Fd Fs V hz
      ·
        refine Go.of (mkF m 39 #[.val (.ref a)] []) (fun tt0 kk0 => XS.icmpYes X6.here hx rfl (pc0 := 8) (pc' := 39) rfl (hb hby d17_8) rfl (flt hc8).2.1 (by decide) (by decide) kk0) ?_
        have fx : j = (own_sk y en 5 i) := by rw [← skJ]; exact (own_fix (own_s3 hc8) _).symm
        rw [← fx]
        refine Go.of (mkF m 40 #[.val (.ref a)] [(.ref a)]) (fun tt0 kk0 => XS.aloadN X6.here hx rfl (hb hby d17_39) rfl rfl kk0) ?_
        obtain ⟨T16, X16, e16, st16⟩ := getF X6 hx hZ hown (host := "") (Or.inl (tw89 hw)) Via.refl e6 Fp (g := (mkF m 40 #[.val (.ref a)] [(.ref a)])) rfl rfl (hb hby d17_40)
        refine Go.of (mkF m 43 #[.val (.ref a)] [(.int j)]) (st16) ?_
        refine Go.of (mkF m 44 #[.val (.ref a)] [(.ref a), (.int j)]) (fun tt0 kk0 => XS.aloadN X16.here hx rfl (hb hby d17_43) rfl rfl kk0) ?_
        obtain ⟨T17, X17, e17, st17⟩ := getF X16 hx hZ hown (host := "") (Or.inl (tw91 hw)) Via.refl e16 Fe (g := (mkF m 44 #[.val (.ref a)] [(.ref a), (.int j)])) rfl rfl (hb hby d17_44)
        refine Go.of (mkF m 47 #[.val (.ref a)] [(.int en), (.int j)]) (st17) ?_
        refine Go.of (mkF m 66 #[.val (.ref a)] []) (fun tt0 kk0 => XS.icmpYes X17.here hx rfl (pc0 := 47) (pc' := 66) rfl (hb hby d17_47) rfl (flt hc8).2.1 (by decide) (by decide) kk0) ?_
        refine Go.of (mkF m 67 #[.val (.ref a)] [(.int (-1 : Int32))]) (fun tt0 kk0 => XS.iconst X17.here hx rfl (hb hby d17_66) kk0) ?_
        exact Go.retW X17 hx (t := .int) hret hlk rfl (Or.inl ⟨rfl, by simp, _, rfl⟩) (hb hby d17_67) (by decide) (by decide) (by rw [e17]; exact ⟨by rw [own_a2 hc8], NJ, KJ, Fb, Fe, Fp, Fd, Fs⟩)
  exact J0 5 _ _ _ _ X0 e0 N0 K0 hok (own_room hok hN) rfl E Fb Fe Fp Fd Fs V hz
theorem ef_rmBA1 (m : MethodId) (x0 : Addr) : entryFrame m #[(.ref x0)] 2 = mkF m 0 #[.val (.ref x0), .unset] [] := by first | (simp [entryFrame, mkF, argsToLocals, Value.category]; done) | rfl
set_option maxRecDepth 65536 in
set_option maxHeartbeats 40000000 in
theorem rmBA1 (l : Launch) (Z : State) (a0 : Array Value) (hw : ∀ d ∈ tables_1, d.before a0 Z = true) (ws : List Jvm.Cond) (a d : Addr) (N en i dp st : Int32) (y : Int32 → Int32) (h0 : Heap) (n0 : Nat) (hz0 : n0 ≤ h0.size) (E : Exa Z h0 a "com/example/tidemark/tidemark/io/JsonBytes") (ga : n0 ≤ a) (ne : a ≠ d) (Fb : Fld Z h0 a "com/example/tidemark/tidemark/io/JsonBytes" "bytes" "[B" (.ref d)) (Fe : Fld Z h0 a "com/example/tidemark/tidemark/io/JsonBytes" "end" "I" (.int en)) (Fp : Fld Z h0 a "com/example/tidemark/tidemark/io/JsonBytes" "position" "I" (.int i)) (Fd : Fld Z h0 a "com/example/tidemark/tidemark/io/JsonBytes" "depth" "I" (.int dp)) (Fs : Fld Z h0 a "com/example/tidemark/tidemark/io/JsonBytes" "atStart" "Z" (.int st)) (V : Fa Z h0 d .byte N (fun i => .int (y i))) (hok : own_ok N en i) (hN : N.toInt ≤ 5) (hat : (own_at y en (own_sk y en 5 i)) = 91) (hdp : ¬ dp = 255) :
    Met l Z (⟨"com/example/tidemark/tidemark/io/JsonBytes", "beginArray", "()Z"⟩ : MethodName) prog_2_method_6_code 2 (some .boolean) ws ({ frames := 2, cells := 0, slots := 0, locals := 24 } : Room) #[(.ref a)] h0 (fun v h L => v = some (.int 1) ∧ Fr n0 L ∧ Keep h0 h [a] ∧ Fld Z h a "com/example/tidemark/tidemark/io/JsonBytes" "bytes" "[B" (.ref d) ∧ Fld Z h a "com/example/tidemark/tidemark/io/JsonBytes" "end" "I" (.int en) ∧ Fld Z h a "com/example/tidemark/tidemark/io/JsonBytes" "position" "I" (.int ((own_sk y en 5 i) + 1)) ∧ Fld Z h a "com/example/tidemark/tidemark/io/JsonBytes" "depth" "I" (.int (dp + 1)) ∧ Fld Z h a "com/example/tidemark/tidemark/io/JsonBytes" "atStart" "Z" (.int 1)) := by
  refine Met.intro pn21 ?_
  intro pr ev s m below meth c T0 X0 hx hZ hown hby hml hret hlk hnm e0
  refine Go.cast (ef_rmBA1 m a) ?_
  have N0 := Fr.nil n0
  have hz := hz0
  have K0 : Keep h0 h0 [a] := Keep.refl h0 _
  refine Go.of (mkF m 1 #[.val (.ref a), .unset] [(.ref a)]) (fun tt0 kk0 => XS.aloadN X0.here hx rfl (hb hby d16_0) rfl rfl kk0) ?_
  refine Go.priv X0 hx hZ (y := (⟨"com/example/tidemark/tidemark/io/JsonBytes", "peek", "()I"⟩ : MethodName)) (a := a) (argsL := []) (rest := []) hown (tw112 hw) (tw113 hw) (Jvm.Kit.selects_private (by decide) (tw7 hw) (tw114 hw) (tw113 hw)) (tw114 hw) (tw8 hw) (tw115 hw) (by decide) e0 E (rmP l Z a0 hw [] a d N en i dp st y h0 n0 hz E ga ne Fb Fe Fp Fd Fs V hok hN) (g := (mkF m 1 #[.val (.ref a), .unset] [(.ref a)])) rfl (by rw [hml]; rfl) (lenOf pd22 rfl) rfl (W := 0) (by show 2 * 0 + _ ≤ _; exact Nat.le_of_eq rfl) (hb hby d16_1) (by decide) (by decide) (by decide) (by decide) ?_
  rintro T1 L1 v1 X1 ⟨rfl, NL1, K1, Fb_1, Fe_1, Fp_1, Fd_1, Fs_1⟩
  have N1 := Fr.app N0 NL1
  replace E := E.keep K1
  replace V := V.keep K1 (ninS (Ne.symm ne) nin0)
  replace hz := Nat.le_trans hz K1.1
  replace K0 := K0.trans K1 (((allS (Or.inl (by simp)) all0)))
  show Go pr ev below _ T1 (mkF m 4 #[.val (.ref a), .unset] [(.int (own_at y en (own_sk y en 5 i)))])
  refine Go.of (mkF m 6 #[.val (.ref a), .unset] [(.int (91 : Int32)), (.int (own_at y en (own_sk y en 5 i)))]) (fun tt0 kk0 => XS.bipush X1.here hx rfl (hb hby d16_4) kk0) ?_
  refine Go.of (mkF m 9 #[.val (.ref a), .unset] []) (fun tt0 kk0 => XS.icmpNo X1.here hx rfl (hb hby d16_6) rfl (teq hat).2 kk0) ?_
  refine Go.of (mkF m 10 #[.val (.ref a), .unset] [(.int (1 : Int32))]) (fun tt0 kk0 => XS.iconst X1.here hx rfl (hb hby d16_9) kk0) ?_
  refine Go.of (mkF m 14 #[.val (.ref a), .unset] [(.int (1 : Int32))]) (fun tt0 kk0 => XS.goto X1.here hx rfl (pc0 := 10) (pc' := 14) rfl (hb hby d16_10) (by decide) (by decide) kk0) ?_
  refine Go.of (mkF m 15 #[.val (.ref a), .val (.int (1 : Int32))] []) (fun tt0 kk0 => XS.istoreN X1.here hx rfl (hb hby d16_14) rfl (l' := #[.val (.ref a), .val (.int (1 : Int32))]) rfl kk0) ?_
  refine Go.of (mkF m 16 #[.val (.ref a), .val (.int (1 : Int32))] [(.int (1 : Int32))]) (fun tt0 kk0 => XS.iloadN X1.here hx rfl (hb hby d16_15) rfl kk0) ?_
  refine Go.of (mkF m 19 #[.val (.ref a), .val (.int (1 : Int32))] []) (fun tt0 kk0 => XS.ifNo X1.here hx rfl (hb hby d16_16) rfl ((if0 _ _).trans (feq (by decide)).1) kk0) ?_
  refine Go.of (mkF m 20 #[.val (.ref a), .val (.int (1 : Int32))] [(.ref a)]) (fun tt0 kk0 => XS.aloadN X1.here hx rfl (hb hby d16_19) rfl rfl kk0) ?_
  obtain ⟨T2, X2, e2, st2⟩ := getF X1 hx hZ hown (host := "") (Or.inl (tw119 hw)) Via.refl rfl Fd_1 (g := (mkF m 20 #[.val (.ref a), .val (.int (1 : Int32))] [(.ref a)])) rfl rfl (hb hby d16_20)
  refine Go.of (mkF m 23 #[.val (.ref a), .val (.int (1 : Int32))] [(.int dp)]) (st2) ?_
  refine Go.of (mkF m 26 #[.val (.ref a), .val (.int (1 : Int32))] [(.int (255 : Int32)), (.int dp)]) (fun tt0 kk0 => XS.sipush X2.here hx rfl (hb hby d16_23) kk0) ?_
  refine Go.of (mkF m 39 #[.val (.ref a), .val (.int (1 : Int32))] []) (fun tt0 kk0 => XS.icmpYes X2.here hx rfl (pc0 := 26) (pc' := 39) rfl (hb hby d16_26) rfl (feq hdp).2 (by decide) (by decide) kk0) ?_
  refine Go.of (mkF m 40 #[.val (.ref a), .val (.int (1 : Int32))] [(.ref a)]) (fun tt0 kk0 => XS.aloadN X2.here hx rfl (hb hby d16_39) rfl rfl kk0) ?_
  refine Go.of (mkF m 41 #[.val (.ref a), .val (.int (1 : Int32))] [(.ref a), (.ref a)]) (fun tt0 kk0 => XS.dup X2.here hx rfl (hb hby d16_40) rfl rfl kk0) ?_
  obtain ⟨T3, X3, e3, st3⟩ := getF X2 hx hZ hown (host := "") (Or.inl (tw89 hw)) Via.refl e2 Fp_1 (g := (mkF m 41 #[.val (.ref a), .val (.int (1 : Int32))] [(.ref a), (.ref a)])) rfl rfl (hb hby d16_41)
  refine Go.of (mkF m 44 #[.val (.ref a), .val (.int (1 : Int32))] [(.int (own_sk y en 5 i)), (.ref a)]) (st3) ?_
  refine Go.of (mkF m 45 #[.val (.ref a), .val (.int (1 : Int32))] [(.int (1 : Int32)), (.int (own_sk y en 5 i)), (.ref a)]) (fun tt0 kk0 => XS.iconst X3.here hx rfl (hb hby d16_44) kk0) ?_
  refine Go.of (mkF m 46 #[.val (.ref a), .val (.int (1 : Int32))] [(.int ((own_sk y en 5 i) + (1 : Int32))), (.ref a)]) (fun tt0 kk0 => XS.iadd X3.here hx rfl (hb hby d16_45) rfl kk0) ?_
  obtain ⟨T4, h4, X4, e4, W4, st4⟩ := putF X3 hx hZ hown (host := "") (Or.inl (tw89 hw)) Via.refl e3 Fp_1 E (Or.inl (tw90 hw)) (tw7 hw) (ty := .int) (by decide) rfl rfl (g := (mkF m 46 #[.val (.ref a), .val (.int (1 : Int32))] [(.int ((own_sk y en 5 i) + (1 : Int32))), (.ref a)])) rfl rfl (hb hby d16_46)
  replace Fb_1 := Fb_1.other W4 (Or.inr (slot_ne (Or.inr (tw88 hw)) (Or.inl (tw90 hw)) (by decide) (t := (.array .byte)) (t' := .int) (by decide) (by decide)))
  replace Fe_1 := Fe_1.other W4 (Or.inr (slot_ne (Or.inr (tw92 hw)) (Or.inl (tw90 hw)) (by decide) (t := .int) (t' := .int) (by decide) (by decide)))
  replace Fp_1 := Fp_1.same W4
  replace Fd_1 := Fd_1.other W4 (Or.inr (slot_ne (Or.inl (tw120 hw)) (Or.inl (tw90 hw)) (by decide) (t := .int) (t' := .int) (by decide) (by decide)))
  replace Fs_1 := Fs_1.other W4 (Or.inr (slot_ne (Or.inl (tw122 hw)) (Or.inl (tw90 hw)) (by decide) (t := .boolean) (t' := .int) (by decide) (by decide)))
  replace E := E.wr W4
  replace V := V.other W4 (Ne.symm ne)
  replace hz := Nat.le_trans hz (Nat.le_of_eq W4.size.symm)
  replace K0 := K0.wr W4 (Or.inl (by simp))
  have N4 := Fr.snoc X4 N1 ga
  refine Go.of (mkF m 49 #[.val (.ref a), .val (.int (1 : Int32))] []) (st4) ?_
  refine Go.of (mkF m 50 #[.val (.ref a), .val (.int (1 : Int32))] [(.ref a)]) (fun tt0 kk0 => XS.aloadN X4.here hx rfl (hb hby d16_49) rfl rfl kk0) ?_
  refine Go.of (mkF m 51 #[.val (.ref a), .val (.int (1 : Int32))] [(.ref a), (.ref a)]) (fun tt0 kk0 => XS.dup X4.here hx rfl (hb hby d16_50) rfl rfl kk0) ?_
  obtain ⟨T5, X5, e5, st5⟩ := getF X4 hx hZ hown (host := "") (Or.inl (tw119 hw)) Via.refl e4 Fd_1 (g := (mkF m 51 #[.val (.ref a), .val (.int (1 : Int32))] [(.ref a), (.ref a)])) rfl rfl (hb hby d16_51)
  refine Go.of (mkF m 54 #[.val (.ref a), .val (.int (1 : Int32))] [(.int dp), (.ref a)]) (st5) ?_
  refine Go.of (mkF m 55 #[.val (.ref a), .val (.int (1 : Int32))] [(.int (1 : Int32)), (.int dp), (.ref a)]) (fun tt0 kk0 => XS.iconst X5.here hx rfl (hb hby d16_54) kk0) ?_
  refine Go.of (mkF m 56 #[.val (.ref a), .val (.int (1 : Int32))] [(.int (dp + (1 : Int32))), (.ref a)]) (fun tt0 kk0 => XS.iadd X5.here hx rfl (hb hby d16_55) rfl kk0) ?_
  obtain ⟨T6, h6, X6, e6, W6, st6⟩ := putF X5 hx hZ hown (host := "") (Or.inl (tw119 hw)) Via.refl e5 Fd_1 E (Or.inl (tw120 hw)) (tw7 hw) (ty := .int) (by decide) rfl rfl (g := (mkF m 56 #[.val (.ref a), .val (.int (1 : Int32))] [(.int (dp + (1 : Int32))), (.ref a)])) rfl rfl (hb hby d16_56)
  replace Fb_1 := Fb_1.other W6 (Or.inr (slot_ne (Or.inr (tw88 hw)) (Or.inl (tw120 hw)) (by decide) (t := (.array .byte)) (t' := .int) (by decide) (by decide)))
  replace Fe_1 := Fe_1.other W6 (Or.inr (slot_ne (Or.inr (tw92 hw)) (Or.inl (tw120 hw)) (by decide) (t := .int) (t' := .int) (by decide) (by decide)))
  replace Fp_1 := Fp_1.other W6 (Or.inr (slot_ne (Or.inl (tw90 hw)) (Or.inl (tw120 hw)) (by decide) (t := .int) (t' := .int) (by decide) (by decide)))
  replace Fd_1 := Fd_1.same W6
  replace Fs_1 := Fs_1.other W6 (Or.inr (slot_ne (Or.inl (tw122 hw)) (Or.inl (tw120 hw)) (by decide) (t := .boolean) (t' := .int) (by decide) (by decide)))
  replace E := E.wr W6
  replace V := V.other W6 (Ne.symm ne)
  replace hz := Nat.le_trans hz (Nat.le_of_eq W6.size.symm)
  replace K0 := K0.wr W6 (Or.inl (by simp))
  have N6 := Fr.snoc X6 N4 ga
  refine Go.of (mkF m 59 #[.val (.ref a), .val (.int (1 : Int32))] []) (st6) ?_
  refine Go.of (mkF m 60 #[.val (.ref a), .val (.int (1 : Int32))] [(.ref a)]) (fun tt0 kk0 => XS.aloadN X6.here hx rfl (hb hby d16_59) rfl rfl kk0) ?_
  refine Go.of (mkF m 61 #[.val (.ref a), .val (.int (1 : Int32))] [(.int (1 : Int32)), (.ref a)]) (fun tt0 kk0 => XS.iconst X6.here hx rfl (hb hby d16_60) kk0) ?_
  obtain ⟨T7, h7, X7, e7, W7, st7⟩ := putFN X6 hx hZ hown (tw121 hw) Via.refl e6 Fs_1 E (Or.inl (tw122 hw)) (tw7 hw) (ty := .boolean) (v' := (.int (1 : Int32))) (by decide) rfl rfl (g := (mkF m 61 #[.val (.ref a), .val (.int (1 : Int32))] [(.int (1 : Int32)), (.ref a)])) rfl rfl (hb hby d16_61)
  replace Fb_1 := Fb_1.other W7 (Or.inr (slot_ne (Or.inr (tw88 hw)) (Or.inl (tw122 hw)) (by decide) (t := (.array .byte)) (t' := .boolean) (by decide) (by decide)))
  replace Fe_1 := Fe_1.other W7 (Or.inr (slot_ne (Or.inr (tw92 hw)) (Or.inl (tw122 hw)) (by decide) (t := .int) (t' := .boolean) (by decide) (by decide)))
  replace Fp_1 := Fp_1.other W7 (Or.inr (slot_ne (Or.inl (tw90 hw)) (Or.inl (tw122 hw)) (by decide) (t := .int) (t' := .boolean) (by decide) (by decide)))
  replace Fd_1 := Fd_1.other W7 (Or.inr (slot_ne (Or.inl (tw120 hw)) (Or.inl (tw122 hw)) (by decide) (t := .int) (t' := .boolean) (by decide) (by decide)))
  replace Fs_1 := Fs_1.same W7
  replace E := E.wr W7
  replace V := V.other W7 (Ne.symm ne)
  replace hz := Nat.le_trans hz (Nat.le_of_eq W7.size.symm)
  replace K0 := K0.wr W7 (Or.inl (by simp))
  have N7 := Fr.snoc X7 N6 ga
  refine Go.of (mkF m 64 #[.val (.ref a), .val (.int (1 : Int32))] []) (st7) ?_
  refine Go.of (mkF m 65 #[.val (.ref a), .val (.int (1 : Int32))] [(.int (1 : Int32))]) (fun tt0 kk0 => XS.iloadN X7.here hx rfl (hb hby d16_64) rfl kk0) ?_
  exact Go.retW X7 hx (t := .boolean) hret hlk rfl (Or.inl ⟨rfl, by simp, _, rfl⟩) (hb hby d16_65) (by decide) (by decide) (by rw [e7]; exact ⟨rfl, N7, K0, Fb_1, Fe_1, Fp_1, Fd_1, Fs_1⟩)
theorem ef_rmBA0 (m : MethodId) (x0 : Addr) : entryFrame m #[(.ref x0)] 2 = mkF m 0 #[.val (.ref x0), .unset] [] := by first | (simp [entryFrame, mkF, argsToLocals, Value.category]; done) | rfl
set_option maxRecDepth 65536 in
set_option maxHeartbeats 40000000 in
theorem rmBA0 (l : Launch) (Z : State) (a0 : Array Value) (hw : ∀ d ∈ tables_1, d.before a0 Z = true) (ws : List Jvm.Cond) (a d : Addr) (N en i dp st : Int32) (y : Int32 → Int32) (h0 : Heap) (n0 : Nat) (hz0 : n0 ≤ h0.size) (E : Exa Z h0 a "com/example/tidemark/tidemark/io/JsonBytes") (ga : n0 ≤ a) (ne : a ≠ d) (Fb : Fld Z h0 a "com/example/tidemark/tidemark/io/JsonBytes" "bytes" "[B" (.ref d)) (Fe : Fld Z h0 a "com/example/tidemark/tidemark/io/JsonBytes" "end" "I" (.int en)) (Fp : Fld Z h0 a "com/example/tidemark/tidemark/io/JsonBytes" "position" "I" (.int i)) (Fd : Fld Z h0 a "com/example/tidemark/tidemark/io/JsonBytes" "depth" "I" (.int dp)) (Fs : Fld Z h0 a "com/example/tidemark/tidemark/io/JsonBytes" "atStart" "Z" (.int st)) (V : Fa Z h0 d .byte N (fun i => .int (y i))) (hok : own_ok N en i) (hN : N.toInt ≤ 5) (hat : ¬ (own_at y en (own_sk y en 5 i)) = 91) :
    Met l Z (⟨"com/example/tidemark/tidemark/io/JsonBytes", "beginArray", "()Z"⟩ : MethodName) prog_2_method_6_code 2 (some .boolean) ws ({ frames := 2, cells := 0, slots := 0, locals := 24 } : Room) #[(.ref a)] h0 (fun v h L => v = some (.int 0) ∧ Fr n0 L ∧ Keep h0 h [a] ∧ Fld Z h a "com/example/tidemark/tidemark/io/JsonBytes" "bytes" "[B" (.ref d) ∧ Fld Z h a "com/example/tidemark/tidemark/io/JsonBytes" "end" "I" (.int en) ∧ Fld Z h a "com/example/tidemark/tidemark/io/JsonBytes" "position" "I" (.int (own_sk y en 5 i)) ∧ Fld Z h a "com/example/tidemark/tidemark/io/JsonBytes" "depth" "I" (.int dp) ∧ Fld Z h a "com/example/tidemark/tidemark/io/JsonBytes" "atStart" "Z" (.int st)) := by
  refine Met.intro pn21 ?_
  intro pr ev s m below meth c T0 X0 hx hZ hown hby hml hret hlk hnm e0
  refine Go.cast (ef_rmBA0 m a) ?_
  have N0 := Fr.nil n0
  have hz := hz0
  have K0 : Keep h0 h0 [a] := Keep.refl h0 _
  refine Go.of (mkF m 1 #[.val (.ref a), .unset] [(.ref a)]) (fun tt0 kk0 => XS.aloadN X0.here hx rfl (hb hby d16_0) rfl rfl kk0) ?_
  refine Go.priv X0 hx hZ (y := (⟨"com/example/tidemark/tidemark/io/JsonBytes", "peek", "()I"⟩ : MethodName)) (a := a) (argsL := []) (rest := []) hown (tw112 hw) (tw113 hw) (Jvm.Kit.selects_private (by decide) (tw7 hw) (tw114 hw) (tw113 hw)) (tw114 hw) (tw8 hw) (tw115 hw) (by decide) e0 E (rmP l Z a0 hw [] a d N en i dp st y h0 n0 hz E ga ne Fb Fe Fp Fd Fs V hok hN) (g := (mkF m 1 #[.val (.ref a), .unset] [(.ref a)])) rfl (by rw [hml]; rfl) (lenOf pd22 rfl) rfl (W := 0) (by show 2 * 0 + _ ≤ _; exact Nat.le_of_eq rfl) (hb hby d16_1) (by decide) (by decide) (by decide) (by decide) ?_
  rintro T1 L1 v1 X1 ⟨rfl, NL1, K1, Fb_1, Fe_1, Fp_1, Fd_1, Fs_1⟩
  have N1 := Fr.app N0 NL1
  replace E := E.keep K1
  replace V := V.keep K1 (ninS (Ne.symm ne) nin0)
  replace hz := Nat.le_trans hz K1.1
  replace K0 := K0.trans K1 (((allS (Or.inl (by simp)) all0)))
  show Go pr ev below _ T1 (mkF m 4 #[.val (.ref a), .unset] [(.int (own_at y en (own_sk y en 5 i)))])
  refine Go.of (mkF m 6 #[.val (.ref a), .unset] [(.int (91 : Int32)), (.int (own_at y en (own_sk y en 5 i)))]) (fun tt0 kk0 => XS.bipush X1.here hx rfl (hb hby d16_4) kk0) ?_
  refine Go.of (mkF m 13 #[.val (.ref a), .unset] []) (fun tt0 kk0 => XS.icmpYes X1.here hx rfl (pc0 := 6) (pc' := 13) rfl (hb hby d16_6) rfl (feq hat).2 (by decide) (by decide) kk0) ?_
  refine Go.of (mkF m 14 #[.val (.ref a), .unset] [(.int (0 : Int32))]) (fun tt0 kk0 => XS.iconst X1.here hx rfl (hb hby d16_13) kk0) ?_
  refine Go.of (mkF m 15 #[.val (.ref a), .val (.int (0 : Int32))] []) (fun tt0 kk0 => XS.istoreN X1.here hx rfl (hb hby d16_14) rfl (l' := #[.val (.ref a), .val (.int (0 : Int32))]) rfl kk0) ?_
  refine Go.of (mkF m 16 #[.val (.ref a), .val (.int (0 : Int32))] [(.int (0 : Int32))]) (fun tt0 kk0 => XS.iloadN X1.here hx rfl (hb hby d16_15) rfl kk0) ?_
  refine Go.of (mkF m 64 #[.val (.ref a), .val (.int (0 : Int32))] []) (fun tt0 kk0 => XS.ifYes X1.here hx rfl (pc0 := 16) (pc' := 64) rfl (hb hby d16_16) rfl ((if0 _ _).trans (teq (by decide)).1) (by decide) (by decide) kk0) ?_
  refine Go.of (mkF m 65 #[.val (.ref a), .val (.int (0 : Int32))] [(.int (0 : Int32))]) (fun tt0 kk0 => XS.iloadN X1.here hx rfl (hb hby d16_64) rfl kk0) ?_
  exact Go.retW X1 hx (t := .boolean) hret hlk rfl (Or.inl ⟨rfl, by simp, _, rfl⟩) (hb hby d16_65) (by decide) (by decide) ⟨rfl, N1, K0, Fb_1, Fe_1, Fp_1, Fd_1, Fs_1⟩
theorem ef_rmNx1 (m : MethodId) (x0 : Addr) (x1 : Int32) (x2 : Int32) : entryFrame m #[(.ref x0), (.int x1), (.int x2)] 5 = mkF m 0 #[.val (.ref x0), .val (.int x1), .val (.int x2), .unset, .unset] [] := by first | (simp [entryFrame, mkF, argsToLocals, Value.category]; done) | rfl
set_option maxRecDepth 65536 in
set_option maxHeartbeats 40000000 in
theorem rmNx1 (l : Launch) (Z : State) (a0 : Array Value) (hw : ∀ d ∈ tables_1, d.before a0 Z = true) (ws : List Jvm.Cond) (a d : Addr) (N en i dp st : Int32) (y : Int32 → Int32) (h0 : Heap) (n0 : Nat) (hz0 : n0 ≤ h0.size) (E : Exa Z h0 a "com/example/tidemark/tidemark/io/JsonBytes") (ga : n0 ≤ a) (ne : a ≠ d) (Fb : Fld Z h0 a "com/example/tidemark/tidemark/io/JsonBytes" "bytes" "[B" (.ref d)) (Fe : Fld Z h0 a "com/example/tidemark/tidemark/io/JsonBytes" "end" "I" (.int en)) (Fp : Fld Z h0 a "com/example/tidemark/tidemark/io/JsonBytes" "position" "I" (.int i)) (Fd : Fld Z h0 a "com/example/tidemark/tidemark/io/JsonBytes" "depth" "I" (.int dp)) (Fs : Fld Z h0 a "com/example/tidemark/tidemark/io/JsonBytes" "atStart" "Z" (.int st)) (V : Fa Z h0 d .byte N (fun i => .int (y i))) (hok : own_ok N en i) (hN : N.toInt ≤ 5) (hat : (own_at y en (own_sk y en 5 i)) = 93) :
    Met l Z (⟨"com/example/tidemark/tidemark/io/JsonBytes", "next", "(CZ)Z"⟩ : MethodName) prog_2_method_12_code 5 (some .boolean) ws ({ frames := 2, cells := 0, slots := 0, locals := 24 } : Room) #[(.ref a), (.int (93 : Int32)), (.int (1 : Int32))] h0 (fun v h L => v = some (.int 0) ∧ Fr n0 L ∧ Keep h0 h [a] ∧ Fld Z h a "com/example/tidemark/tidemark/io/JsonBytes" "bytes" "[B" (.ref d) ∧ Fld Z h a "com/example/tidemark/tidemark/io/JsonBytes" "end" "I" (.int en) ∧ Fld Z h a "com/example/tidemark/tidemark/io/JsonBytes" "position" "I" (.int ((own_sk y en 5 i) + 1)) ∧ Fld Z h a "com/example/tidemark/tidemark/io/JsonBytes" "depth" "I" (.int dp) ∧ Fld Z h a "com/example/tidemark/tidemark/io/JsonBytes" "atStart" "Z" (.int st)) := by
  refine Met.intro pn23 ?_
  intro pr ev s m below meth c T0 X0 hx hZ hown hby hml hret hlk hnm e0
  refine Go.cast (ef_rmNx1 m a (93 : Int32) (1 : Int32)) ?_
  have N0 := Fr.nil n0
  have hz := hz0
  have K0 : Keep h0 h0 [a] := Keep.refl h0 _
  refine Go.of (mkF m 1 #[.val (.ref a), .val (.int (93 : Int32)), .val (.int (1 : Int32)), .unset, .unset] [(.ref a)]) (fun tt0 kk0 => XS.aloadN X0.here hx rfl (hb hby d21_0) rfl rfl kk0) ?_
  refine Go.priv X0 hx hZ (y := (⟨"com/example/tidemark/tidemark/io/JsonBytes", "peek", "()I"⟩ : MethodName)) (a := a) (argsL := []) (rest := []) hown (tw112 hw) (tw113 hw) (Jvm.Kit.selects_private (by decide) (tw7 hw) (tw114 hw) (tw113 hw)) (tw114 hw) (tw8 hw) (tw115 hw) (by decide) e0 E (rmP l Z a0 hw [] a d N en i dp st y h0 n0 hz E ga ne Fb Fe Fp Fd Fs V hok hN) (g := (mkF m 1 #[.val (.ref a), .val (.int (93 : Int32)), .val (.int (1 : Int32)), .unset, .unset] [(.ref a)])) rfl (by rw [hml]; rfl) (lenOf pd22 rfl) rfl (W := 0) (by show 2 * 0 + _ ≤ _; exact Nat.le_of_eq rfl) (hb hby d21_1) (by decide) (by decide) (by decide) (by decide) ?_
  rintro T1 L1 v1 X1 ⟨rfl, NL1, K1, Fb_1, Fe_1, Fp_1, Fd_1, Fs_1⟩
  have N1 := Fr.app N0 NL1
  replace E := E.keep K1
  replace V := V.keep K1 (ninS (Ne.symm ne) nin0)
  replace hz := Nat.le_trans hz K1.1
  replace K0 := K0.trans K1 (((allS (Or.inl (by simp)) all0)))
  show Go pr ev below _ T1 (mkF m 4 #[.val (.ref a), .val (.int (93 : Int32)), .val (.int (1 : Int32)), .unset, .unset] [(.int (own_at y en (own_sk y en 5 i)))])
  refine Go.of (mkF m 5 #[.val (.ref a), .val (.int (93 : Int32)), .val (.int (1 : Int32)), .val (.int (own_at y en (own_sk y en 5 i))), .unset] []) (fun tt0 kk0 => XS.istoreN X1.here hx rfl (hb hby d21_4) rfl (l' := #[.val (.ref a), .val (.int (93 : Int32)), .val (.int (1 : Int32)), .val (.int (own_at y en (own_sk y en 5 i))), .unset]) rfl kk0) ?_
  refine Go.of (mkF m 6 #[.val (.ref a), .val (.int (93 : Int32)), .val (.int (1 : Int32)), .val (.int (own_at y en (own_sk y en 5 i))), .unset] [(.int (own_at y en (own_sk y en 5 i)))]) (fun tt0 kk0 => XS.iloadN X1.here hx rfl (hb hby d21_5) rfl kk0) ?_
  refine Go.of (mkF m 7 #[.val (.ref a), .val (.int (93 : Int32)), .val (.int (1 : Int32)), .val (.int (own_at y en (own_sk y en 5 i))), .unset] [(.int (93 : Int32)), (.int (own_at y en (own_sk y en 5 i)))]) (fun tt0 kk0 => XS.iloadN X1.here hx rfl (hb hby d21_6) rfl kk0) ?_
  refine Go.of (mkF m 10 #[.val (.ref a), .val (.int (93 : Int32)), .val (.int (1 : Int32)), .val (.int (own_at y en (own_sk y en 5 i))), .unset] []) (fun tt0 kk0 => XS.icmpNo X1.here hx rfl (hb hby d21_7) rfl (teq hat).2 kk0) ?_
  refine Go.of (mkF m 11 #[.val (.ref a), .val (.int (93 : Int32)), .val (.int (1 : Int32)), .val (.int (own_at y en (own_sk y en 5 i))), .unset] [(.ref a)]) (fun tt0 kk0 => XS.aloadN X1.here hx rfl (hb hby d21_10) rfl rfl kk0) ?_
  refine Go.of (mkF m 12 #[.val (.ref a), .val (.int (93 : Int32)), .val (.int (1 : Int32)), .val (.int (own_at y en (own_sk y en 5 i))), .unset] [(.ref a), (.ref a)]) (fun tt0 kk0 => XS.dup X1.here hx rfl (hb hby d21_11) rfl rfl kk0) ?_
  obtain ⟨T2, X2, e2, st2⟩ := getF X1 hx hZ hown (host := "") (Or.inl (tw89 hw)) Via.refl rfl Fp_1 (g := (mkF m 12 #[.val (.ref a), .val (.int (93 : Int32)), .val (.int (1 : Int32)), .val (.int (own_at y en (own_sk y en 5 i))), .unset] [(.ref a), (.ref a)])) rfl rfl (hb hby d21_12)
  refine Go.of (mkF m 15 #[.val (.ref a), .val (.int (93 : Int32)), .val (.int (1 : Int32)), .val (.int (own_at y en (own_sk y en 5 i))), .unset] [(.int (own_sk y en 5 i)), (.ref a)]) (st2) ?_
  refine Go.of (mkF m 16 #[.val (.ref a), .val (.int (93 : Int32)), .val (.int (1 : Int32)), .val (.int (own_at y en (own_sk y en 5 i))), .unset] [(.int (1 : Int32)), (.int (own_sk y en 5 i)), (.ref a)]) (fun tt0 kk0 => XS.iconst X2.here hx rfl (hb hby d21_15) kk0) ?_
  refine Go.of (mkF m 17 #[.val (.ref a), .val (.int (93 : Int32)), .val (.int (1 : Int32)), .val (.int (own_at y en (own_sk y en 5 i))), .unset] [(.int ((own_sk y en 5 i) + (1 : Int32))), (.ref a)]) (fun tt0 kk0 => XS.iadd X2.here hx rfl (hb hby d21_16) rfl kk0) ?_
  obtain ⟨T3, h3, X3, e3, W3, st3⟩ := putF X2 hx hZ hown (host := "") (Or.inl (tw89 hw)) Via.refl e2 Fp_1 E (Or.inl (tw90 hw)) (tw7 hw) (ty := .int) (by decide) rfl rfl (g := (mkF m 17 #[.val (.ref a), .val (.int (93 : Int32)), .val (.int (1 : Int32)), .val (.int (own_at y en (own_sk y en 5 i))), .unset] [(.int ((own_sk y en 5 i) + (1 : Int32))), (.ref a)])) rfl rfl (hb hby d21_17)
  replace Fb_1 := Fb_1.other W3 (Or.inr (slot_ne (Or.inr (tw88 hw)) (Or.inl (tw90 hw)) (by decide) (t := (.array .byte)) (t' := .int) (by decide) (by decide)))
  replace Fe_1 := Fe_1.other W3 (Or.inr (slot_ne (Or.inr (tw92 hw)) (Or.inl (tw90 hw)) (by decide) (t := .int) (t' := .int) (by decide) (by decide)))
  replace Fp_1 := Fp_1.same W3
  replace Fd_1 := Fd_1.other W3 (Or.inr (slot_ne (Or.inl (tw120 hw)) (Or.inl (tw90 hw)) (by decide) (t := .int) (t' := .int) (by decide) (by decide)))
  replace Fs_1 := Fs_1.other W3 (Or.inr (slot_ne (Or.inl (tw122 hw)) (Or.inl (tw90 hw)) (by decide) (t := .boolean) (t' := .int) (by decide) (by decide)))
  replace E := E.wr W3
  replace V := V.other W3 (Ne.symm ne)
  replace hz := Nat.le_trans hz (Nat.le_of_eq W3.size.symm)
  replace K0 := K0.wr W3 (Or.inl (by simp))
  have N3 := Fr.snoc X3 N1 ga
  refine Go.of (mkF m 20 #[.val (.ref a), .val (.int (93 : Int32)), .val (.int (1 : Int32)), .val (.int (own_at y en (own_sk y en 5 i))), .unset] []) (st3) ?_
  refine Go.of (mkF m 21 #[.val (.ref a), .val (.int (93 : Int32)), .val (.int (1 : Int32)), .val (.int (own_at y en (own_sk y en 5 i))), .unset] [(.int (0 : Int32))]) (fun tt0 kk0 => XS.iconst X3.here hx rfl (hb hby d21_20) kk0) ?_
  refine Go.of (mkF m 23 #[.val (.ref a), .val (.int (93 : Int32)), .val (.int (1 : Int32)), .val (.int (own_at y en (own_sk y en 5 i))), .val (.int (0 : Int32))] []) (fun tt0 kk0 => XS.istore X3.here hx rfl (hb hby d21_21) rfl (l' := #[.val (.ref a), .val (.int (93 : Int32)), .val (.int (1 : Int32)), .val (.int (own_at y en (own_sk y en 5 i))), .val (.int (0 : Int32))]) rfl kk0) ?_
  refine Go.of (mkF m 68 #[.val (.ref a), .val (.int (93 : Int32)), .val (.int (1 : Int32)), .val (.int (own_at y en (own_sk y en 5 i))), .val (.int (0 : Int32))] []) (fun tt0 kk0 => XS.goto X3.here hx rfl (pc0 := 23) (pc' := 68) rfl (hb hby d21_23) (by decide) (by decide) kk0) ?_
  refine Go.of (mkF m 70 #[.val (.ref a), .val (.int (93 : Int32)), .val (.int (1 : Int32)), .val (.int (own_at y en (own_sk y en 5 i))), .val (.int (0 : Int32))] [(.int (0 : Int32))]) (fun tt0 kk0 => XS.iload X3.here hx rfl (hb hby d21_68) rfl kk0) ?_
  exact Go.retW X3 hx (t := .boolean) hret hlk rfl (Or.inl ⟨rfl, by simp, _, rfl⟩) (hb hby d21_70) (by decide) (by decide) (by rw [e3]; exact ⟨rfl, N3, K0, Fb_1, Fe_1, Fp_1, Fd_1, Fs_1⟩)
theorem ef_rmNM1 (m : MethodId) (x0 : Addr) (x1 : Int32) : entryFrame m #[(.ref x0), (.int x1)] 3 = mkF m 0 #[.val (.ref x0), .val (.int x1), .unset] [] := by first | (simp [entryFrame, mkF, argsToLocals, Value.category]; done) | rfl
set_option maxRecDepth 65536 in
set_option maxHeartbeats 40000000 in
theorem rmNM1 (l : Launch) (Z : State) (a0 : Array Value) (hw : ∀ d ∈ tables_1, d.before a0 Z = true) (ws : List Jvm.Cond) (a d : Addr) (N en i dp st : Int32) (y : Int32 → Int32) (h0 : Heap) (n0 : Nat) (hz0 : n0 ≤ h0.size) (E : Exa Z h0 a "com/example/tidemark/tidemark/io/JsonBytes") (ga : n0 ≤ a) (ne : a ≠ d) (Fb : Fld Z h0 a "com/example/tidemark/tidemark/io/JsonBytes" "bytes" "[B" (.ref d)) (Fe : Fld Z h0 a "com/example/tidemark/tidemark/io/JsonBytes" "end" "I" (.int en)) (Fp : Fld Z h0 a "com/example/tidemark/tidemark/io/JsonBytes" "position" "I" (.int i)) (Fd : Fld Z h0 a "com/example/tidemark/tidemark/io/JsonBytes" "depth" "I" (.int dp)) (Fs : Fld Z h0 a "com/example/tidemark/tidemark/io/JsonBytes" "atStart" "Z" (.int 1)) (V : Fa Z h0 d .byte N (fun i => .int (y i))) (hok : own_ok N en i) (hN : N.toInt ≤ 5) (hat : (own_at y en (own_sk y en 5 i)) = 93) :
    Met l Z (⟨"com/example/tidemark/tidemark/io/JsonBytes", "nextMember", "(C)Z"⟩ : MethodName) prog_2_method_11_code 3 (some .boolean) ws ({ frames := 3, cells := 0, slots := 0, locals := 40 } : Room) #[(.ref a), (.int (93 : Int32))] h0 (fun v h L => v = some (.int 0) ∧ Fr n0 L ∧ Keep h0 h [a] ∧ Fld Z h a "com/example/tidemark/tidemark/io/JsonBytes" "bytes" "[B" (.ref d) ∧ Fld Z h a "com/example/tidemark/tidemark/io/JsonBytes" "end" "I" (.int en) ∧ Fld Z h a "com/example/tidemark/tidemark/io/JsonBytes" "position" "I" (.int ((own_sk y en 5 i) + 1)) ∧ Fld Z h a "com/example/tidemark/tidemark/io/JsonBytes" "depth" "I" (.int (dp - 1)) ∧ Fld Z h a "com/example/tidemark/tidemark/io/JsonBytes" "atStart" "Z" (.int 0)) := by
  refine Met.intro pn24 ?_
  intro pr ev s m below meth c T0 X0 hx hZ hown hby hml hret hlk hnm e0
  refine Go.cast (ef_rmNM1 m a (93 : Int32)) ?_
  have N0 := Fr.nil n0
  have hz := hz0
  have K0 : Keep h0 h0 [a] := Keep.refl h0 _
  refine Go.of (mkF m 1 #[.val (.ref a), .val (.int (93 : Int32)), .unset] [(.ref a)]) (fun tt0 kk0 => XS.aloadN X0.here hx rfl (hb hby d20_0) rfl rfl kk0) ?_
  refine Go.of (mkF m 2 #[.val (.ref a), .val (.int (93 : Int32)), .unset] [(.int (93 : Int32)), (.ref a)]) (fun tt0 kk0 => XS.iloadN X0.here hx rfl (hb hby d20_1) rfl kk0) ?_
  refine Go.of (mkF m 3 #[.val (.ref a), .val (.int (93 : Int32)), .unset] [(.ref a), (.int (93 : Int32)), (.ref a)]) (fun tt0 kk0 => XS.aloadN X0.here hx rfl (hb hby d20_2) rfl rfl kk0) ?_
  obtain ⟨T1, X1, e1, st1⟩ := getF X0 hx hZ hown (host := "") (Or.inl (tw121 hw)) Via.refl e0 Fs (g := (mkF m 3 #[.val (.ref a), .val (.int (93 : Int32)), .unset] [(.ref a), (.int (93 : Int32)), (.ref a)])) rfl rfl (hb hby d20_3)
  refine Go.of (mkF m 6 #[.val (.ref a), .val (.int (93 : Int32)), .unset] [(.int (1 : Int32)), (.int (93 : Int32)), (.ref a)]) (st1) ?_
  refine Go.priv X1 hx hZ (y := (⟨"com/example/tidemark/tidemark/io/JsonBytes", "next", "(CZ)Z"⟩ : MethodName)) (a := a) (argsL := [(.int (93 : Int32)), (.int (1 : Int32))]) (rest := []) hown (tw132 hw) (tw133 hw) (Jvm.Kit.selects_private (by decide) (tw7 hw) (tw134 hw) (tw133 hw)) (tw134 hw) (tw8 hw) (tw135 hw) (by decide) e1 E (rmNx1 l Z a0 hw [] a d N en i dp (1 : Int32) y h0 n0 hz E ga ne Fb Fe Fp Fd Fs V hok hN hat) (g := (mkF m 6 #[.val (.ref a), .val (.int (93 : Int32)), .unset] [(.int (1 : Int32)), (.int (93 : Int32)), (.ref a)])) rfl (by rw [hml]; rfl) (lenOf pd25 rfl) rfl (W := 0) (by show 2 * 0 + _ ≤ _; exact Nat.le_of_eq rfl) (hb hby d20_6) (by decide) (by decide) (by decide) (by decide) ?_
  rintro T2 L2 v2 X2 ⟨rfl, NL2, K2, Fb_2, Fe_2, Fp_2, Fd_2, Fs_2⟩
  have N2 := Fr.app N0 NL2
  replace E := E.keep K2
  replace V := V.keep K2 (ninS (Ne.symm ne) nin0)
  replace hz := Nat.le_trans hz K2.1
  replace K0 := K0.trans K2 (((allS (Or.inl (by simp)) all0)))
  show Go pr ev below _ T2 (mkF m 9 #[.val (.ref a), .val (.int (93 : Int32)), .unset] [(.int (0 : Int32))])
  refine Go.of (mkF m 10 #[.val (.ref a), .val (.int (93 : Int32)), .val (.int (0 : Int32))] []) (fun tt0 kk0 => XS.istoreN X2.here hx rfl (hb hby d20_9) rfl (l' := #[.val (.ref a), .val (.int (93 : Int32)), .val (.int (0 : Int32))]) rfl kk0) ?_
  refine Go.of (mkF m 11 #[.val (.ref a), .val (.int (93 : Int32)), .val (.int (0 : Int32))] [(.ref a)]) (fun tt0 kk0 => XS.aloadN X2.here hx rfl (hb hby d20_10) rfl rfl kk0) ?_
  refine Go.of (mkF m 12 #[.val (.ref a), .val (.int (93 : Int32)), .val (.int (0 : Int32))] [(.int (0 : Int32)), (.ref a)]) (fun tt0 kk0 => XS.iconst X2.here hx rfl (hb hby d20_11) kk0) ?_
  obtain ⟨T3, h3, X3, e3, W3, st3⟩ := putFN X2 hx hZ hown (tw121 hw) Via.refl rfl Fs_2 E (Or.inl (tw122 hw)) (tw7 hw) (ty := .boolean) (v' := (.int (0 : Int32))) (by decide) rfl rfl (g := (mkF m 12 #[.val (.ref a), .val (.int (93 : Int32)), .val (.int (0 : Int32))] [(.int (0 : Int32)), (.ref a)])) rfl rfl (hb hby d20_12)
  replace Fb_2 := Fb_2.other W3 (Or.inr (slot_ne (Or.inr (tw88 hw)) (Or.inl (tw122 hw)) (by decide) (t := (.array .byte)) (t' := .boolean) (by decide) (by decide)))
  replace Fe_2 := Fe_2.other W3 (Or.inr (slot_ne (Or.inr (tw92 hw)) (Or.inl (tw122 hw)) (by decide) (t := .int) (t' := .boolean) (by decide) (by decide)))
  replace Fp_2 := Fp_2.other W3 (Or.inr (slot_ne (Or.inl (tw90 hw)) (Or.inl (tw122 hw)) (by decide) (t := .int) (t' := .boolean) (by decide) (by decide)))
  replace Fd_2 := Fd_2.other W3 (Or.inr (slot_ne (Or.inl (tw120 hw)) (Or.inl (tw122 hw)) (by decide) (t := .int) (t' := .boolean) (by decide) (by decide)))
  replace Fs_2 := Fs_2.same W3
  replace E := E.wr W3
  replace V := V.other W3 (Ne.symm ne)
  replace hz := Nat.le_trans hz (Nat.le_of_eq W3.size.symm)
  replace K0 := K0.wr W3 (Or.inl (by simp))
  have N3 := Fr.snoc X3 N2 ga
  refine Go.of (mkF m 15 #[.val (.ref a), .val (.int (93 : Int32)), .val (.int (0 : Int32))] []) (st3) ?_
  refine Go.of (mkF m 16 #[.val (.ref a), .val (.int (93 : Int32)), .val (.int (0 : Int32))] [(.int (0 : Int32))]) (fun tt0 kk0 => XS.iloadN X3.here hx rfl (hb hby d20_15) rfl kk0) ?_
  refine Go.of (mkF m 19 #[.val (.ref a), .val (.int (93 : Int32)), .val (.int (0 : Int32))] []) (fun tt0 kk0 => XS.ifNo X3.here hx rfl (hb hby d20_16) rfl ((if0 _ _).trans (teq (by decide)).2) kk0) ?_
  refine Go.of (mkF m 20 #[.val (.ref a), .val (.int (93 : Int32)), .val (.int (0 : Int32))] [(.ref a)]) (fun tt0 kk0 => XS.aloadN X3.here hx rfl (hb hby d20_19) rfl rfl kk0) ?_
  refine Go.of (mkF m 21 #[.val (.ref a), .val (.int (93 : Int32)), .val (.int (0 : Int32))] [(.ref a), (.ref a)]) (fun tt0 kk0 => XS.dup X3.here hx rfl (hb hby d20_20) rfl rfl kk0) ?_
  obtain ⟨T4, X4, e4, st4⟩ := getF X3 hx hZ hown (host := "") (Or.inl (tw119 hw)) Via.refl e3 Fd_2 (g := (mkF m 21 #[.val (.ref a), .val (.int (93 : Int32)), .val (.int (0 : Int32))] [(.ref a), (.ref a)])) rfl rfl (hb hby d20_21)
  refine Go.of (mkF m 24 #[.val (.ref a), .val (.int (93 : Int32)), .val (.int (0 : Int32))] [(.int dp), (.ref a)]) (st4) ?_
  refine Go.of (mkF m 25 #[.val (.ref a), .val (.int (93 : Int32)), .val (.int (0 : Int32))] [(.int (1 : Int32)), (.int dp), (.ref a)]) (fun tt0 kk0 => XS.iconst X4.here hx rfl (hb hby d20_24) kk0) ?_
  refine Go.of (mkF m 26 #[.val (.ref a), .val (.int (93 : Int32)), .val (.int (0 : Int32))] [(.int (dp - (1 : Int32))), (.ref a)]) (fun tt0 kk0 => XS.isub X4.here hx rfl (hb hby d20_25) rfl kk0) ?_
  obtain ⟨T5, h5, X5, e5, W5, st5⟩ := putF X4 hx hZ hown (host := "") (Or.inl (tw119 hw)) Via.refl e4 Fd_2 E (Or.inl (tw120 hw)) (tw7 hw) (ty := .int) (by decide) rfl rfl (g := (mkF m 26 #[.val (.ref a), .val (.int (93 : Int32)), .val (.int (0 : Int32))] [(.int (dp - (1 : Int32))), (.ref a)])) rfl rfl (hb hby d20_26)
  replace Fb_2 := Fb_2.other W5 (Or.inr (slot_ne (Or.inr (tw88 hw)) (Or.inl (tw120 hw)) (by decide) (t := (.array .byte)) (t' := .int) (by decide) (by decide)))
  replace Fe_2 := Fe_2.other W5 (Or.inr (slot_ne (Or.inr (tw92 hw)) (Or.inl (tw120 hw)) (by decide) (t := .int) (t' := .int) (by decide) (by decide)))
  replace Fp_2 := Fp_2.other W5 (Or.inr (slot_ne (Or.inl (tw90 hw)) (Or.inl (tw120 hw)) (by decide) (t := .int) (t' := .int) (by decide) (by decide)))
  replace Fd_2 := Fd_2.same W5
  replace Fs_2 := Fs_2.other W5 (Or.inr (slot_ne (Or.inl (tw122 hw)) (Or.inl (tw120 hw)) (by decide) (t := .boolean) (t' := .int) (by decide) (by decide)))
  replace E := E.wr W5
  replace V := V.other W5 (Ne.symm ne)
  replace hz := Nat.le_trans hz (Nat.le_of_eq W5.size.symm)
  replace K0 := K0.wr W5 (Or.inl (by simp))
  have N5 := Fr.snoc X5 N3 ga
  refine Go.of (mkF m 29 #[.val (.ref a), .val (.int (93 : Int32)), .val (.int (0 : Int32))] []) (st5) ?_
  refine Go.of (mkF m 30 #[.val (.ref a), .val (.int (93 : Int32)), .val (.int (0 : Int32))] [(.int (0 : Int32))]) (fun tt0 kk0 => XS.iloadN X5.here hx rfl (hb hby d20_29) rfl kk0) ?_
  exact Go.retW X5 hx (t := .boolean) hret hlk rfl (Or.inl ⟨rfl, by simp, _, rfl⟩) (hb hby d20_30) (by decide) (by decide) (by rw [e5]; exact ⟨rfl, N5, K0, Fb_2, Fe_2, Fp_2, Fd_2, Fs_2⟩)
theorem ef_rmNE1 (m : MethodId) (x0 : Addr) : entryFrame m #[(.ref x0)] 1 = mkF m 0 #[.val (.ref x0)] [] := by first | (simp [entryFrame, mkF, argsToLocals, Value.category]; done) | rfl
set_option maxRecDepth 65536 in
set_option maxHeartbeats 40000000 in
theorem rmNE1 (l : Launch) (Z : State) (a0 : Array Value) (hw : ∀ d ∈ tables_1, d.before a0 Z = true) (ws : List Jvm.Cond) (a d : Addr) (N en i dp st : Int32) (y : Int32 → Int32) (h0 : Heap) (n0 : Nat) (hz0 : n0 ≤ h0.size) (E : Exa Z h0 a "com/example/tidemark/tidemark/io/JsonBytes") (ga : n0 ≤ a) (ne : a ≠ d) (Fb : Fld Z h0 a "com/example/tidemark/tidemark/io/JsonBytes" "bytes" "[B" (.ref d)) (Fe : Fld Z h0 a "com/example/tidemark/tidemark/io/JsonBytes" "end" "I" (.int en)) (Fp : Fld Z h0 a "com/example/tidemark/tidemark/io/JsonBytes" "position" "I" (.int i)) (Fd : Fld Z h0 a "com/example/tidemark/tidemark/io/JsonBytes" "depth" "I" (.int dp)) (Fs : Fld Z h0 a "com/example/tidemark/tidemark/io/JsonBytes" "atStart" "Z" (.int 1)) (V : Fa Z h0 d .byte N (fun i => .int (y i))) (hok : own_ok N en i) (hN : N.toInt ≤ 5) (hat : (own_at y en (own_sk y en 5 i)) = 93) :
    Met l Z (⟨"com/example/tidemark/tidemark/io/JsonBytes", "nextElement", "()Z"⟩ : MethodName) prog_2_method_7_code 1 (some .boolean) ws ({ frames := 4, cells := 0, slots := 0, locals := 54 } : Room) #[(.ref a)] h0 (fun v h L => v = some (.int 0) ∧ Fr n0 L ∧ Keep h0 h [a] ∧ Fld Z h a "com/example/tidemark/tidemark/io/JsonBytes" "bytes" "[B" (.ref d) ∧ Fld Z h a "com/example/tidemark/tidemark/io/JsonBytes" "end" "I" (.int en) ∧ Fld Z h a "com/example/tidemark/tidemark/io/JsonBytes" "position" "I" (.int ((own_sk y en 5 i) + 1)) ∧ Fld Z h a "com/example/tidemark/tidemark/io/JsonBytes" "depth" "I" (.int (dp - 1)) ∧ Fld Z h a "com/example/tidemark/tidemark/io/JsonBytes" "atStart" "Z" (.int 0)) := by
  refine Met.intro pn26 ?_
  intro pr ev s m below meth c T0 X0 hx hZ hown hby hml hret hlk hnm e0
  refine Go.cast (ef_rmNE1 m a) ?_
  have N0 := Fr.nil n0
  have hz := hz0
  have K0 : Keep h0 h0 [a] := Keep.refl h0 _
  refine Go.of (mkF m 1 #[.val (.ref a)] [(.ref a)]) (fun tt0 kk0 => XS.aloadN X0.here hx rfl (hb hby d19_0) rfl rfl kk0) ?_
  refine Go.of (mkF m 3 #[.val (.ref a)] [(.int (93 : Int32)), (.ref a)]) (fun tt0 kk0 => XS.bipush X0.here hx rfl (hb hby d19_1) kk0) ?_
  refine Go.priv X0 hx hZ (y := (⟨"com/example/tidemark/tidemark/io/JsonBytes", "nextMember", "(C)Z"⟩ : MethodName)) (a := a) (argsL := [(.int (93 : Int32))]) (rest := []) hown (tw128 hw) (tw129 hw) (Jvm.Kit.selects_private (by decide) (tw7 hw) (tw130 hw) (tw129 hw)) (tw130 hw) (tw8 hw) (tw131 hw) (by decide) e0 E (rmNM1 l Z a0 hw [] a d N en i dp (1 : Int32) y h0 n0 hz E ga ne Fb Fe Fp Fd Fs V hok hN hat) (g := (mkF m 3 #[.val (.ref a)] [(.int (93 : Int32)), (.ref a)])) rfl (by rw [hml]; rfl) (lenOf pd27 rfl) rfl (W := 0) (by show 2 * 0 + _ ≤ _; exact Nat.le_of_eq rfl) (hb hby d19_3) (by decide) (by decide) (by decide) (by decide) ?_
  rintro T1 L1 v1 X1 ⟨rfl, NL1, K1, Fb_1, Fe_1, Fp_1, Fd_1, Fs_1⟩
  have N1 := Fr.app N0 NL1
  replace E := E.keep K1
  replace V := V.keep K1 (ninS (Ne.symm ne) nin0)
  replace hz := Nat.le_trans hz K1.1
  replace K0 := K0.trans K1 (((allS (Or.inl (by simp)) all0)))
  show Go pr ev below _ T1 (mkF m 6 #[.val (.ref a)] [(.int (0 : Int32))])
  exact Go.retW X1 hx (t := .boolean) hret hlk rfl (Or.inl ⟨rfl, by simp, _, rfl⟩) (hb hby d19_6) (by decide) (by decide) ⟨rfl, N1, K0, Fb_1, Fe_1, Fp_1, Fd_1, Fs_1⟩
theorem ef_rmNx0 (m : MethodId) (x0 : Addr) (x1 : Int32) (x2 : Int32) : entryFrame m #[(.ref x0), (.int x1), (.int x2)] 5 = mkF m 0 #[.val (.ref x0), .val (.int x1), .val (.int x2), .unset, .unset] [] := by first | (simp [entryFrame, mkF, argsToLocals, Value.category]; done) | rfl
set_option maxRecDepth 65536 in
set_option maxHeartbeats 40000000 in
theorem rmNx0 (l : Launch) (Z : State) (a0 : Array Value) (hw : ∀ d ∈ tables_1, d.before a0 Z = true) (ws : List Jvm.Cond) (a d : Addr) (N en i dp st : Int32) (y : Int32 → Int32) (h0 : Heap) (n0 : Nat) (hz0 : n0 ≤ h0.size) (E : Exa Z h0 a "com/example/tidemark/tidemark/io/JsonBytes") (ga : n0 ≤ a) (ne : a ≠ d) (Fb : Fld Z h0 a "com/example/tidemark/tidemark/io/JsonBytes" "bytes" "[B" (.ref d)) (Fe : Fld Z h0 a "com/example/tidemark/tidemark/io/JsonBytes" "end" "I" (.int en)) (Fp : Fld Z h0 a "com/example/tidemark/tidemark/io/JsonBytes" "position" "I" (.int i)) (Fd : Fld Z h0 a "com/example/tidemark/tidemark/io/JsonBytes" "depth" "I" (.int dp)) (Fs : Fld Z h0 a "com/example/tidemark/tidemark/io/JsonBytes" "atStart" "Z" (.int st)) (V : Fa Z h0 d .byte N (fun i => .int (y i))) (hok : own_ok N en i) (hN : N.toInt ≤ 5) (hat : ¬ (own_at y en (own_sk y en 5 i)) = 93) :
    Met l Z (⟨"com/example/tidemark/tidemark/io/JsonBytes", "next", "(CZ)Z"⟩ : MethodName) prog_2_method_12_code 5 (some .boolean) ws ({ frames := 2, cells := 0, slots := 0, locals := 24 } : Room) #[(.ref a), (.int (93 : Int32)), (.int (1 : Int32))] h0 (fun v h L => v = some (.int 1) ∧ Fr n0 L ∧ Keep h0 h [a] ∧ Fld Z h a "com/example/tidemark/tidemark/io/JsonBytes" "bytes" "[B" (.ref d) ∧ Fld Z h a "com/example/tidemark/tidemark/io/JsonBytes" "end" "I" (.int en) ∧ Fld Z h a "com/example/tidemark/tidemark/io/JsonBytes" "position" "I" (.int (own_sk y en 5 i)) ∧ Fld Z h a "com/example/tidemark/tidemark/io/JsonBytes" "depth" "I" (.int dp) ∧ Fld Z h a "com/example/tidemark/tidemark/io/JsonBytes" "atStart" "Z" (.int st)) := by
  refine Met.intro pn23 ?_
  intro pr ev s m below meth c T0 X0 hx hZ hown hby hml hret hlk hnm e0
  refine Go.cast (ef_rmNx0 m a (93 : Int32) (1 : Int32)) ?_
  have N0 := Fr.nil n0
  have hz := hz0
  have K0 : Keep h0 h0 [a] := Keep.refl h0 _
  refine Go.of (mkF m 1 #[.val (.ref a), .val (.int (93 : Int32)), .val (.int (1 : Int32)), .unset, .unset] [(.ref a)]) (fun tt0 kk0 => XS.aloadN X0.here hx rfl (hb hby d21_0) rfl rfl kk0) ?_
  refine Go.priv X0 hx hZ (y := (⟨"com/example/tidemark/tidemark/io/JsonBytes", "peek", "()I"⟩ : MethodName)) (a := a) (argsL := []) (rest := []) hown (tw112 hw) (tw113 hw) (Jvm.Kit.selects_private (by decide) (tw7 hw) (tw114 hw) (tw113 hw)) (tw114 hw) (tw8 hw) (tw115 hw) (by decide) e0 E (rmP l Z a0 hw [] a d N en i dp st y h0 n0 hz E ga ne Fb Fe Fp Fd Fs V hok hN) (g := (mkF m 1 #[.val (.ref a), .val (.int (93 : Int32)), .val (.int (1 : Int32)), .unset, .unset] [(.ref a)])) rfl (by rw [hml]; rfl) (lenOf pd22 rfl) rfl (W := 0) (by show 2 * 0 + _ ≤ _; exact Nat.le_of_eq rfl) (hb hby d21_1) (by decide) (by decide) (by decide) (by decide) ?_
  rintro T1 L1 v1 X1 ⟨rfl, NL1, K1, Fb_1, Fe_1, Fp_1, Fd_1, Fs_1⟩
  have N1 := Fr.app N0 NL1
  replace E := E.keep K1
  replace V := V.keep K1 (ninS (Ne.symm ne) nin0)
  replace hz := Nat.le_trans hz K1.1
  replace K0 := K0.trans K1 (((allS (Or.inl (by simp)) all0)))
  show Go pr ev below _ T1 (mkF m 4 #[.val (.ref a), .val (.int (93 : Int32)), .val (.int (1 : Int32)), .unset, .unset] [(.int (own_at y en (own_sk y en 5 i)))])
  refine Go.of (mkF m 5 #[.val (.ref a), .val (.int (93 : Int32)), .val (.int (1 : Int32)), .val (.int (own_at y en (own_sk y en 5 i))), .unset] []) (fun tt0 kk0 => XS.istoreN X1.here hx rfl (hb hby d21_4) rfl (l' := #[.val (.ref a), .val (.int (93 : Int32)), .val (.int (1 : Int32)), .val (.int (own_at y en (own_sk y en 5 i))), .unset]) rfl kk0) ?_
  refine Go.of (mkF m 6 #[.val (.ref a), .val (.int (93 : Int32)), .val (.int (1 : Int32)), .val (.int (own_at y en (own_sk y en 5 i))), .unset] [(.int (own_at y en (own_sk y en 5 i)))]) (fun tt0 kk0 => XS.iloadN X1.here hx rfl (hb hby d21_5) rfl kk0) ?_
  refine Go.of (mkF m 7 #[.val (.ref a), .val (.int (93 : Int32)), .val (.int (1 : Int32)), .val (.int (own_at y en (own_sk y en 5 i))), .unset] [(.int (93 : Int32)), (.int (own_at y en (own_sk y en 5 i)))]) (fun tt0 kk0 => XS.iloadN X1.here hx rfl (hb hby d21_6) rfl kk0) ?_
  refine Go.of (mkF m 26 #[.val (.ref a), .val (.int (93 : Int32)), .val (.int (1 : Int32)), .val (.int (own_at y en (own_sk y en 5 i))), .unset] []) (fun tt0 kk0 => XS.icmpYes X1.here hx rfl (pc0 := 7) (pc' := 26) rfl (hb hby d21_7) rfl (feq hat).2 (by decide) (by decide) kk0) ?_
  refine Go.of (mkF m 27 #[.val (.ref a), .val (.int (93 : Int32)), .val (.int (1 : Int32)), .val (.int (own_at y en (own_sk y en 5 i))), .unset] [(.int (1 : Int32))]) (fun tt0 kk0 => XS.iloadN X1.here hx rfl (hb hby d21_26) rfl kk0) ?_
  refine Go.of (mkF m 30 #[.val (.ref a), .val (.int (93 : Int32)), .val (.int (1 : Int32)), .val (.int (own_at y en (own_sk y en 5 i))), .unset] []) (fun tt0 kk0 => XS.ifNo X1.here hx rfl (hb hby d21_27) rfl ((if0 _ _).trans (feq (by decide)).1) kk0) ?_
  refine Go.of (mkF m 31 #[.val (.ref a), .val (.int (93 : Int32)), .val (.int (1 : Int32)), .val (.int (own_at y en (own_sk y en 5 i))), .unset] [(.int (1 : Int32))]) (fun tt0 kk0 => XS.iconst X1.here hx rfl (hb hby d21_30) kk0) ?_
  refine Go.of (mkF m 33 #[.val (.ref a), .val (.int (93 : Int32)), .val (.int (1 : Int32)), .val (.int (own_at y en (own_sk y en 5 i))), .val (.int (1 : Int32))] []) (fun tt0 kk0 => XS.istore X1.here hx rfl (hb hby d21_31) rfl (l' := #[.val (.ref a), .val (.int (93 : Int32)), .val (.int (1 : Int32)), .val (.int (own_at y en (own_sk y en 5 i))), .val (.int (1 : Int32))]) rfl kk0) ?_
  refine Go.of (mkF m 68 #[.val (.ref a), .val (.int (93 : Int32)), .val (.int (1 : Int32)), .val (.int (own_at y en (own_sk y en 5 i))), .val (.int (1 : Int32))] []) (fun tt0 kk0 => XS.goto X1.here hx rfl (pc0 := 33) (pc' := 68) rfl (hb hby d21_33) (by decide) (by decide) kk0) ?_
  refine Go.of (mkF m 70 #[.val (.ref a), .val (.int (93 : Int32)), .val (.int (1 : Int32)), .val (.int (own_at y en (own_sk y en 5 i))), .val (.int (1 : Int32))] [(.int (1 : Int32))]) (fun tt0 kk0 => XS.iload X1.here hx rfl (hb hby d21_68) rfl kk0) ?_
  exact Go.retW X1 hx (t := .boolean) hret hlk rfl (Or.inl ⟨rfl, by simp, _, rfl⟩) (hb hby d21_70) (by decide) (by decide) ⟨rfl, N1, K0, Fb_1, Fe_1, Fp_1, Fd_1, Fs_1⟩
theorem ef_rmNM0 (m : MethodId) (x0 : Addr) (x1 : Int32) : entryFrame m #[(.ref x0), (.int x1)] 3 = mkF m 0 #[.val (.ref x0), .val (.int x1), .unset] [] := by first | (simp [entryFrame, mkF, argsToLocals, Value.category]; done) | rfl
set_option maxRecDepth 65536 in
set_option maxHeartbeats 40000000 in
theorem rmNM0 (l : Launch) (Z : State) (a0 : Array Value) (hw : ∀ d ∈ tables_1, d.before a0 Z = true) (ws : List Jvm.Cond) (a d : Addr) (N en i dp st : Int32) (y : Int32 → Int32) (h0 : Heap) (n0 : Nat) (hz0 : n0 ≤ h0.size) (E : Exa Z h0 a "com/example/tidemark/tidemark/io/JsonBytes") (ga : n0 ≤ a) (ne : a ≠ d) (Fb : Fld Z h0 a "com/example/tidemark/tidemark/io/JsonBytes" "bytes" "[B" (.ref d)) (Fe : Fld Z h0 a "com/example/tidemark/tidemark/io/JsonBytes" "end" "I" (.int en)) (Fp : Fld Z h0 a "com/example/tidemark/tidemark/io/JsonBytes" "position" "I" (.int i)) (Fd : Fld Z h0 a "com/example/tidemark/tidemark/io/JsonBytes" "depth" "I" (.int dp)) (Fs : Fld Z h0 a "com/example/tidemark/tidemark/io/JsonBytes" "atStart" "Z" (.int 1)) (V : Fa Z h0 d .byte N (fun i => .int (y i))) (hok : own_ok N en i) (hN : N.toInt ≤ 5) (hat : ¬ (own_at y en (own_sk y en 5 i)) = 93) :
    Met l Z (⟨"com/example/tidemark/tidemark/io/JsonBytes", "nextMember", "(C)Z"⟩ : MethodName) prog_2_method_11_code 3 (some .boolean) ws ({ frames := 3, cells := 0, slots := 0, locals := 40 } : Room) #[(.ref a), (.int (93 : Int32))] h0 (fun v h L => v = some (.int 1) ∧ Fr n0 L ∧ Keep h0 h [a] ∧ Fld Z h a "com/example/tidemark/tidemark/io/JsonBytes" "bytes" "[B" (.ref d) ∧ Fld Z h a "com/example/tidemark/tidemark/io/JsonBytes" "end" "I" (.int en) ∧ Fld Z h a "com/example/tidemark/tidemark/io/JsonBytes" "position" "I" (.int (own_sk y en 5 i)) ∧ Fld Z h a "com/example/tidemark/tidemark/io/JsonBytes" "depth" "I" (.int dp) ∧ Fld Z h a "com/example/tidemark/tidemark/io/JsonBytes" "atStart" "Z" (.int 0)) := by
  refine Met.intro pn24 ?_
  intro pr ev s m below meth c T0 X0 hx hZ hown hby hml hret hlk hnm e0
  refine Go.cast (ef_rmNM0 m a (93 : Int32)) ?_
  have N0 := Fr.nil n0
  have hz := hz0
  have K0 : Keep h0 h0 [a] := Keep.refl h0 _
  refine Go.of (mkF m 1 #[.val (.ref a), .val (.int (93 : Int32)), .unset] [(.ref a)]) (fun tt0 kk0 => XS.aloadN X0.here hx rfl (hb hby d20_0) rfl rfl kk0) ?_
  refine Go.of (mkF m 2 #[.val (.ref a), .val (.int (93 : Int32)), .unset] [(.int (93 : Int32)), (.ref a)]) (fun tt0 kk0 => XS.iloadN X0.here hx rfl (hb hby d20_1) rfl kk0) ?_
  refine Go.of (mkF m 3 #[.val (.ref a), .val (.int (93 : Int32)), .unset] [(.ref a), (.int (93 : Int32)), (.ref a)]) (fun tt0 kk0 => XS.aloadN X0.here hx rfl (hb hby d20_2) rfl rfl kk0) ?_
  obtain ⟨T1, X1, e1, st1⟩ := getF X0 hx hZ hown (host := "") (Or.inl (tw121 hw)) Via.refl e0 Fs (g := (mkF m 3 #[.val (.ref a), .val (.int (93 : Int32)), .unset] [(.ref a), (.int (93 : Int32)), (.ref a)])) rfl rfl (hb hby d20_3)
  refine Go.of (mkF m 6 #[.val (.ref a), .val (.int (93 : Int32)), .unset] [(.int (1 : Int32)), (.int (93 : Int32)), (.ref a)]) (st1) ?_
  refine Go.priv X1 hx hZ (y := (⟨"com/example/tidemark/tidemark/io/JsonBytes", "next", "(CZ)Z"⟩ : MethodName)) (a := a) (argsL := [(.int (93 : Int32)), (.int (1 : Int32))]) (rest := []) hown (tw132 hw) (tw133 hw) (Jvm.Kit.selects_private (by decide) (tw7 hw) (tw134 hw) (tw133 hw)) (tw134 hw) (tw8 hw) (tw135 hw) (by decide) e1 E (rmNx0 l Z a0 hw [] a d N en i dp (1 : Int32) y h0 n0 hz E ga ne Fb Fe Fp Fd Fs V hok hN hat) (g := (mkF m 6 #[.val (.ref a), .val (.int (93 : Int32)), .unset] [(.int (1 : Int32)), (.int (93 : Int32)), (.ref a)])) rfl (by rw [hml]; rfl) (lenOf pd25 rfl) rfl (W := 0) (by show 2 * 0 + _ ≤ _; exact Nat.le_of_eq rfl) (hb hby d20_6) (by decide) (by decide) (by decide) (by decide) ?_
  rintro T2 L2 v2 X2 ⟨rfl, NL2, K2, Fb_2, Fe_2, Fp_2, Fd_2, Fs_2⟩
  have N2 := Fr.app N0 NL2
  replace E := E.keep K2
  replace V := V.keep K2 (ninS (Ne.symm ne) nin0)
  replace hz := Nat.le_trans hz K2.1
  replace K0 := K0.trans K2 (((allS (Or.inl (by simp)) all0)))
  show Go pr ev below _ T2 (mkF m 9 #[.val (.ref a), .val (.int (93 : Int32)), .unset] [(.int (1 : Int32))])
  refine Go.of (mkF m 10 #[.val (.ref a), .val (.int (93 : Int32)), .val (.int (1 : Int32))] []) (fun tt0 kk0 => XS.istoreN X2.here hx rfl (hb hby d20_9) rfl (l' := #[.val (.ref a), .val (.int (93 : Int32)), .val (.int (1 : Int32))]) rfl kk0) ?_
  refine Go.of (mkF m 11 #[.val (.ref a), .val (.int (93 : Int32)), .val (.int (1 : Int32))] [(.ref a)]) (fun tt0 kk0 => XS.aloadN X2.here hx rfl (hb hby d20_10) rfl rfl kk0) ?_
  refine Go.of (mkF m 12 #[.val (.ref a), .val (.int (93 : Int32)), .val (.int (1 : Int32))] [(.int (0 : Int32)), (.ref a)]) (fun tt0 kk0 => XS.iconst X2.here hx rfl (hb hby d20_11) kk0) ?_
  obtain ⟨T3, h3, X3, e3, W3, st3⟩ := putFN X2 hx hZ hown (tw121 hw) Via.refl rfl Fs_2 E (Or.inl (tw122 hw)) (tw7 hw) (ty := .boolean) (v' := (.int (0 : Int32))) (by decide) rfl rfl (g := (mkF m 12 #[.val (.ref a), .val (.int (93 : Int32)), .val (.int (1 : Int32))] [(.int (0 : Int32)), (.ref a)])) rfl rfl (hb hby d20_12)
  replace Fb_2 := Fb_2.other W3 (Or.inr (slot_ne (Or.inr (tw88 hw)) (Or.inl (tw122 hw)) (by decide) (t := (.array .byte)) (t' := .boolean) (by decide) (by decide)))
  replace Fe_2 := Fe_2.other W3 (Or.inr (slot_ne (Or.inr (tw92 hw)) (Or.inl (tw122 hw)) (by decide) (t := .int) (t' := .boolean) (by decide) (by decide)))
  replace Fp_2 := Fp_2.other W3 (Or.inr (slot_ne (Or.inl (tw90 hw)) (Or.inl (tw122 hw)) (by decide) (t := .int) (t' := .boolean) (by decide) (by decide)))
  replace Fd_2 := Fd_2.other W3 (Or.inr (slot_ne (Or.inl (tw120 hw)) (Or.inl (tw122 hw)) (by decide) (t := .int) (t' := .boolean) (by decide) (by decide)))
  replace Fs_2 := Fs_2.same W3
  replace E := E.wr W3
  replace V := V.other W3 (Ne.symm ne)
  replace hz := Nat.le_trans hz (Nat.le_of_eq W3.size.symm)
  replace K0 := K0.wr W3 (Or.inl (by simp))
  have N3 := Fr.snoc X3 N2 ga
  refine Go.of (mkF m 15 #[.val (.ref a), .val (.int (93 : Int32)), .val (.int (1 : Int32))] []) (st3) ?_
  refine Go.of (mkF m 16 #[.val (.ref a), .val (.int (93 : Int32)), .val (.int (1 : Int32))] [(.int (1 : Int32))]) (fun tt0 kk0 => XS.iloadN X3.here hx rfl (hb hby d20_15) rfl kk0) ?_
  refine Go.of (mkF m 29 #[.val (.ref a), .val (.int (93 : Int32)), .val (.int (1 : Int32))] []) (fun tt0 kk0 => XS.ifYes X3.here hx rfl (pc0 := 16) (pc' := 29) rfl (hb hby d20_16) rfl ((if0 _ _).trans (feq (by decide)).2) (by decide) (by decide) kk0) ?_
  refine Go.of (mkF m 30 #[.val (.ref a), .val (.int (93 : Int32)), .val (.int (1 : Int32))] [(.int (1 : Int32))]) (fun tt0 kk0 => XS.iloadN X3.here hx rfl (hb hby d20_29) rfl kk0) ?_
  exact Go.retW X3 hx (t := .boolean) hret hlk rfl (Or.inl ⟨rfl, by simp, _, rfl⟩) (hb hby d20_30) (by decide) (by decide) (by rw [e3]; exact ⟨rfl, N3, K0, Fb_2, Fe_2, Fp_2, Fd_2, Fs_2⟩)
theorem ef_rmNE0 (m : MethodId) (x0 : Addr) : entryFrame m #[(.ref x0)] 1 = mkF m 0 #[.val (.ref x0)] [] := by first | (simp [entryFrame, mkF, argsToLocals, Value.category]; done) | rfl
set_option maxRecDepth 65536 in
set_option maxHeartbeats 40000000 in
theorem rmNE0 (l : Launch) (Z : State) (a0 : Array Value) (hw : ∀ d ∈ tables_1, d.before a0 Z = true) (ws : List Jvm.Cond) (a d : Addr) (N en i dp st : Int32) (y : Int32 → Int32) (h0 : Heap) (n0 : Nat) (hz0 : n0 ≤ h0.size) (E : Exa Z h0 a "com/example/tidemark/tidemark/io/JsonBytes") (ga : n0 ≤ a) (ne : a ≠ d) (Fb : Fld Z h0 a "com/example/tidemark/tidemark/io/JsonBytes" "bytes" "[B" (.ref d)) (Fe : Fld Z h0 a "com/example/tidemark/tidemark/io/JsonBytes" "end" "I" (.int en)) (Fp : Fld Z h0 a "com/example/tidemark/tidemark/io/JsonBytes" "position" "I" (.int i)) (Fd : Fld Z h0 a "com/example/tidemark/tidemark/io/JsonBytes" "depth" "I" (.int dp)) (Fs : Fld Z h0 a "com/example/tidemark/tidemark/io/JsonBytes" "atStart" "Z" (.int 1)) (V : Fa Z h0 d .byte N (fun i => .int (y i))) (hok : own_ok N en i) (hN : N.toInt ≤ 5) (hat : ¬ (own_at y en (own_sk y en 5 i)) = 93) :
    Met l Z (⟨"com/example/tidemark/tidemark/io/JsonBytes", "nextElement", "()Z"⟩ : MethodName) prog_2_method_7_code 1 (some .boolean) ws ({ frames := 4, cells := 0, slots := 0, locals := 54 } : Room) #[(.ref a)] h0 (fun v h L => v = some (.int 1) ∧ Fr n0 L ∧ Keep h0 h [a] ∧ Fld Z h a "com/example/tidemark/tidemark/io/JsonBytes" "bytes" "[B" (.ref d) ∧ Fld Z h a "com/example/tidemark/tidemark/io/JsonBytes" "end" "I" (.int en) ∧ Fld Z h a "com/example/tidemark/tidemark/io/JsonBytes" "position" "I" (.int (own_sk y en 5 i)) ∧ Fld Z h a "com/example/tidemark/tidemark/io/JsonBytes" "depth" "I" (.int dp) ∧ Fld Z h a "com/example/tidemark/tidemark/io/JsonBytes" "atStart" "Z" (.int 0)) := by
  refine Met.intro pn26 ?_
  intro pr ev s m below meth c T0 X0 hx hZ hown hby hml hret hlk hnm e0
  refine Go.cast (ef_rmNE0 m a) ?_
  have N0 := Fr.nil n0
  have hz := hz0
  have K0 : Keep h0 h0 [a] := Keep.refl h0 _
  refine Go.of (mkF m 1 #[.val (.ref a)] [(.ref a)]) (fun tt0 kk0 => XS.aloadN X0.here hx rfl (hb hby d19_0) rfl rfl kk0) ?_
  refine Go.of (mkF m 3 #[.val (.ref a)] [(.int (93 : Int32)), (.ref a)]) (fun tt0 kk0 => XS.bipush X0.here hx rfl (hb hby d19_1) kk0) ?_
  refine Go.priv X0 hx hZ (y := (⟨"com/example/tidemark/tidemark/io/JsonBytes", "nextMember", "(C)Z"⟩ : MethodName)) (a := a) (argsL := [(.int (93 : Int32))]) (rest := []) hown (tw128 hw) (tw129 hw) (Jvm.Kit.selects_private (by decide) (tw7 hw) (tw130 hw) (tw129 hw)) (tw130 hw) (tw8 hw) (tw131 hw) (by decide) e0 E (rmNM0 l Z a0 hw [] a d N en i dp (1 : Int32) y h0 n0 hz E ga ne Fb Fe Fp Fd Fs V hok hN hat) (g := (mkF m 3 #[.val (.ref a)] [(.int (93 : Int32)), (.ref a)])) rfl (by rw [hml]; rfl) (lenOf pd27 rfl) rfl (W := 0) (by show 2 * 0 + _ ≤ _; exact Nat.le_of_eq rfl) (hb hby d19_3) (by decide) (by decide) (by decide) (by decide) ?_
  rintro T1 L1 v1 X1 ⟨rfl, NL1, K1, Fb_1, Fe_1, Fp_1, Fd_1, Fs_1⟩
  have N1 := Fr.app N0 NL1
  replace E := E.keep K1
  replace V := V.keep K1 (ninS (Ne.symm ne) nin0)
  replace hz := Nat.le_trans hz K1.1
  replace K0 := K0.trans K1 (((allS (Or.inl (by simp)) all0)))
  show Go pr ev below _ T1 (mkF m 6 #[.val (.ref a)] [(.int (1 : Int32))])
  exact Go.retW X1 hx (t := .boolean) hret hlk rfl (Or.inl ⟨rfl, by simp, _, rfl⟩) (hb hby d19_6) (by decide) (by decide) ⟨rfl, N1, K0, Fb_1, Fe_1, Fp_1, Fd_1, Fs_1⟩
theorem ef_rm0 (m : MethodId) (x0 : Int32) (x1 : Int32) (x2 : Int32) (x3 : Int32) (x4 : Int32) (x5 : Int32) : entryFrame m #[(.int x0), (.int x1), (.int x2), (.int x3), (.int x4), (.int x5)] maxLocals = mkF m 0 #[.val (.int x0), .val (.int x1), .val (.int x2), .val (.int x3), .val (.int x4), .val (.int x5), .unset, .unset, .unset, .unset, .unset, .unset, .unset, .unset, .unset, .unset, .unset, .unset] [] := by first | (simp [entryFrame, mkF, argsToLocals, Value.category, maxLocals]; done) | rfl
set_option maxRecDepth 65536 in
set_option maxHeartbeats 40000000 in
theorem rm0 (l : Launch) (Z : State) (a0 : Array Value) (hw : ∀ d ∈ tables_1, d.before a0 Z = true) (ws : List Jvm.Cond) (p0 p1 p2 p3 p4 p5 : Int32) (h0 : Heap) (n0 : Nat) (hz0 : n0 ≤ h0.size) (u np : Addr) (S1 : Sta Z h0 "java/util/ImmutableCollections" "EMPTY_LIST" "Ljava/util/ImmutableCollections$ListN;" (.ref u)) (S2 : Sta Z h0 "com/example/tidemark/tidemark/io/JsonBytes$Fields" "NO_PLACES" "[I" (.ref np)) (En : Exa Z h0 np "[I") :
    Met l Z x code maxLocals ret ws room_1 #[(.int p0), (.int p1), (.int p2), (.int p3), (.int p4), (.int p5)] h0 (fun v h L => v = some (.int 1) ∧ Fr n0 L) := by
  refine Met.intro pn28 ?_
  intro pr ev s m below meth c T0 X0 hx hZ hown hby hml hret hlk hnm e0
  refine Go.cast (ef_rm0 m p0 p1 p2 p3 p4 p5) ?_
  have N0 := Fr.nil n0
  have hz := hz0
  refine Go.of (mkF m 1 #[.val (.int p0), .val (.int p1), .val (.int p2), .val (.int p3), .val (.int p4), .val (.int p5), .unset, .unset, .unset, .unset, .unset, .unset, .unset, .unset, .unset, .unset, .unset, .unset] [(.int (5 : Int32))]) (fun tt0 kk0 => XS.iconst X0.here hx rfl (hb hby at_0) kk0) ?_
  obtain ⟨T1, h1, k1, X1, e1, E1, A1, Q1, st1⟩ := newPE X0 hx hZ (aty := .byte) (tw0 hw) e0 (g := (mkF m 1 #[.val (.int p0), .val (.int p1), .val (.int p2), .val (.int p3), .val (.int p4), .val (.int p5), .unset, .unset, .unset, .unset, .unset, .unset, .unset, .unset, .unset, .unset, .unset, .unset] [(.int (5 : Int32))])) rfl (hb hby at_1) rfl (by decide) (cap := 5) (by decide) (by decide) (by decide) (by decide) (ad := "[B") (by decide +kernel)
  obtain ⟨b1, g1⟩ : ∃ z, z = h0.size := ⟨_, rfl⟩
  rw [← g1] at A1 Q1 st1
  have ne_np_b1 : np ≠ b1 := Nat.ne_of_lt (Nat.lt_of_lt_of_le En.lt (Nat.le_of_eq g1.symm))
  have gb_b1 : n0 ≤ b1 := Nat.le_trans hz (Nat.le_of_eq g1.symm)
  replace En := En.ext E1
  replace S1 := S1.ext E1
  replace S2 := S2.ext E1
  replace hz := Nat.le_trans hz E1.1
  have V_b1 : Fa Z h1 b1 .byte (5 : Int32) (fun i => .int ((fun _ => (0 : Int32)) i)) := Fa.new A1 (by decide)
  refine Go.of (mkF m 3 #[.val (.int p0), .val (.int p1), .val (.int p2), .val (.int p3), .val (.int p4), .val (.int p5), .unset, .unset, .unset, .unset, .unset, .unset, .unset, .unset, .unset, .unset, .unset, .unset] [(.ref b1)]) (st1) ?_
  refine Go.of (mkF m 4 #[.val (.int p0), .val (.int p1), .val (.int p2), .val (.int p3), .val (.int p4), .val (.int p5), .unset, .unset, .unset, .unset, .unset, .unset, .unset, .unset, .unset, .unset, .unset, .unset] [(.ref b1), (.ref b1)]) (fun tt0 kk0 => XS.dup X1.here hx rfl (hb hby at_3) rfl rfl kk0) ?_
  refine Go.of (mkF m 5 #[.val (.int p0), .val (.int p1), .val (.int p2), .val (.int p3), .val (.int p4), .val (.int p5), .unset, .unset, .unset, .unset, .unset, .unset, .unset, .unset, .unset, .unset, .unset, .unset] [(.int (0 : Int32)), (.ref b1), (.ref b1)]) (fun tt0 kk0 => XS.iconst X1.here hx rfl (hb hby at_4) kk0) ?_
  refine Go.of (mkF m 6 #[.val (.int p0), .val (.int p1), .val (.int p2), .val (.int p3), .val (.int p4), .val (.int p5), .unset, .unset, .unset, .unset, .unset, .unset, .unset, .unset, .unset, .unset, .unset, .unset] [(.int p0), (.int (0 : Int32)), (.ref b1), (.ref b1)]) (fun tt0 kk0 => XS.iloadN X1.here hx rfl (hb hby at_5) rfl kk0) ?_
  refine Go.callS X1 hx hZ (y := (⟨"com/example/tidemark/tidemark/io/JsonBytesBeginArrayPinLaw", "pick", "(I)B"⟩ : MethodName)) (argsL := [(.int p0)]) (rest := [(.int (0 : Int32)), (.ref b1), (.ref b1)]) hown (tw1 hw) (tw2 hw) (tw3 hw) (tw4 hw) (by decide) e1 (rmPick l Z a0 hw [] p0 h1) (g := (mkF m 6 #[.val (.int p0), .val (.int p1), .val (.int p2), .val (.int p3), .val (.int p4), .val (.int p5), .unset, .unset, .unset, .unset, .unset, .unset, .unset, .unset, .unset, .unset, .unset, .unset] [(.int p0), (.int (0 : Int32)), (.ref b1), (.ref b1)])) rfl (by rw [hml]; rfl) (lenOf pd29 rfl) rfl (W := 3) (by show 2 * 0 + _ ≤ _; exact Nat.le_of_eq rfl) (hb hby at_6) (by decide) (by decide) (by decide) (by decide) ?_
  rintro T2 L2 v2 X2 ⟨rr2, rfl, rfl, hh2⟩
  have N2 := Fr.app N0 (Fr.nil n0)
  show Go pr ev below _ T2 (mkF m 9 #[.val (.int p0), .val (.int p1), .val (.int p2), .val (.int p3), .val (.int p4), .val (.int p5), .unset, .unset, .unset, .unset, .unset, .unset, .unset, .unset, .unset, .unset, .unset, .unset] [(.int rr2), (.int (0 : Int32)), (.ref b1), (.ref b1)])
  refine Go.bastore X2 hx hZ hh2 V_b1 (by decide) (by decide) (g := (mkF m 9 #[.val (.int p0), .val (.int p1), .val (.int p2), .val (.int p3), .val (.int p4), .val (.int p5), .unset, .unset, .unset, .unset, .unset, .unset, .unset, .unset, .unset, .unset, .unset, .unset] [(.int rr2), (.int (0 : Int32)), (.ref b1), (.ref b1)])) rfl rfl (hb hby at_9) ?_
  rintro T3 h3 X3 e3 W3 V3
  replace En := En.wr W3
  replace Q1 := Q1.wr W3
  replace S1 := S1.wr W3
  replace S2 := S2.wr W3
  replace hz := Nat.le_trans hz (Nat.le_of_eq W3.size.symm)
  replace V_b1 := V3
  have N3 := Fr.snoc X3 N2 gb_b1
  show Go pr ev below _ T3 (mkF m 10 #[.val (.int p0), .val (.int p1), .val (.int p2), .val (.int p3), .val (.int p4), .val (.int p5), .unset, .unset, .unset, .unset, .unset, .unset, .unset, .unset, .unset, .unset, .unset, .unset] [(.ref b1)])
  refine Go.of (mkF m 11 #[.val (.int p0), .val (.int p1), .val (.int p2), .val (.int p3), .val (.int p4), .val (.int p5), .unset, .unset, .unset, .unset, .unset, .unset, .unset, .unset, .unset, .unset, .unset, .unset] [(.ref b1), (.ref b1)]) (fun tt0 kk0 => XS.dup X3.here hx rfl (hb hby at_10) rfl rfl kk0) ?_
  refine Go.of (mkF m 12 #[.val (.int p0), .val (.int p1), .val (.int p2), .val (.int p3), .val (.int p4), .val (.int p5), .unset, .unset, .unset, .unset, .unset, .unset, .unset, .unset, .unset, .unset, .unset, .unset] [(.int (1 : Int32)), (.ref b1), (.ref b1)]) (fun tt0 kk0 => XS.iconst X3.here hx rfl (hb hby at_11) kk0) ?_
  refine Go.of (mkF m 13 #[.val (.int p0), .val (.int p1), .val (.int p2), .val (.int p3), .val (.int p4), .val (.int p5), .unset, .unset, .unset, .unset, .unset, .unset, .unset, .unset, .unset, .unset, .unset, .unset] [(.int p1), (.int (1 : Int32)), (.ref b1), (.ref b1)]) (fun tt0 kk0 => XS.iloadN X3.here hx rfl (hb hby at_12) rfl kk0) ?_
  refine Go.callS X3 hx hZ (y := (⟨"com/example/tidemark/tidemark/io/JsonBytesBeginArrayPinLaw", "pick", "(I)B"⟩ : MethodName)) (argsL := [(.int p1)]) (rest := [(.int (1 : Int32)), (.ref b1), (.ref b1)]) hown (tw1 hw) (tw2 hw) (tw3 hw) (tw4 hw) (by decide) e3 (rmPick l Z a0 hw [] p1 h3) (g := (mkF m 13 #[.val (.int p0), .val (.int p1), .val (.int p2), .val (.int p3), .val (.int p4), .val (.int p5), .unset, .unset, .unset, .unset, .unset, .unset, .unset, .unset, .unset, .unset, .unset, .unset] [(.int p1), (.int (1 : Int32)), (.ref b1), (.ref b1)])) rfl (by rw [hml]; rfl) (lenOf pd29 rfl) rfl (W := 3) (by show 2 * 0 + _ ≤ _; exact Nat.le_of_eq rfl) (hb hby at_13) (by decide) (by decide) (by decide) (by decide) ?_
  rintro T4 L4 v4 X4 ⟨rr4, rfl, rfl, hh4⟩
  have N4 := Fr.app N3 (Fr.nil n0)
  show Go pr ev below _ T4 (mkF m 16 #[.val (.int p0), .val (.int p1), .val (.int p2), .val (.int p3), .val (.int p4), .val (.int p5), .unset, .unset, .unset, .unset, .unset, .unset, .unset, .unset, .unset, .unset, .unset, .unset] [(.int rr4), (.int (1 : Int32)), (.ref b1), (.ref b1)])
  refine Go.bastore X4 hx hZ hh4 V_b1 (by decide) (by decide) (g := (mkF m 16 #[.val (.int p0), .val (.int p1), .val (.int p2), .val (.int p3), .val (.int p4), .val (.int p5), .unset, .unset, .unset, .unset, .unset, .unset, .unset, .unset, .unset, .unset, .unset, .unset] [(.int rr4), (.int (1 : Int32)), (.ref b1), (.ref b1)])) rfl rfl (hb hby at_16) ?_
  rintro T5 h5 X5 e5 W5 V5
  replace En := En.wr W5
  replace Q1 := Q1.wr W5
  replace S1 := S1.wr W5
  replace S2 := S2.wr W5
  replace hz := Nat.le_trans hz (Nat.le_of_eq W5.size.symm)
  replace V_b1 := V5
  have N5 := Fr.snoc X5 N4 gb_b1
  show Go pr ev below _ T5 (mkF m 17 #[.val (.int p0), .val (.int p1), .val (.int p2), .val (.int p3), .val (.int p4), .val (.int p5), .unset, .unset, .unset, .unset, .unset, .unset, .unset, .unset, .unset, .unset, .unset, .unset] [(.ref b1)])
  refine Go.of (mkF m 18 #[.val (.int p0), .val (.int p1), .val (.int p2), .val (.int p3), .val (.int p4), .val (.int p5), .unset, .unset, .unset, .unset, .unset, .unset, .unset, .unset, .unset, .unset, .unset, .unset] [(.ref b1), (.ref b1)]) (fun tt0 kk0 => XS.dup X5.here hx rfl (hb hby at_17) rfl rfl kk0) ?_
  refine Go.of (mkF m 19 #[.val (.int p0), .val (.int p1), .val (.int p2), .val (.int p3), .val (.int p4), .val (.int p5), .unset, .unset, .unset, .unset, .unset, .unset, .unset, .unset, .unset, .unset, .unset, .unset] [(.int (2 : Int32)), (.ref b1), (.ref b1)]) (fun tt0 kk0 => XS.iconst X5.here hx rfl (hb hby at_18) kk0) ?_
  refine Go.of (mkF m 20 #[.val (.int p0), .val (.int p1), .val (.int p2), .val (.int p3), .val (.int p4), .val (.int p5), .unset, .unset, .unset, .unset, .unset, .unset, .unset, .unset, .unset, .unset, .unset, .unset] [(.int p2), (.int (2 : Int32)), (.ref b1), (.ref b1)]) (fun tt0 kk0 => XS.iloadN X5.here hx rfl (hb hby at_19) rfl kk0) ?_
  refine Go.callS X5 hx hZ (y := (⟨"com/example/tidemark/tidemark/io/JsonBytesBeginArrayPinLaw", "pick", "(I)B"⟩ : MethodName)) (argsL := [(.int p2)]) (rest := [(.int (2 : Int32)), (.ref b1), (.ref b1)]) hown (tw1 hw) (tw2 hw) (tw3 hw) (tw4 hw) (by decide) e5 (rmPick l Z a0 hw [] p2 h5) (g := (mkF m 20 #[.val (.int p0), .val (.int p1), .val (.int p2), .val (.int p3), .val (.int p4), .val (.int p5), .unset, .unset, .unset, .unset, .unset, .unset, .unset, .unset, .unset, .unset, .unset, .unset] [(.int p2), (.int (2 : Int32)), (.ref b1), (.ref b1)])) rfl (by rw [hml]; rfl) (lenOf pd29 rfl) rfl (W := 3) (by show 2 * 0 + _ ≤ _; exact Nat.le_of_eq rfl) (hb hby at_20) (by decide) (by decide) (by decide) (by decide) ?_
  rintro T6 L6 v6 X6 ⟨rr6, rfl, rfl, hh6⟩
  have N6 := Fr.app N5 (Fr.nil n0)
  show Go pr ev below _ T6 (mkF m 23 #[.val (.int p0), .val (.int p1), .val (.int p2), .val (.int p3), .val (.int p4), .val (.int p5), .unset, .unset, .unset, .unset, .unset, .unset, .unset, .unset, .unset, .unset, .unset, .unset] [(.int rr6), (.int (2 : Int32)), (.ref b1), (.ref b1)])
  refine Go.bastore X6 hx hZ hh6 V_b1 (by decide) (by decide) (g := (mkF m 23 #[.val (.int p0), .val (.int p1), .val (.int p2), .val (.int p3), .val (.int p4), .val (.int p5), .unset, .unset, .unset, .unset, .unset, .unset, .unset, .unset, .unset, .unset, .unset, .unset] [(.int rr6), (.int (2 : Int32)), (.ref b1), (.ref b1)])) rfl rfl (hb hby at_23) ?_
  rintro T7 h7 X7 e7 W7 V7
  replace En := En.wr W7
  replace Q1 := Q1.wr W7
  replace S1 := S1.wr W7
  replace S2 := S2.wr W7
  replace hz := Nat.le_trans hz (Nat.le_of_eq W7.size.symm)
  replace V_b1 := V7
  have N7 := Fr.snoc X7 N6 gb_b1
  show Go pr ev below _ T7 (mkF m 24 #[.val (.int p0), .val (.int p1), .val (.int p2), .val (.int p3), .val (.int p4), .val (.int p5), .unset, .unset, .unset, .unset, .unset, .unset, .unset, .unset, .unset, .unset, .unset, .unset] [(.ref b1)])
  refine Go.of (mkF m 25 #[.val (.int p0), .val (.int p1), .val (.int p2), .val (.int p3), .val (.int p4), .val (.int p5), .unset, .unset, .unset, .unset, .unset, .unset, .unset, .unset, .unset, .unset, .unset, .unset] [(.ref b1), (.ref b1)]) (fun tt0 kk0 => XS.dup X7.here hx rfl (hb hby at_24) rfl rfl kk0) ?_
  refine Go.of (mkF m 26 #[.val (.int p0), .val (.int p1), .val (.int p2), .val (.int p3), .val (.int p4), .val (.int p5), .unset, .unset, .unset, .unset, .unset, .unset, .unset, .unset, .unset, .unset, .unset, .unset] [(.int (3 : Int32)), (.ref b1), (.ref b1)]) (fun tt0 kk0 => XS.iconst X7.here hx rfl (hb hby at_25) kk0) ?_
  refine Go.of (mkF m 27 #[.val (.int p0), .val (.int p1), .val (.int p2), .val (.int p3), .val (.int p4), .val (.int p5), .unset, .unset, .unset, .unset, .unset, .unset, .unset, .unset, .unset, .unset, .unset, .unset] [(.int p3), (.int (3 : Int32)), (.ref b1), (.ref b1)]) (fun tt0 kk0 => XS.iloadN X7.here hx rfl (hb hby at_26) rfl kk0) ?_
  refine Go.callS X7 hx hZ (y := (⟨"com/example/tidemark/tidemark/io/JsonBytesBeginArrayPinLaw", "pick", "(I)B"⟩ : MethodName)) (argsL := [(.int p3)]) (rest := [(.int (3 : Int32)), (.ref b1), (.ref b1)]) hown (tw1 hw) (tw2 hw) (tw3 hw) (tw4 hw) (by decide) e7 (rmPick l Z a0 hw [] p3 h7) (g := (mkF m 27 #[.val (.int p0), .val (.int p1), .val (.int p2), .val (.int p3), .val (.int p4), .val (.int p5), .unset, .unset, .unset, .unset, .unset, .unset, .unset, .unset, .unset, .unset, .unset, .unset] [(.int p3), (.int (3 : Int32)), (.ref b1), (.ref b1)])) rfl (by rw [hml]; rfl) (lenOf pd29 rfl) rfl (W := 3) (by show 2 * 0 + _ ≤ _; exact Nat.le_of_eq rfl) (hb hby at_27) (by decide) (by decide) (by decide) (by decide) ?_
  rintro T8 L8 v8 X8 ⟨rr8, rfl, rfl, hh8⟩
  have N8 := Fr.app N7 (Fr.nil n0)
  show Go pr ev below _ T8 (mkF m 30 #[.val (.int p0), .val (.int p1), .val (.int p2), .val (.int p3), .val (.int p4), .val (.int p5), .unset, .unset, .unset, .unset, .unset, .unset, .unset, .unset, .unset, .unset, .unset, .unset] [(.int rr8), (.int (3 : Int32)), (.ref b1), (.ref b1)])
  refine Go.bastore X8 hx hZ hh8 V_b1 (by decide) (by decide) (g := (mkF m 30 #[.val (.int p0), .val (.int p1), .val (.int p2), .val (.int p3), .val (.int p4), .val (.int p5), .unset, .unset, .unset, .unset, .unset, .unset, .unset, .unset, .unset, .unset, .unset, .unset] [(.int rr8), (.int (3 : Int32)), (.ref b1), (.ref b1)])) rfl rfl (hb hby at_30) ?_
  rintro T9 h9 X9 e9 W9 V9
  replace En := En.wr W9
  replace Q1 := Q1.wr W9
  replace S1 := S1.wr W9
  replace S2 := S2.wr W9
  replace hz := Nat.le_trans hz (Nat.le_of_eq W9.size.symm)
  replace V_b1 := V9
  have N9 := Fr.snoc X9 N8 gb_b1
  show Go pr ev below _ T9 (mkF m 31 #[.val (.int p0), .val (.int p1), .val (.int p2), .val (.int p3), .val (.int p4), .val (.int p5), .unset, .unset, .unset, .unset, .unset, .unset, .unset, .unset, .unset, .unset, .unset, .unset] [(.ref b1)])
  refine Go.of (mkF m 32 #[.val (.int p0), .val (.int p1), .val (.int p2), .val (.int p3), .val (.int p4), .val (.int p5), .unset, .unset, .unset, .unset, .unset, .unset, .unset, .unset, .unset, .unset, .unset, .unset] [(.ref b1), (.ref b1)]) (fun tt0 kk0 => XS.dup X9.here hx rfl (hb hby at_31) rfl rfl kk0) ?_
  refine Go.of (mkF m 33 #[.val (.int p0), .val (.int p1), .val (.int p2), .val (.int p3), .val (.int p4), .val (.int p5), .unset, .unset, .unset, .unset, .unset, .unset, .unset, .unset, .unset, .unset, .unset, .unset] [(.int (4 : Int32)), (.ref b1), (.ref b1)]) (fun tt0 kk0 => XS.iconst X9.here hx rfl (hb hby at_32) kk0) ?_
  refine Go.of (mkF m 35 #[.val (.int p0), .val (.int p1), .val (.int p2), .val (.int p3), .val (.int p4), .val (.int p5), .unset, .unset, .unset, .unset, .unset, .unset, .unset, .unset, .unset, .unset, .unset, .unset] [(.int p4), (.int (4 : Int32)), (.ref b1), (.ref b1)]) (fun tt0 kk0 => XS.iload X9.here hx rfl (hb hby at_33) rfl kk0) ?_
  refine Go.callS X9 hx hZ (y := (⟨"com/example/tidemark/tidemark/io/JsonBytesBeginArrayPinLaw", "pick", "(I)B"⟩ : MethodName)) (argsL := [(.int p4)]) (rest := [(.int (4 : Int32)), (.ref b1), (.ref b1)]) hown (tw1 hw) (tw2 hw) (tw3 hw) (tw4 hw) (by decide) e9 (rmPick l Z a0 hw [] p4 h9) (g := (mkF m 35 #[.val (.int p0), .val (.int p1), .val (.int p2), .val (.int p3), .val (.int p4), .val (.int p5), .unset, .unset, .unset, .unset, .unset, .unset, .unset, .unset, .unset, .unset, .unset, .unset] [(.int p4), (.int (4 : Int32)), (.ref b1), (.ref b1)])) rfl (by rw [hml]; rfl) (lenOf pd29 rfl) rfl (W := 3) (by show 2 * 0 + _ ≤ _; exact Nat.le_of_eq rfl) (hb hby at_35) (by decide) (by decide) (by decide) (by decide) ?_
  rintro T10 L10 v10 X10 ⟨rr10, rfl, rfl, hh10⟩
  have N10 := Fr.app N9 (Fr.nil n0)
  show Go pr ev below _ T10 (mkF m 38 #[.val (.int p0), .val (.int p1), .val (.int p2), .val (.int p3), .val (.int p4), .val (.int p5), .unset, .unset, .unset, .unset, .unset, .unset, .unset, .unset, .unset, .unset, .unset, .unset] [(.int rr10), (.int (4 : Int32)), (.ref b1), (.ref b1)])
  refine Go.bastore X10 hx hZ hh10 V_b1 (by decide) (by decide) (g := (mkF m 38 #[.val (.int p0), .val (.int p1), .val (.int p2), .val (.int p3), .val (.int p4), .val (.int p5), .unset, .unset, .unset, .unset, .unset, .unset, .unset, .unset, .unset, .unset, .unset, .unset] [(.int rr10), (.int (4 : Int32)), (.ref b1), (.ref b1)])) rfl rfl (hb hby at_38) ?_
  rintro T11 h11 X11 e11 W11 V11
  replace En := En.wr W11
  replace Q1 := Q1.wr W11
  replace S1 := S1.wr W11
  replace S2 := S2.wr W11
  replace hz := Nat.le_trans hz (Nat.le_of_eq W11.size.symm)
  replace V_b1 := V11
  have N11 := Fr.snoc X11 N10 gb_b1
  show Go pr ev below _ T11 (mkF m 39 #[.val (.int p0), .val (.int p1), .val (.int p2), .val (.int p3), .val (.int p4), .val (.int p5), .unset, .unset, .unset, .unset, .unset, .unset, .unset, .unset, .unset, .unset, .unset, .unset] [(.ref b1)])
  refine Go.of (mkF m 41 #[.val (.int p0), .val (.int p1), .val (.int p2), .val (.int p3), .val (.int p4), .val (.int p5), .val (.ref b1), .unset, .unset, .unset, .unset, .unset, .unset, .unset, .unset, .unset, .unset, .unset] []) (fun tt0 kk0 => XS.astore X11.here hx rfl (hb hby at_39) rfl rfl (l' := #[.val (.int p0), .val (.int p1), .val (.int p2), .val (.int p3), .val (.int p4), .val (.int p5), .val (.ref b1), .unset, .unset, .unset, .unset, .unset, .unset, .unset, .unset, .unset, .unset, .unset]) rfl kk0) ?_
  obtain ⟨y, VY⟩ : ∃ y : Int32 → Int32, Fa Z h11 b1 .byte 5 (fun i => .int (y i)) := ⟨_, V_b1⟩
  refine Go.of (mkF m 43 #[.val (.int p0), .val (.int p1), .val (.int p2), .val (.int p3), .val (.int p4), .val (.int p5), .val (.ref b1), .unset, .unset, .unset, .unset, .unset, .unset, .unset, .unset, .unset, .unset, .unset] [(.int p5)]) (fun tt0 kk0 => XS.iload X11.here hx rfl (hb hby at_41) rfl kk0) ?_
  refine Go.of (mkF m 44 #[.val (.int p0), .val (.int p1), .val (.int p2), .val (.int p3), .val (.int p4), .val (.int p5), .val (.ref b1), .unset, .unset, .unset, .unset, .unset, .unset, .unset, .unset, .unset, .unset, .unset] [(.int (1 : Int32)), (.int p5)]) (fun tt0 kk0 => XS.iconst X11.here hx rfl (hb hby at_43) kk0) ?_
  refine Go.of (mkF m 45 #[.val (.int p0), .val (.int p1), .val (.int p2), .val (.int p3), .val (.int p4), .val (.int p5), .val (.ref b1), .unset, .unset, .unset, .unset, .unset, .unset, .unset, .unset, .unset, .unset, .unset] [(.int (p5 &&& (1 : Int32)))]) (fun tt0 kk0 => XS.iand X11.here hx rfl (hb hby at_44) rfl kk0) ?_
  refine Go.of (mkF m 47 #[.val (.int p0), .val (.int p1), .val (.int p2), .val (.int p3), .val (.int p4), .val (.int p5), .val (.ref b1), .val (.int (p5 &&& (1 : Int32))), .unset, .unset, .unset, .unset, .unset, .unset, .unset, .unset, .unset, .unset] []) (fun tt0 kk0 => XS.istore X11.here hx rfl (hb hby at_45) rfl (l' := #[.val (.int p0), .val (.int p1), .val (.int p2), .val (.int p3), .val (.int p4), .val (.int p5), .val (.ref b1), .val (.int (p5 &&& (1 : Int32))), .unset, .unset, .unset, .unset, .unset, .unset, .unset, .unset, .unset, .unset]) rfl kk0) ?_
  have hof := own_off p5
  generalize hofe : (p5 &&& (1 : Int32)) = of
  rw [hofe] at hof
  refine Go.of (mkF m 49 #[.val (.int p0), .val (.int p1), .val (.int p2), .val (.int p3), .val (.int p4), .val (.int p5), .val (.ref b1), .val (.int of), .unset, .unset, .unset, .unset, .unset, .unset, .unset, .unset, .unset, .unset] [(.int p5)]) (fun tt0 kk0 => XS.iload X11.here hx rfl (hb hby at_47) rfl kk0) ?_
  refine Go.of (mkF m 50 #[.val (.int p0), .val (.int p1), .val (.int p2), .val (.int p3), .val (.int p4), .val (.int p5), .val (.ref b1), .val (.int of), .unset, .unset, .unset, .unset, .unset, .unset, .unset, .unset, .unset, .unset] [(.int (1 : Int32)), (.int p5)]) (fun tt0 kk0 => XS.iconst X11.here hx rfl (hb hby at_49) kk0) ?_
  refine Go.of (mkF m 51 #[.val (.int p0), .val (.int p1), .val (.int p2), .val (.int p3), .val (.int p4), .val (.int p5), .val (.ref b1), .val (.int of), .unset, .unset, .unset, .unset, .unset, .unset, .unset, .unset, .unset, .unset] [(.int ((p5.toUInt32 >>> ((1 : Int32) &&& 31).toUInt32).toInt32))]) (fun tt0 kk0 => XS.iushr X11.here hx rfl (hb hby at_50) rfl kk0) ?_
  refine Go.of (mkF m 53 #[.val (.int p0), .val (.int p1), .val (.int p2), .val (.int p3), .val (.int p4), .val (.int p5), .val (.ref b1), .val (.int of), .unset, .unset, .unset, .unset, .unset, .unset, .unset, .unset, .unset, .unset] [(.int (2147483647 : Int32)), (.int ((p5.toUInt32 >>> ((1 : Int32) &&& 31).toUInt32).toInt32))]) (fun tt0 kk0 => X11.ldcInt hx hown (mvT hZ (tw5 hw)) (g := (mkF m 51 #[.val (.int p0), .val (.int p1), .val (.int p2), .val (.int p3), .val (.int p4), .val (.int p5), .val (.ref b1), .val (.int of), .unset, .unset, .unset, .unset, .unset, .unset, .unset, .unset, .unset, .unset] [(.int ((p5.toUInt32 >>> ((1 : Int32) &&& 31).toUInt32).toInt32))])) rfl (hb hby at_51) _ kk0) ?_
  refine Go.of (mkF m 54 #[.val (.int p0), .val (.int p1), .val (.int p2), .val (.int p3), .val (.int p4), .val (.int p5), .val (.ref b1), .val (.int of), .unset, .unset, .unset, .unset, .unset, .unset, .unset, .unset, .unset, .unset] [(.int (((p5.toUInt32 >>> ((1 : Int32) &&& 31).toUInt32).toInt32) &&& (2147483647 : Int32)))]) (fun tt0 kk0 => XS.iand X11.here hx rfl (hb hby at_53) rfl kk0) ?_
  refine Go.of (mkF m 56 #[.val (.int p0), .val (.int p1), .val (.int p2), .val (.int p3), .val (.int p4), .val (.int p5), .val (.ref b1), .val (.int of), .unset, .unset, .unset, .unset, .unset, .unset, .unset, .unset, .unset, .unset] [(.int (6 : Int32)), (.int (((p5.toUInt32 >>> ((1 : Int32) &&& 31).toUInt32).toInt32) &&& (2147483647 : Int32)))]) (fun tt0 kk0 => XS.bipush X11.here hx rfl (hb hby at_54) kk0) ?_
  refine Go.of (mkF m 58 #[.val (.int p0), .val (.int p1), .val (.int p2), .val (.int p3), .val (.int p4), .val (.int p5), .val (.ref b1), .val (.int of), .unset, .unset, .unset, .unset, .unset, .unset, .unset, .unset, .unset, .unset] [(.int of), (.int (6 : Int32)), (.int (((p5.toUInt32 >>> ((1 : Int32) &&& 31).toUInt32).toInt32) &&& (2147483647 : Int32)))]) (fun tt0 kk0 => XS.iload X11.here hx rfl (hb hby at_56) rfl kk0) ?_
  refine Go.of (mkF m 59 #[.val (.int p0), .val (.int p1), .val (.int p2), .val (.int p3), .val (.int p4), .val (.int p5), .val (.ref b1), .val (.int of), .unset, .unset, .unset, .unset, .unset, .unset, .unset, .unset, .unset, .unset] [(.int ((6 : Int32) - of)), (.int (((p5.toUInt32 >>> ((1 : Int32) &&& 31).toUInt32).toInt32) &&& (2147483647 : Int32)))]) (fun tt0 kk0 => XS.isub X11.here hx rfl (hb hby at_58) rfl kk0) ?_
  refine Go.of (mkF m 60 #[.val (.int p0), .val (.int p1), .val (.int p2), .val (.int p3), .val (.int p4), .val (.int p5), .val (.ref b1), .val (.int of), .unset, .unset, .unset, .unset, .unset, .unset, .unset, .unset, .unset, .unset] [(.int ((((p5.toUInt32 >>> ((1 : Int32) &&& 31).toUInt32).toInt32) &&& (2147483647 : Int32)) % ((6 : Int32) - of)))]) (fun tt0 kk0 => iremM X11 hx rfl (hb hby at_59) rfl (own_six hof).2 kk0) ?_
  refine Go.of (mkF m 62 #[.val (.int p0), .val (.int p1), .val (.int p2), .val (.int p3), .val (.int p4), .val (.int p5), .val (.ref b1), .val (.int of), .val (.int ((((p5.toUInt32 >>> ((1 : Int32) &&& 31).toUInt32).toInt32) &&& (2147483647 : Int32)) % ((6 : Int32) - of))), .unset, .unset, .unset, .unset, .unset, .unset, .unset, .unset, .unset] []) (fun tt0 kk0 => XS.istore X11.here hx rfl (hb hby at_60) rfl (l' := #[.val (.int p0), .val (.int p1), .val (.int p2), .val (.int p3), .val (.int p4), .val (.int p5), .val (.ref b1), .val (.int of), .val (.int ((((p5.toUInt32 >>> ((1 : Int32) &&& 31).toUInt32).toInt32) &&& (2147483647 : Int32)) % ((6 : Int32) - of))), .unset, .unset, .unset, .unset, .unset, .unset, .unset, .unset, .unset]) rfl kk0) ?_
  have hln := own_len p5 (6 - of) (own_six hof).1
  generalize hlne : ((((p5.toUInt32 >>> ((1 : Int32) &&& 31).toUInt32).toInt32) &&& (2147483647 : Int32)) % ((6 : Int32) - of)) = ln
  rw [hlne] at hln
  refine Go.of (mkF m 64 #[.val (.int p0), .val (.int p1), .val (.int p2), .val (.int p3), .val (.int p4), .val (.int p5), .val (.ref b1), .val (.int of), .val (.int ln), .unset, .unset, .unset, .unset, .unset, .unset, .unset, .unset, .unset] [(.int of)]) (fun tt0 kk0 => XS.iload X11.here hx rfl (hb hby at_62) rfl kk0) ?_
  refine Go.of (mkF m 66 #[.val (.int p0), .val (.int p1), .val (.int p2), .val (.int p3), .val (.int p4), .val (.int p5), .val (.ref b1), .val (.int of), .val (.int ln), .unset, .unset, .unset, .unset, .unset, .unset, .unset, .unset, .unset] [(.int ln), (.int of)]) (fun tt0 kk0 => XS.iload X11.here hx rfl (hb hby at_64) rfl kk0) ?_
  refine Go.of (mkF m 67 #[.val (.int p0), .val (.int p1), .val (.int p2), .val (.int p3), .val (.int p4), .val (.int p5), .val (.ref b1), .val (.int of), .val (.int ln), .unset, .unset, .unset, .unset, .unset, .unset, .unset, .unset, .unset] [(.int (of + ln))]) (fun tt0 kk0 => XS.iadd X11.here hx rfl (hb hby at_66) rfl kk0) ?_
  refine Go.of (mkF m 69 #[.val (.int p0), .val (.int p1), .val (.int p2), .val (.int p3), .val (.int p4), .val (.int p5), .val (.ref b1), .val (.int of), .val (.int ln), .val (.int (of + ln)), .unset, .unset, .unset, .unset, .unset, .unset, .unset, .unset] []) (fun tt0 kk0 => XS.istore X11.here hx rfl (hb hby at_67) rfl (l' := #[.val (.int p0), .val (.int p1), .val (.int p2), .val (.int p3), .val (.int p4), .val (.int p5), .val (.ref b1), .val (.int of), .val (.int ln), .val (.int (of + ln)), .unset, .unset, .unset, .unset, .unset, .unset, .unset, .unset]) rfl kk0) ?_
  have hok := own_base hof hln.1 hln.2
  generalize hene : (of + ln) = en
  rw [hene] at hok
  obtain ⟨T12, h12, X12, e12, E12, A12, D12, -, st12⟩ := newO X11 hx hZ hown (tw6 hw) (tw7 hw) (tw8 hw) e11 (g := (mkF m 69 #[.val (.int p0), .val (.int p1), .val (.int p2), .val (.int p3), .val (.int p4), .val (.int p5), .val (.ref b1), .val (.int of), .val (.int ln), .val (.int en), .unset, .unset, .unset, .unset, .unset, .unset, .unset, .unset] [])) rfl (hb hby at_69) (by decide) (by decide)
  obtain ⟨b12, g12⟩ : ∃ z, z = h11.size := ⟨_, rfl⟩
  rw [← g12] at A12 D12 st12
  have ne_np_b12 : np ≠ b12 := Nat.ne_of_lt (Nat.lt_of_lt_of_le En.lt (Nat.le_of_eq g12.symm))
  have ne_b1_b12 : b1 ≠ b12 := Nat.ne_of_lt (Nat.lt_of_lt_of_le Q1.lt (Nat.le_of_eq g12.symm))
  have gb_b12 : n0 ≤ b12 := Nat.le_trans hz (Nat.le_of_eq g12.symm)
  replace En := En.ext E12
  replace Q1 := Q1.ext E12
  replace VY := VY.ext E12
  replace S1 := S1.ext E12
  replace S2 := S2.ext E12
  replace hz := Nat.le_trans hz E12.1
  have F_b12_othersSeen : Fld Z h12 b12 "com/example/tidemark/tidemark/io/JsonBytes" "othersSeen" "Ljava/util/Set;" .null := D12 (Or.inr (tw86 hw)) (ty := (.object "java/util/Set")) (by decide)
  have F_b12_bytes : Fld Z h12 b12 "com/example/tidemark/tidemark/io/JsonBytes" "bytes" "[B" .null := D12 (Or.inr (tw88 hw)) (ty := (.array .byte)) (by decide)
  have F_b12_position : Fld Z h12 b12 "com/example/tidemark/tidemark/io/JsonBytes" "position" "I" (.int (0 : Int32)) := D12 (Or.inl (tw90 hw)) (ty := .int) (by decide)
  have F_b12_end : Fld Z h12 b12 "com/example/tidemark/tidemark/io/JsonBytes" "end" "I" (.int (0 : Int32)) := D12 (Or.inr (tw92 hw)) (ty := .int) (by decide)
  have F_b12_known : Fld Z h12 b12 "com/example/tidemark/tidemark/io/JsonBytes" "known" "Lcom/example/tidemark/tidemark/io/JsonBytes$Fields;" .null := D12 (Or.inr (tw94 hw)) (ty := (.object "com/example/tidemark/tidemark/io/JsonBytes$Fields")) (by decide)
  have F_b12_depth : Fld Z h12 b12 "com/example/tidemark/tidemark/io/JsonBytes" "depth" "I" (.int (0 : Int32)) := D12 (Or.inl (tw120 hw)) (ty := .int) (by decide)
  have F_b12_atStart : Fld Z h12 b12 "com/example/tidemark/tidemark/io/JsonBytes" "atStart" "Z" (.int (0 : Int32)) := D12 (Or.inl (tw122 hw)) (ty := .boolean) (by decide)
  refine Go.of (mkF m 72 #[.val (.int p0), .val (.int p1), .val (.int p2), .val (.int p3), .val (.int p4), .val (.int p5), .val (.ref b1), .val (.int of), .val (.int ln), .val (.int en), .unset, .unset, .unset, .unset, .unset, .unset, .unset, .unset] [(.ref b12)]) (st12) ?_
  refine Go.of (mkF m 73 #[.val (.int p0), .val (.int p1), .val (.int p2), .val (.int p3), .val (.int p4), .val (.int p5), .val (.ref b1), .val (.int of), .val (.int ln), .val (.int en), .unset, .unset, .unset, .unset, .unset, .unset, .unset, .unset] [(.ref b12), (.ref b12)]) (fun tt0 kk0 => XS.dup X12.here hx rfl (hb hby at_72) rfl rfl kk0) ?_
  refine Go.of (mkF m 75 #[.val (.int p0), .val (.int p1), .val (.int p2), .val (.int p3), .val (.int p4), .val (.int p5), .val (.ref b1), .val (.int of), .val (.int ln), .val (.int en), .unset, .unset, .unset, .unset, .unset, .unset, .unset, .unset] [(.ref b1), (.ref b12), (.ref b12)]) (fun tt0 kk0 => XS.aload X12.here hx rfl (hb hby at_73) rfl rfl kk0) ?_
  refine Go.of (mkF m 77 #[.val (.int p0), .val (.int p1), .val (.int p2), .val (.int p3), .val (.int p4), .val (.int p5), .val (.ref b1), .val (.int of), .val (.int ln), .val (.int en), .unset, .unset, .unset, .unset, .unset, .unset, .unset, .unset] [(.int of), (.ref b1), (.ref b12), (.ref b12)]) (fun tt0 kk0 => XS.iload X12.here hx rfl (hb hby at_75) rfl kk0) ?_
  refine Go.of (mkF m 79 #[.val (.int p0), .val (.int p1), .val (.int p2), .val (.int p3), .val (.int p4), .val (.int p5), .val (.ref b1), .val (.int of), .val (.int ln), .val (.int en), .unset, .unset, .unset, .unset, .unset, .unset, .unset, .unset] [(.int ln), (.int of), (.ref b1), (.ref b12), (.ref b12)]) (fun tt0 kk0 => XS.iload X12.here hx rfl (hb hby at_77) rfl kk0) ?_
  obtain ⟨T13, h13, X13, e13, E13, A13, D13, -, st13⟩ := newO X12 hx hZ hown (tw9 hw) (tw10 hw) (tw11 hw) e12 (g := (mkF m 79 #[.val (.int p0), .val (.int p1), .val (.int p2), .val (.int p3), .val (.int p4), .val (.int p5), .val (.ref b1), .val (.int of), .val (.int ln), .val (.int en), .unset, .unset, .unset, .unset, .unset, .unset, .unset, .unset] [(.int ln), (.int of), (.ref b1), (.ref b12), (.ref b12)])) rfl (hb hby at_79) (by decide) (by decide)
  obtain ⟨b13, g13⟩ : ∃ z, z = h12.size := ⟨_, rfl⟩
  rw [← g13] at A13 D13 st13
  have ne_np_b13 : np ≠ b13 := Nat.ne_of_lt (Nat.lt_of_lt_of_le En.lt (Nat.le_of_eq g13.symm))
  have ne_b1_b13 : b1 ≠ b13 := Nat.ne_of_lt (Nat.lt_of_lt_of_le Q1.lt (Nat.le_of_eq g13.symm))
  have ne_b12_b13 : b12 ≠ b13 := Nat.ne_of_lt (Nat.lt_of_lt_of_le A12.lt (Nat.le_of_eq g13.symm))
  have gb_b13 : n0 ≤ b13 := Nat.le_trans hz (Nat.le_of_eq g13.symm)
  replace F_b12_othersSeen := F_b12_othersSeen.ext E13
  replace F_b12_bytes := F_b12_bytes.ext E13
  replace F_b12_position := F_b12_position.ext E13
  replace F_b12_end := F_b12_end.ext E13
  replace F_b12_known := F_b12_known.ext E13
  replace F_b12_depth := F_b12_depth.ext E13
  replace F_b12_atStart := F_b12_atStart.ext E13
  replace En := En.ext E13
  replace Q1 := Q1.ext E13
  replace A12 := A12.ext E13
  replace VY := VY.ext E13
  replace S1 := S1.ext E13
  replace S2 := S2.ext E13
  replace hz := Nat.le_trans hz E13.1
  have F_b13_names : Fld Z h13 b13 "com/example/tidemark/tidemark/io/JsonBytes$Fields" "names" "Ljava/util/List;" .null := D13 (Or.inr (tw27 hw)) (ty := (.object "java/util/List")) (by decide)
  have F_b13_spelled : Fld Z h13 b13 "com/example/tidemark/tidemark/io/JsonBytes$Fields" "spelled" "[[B" .null := D13 (Or.inr (tw31 hw)) (ty := (.array (.array .byte))) (by decide)
  have F_b13_byLength : Fld Z h13 b13 "com/example/tidemark/tidemark/io/JsonBytes$Fields" "byLength" "[[I" .null := D13 (Or.inr (tw35 hw)) (ty := (.array (.array .int))) (by decide)
  refine Go.of (mkF m 82 #[.val (.int p0), .val (.int p1), .val (.int p2), .val (.int p3), .val (.int p4), .val (.int p5), .val (.ref b1), .val (.int of), .val (.int ln), .val (.int en), .unset, .unset, .unset, .unset, .unset, .unset, .unset, .unset] [(.ref b13), (.int ln), (.int of), (.ref b1), (.ref b12), (.ref b12)]) (st13) ?_
  refine Go.of (mkF m 83 #[.val (.int p0), .val (.int p1), .val (.int p2), .val (.int p3), .val (.int p4), .val (.int p5), .val (.ref b1), .val (.int of), .val (.int ln), .val (.int en), .unset, .unset, .unset, .unset, .unset, .unset, .unset, .unset] [(.ref b13), (.ref b13), (.int ln), (.int of), (.ref b1), (.ref b12), (.ref b12)]) (fun tt0 kk0 => XS.dup X13.here hx rfl (hb hby at_82) rfl rfl kk0) ?_
  refine Go.of (mkF m 84 #[.val (.int p0), .val (.int p1), .val (.int p2), .val (.int p3), .val (.int p4), .val (.int p5), .val (.ref b1), .val (.int of), .val (.int ln), .val (.int en), .unset, .unset, .unset, .unset, .unset, .unset, .unset, .unset] [(.int (0 : Int32)), (.ref b13), (.ref b13), (.int ln), (.int of), (.ref b1), (.ref b12), (.ref b12)]) (fun tt0 kk0 => XS.iconst X13.here hx rfl (hb hby at_83) kk0) ?_
  obtain ⟨T14, h14, k14, X14, e14, E14, A14, Q14, O14, st14⟩ := newRE X13 hx hZ hown (tw12 hw) (tw13 hw) e13 (g := (mkF m 84 #[.val (.int p0), .val (.int p1), .val (.int p2), .val (.int p3), .val (.int p4), .val (.int p5), .val (.ref b1), .val (.int of), .val (.int ln), .val (.int en), .unset, .unset, .unset, .unset, .unset, .unset, .unset, .unset] [(.int (0 : Int32)), (.ref b13), (.ref b13), (.int ln), (.int of), (.ref b1), (.ref b12), (.ref b12)])) rfl (hb hby at_84) rfl (by decide) (cap := 0) (by decide) (by decide) (by decide) (by decide) (ad := "[Ljava/lang/String;") rfl
  obtain ⟨b14, g14⟩ : ∃ z, z = h13.size := ⟨_, rfl⟩
  rw [← g14] at A14 Q14 st14
  have ne_np_b14 : np ≠ b14 := Nat.ne_of_lt (Nat.lt_of_lt_of_le En.lt (Nat.le_of_eq g14.symm))
  have ne_b1_b14 : b1 ≠ b14 := Nat.ne_of_lt (Nat.lt_of_lt_of_le Q1.lt (Nat.le_of_eq g14.symm))
  have ne_b12_b14 : b12 ≠ b14 := Nat.ne_of_lt (Nat.lt_of_lt_of_le A12.lt (Nat.le_of_eq g14.symm))
  have ne_b13_b14 : b13 ≠ b14 := Nat.ne_of_lt (Nat.lt_of_lt_of_le A13.lt (Nat.le_of_eq g14.symm))
  have gb_b14 : n0 ≤ b14 := Nat.le_trans hz (Nat.le_of_eq g14.symm)
  replace F_b12_othersSeen := F_b12_othersSeen.ext E14
  replace F_b12_bytes := F_b12_bytes.ext E14
  replace F_b12_position := F_b12_position.ext E14
  replace F_b12_end := F_b12_end.ext E14
  replace F_b12_known := F_b12_known.ext E14
  replace F_b12_depth := F_b12_depth.ext E14
  replace F_b12_atStart := F_b12_atStart.ext E14
  replace F_b13_names := F_b13_names.ext E14
  replace F_b13_spelled := F_b13_spelled.ext E14
  replace F_b13_byLength := F_b13_byLength.ext E14
  replace En := En.ext E14
  replace Q1 := Q1.ext E14
  replace A12 := A12.ext E14
  replace A13 := A13.ext E14
  replace VY := VY.ext E14
  replace S1 := S1.ext E14
  replace S2 := S2.ext E14
  replace hz := Nat.le_trans hz E14.1
  have V_b14 : Fa Z h14 b14 (.object "java/lang/String") (0 : Int32) (fun _ => Value.null) := Fa.new A14 (by decide)
  have U_b14 : Uty Z h14 b14 "java/lang/String" := ⟨_, A14.1, O14⟩
  refine Go.of (mkF m 87 #[.val (.int p0), .val (.int p1), .val (.int p2), .val (.int p3), .val (.int p4), .val (.int p5), .val (.ref b1), .val (.int of), .val (.int ln), .val (.int en), .unset, .unset, .unset, .unset, .unset, .unset, .unset, .unset] [(.ref b14), (.ref b13), (.ref b13), (.int ln), (.int of), (.ref b1), (.ref b12), (.ref b12)]) (st14) ?_
  refine Go.init X14 hx hZ (y := (⟨"com/example/tidemark/tidemark/io/JsonBytes$Fields", "<init>", "([Ljava/lang/String;)V"⟩ : MethodName)) (a := b13) (argsL := [(.ref b14)]) (rest := [(.ref b13), (.int ln), (.int of), (.ref b1), (.ref b12), (.ref b12)]) hown rfl (tw14 hw) (tw15 hw) (tw11 hw) (tw16 hw) (by decide) e14 (rmF l Z a0 hw [] b13 b14 u np _ h14 n0 hz A13 gb_b13 F_b13_names F_b13_spelled F_b13_byLength V_b14 ne_b13_b14 S1 S2 En) (g := (mkF m 87 #[.val (.int p0), .val (.int p1), .val (.int p2), .val (.int p3), .val (.int p4), .val (.int p5), .val (.ref b1), .val (.int of), .val (.int ln), .val (.int en), .unset, .unset, .unset, .unset, .unset, .unset, .unset, .unset] [(.ref b14), (.ref b13), (.ref b13), (.int ln), (.int of), (.ref b1), (.ref b12), (.ref b12)])) rfl (by rw [hml]; rfl) (lenOf pd30 rfl) rfl (W := 6) (by show 2 * 0 + _ ≤ _; exact Nat.le_of_eq rfl) (hb hby at_87) (by decide) (by decide) (by decide) (by decide) ?_
  rintro T15 L15 v15 X15 ⟨rfl, NL15, K15⟩
  have N15 := Fr.app N11 NL15
  replace S1 := Sta.keep S1 K15 (allS (exa_ns A13) (all0))
  replace S2 := Sta.keep S2 K15 (allS (exa_ns A13) (all0))
  replace F_b12_othersSeen := F_b12_othersSeen.keep K15 (ninS ne_b12_b13 nin0)
  replace F_b12_bytes := F_b12_bytes.keep K15 (ninS ne_b12_b13 nin0)
  replace F_b12_position := F_b12_position.keep K15 (ninS ne_b12_b13 nin0)
  replace F_b12_end := F_b12_end.keep K15 (ninS ne_b12_b13 nin0)
  replace F_b12_known := F_b12_known.keep K15 (ninS ne_b12_b13 nin0)
  replace F_b12_depth := F_b12_depth.keep K15 (ninS ne_b12_b13 nin0)
  replace F_b12_atStart := F_b12_atStart.keep K15 (ninS ne_b12_b13 nin0)
  replace En := En.keep K15
  replace Q1 := Q1.keep K15
  replace A12 := A12.keep K15
  replace A13 := A13.keep K15
  replace Q14 := Q14.keep K15
  replace U_b14 := U_b14.keep K15
  replace VY := VY.keep K15 (ninS ne_b1_b13 nin0)
  replace V_b14 := V_b14.keep K15 (ninS (Ne.symm ne_b13_b14) nin0)
  replace hz := Nat.le_trans hz K15.1
  show Go pr ev below _ T15 (mkF m 90 #[.val (.int p0), .val (.int p1), .val (.int p2), .val (.int p3), .val (.int p4), .val (.int p5), .val (.ref b1), .val (.int of), .val (.int ln), .val (.int en), .unset, .unset, .unset, .unset, .unset, .unset, .unset, .unset] [(.ref b13), (.int ln), (.int of), (.ref b1), (.ref b12), (.ref b12)])
  refine Go.init X15 hx hZ (y := (⟨"com/example/tidemark/tidemark/io/JsonBytes", "<init>", "([BIILcom/example/tidemark/tidemark/io/JsonBytes$Fields;)V"⟩ : MethodName)) (a := b12) (argsL := [(.ref b1), (.int of), (.int ln), (.ref b13)]) (rest := [(.ref b12)]) hown rfl (tw43 hw) (tw44 hw) (tw8 hw) (tw45 hw) (by decide) rfl (rmJ l Z a0 hw [] b12 b1 of ln b13 T15.heap n0 hz A12 gb_b12 F_b12_othersSeen F_b12_bytes F_b12_position F_b12_end F_b12_known F_b12_depth F_b12_atStart) (g := (mkF m 90 #[.val (.int p0), .val (.int p1), .val (.int p2), .val (.int p3), .val (.int p4), .val (.int p5), .val (.ref b1), .val (.int of), .val (.int ln), .val (.int en), .unset, .unset, .unset, .unset, .unset, .unset, .unset, .unset] [(.ref b13), (.int ln), (.int of), (.ref b1), (.ref b12), (.ref b12)])) rfl (by rw [hml]; rfl) (lenOf pd31 rfl) rfl (W := 1) (by show 2 * 0 + _ ≤ _; exact Nat.le_of_eq rfl) (hb hby at_90) (by decide) (by decide) (by decide) (by decide) ?_
  rintro T16 L16 v16 X16 ⟨rfl, NL16, K16, Fb_16, Fe_16, Fp_16, Fd_16, Fs_16⟩
  have N16 := Fr.app N15 NL16
  replace S1 := Sta.keep S1 K16 (allS (exa_ns A12) (all0))
  replace S2 := Sta.keep S2 K16 (allS (exa_ns A12) (all0))
  replace En := En.keep K16
  replace Q1 := Q1.keep K16
  replace A12 := A12.keep K16
  replace A13 := A13.keep K16
  replace Q14 := Q14.keep K16
  replace U_b14 := U_b14.keep K16
  replace VY := VY.keep K16 (ninS ne_b1_b12 nin0)
  replace V_b14 := V_b14.keep K16 (ninS (Ne.symm ne_b12_b14) nin0)
  replace hz := Nat.le_trans hz K16.1
  rw [hene] at Fe_16
  show Go pr ev below _ T16 (mkF m 93 #[.val (.int p0), .val (.int p1), .val (.int p2), .val (.int p3), .val (.int p4), .val (.int p5), .val (.ref b1), .val (.int of), .val (.int ln), .val (.int en), .unset, .unset, .unset, .unset, .unset, .unset, .unset, .unset] [(.ref b12)])
  refine Go.of (mkF m 95 #[.val (.int p0), .val (.int p1), .val (.int p2), .val (.int p3), .val (.int p4), .val (.int p5), .val (.ref b1), .val (.int of), .val (.int ln), .val (.int en), .val (.ref b12), .unset, .unset, .unset, .unset, .unset, .unset, .unset] []) (fun tt0 kk0 => XS.astore X16.here hx rfl (hb hby at_93) rfl rfl (l' := #[.val (.int p0), .val (.int p1), .val (.int p2), .val (.int p3), .val (.int p4), .val (.int p5), .val (.ref b1), .val (.int of), .val (.int ln), .val (.int en), .val (.ref b12), .unset, .unset, .unset, .unset, .unset, .unset, .unset]) rfl kk0) ?_
  refine Go.of (mkF m 97 #[.val (.int p0), .val (.int p1), .val (.int p2), .val (.int p3), .val (.int p4), .val (.int p5), .val (.ref b1), .val (.int of), .val (.int ln), .val (.int en), .val (.ref b12), .unset, .unset, .unset, .unset, .unset, .unset, .unset] [(.ref b1)]) (fun tt0 kk0 => XS.aload X16.here hx rfl (hb hby at_95) rfl rfl kk0) ?_
  refine Go.of (mkF m 99 #[.val (.int p0), .val (.int p1), .val (.int p2), .val (.int p3), .val (.int p4), .val (.int p5), .val (.ref b1), .val (.int of), .val (.int ln), .val (.int en), .val (.ref b12), .unset, .unset, .unset, .unset, .unset, .unset, .unset] [(.int of), (.ref b1)]) (fun tt0 kk0 => XS.iload X16.here hx rfl (hb hby at_97) rfl kk0) ?_
  refine Go.of (mkF m 101 #[.val (.int p0), .val (.int p1), .val (.int p2), .val (.int p3), .val (.int p4), .val (.int p5), .val (.ref b1), .val (.int of), .val (.int ln), .val (.int en), .val (.ref b12), .unset, .unset, .unset, .unset, .unset, .unset, .unset] [(.int en), (.int of), (.ref b1)]) (fun tt0 kk0 => XS.iload X16.here hx rfl (hb hby at_99) rfl kk0) ?_
  refine Go.callS X16 hx hZ (y := (⟨"com/example/tidemark/tidemark/io/JsonBytesBeginArrayPinLaw", "skipWs", "([BII)I"⟩ : MethodName)) (argsL := [(.ref b1), (.int of), (.int en)]) (rest := []) hown (tw95 hw) (tw96 hw) (tw3 hw) (tw97 hw) (by decide) rfl (rmSkip l Z a0 hw [] b1 (5 : Int32) en of y T16.heap VY hok) (g := (mkF m 101 #[.val (.int p0), .val (.int p1), .val (.int p2), .val (.int p3), .val (.int p4), .val (.int p5), .val (.ref b1), .val (.int of), .val (.int ln), .val (.int en), .val (.ref b12), .unset, .unset, .unset, .unset, .unset, .unset, .unset] [(.int en), (.int of), (.ref b1)])) rfl (by rw [hml]; rfl) (lenOf pd6 rfl) rfl (W := 0) (by show 2 * 0 + _ ≤ _; exact Nat.le_of_eq rfl) (hb hby at_101) (by decide) (by decide) (by decide) (by decide) ?_
  rintro T17 L17 v17 X17 ⟨rfl, rfl, hh17⟩
  have N17 := Fr.app N16 (Fr.nil n0)
  show Go pr ev below _ T17 (mkF m 104 #[.val (.int p0), .val (.int p1), .val (.int p2), .val (.int p3), .val (.int p4), .val (.int p5), .val (.ref b1), .val (.int of), .val (.int ln), .val (.int en), .val (.ref b12), .unset, .unset, .unset, .unset, .unset, .unset, .unset] [(.int (own_sk y en 5 of))])
  refine Go.of (mkF m 106 #[.val (.int p0), .val (.int p1), .val (.int p2), .val (.int p3), .val (.int p4), .val (.int p5), .val (.ref b1), .val (.int of), .val (.int ln), .val (.int en), .val (.ref b12), .val (.int (own_sk y en 5 of)), .unset, .unset, .unset, .unset, .unset, .unset] []) (fun tt0 kk0 => XS.istore X17.here hx rfl (hb hby at_104) rfl (l' := #[.val (.int p0), .val (.int p1), .val (.int p2), .val (.int p3), .val (.int p4), .val (.int p5), .val (.ref b1), .val (.int of), .val (.int ln), .val (.int en), .val (.ref b12), .val (.int (own_sk y en 5 of)), .unset, .unset, .unset, .unset, .unset, .unset]) rfl kk0) ?_
  refine Go.of (mkF m 108 #[.val (.int p0), .val (.int p1), .val (.int p2), .val (.int p3), .val (.int p4), .val (.int p5), .val (.ref b1), .val (.int of), .val (.int ln), .val (.int en), .val (.ref b12), .val (.int (own_sk y en 5 of)), .unset, .unset, .unset, .unset, .unset, .unset] [(.ref b1)]) (fun tt0 kk0 => XS.aload X17.here hx rfl (hb hby at_106) rfl rfl kk0) ?_
  refine Go.of (mkF m 110 #[.val (.int p0), .val (.int p1), .val (.int p2), .val (.int p3), .val (.int p4), .val (.int p5), .val (.ref b1), .val (.int of), .val (.int ln), .val (.int en), .val (.ref b12), .val (.int (own_sk y en 5 of)), .unset, .unset, .unset, .unset, .unset, .unset] [(.int (own_sk y en 5 of)), (.ref b1)]) (fun tt0 kk0 => XS.iload X17.here hx rfl (hb hby at_108) rfl kk0) ?_
  refine Go.of (mkF m 112 #[.val (.int p0), .val (.int p1), .val (.int p2), .val (.int p3), .val (.int p4), .val (.int p5), .val (.ref b1), .val (.int of), .val (.int ln), .val (.int en), .val (.ref b12), .val (.int (own_sk y en 5 of)), .unset, .unset, .unset, .unset, .unset, .unset] [(.int en), (.int (own_sk y en 5 of)), (.ref b1)]) (fun tt0 kk0 => XS.iload X17.here hx rfl (hb hby at_110) rfl kk0) ?_
  refine Go.callS X17 hx hZ (y := (⟨"com/example/tidemark/tidemark/io/JsonBytesBeginArrayPinLaw", "at", "([BII)I"⟩ : MethodName)) (argsL := [(.ref b1), (.int (own_sk y en 5 of)), (.int en)]) (rest := []) hown (tw104 hw) (tw105 hw) (tw3 hw) (tw106 hw) (by decide) hh17 (rmAt l Z a0 hw [] b1 (5 : Int32) en (own_sk y en 5 of) y T16.heap VY (own_sk_ok 5 hok)) (g := (mkF m 112 #[.val (.int p0), .val (.int p1), .val (.int p2), .val (.int p3), .val (.int p4), .val (.int p5), .val (.ref b1), .val (.int of), .val (.int ln), .val (.int en), .val (.ref b12), .val (.int (own_sk y en 5 of)), .unset, .unset, .unset, .unset, .unset, .unset] [(.int en), (.int (own_sk y en 5 of)), (.ref b1)])) rfl (by rw [hml]; rfl) (lenOf pd6 rfl) rfl (W := 0) (by show 2 * 0 + _ ≤ _; exact Nat.le_of_eq rfl) (hb hby at_112) (by decide) (by decide) (by decide) (by decide) ?_
  rintro T18 L18 v18 X18 ⟨rfl, rfl, hh18⟩
  have N18 := Fr.app N17 (Fr.nil n0)
  show Go pr ev below _ T18 (mkF m 115 #[.val (.int p0), .val (.int p1), .val (.int p2), .val (.int p3), .val (.int p4), .val (.int p5), .val (.ref b1), .val (.int of), .val (.int ln), .val (.int en), .val (.ref b12), .val (.int (own_sk y en 5 of)), .unset, .unset, .unset, .unset, .unset, .unset] [(.int (own_at y en (own_sk y en 5 of)))])
  refine Go.of (mkF m 117 #[.val (.int p0), .val (.int p1), .val (.int p2), .val (.int p3), .val (.int p4), .val (.int p5), .val (.ref b1), .val (.int of), .val (.int ln), .val (.int en), .val (.ref b12), .val (.int (own_sk y en 5 of)), .unset, .unset, .unset, .unset, .unset, .unset] [(.int (91 : Int32)), (.int (own_at y en (own_sk y en 5 of)))]) (fun tt0 kk0 => XS.bipush X18.here hx rfl (hb hby at_115) kk0) ?_
  by_cases hc117 : (own_at y en (own_sk y en 5 of)) = (91 : Int32)
  ·
    refine Go.of (mkF m 120 #[.val (.int p0), .val (.int p1), .val (.int p2), .val (.int p3), .val (.int p4), .val (.int p5), .val (.ref b1), .val (.int of), .val (.int ln), .val (.int en), .val (.ref b12), .val (.int (own_sk y en 5 of)), .unset, .unset, .unset, .unset, .unset, .unset] []) (fun tt0 kk0 => XS.icmpNo X18.here hx rfl (hb hby at_117) rfl (teq hc117).2 kk0) ?_
    refine Go.of (mkF m 121 #[.val (.int p0), .val (.int p1), .val (.int p2), .val (.int p3), .val (.int p4), .val (.int p5), .val (.ref b1), .val (.int of), .val (.int ln), .val (.int en), .val (.ref b12), .val (.int (own_sk y en 5 of)), .unset, .unset, .unset, .unset, .unset, .unset] [(.int (1 : Int32))]) (fun tt0 kk0 => XS.iconst X18.here hx rfl (hb hby at_120) kk0) ?_
    refine Go.of (mkF m 125 #[.val (.int p0), .val (.int p1), .val (.int p2), .val (.int p3), .val (.int p4), .val (.int p5), .val (.ref b1), .val (.int of), .val (.int ln), .val (.int en), .val (.ref b12), .val (.int (own_sk y en 5 of)), .unset, .unset, .unset, .unset, .unset, .unset] [(.int (1 : Int32))]) (fun tt0 kk0 => XS.goto X18.here hx rfl (pc0 := 121) (pc' := 125) rfl (hb hby at_121) (by decide) (by decide) kk0) ?_
    refine Go.of (mkF m 127 #[.val (.int p0), .val (.int p1), .val (.int p2), .val (.int p3), .val (.int p4), .val (.int p5), .val (.ref b1), .val (.int of), .val (.int ln), .val (.int en), .val (.ref b12), .val (.int (own_sk y en 5 of)), .val (.int (1 : Int32)), .unset, .unset, .unset, .unset, .unset] []) (fun tt0 kk0 => XS.istore X18.here hx rfl (hb hby at_125) rfl (l' := #[.val (.int p0), .val (.int p1), .val (.int p2), .val (.int p3), .val (.int p4), .val (.int p5), .val (.ref b1), .val (.int of), .val (.int ln), .val (.int en), .val (.ref b12), .val (.int (own_sk y en 5 of)), .val (.int (1 : Int32)), .unset, .unset, .unset, .unset, .unset]) rfl kk0) ?_
    refine Go.of (mkF m 129 #[.val (.int p0), .val (.int p1), .val (.int p2), .val (.int p3), .val (.int p4), .val (.int p5), .val (.ref b1), .val (.int of), .val (.int ln), .val (.int en), .val (.ref b12), .val (.int (own_sk y en 5 of)), .val (.int (1 : Int32)), .unset, .unset, .unset, .unset, .unset] [(.ref b12)]) (fun tt0 kk0 => XS.aload X18.here hx rfl (hb hby at_127) rfl rfl kk0) ?_
    refine Go.virt X18 hx hZ (y := (⟨"com/example/tidemark/tidemark/io/JsonBytes", "beginArray", "()Z"⟩ : MethodName)) (z := (⟨"com/example/tidemark/tidemark/io/JsonBytes", "beginArray", "()Z"⟩ : MethodName)) (a := b12) (argsL := []) (rest := []) hown (tw107 hw) (tw108 hw) (notFace_of_selects (args := #[]) (mvT hZ (tw110 hw))) (tw110 hw) (tw109 hw) (tw8 hw) (tw111 hw) (by decide) hh18 A12 (rmBA1 l Z a0 hw [] b12 b1 (5 : Int32) en of (0 : Int32) (0 : Int32) y T16.heap n0 hz A12 gb_b12 (Ne.symm ne_b1_b12) Fb_16 Fe_16 Fp_16 Fd_16 Fs_16 VY hok (by decide) hc117 (by decide)) (g := (mkF m 129 #[.val (.int p0), .val (.int p1), .val (.int p2), .val (.int p3), .val (.int p4), .val (.int p5), .val (.ref b1), .val (.int of), .val (.int ln), .val (.int en), .val (.ref b12), .val (.int (own_sk y en 5 of)), .val (.int (1 : Int32)), .unset, .unset, .unset, .unset, .unset] [(.ref b12)])) rfl (by rw [hml]; rfl) (lenOf pd32 rfl) rfl (W := 0) (by show 2 * 0 + _ ≤ _; exact Nat.le_of_eq rfl) (hb hby at_129) (by decide) (by decide) (by decide) (by decide) ?_
    rintro T19 L19 v19 X19 ⟨rfl, NL19, K19, Fb_19, Fe_19, Fp_19, Fd_19, Fs_19⟩
    have N19 := Fr.app N18 NL19
    replace S1 := Sta.keep S1 K19 (allS (exa_ns A12) (all0))
    replace S2 := Sta.keep S2 K19 (allS (exa_ns A12) (all0))
    replace En := En.keep K19
    replace Q1 := Q1.keep K19
    replace A12 := A12.keep K19
    replace A13 := A13.keep K19
    replace Q14 := Q14.keep K19
    replace U_b14 := U_b14.keep K19
    replace VY := VY.keep K19 (ninS ne_b1_b12 nin0)
    replace V_b14 := V_b14.keep K19 (ninS (Ne.symm ne_b12_b14) nin0)
    replace hz := Nat.le_trans hz K19.1
    show Go pr ev below _ T19 (mkF m 132 #[.val (.int p0), .val (.int p1), .val (.int p2), .val (.int p3), .val (.int p4), .val (.int p5), .val (.ref b1), .val (.int of), .val (.int ln), .val (.int en), .val (.ref b12), .val (.int (own_sk y en 5 of)), .val (.int (1 : Int32)), .unset, .unset, .unset, .unset, .unset] [(.int (1 : Int32))])
    rw [show (0 : Int32) + 1 = (1 : Int32) from by decide] at Fd_19
    refine Go.of (mkF m 134 #[.val (.int p0), .val (.int p1), .val (.int p2), .val (.int p3), .val (.int p4), .val (.int p5), .val (.ref b1), .val (.int of), .val (.int ln), .val (.int en), .val (.ref b12), .val (.int (own_sk y en 5 of)), .val (.int (1 : Int32)), .val (.int (1 : Int32)), .unset, .unset, .unset, .unset] []) (fun tt0 kk0 => XS.istore X19.here hx rfl (hb hby at_132) rfl (l' := #[.val (.int p0), .val (.int p1), .val (.int p2), .val (.int p3), .val (.int p4), .val (.int p5), .val (.ref b1), .val (.int of), .val (.int ln), .val (.int en), .val (.ref b12), .val (.int (own_sk y en 5 of)), .val (.int (1 : Int32)), .val (.int (1 : Int32)), .unset, .unset, .unset, .unset]) rfl kk0) ?_
    refine Go.of (mkF m 136 #[.val (.int p0), .val (.int p1), .val (.int p2), .val (.int p3), .val (.int p4), .val (.int p5), .val (.ref b1), .val (.int of), .val (.int ln), .val (.int en), .val (.ref b12), .val (.int (own_sk y en 5 of)), .val (.int (1 : Int32)), .val (.int (1 : Int32)), .unset, .unset, .unset, .unset] [(.int (1 : Int32))]) (fun tt0 kk0 => XS.iload X19.here hx rfl (hb hby at_134) rfl kk0) ?_
    refine Go.of (mkF m 138 #[.val (.int p0), .val (.int p1), .val (.int p2), .val (.int p3), .val (.int p4), .val (.int p5), .val (.ref b1), .val (.int of), .val (.int ln), .val (.int en), .val (.ref b12), .val (.int (own_sk y en 5 of)), .val (.int (1 : Int32)), .val (.int (1 : Int32)), .unset, .unset, .unset, .unset] [(.int (1 : Int32)), (.int (1 : Int32))]) (fun tt0 kk0 => XS.iload X19.here hx rfl (hb hby at_136) rfl kk0) ?_
    refine Go.of (mkF m 143 #[.val (.int p0), .val (.int p1), .val (.int p2), .val (.int p3), .val (.int p4), .val (.int p5), .val (.ref b1), .val (.int of), .val (.int ln), .val (.int en), .val (.ref b12), .val (.int (own_sk y en 5 of)), .val (.int (1 : Int32)), .val (.int (1 : Int32)), .unset, .unset, .unset, .unset] []) (fun tt0 kk0 => XS.icmpYes X19.here hx rfl (pc0 := 138) (pc' := 143) rfl (hb hby at_138) rfl (teq (by decide)).1 (by decide) (by decide) kk0) ?_
    refine Go.of (mkF m 145 #[.val (.int p0), .val (.int p1), .val (.int p2), .val (.int p3), .val (.int p4), .val (.int p5), .val (.ref b1), .val (.int of), .val (.int ln), .val (.int en), .val (.ref b12), .val (.int (own_sk y en 5 of)), .val (.int (1 : Int32)), .val (.int (1 : Int32)), .unset, .unset, .unset, .unset] [(.int (1 : Int32))]) (fun tt0 kk0 => XS.iload X19.here hx rfl (hb hby at_143) rfl kk0) ?_
    refine Go.of (mkF m 162 #[.val (.int p0), .val (.int p1), .val (.int p2), .val (.int p3), .val (.int p4), .val (.int p5), .val (.ref b1), .val (.int of), .val (.int ln), .val (.int en), .val (.ref b12), .val (.int (own_sk y en 5 of)), .val (.int (1 : Int32)), .val (.int (1 : Int32)), .unset, .unset, .unset, .unset] []) (fun tt0 kk0 => XS.ifYes X19.here hx rfl (pc0 := 145) (pc' := 162) rfl (hb hby at_145) rfl ((if0 _ _).trans (feq (by decide)).2) (by decide) (by decide) kk0) ?_
    refine Go.of (mkF m 164 #[.val (.int p0), .val (.int p1), .val (.int p2), .val (.int p3), .val (.int p4), .val (.int p5), .val (.ref b1), .val (.int of), .val (.int ln), .val (.int en), .val (.ref b12), .val (.int (own_sk y en 5 of)), .val (.int (1 : Int32)), .val (.int (1 : Int32)), .unset, .unset, .unset, .unset] [(.ref b1)]) (fun tt0 kk0 => XS.aload X19.here hx rfl (hb hby at_162) rfl rfl kk0) ?_
    refine Go.of (mkF m 166 #[.val (.int p0), .val (.int p1), .val (.int p2), .val (.int p3), .val (.int p4), .val (.int p5), .val (.ref b1), .val (.int of), .val (.int ln), .val (.int en), .val (.ref b12), .val (.int (own_sk y en 5 of)), .val (.int (1 : Int32)), .val (.int (1 : Int32)), .unset, .unset, .unset, .unset] [(.int (own_sk y en 5 of)), (.ref b1)]) (fun tt0 kk0 => XS.iload X19.here hx rfl (hb hby at_164) rfl kk0) ?_
    refine Go.of (mkF m 167 #[.val (.int p0), .val (.int p1), .val (.int p2), .val (.int p3), .val (.int p4), .val (.int p5), .val (.ref b1), .val (.int of), .val (.int ln), .val (.int en), .val (.ref b12), .val (.int (own_sk y en 5 of)), .val (.int (1 : Int32)), .val (.int (1 : Int32)), .unset, .unset, .unset, .unset] [(.int (1 : Int32)), (.int (own_sk y en 5 of)), (.ref b1)]) (fun tt0 kk0 => XS.iconst X19.here hx rfl (hb hby at_166) kk0) ?_
    refine Go.of (mkF m 168 #[.val (.int p0), .val (.int p1), .val (.int p2), .val (.int p3), .val (.int p4), .val (.int p5), .val (.ref b1), .val (.int of), .val (.int ln), .val (.int en), .val (.ref b12), .val (.int (own_sk y en 5 of)), .val (.int (1 : Int32)), .val (.int (1 : Int32)), .unset, .unset, .unset, .unset] [(.int ((own_sk y en 5 of) + (1 : Int32))), (.ref b1)]) (fun tt0 kk0 => XS.iadd X19.here hx rfl (hb hby at_167) rfl kk0) ?_
    refine Go.of (mkF m 170 #[.val (.int p0), .val (.int p1), .val (.int p2), .val (.int p3), .val (.int p4), .val (.int p5), .val (.ref b1), .val (.int of), .val (.int ln), .val (.int en), .val (.ref b12), .val (.int (own_sk y en 5 of)), .val (.int (1 : Int32)), .val (.int (1 : Int32)), .unset, .unset, .unset, .unset] [(.int en), (.int ((own_sk y en 5 of) + (1 : Int32))), (.ref b1)]) (fun tt0 kk0 => XS.iload X19.here hx rfl (hb hby at_168) rfl kk0) ?_
    refine Go.callS X19 hx hZ (y := (⟨"com/example/tidemark/tidemark/io/JsonBytesBeginArrayPinLaw", "skipWs", "([BII)I"⟩ : MethodName)) (argsL := [(.ref b1), (.int ((own_sk y en 5 of) + (1 : Int32))), (.int en)]) (rest := []) hown (tw95 hw) (tw96 hw) (tw3 hw) (tw97 hw) (by decide) rfl (rmSkip l Z a0 hw [] b1 (5 : Int32) en ((own_sk y en 5 of) + (1 : Int32)) y T19.heap VY (own_next (own_sk_ok 5 hok) hc117 (by decide))) (g := (mkF m 170 #[.val (.int p0), .val (.int p1), .val (.int p2), .val (.int p3), .val (.int p4), .val (.int p5), .val (.ref b1), .val (.int of), .val (.int ln), .val (.int en), .val (.ref b12), .val (.int (own_sk y en 5 of)), .val (.int (1 : Int32)), .val (.int (1 : Int32)), .unset, .unset, .unset, .unset] [(.int en), (.int ((own_sk y en 5 of) + (1 : Int32))), (.ref b1)])) rfl (by rw [hml]; rfl) (lenOf pd6 rfl) rfl (W := 0) (by show 2 * 0 + _ ≤ _; exact Nat.le_of_eq rfl) (hb hby at_170) (by decide) (by decide) (by decide) (by decide) ?_
    rintro T20 L20 v20 X20 ⟨rfl, rfl, hh20⟩
    have N20 := Fr.app N19 (Fr.nil n0)
    show Go pr ev below _ T20 (mkF m 173 #[.val (.int p0), .val (.int p1), .val (.int p2), .val (.int p3), .val (.int p4), .val (.int p5), .val (.ref b1), .val (.int of), .val (.int ln), .val (.int en), .val (.ref b12), .val (.int (own_sk y en 5 of)), .val (.int (1 : Int32)), .val (.int (1 : Int32)), .unset, .unset, .unset, .unset] [(.int (own_sk y en 5 ((own_sk y en 5 of) + (1 : Int32))))])
    refine Go.of (mkF m 175 #[.val (.int p0), .val (.int p1), .val (.int p2), .val (.int p3), .val (.int p4), .val (.int p5), .val (.ref b1), .val (.int of), .val (.int ln), .val (.int en), .val (.ref b12), .val (.int (own_sk y en 5 of)), .val (.int (1 : Int32)), .val (.int (1 : Int32)), .val (.int (own_sk y en 5 ((own_sk y en 5 of) + (1 : Int32)))), .unset, .unset, .unset] []) (fun tt0 kk0 => XS.istore X20.here hx rfl (hb hby at_173) rfl (l' := #[.val (.int p0), .val (.int p1), .val (.int p2), .val (.int p3), .val (.int p4), .val (.int p5), .val (.ref b1), .val (.int of), .val (.int ln), .val (.int en), .val (.ref b12), .val (.int (own_sk y en 5 of)), .val (.int (1 : Int32)), .val (.int (1 : Int32)), .val (.int (own_sk y en 5 ((own_sk y en 5 of) + (1 : Int32)))), .unset, .unset, .unset]) rfl kk0) ?_
    refine Go.of (mkF m 177 #[.val (.int p0), .val (.int p1), .val (.int p2), .val (.int p3), .val (.int p4), .val (.int p5), .val (.ref b1), .val (.int of), .val (.int ln), .val (.int en), .val (.ref b12), .val (.int (own_sk y en 5 of)), .val (.int (1 : Int32)), .val (.int (1 : Int32)), .val (.int (own_sk y en 5 ((own_sk y en 5 of) + (1 : Int32)))), .unset, .unset, .unset] [(.ref b1)]) (fun tt0 kk0 => XS.aload X20.here hx rfl (hb hby at_175) rfl rfl kk0) ?_
    refine Go.of (mkF m 179 #[.val (.int p0), .val (.int p1), .val (.int p2), .val (.int p3), .val (.int p4), .val (.int p5), .val (.ref b1), .val (.int of), .val (.int ln), .val (.int en), .val (.ref b12), .val (.int (own_sk y en 5 of)), .val (.int (1 : Int32)), .val (.int (1 : Int32)), .val (.int (own_sk y en 5 ((own_sk y en 5 of) + (1 : Int32)))), .unset, .unset, .unset] [(.int (own_sk y en 5 ((own_sk y en 5 of) + (1 : Int32)))), (.ref b1)]) (fun tt0 kk0 => XS.iload X20.here hx rfl (hb hby at_177) rfl kk0) ?_
    refine Go.of (mkF m 181 #[.val (.int p0), .val (.int p1), .val (.int p2), .val (.int p3), .val (.int p4), .val (.int p5), .val (.ref b1), .val (.int of), .val (.int ln), .val (.int en), .val (.ref b12), .val (.int (own_sk y en 5 of)), .val (.int (1 : Int32)), .val (.int (1 : Int32)), .val (.int (own_sk y en 5 ((own_sk y en 5 of) + (1 : Int32)))), .unset, .unset, .unset] [(.int en), (.int (own_sk y en 5 ((own_sk y en 5 of) + (1 : Int32)))), (.ref b1)]) (fun tt0 kk0 => XS.iload X20.here hx rfl (hb hby at_179) rfl kk0) ?_
    refine Go.callS X20 hx hZ (y := (⟨"com/example/tidemark/tidemark/io/JsonBytesBeginArrayPinLaw", "at", "([BII)I"⟩ : MethodName)) (argsL := [(.ref b1), (.int (own_sk y en 5 ((own_sk y en 5 of) + (1 : Int32)))), (.int en)]) (rest := []) hown (tw104 hw) (tw105 hw) (tw3 hw) (tw106 hw) (by decide) hh20 (rmAt l Z a0 hw [] b1 (5 : Int32) en (own_sk y en 5 ((own_sk y en 5 of) + (1 : Int32))) y T19.heap VY (own_sk_ok 5 (own_next (own_sk_ok 5 hok) hc117 (by decide)))) (g := (mkF m 181 #[.val (.int p0), .val (.int p1), .val (.int p2), .val (.int p3), .val (.int p4), .val (.int p5), .val (.ref b1), .val (.int of), .val (.int ln), .val (.int en), .val (.ref b12), .val (.int (own_sk y en 5 of)), .val (.int (1 : Int32)), .val (.int (1 : Int32)), .val (.int (own_sk y en 5 ((own_sk y en 5 of) + (1 : Int32)))), .unset, .unset, .unset] [(.int en), (.int (own_sk y en 5 ((own_sk y en 5 of) + (1 : Int32)))), (.ref b1)])) rfl (by rw [hml]; rfl) (lenOf pd6 rfl) rfl (W := 0) (by show 2 * 0 + _ ≤ _; exact Nat.le_of_eq rfl) (hb hby at_181) (by decide) (by decide) (by decide) (by decide) ?_
    rintro T21 L21 v21 X21 ⟨rfl, rfl, hh21⟩
    have N21 := Fr.app N20 (Fr.nil n0)
    show Go pr ev below _ T21 (mkF m 184 #[.val (.int p0), .val (.int p1), .val (.int p2), .val (.int p3), .val (.int p4), .val (.int p5), .val (.ref b1), .val (.int of), .val (.int ln), .val (.int en), .val (.ref b12), .val (.int (own_sk y en 5 of)), .val (.int (1 : Int32)), .val (.int (1 : Int32)), .val (.int (own_sk y en 5 ((own_sk y en 5 of) + (1 : Int32)))), .unset, .unset, .unset] [(.int (own_at y en (own_sk y en 5 ((own_sk y en 5 of) + (1 : Int32)))))])
    refine Go.of (mkF m 186 #[.val (.int p0), .val (.int p1), .val (.int p2), .val (.int p3), .val (.int p4), .val (.int p5), .val (.ref b1), .val (.int of), .val (.int ln), .val (.int en), .val (.ref b12), .val (.int (own_sk y en 5 of)), .val (.int (1 : Int32)), .val (.int (1 : Int32)), .val (.int (own_sk y en 5 ((own_sk y en 5 of) + (1 : Int32)))), .val (.int (own_at y en (own_sk y en 5 ((own_sk y en 5 of) + (1 : Int32))))), .unset, .unset] []) (fun tt0 kk0 => XS.istore X21.here hx rfl (hb hby at_184) rfl (l' := #[.val (.int p0), .val (.int p1), .val (.int p2), .val (.int p3), .val (.int p4), .val (.int p5), .val (.ref b1), .val (.int of), .val (.int ln), .val (.int en), .val (.ref b12), .val (.int (own_sk y en 5 of)), .val (.int (1 : Int32)), .val (.int (1 : Int32)), .val (.int (own_sk y en 5 ((own_sk y en 5 of) + (1 : Int32)))), .val (.int (own_at y en (own_sk y en 5 ((own_sk y en 5 of) + (1 : Int32))))), .unset, .unset]) rfl kk0) ?_
    refine Go.of (mkF m 188 #[.val (.int p0), .val (.int p1), .val (.int p2), .val (.int p3), .val (.int p4), .val (.int p5), .val (.ref b1), .val (.int of), .val (.int ln), .val (.int en), .val (.ref b12), .val (.int (own_sk y en 5 of)), .val (.int (1 : Int32)), .val (.int (1 : Int32)), .val (.int (own_sk y en 5 ((own_sk y en 5 of) + (1 : Int32)))), .val (.int (own_at y en (own_sk y en 5 ((own_sk y en 5 of) + (1 : Int32))))), .unset, .unset] [(.ref b12)]) (fun tt0 kk0 => XS.aload X21.here hx rfl (hb hby at_186) rfl rfl kk0) ?_
    by_cases hn188 : (own_at y en (own_sk y en 5 ((own_sk y en 5 of) + (1 : Int32)))) = (93 : Int32)
    ·
      refine Go.virt X21 hx hZ (y := (⟨"com/example/tidemark/tidemark/io/JsonBytes", "nextElement", "()Z"⟩ : MethodName)) (z := (⟨"com/example/tidemark/tidemark/io/JsonBytes", "nextElement", "()Z"⟩ : MethodName)) (a := b12) (argsL := []) (rest := []) hown (tw123 hw) (tw124 hw) (notFace_of_selects (args := #[]) (mvT hZ (tw126 hw))) (tw126 hw) (tw125 hw) (tw8 hw) (tw127 hw) (by decide) hh21 A12 (rmNE1 l Z a0 hw [] b12 b1 (5 : Int32) en ((own_sk y en 5 of) + (1 : Int32)) (1 : Int32) (1 : Int32) y T19.heap n0 hz A12 gb_b12 (Ne.symm ne_b1_b12) Fb_19 Fe_19 Fp_19 Fd_19 Fs_19 VY (own_next (own_sk_ok 5 hok) hc117 (by decide)) (by decide) hn188) (g := (mkF m 188 #[.val (.int p0), .val (.int p1), .val (.int p2), .val (.int p3), .val (.int p4), .val (.int p5), .val (.ref b1), .val (.int of), .val (.int ln), .val (.int en), .val (.ref b12), .val (.int (own_sk y en 5 of)), .val (.int (1 : Int32)), .val (.int (1 : Int32)), .val (.int (own_sk y en 5 ((own_sk y en 5 of) + (1 : Int32)))), .val (.int (own_at y en (own_sk y en 5 ((own_sk y en 5 of) + (1 : Int32))))), .unset, .unset] [(.ref b12)])) rfl (by rw [hml]; rfl) (lenOf pd32 rfl) rfl (W := 0) (by show 2 * 0 + _ ≤ _; exact Nat.le_of_eq rfl) (hb hby at_188) (by decide) (by decide) (by decide) (by decide) ?_
      rintro T22 L22 v22 X22 ⟨rfl, NL22, K22, Fb_22, Fe_22, Fp_22, Fd_22, Fs_22⟩
      have N22 := Fr.app N21 NL22
      replace S1 := Sta.keep S1 K22 (allS (exa_ns A12) (all0))
      replace S2 := Sta.keep S2 K22 (allS (exa_ns A12) (all0))
      replace En := En.keep K22
      replace Q1 := Q1.keep K22
      replace A12 := A12.keep K22
      replace A13 := A13.keep K22
      replace Q14 := Q14.keep K22
      replace U_b14 := U_b14.keep K22
      replace VY := VY.keep K22 (ninS ne_b1_b12 nin0)
      replace V_b14 := V_b14.keep K22 (ninS (Ne.symm ne_b12_b14) nin0)
      replace hz := Nat.le_trans hz K22.1
      show Go pr ev below _ T22 (mkF m 191 #[.val (.int p0), .val (.int p1), .val (.int p2), .val (.int p3), .val (.int p4), .val (.int p5), .val (.ref b1), .val (.int of), .val (.int ln), .val (.int en), .val (.ref b12), .val (.int (own_sk y en 5 of)), .val (.int (1 : Int32)), .val (.int (1 : Int32)), .val (.int (own_sk y en 5 ((own_sk y en 5 of) + (1 : Int32)))), .val (.int (own_at y en (own_sk y en 5 ((own_sk y en 5 of) + (1 : Int32))))), .unset, .unset] [(.int (0 : Int32))])
      rw [show (1 : Int32) - 1 = (0 : Int32) from by decide] at Fd_22
      refine Go.of (mkF m 193 #[.val (.int p0), .val (.int p1), .val (.int p2), .val (.int p3), .val (.int p4), .val (.int p5), .val (.ref b1), .val (.int of), .val (.int ln), .val (.int en), .val (.ref b12), .val (.int (own_sk y en 5 of)), .val (.int (1 : Int32)), .val (.int (1 : Int32)), .val (.int (own_sk y en 5 ((own_sk y en 5 of) + (1 : Int32)))), .val (.int (own_at y en (own_sk y en 5 ((own_sk y en 5 of) + (1 : Int32))))), .val (.int (0 : Int32)), .unset] []) (fun tt0 kk0 => XS.istore X22.here hx rfl (hb hby at_191) rfl (l' := #[.val (.int p0), .val (.int p1), .val (.int p2), .val (.int p3), .val (.int p4), .val (.int p5), .val (.ref b1), .val (.int of), .val (.int ln), .val (.int en), .val (.ref b12), .val (.int (own_sk y en 5 of)), .val (.int (1 : Int32)), .val (.int (1 : Int32)), .val (.int (own_sk y en 5 ((own_sk y en 5 of) + (1 : Int32)))), .val (.int (own_at y en (own_sk y en 5 ((own_sk y en 5 of) + (1 : Int32))))), .val (.int (0 : Int32)), .unset]) rfl kk0) ?_
      refine Go.of (mkF m 195 #[.val (.int p0), .val (.int p1), .val (.int p2), .val (.int p3), .val (.int p4), .val (.int p5), .val (.ref b1), .val (.int of), .val (.int ln), .val (.int en), .val (.ref b12), .val (.int (own_sk y en 5 of)), .val (.int (1 : Int32)), .val (.int (1 : Int32)), .val (.int (own_sk y en 5 ((own_sk y en 5 of) + (1 : Int32)))), .val (.int (own_at y en (own_sk y en 5 ((own_sk y en 5 of) + (1 : Int32))))), .val (.int (0 : Int32)), .unset] [(.int (0 : Int32))]) (fun tt0 kk0 => XS.iload X22.here hx rfl (hb hby at_193) rfl kk0) ?_
      refine Go.of (mkF m 197 #[.val (.int p0), .val (.int p1), .val (.int p2), .val (.int p3), .val (.int p4), .val (.int p5), .val (.ref b1), .val (.int of), .val (.int ln), .val (.int en), .val (.ref b12), .val (.int (own_sk y en 5 of)), .val (.int (1 : Int32)), .val (.int (1 : Int32)), .val (.int (own_sk y en 5 ((own_sk y en 5 of) + (1 : Int32)))), .val (.int (own_at y en (own_sk y en 5 ((own_sk y en 5 of) + (1 : Int32))))), .val (.int (0 : Int32)), .unset] [(.int (own_at y en (own_sk y en 5 ((own_sk y en 5 of) + (1 : Int32))))), (.int (0 : Int32))]) (fun tt0 kk0 => XS.iload X22.here hx rfl (hb hby at_195) rfl kk0) ?_
      refine Go.of (mkF m 199 #[.val (.int p0), .val (.int p1), .val (.int p2), .val (.int p3), .val (.int p4), .val (.int p5), .val (.ref b1), .val (.int of), .val (.int ln), .val (.int en), .val (.ref b12), .val (.int (own_sk y en 5 of)), .val (.int (1 : Int32)), .val (.int (1 : Int32)), .val (.int (own_sk y en 5 ((own_sk y en 5 of) + (1 : Int32)))), .val (.int (own_at y en (own_sk y en 5 ((own_sk y en 5 of) + (1 : Int32))))), .val (.int (0 : Int32)), .unset] [(.int (93 : Int32)), (.int (own_at y en (own_sk y en 5 ((own_sk y en 5 of) + (1 : Int32))))), (.int (0 : Int32))]) (fun tt0 kk0 => XS.bipush X22.here hx rfl (hb hby at_197) kk0) ?_
      refine Go.of (mkF m 206 #[.val (.int p0), .val (.int p1), .val (.int p2), .val (.int p3), .val (.int p4), .val (.int p5), .val (.ref b1), .val (.int of), .val (.int ln), .val (.int en), .val (.ref b12), .val (.int (own_sk y en 5 of)), .val (.int (1 : Int32)), .val (.int (1 : Int32)), .val (.int (own_sk y en 5 ((own_sk y en 5 of) + (1 : Int32)))), .val (.int (own_at y en (own_sk y en 5 ((own_sk y en 5 of) + (1 : Int32))))), .val (.int (0 : Int32)), .unset] [(.int (0 : Int32))]) (fun tt0 kk0 => XS.icmpYes X22.here hx rfl (pc0 := 199) (pc' := 206) rfl (hb hby at_199) rfl (teq hn188).1 (by decide) (by decide) kk0) ?_
      refine Go.of (mkF m 207 #[.val (.int p0), .val (.int p1), .val (.int p2), .val (.int p3), .val (.int p4), .val (.int p5), .val (.ref b1), .val (.int of), .val (.int ln), .val (.int en), .val (.ref b12), .val (.int (own_sk y en 5 of)), .val (.int (1 : Int32)), .val (.int (1 : Int32)), .val (.int (own_sk y en 5 ((own_sk y en 5 of) + (1 : Int32)))), .val (.int (own_at y en (own_sk y en 5 ((own_sk y en 5 of) + (1 : Int32))))), .val (.int (0 : Int32)), .unset] [(.int (0 : Int32)), (.int (0 : Int32))]) (fun tt0 kk0 => XS.iconst X22.here hx rfl (hb hby at_206) kk0) ?_
      refine Go.of (mkF m 212 #[.val (.int p0), .val (.int p1), .val (.int p2), .val (.int p3), .val (.int p4), .val (.int p5), .val (.ref b1), .val (.int of), .val (.int ln), .val (.int en), .val (.ref b12), .val (.int (own_sk y en 5 of)), .val (.int (1 : Int32)), .val (.int (1 : Int32)), .val (.int (own_sk y en 5 ((own_sk y en 5 of) + (1 : Int32)))), .val (.int (own_at y en (own_sk y en 5 ((own_sk y en 5 of) + (1 : Int32))))), .val (.int (0 : Int32)), .unset] []) (fun tt0 kk0 => XS.icmpYes X22.here hx rfl (pc0 := 207) (pc' := 212) rfl (hb hby at_207) rfl (teq (by decide)).1 (by decide) (by decide) kk0) ?_
      refine Go.of (mkF m 214 #[.val (.int p0), .val (.int p1), .val (.int p2), .val (.int p3), .val (.int p4), .val (.int p5), .val (.ref b1), .val (.int of), .val (.int ln), .val (.int en), .val (.ref b12), .val (.int (own_sk y en 5 of)), .val (.int (1 : Int32)), .val (.int (1 : Int32)), .val (.int (own_sk y en 5 ((own_sk y en 5 of) + (1 : Int32)))), .val (.int (own_at y en (own_sk y en 5 ((own_sk y en 5 of) + (1 : Int32))))), .val (.int (0 : Int32)), .unset] [(.int (0 : Int32))]) (fun tt0 kk0 => XS.iload X22.here hx rfl (hb hby at_212) rfl kk0) ?_
      refine Go.of (mkF m 217 #[.val (.int p0), .val (.int p1), .val (.int p2), .val (.int p3), .val (.int p4), .val (.int p5), .val (.ref b1), .val (.int of), .val (.int ln), .val (.int en), .val (.ref b12), .val (.int (own_sk y en 5 of)), .val (.int (1 : Int32)), .val (.int (1 : Int32)), .val (.int (own_sk y en 5 ((own_sk y en 5 of) + (1 : Int32)))), .val (.int (own_at y en (own_sk y en 5 ((own_sk y en 5 of) + (1 : Int32))))), .val (.int (0 : Int32)), .unset] []) (fun tt0 kk0 => XS.ifNo X22.here hx rfl (hb hby at_214) rfl ((if0 _ _).trans (teq (by decide)).2) kk0) ?_
      refine Go.of (mkF m 219 #[.val (.int p0), .val (.int p1), .val (.int p2), .val (.int p3), .val (.int p4), .val (.int p5), .val (.ref b1), .val (.int of), .val (.int ln), .val (.int en), .val (.ref b12), .val (.int (own_sk y en 5 of)), .val (.int (1 : Int32)), .val (.int (1 : Int32)), .val (.int (own_sk y en 5 ((own_sk y en 5 of) + (1 : Int32)))), .val (.int (own_at y en (own_sk y en 5 ((own_sk y en 5 of) + (1 : Int32))))), .val (.int (0 : Int32)), .unset] [(.ref b1)]) (fun tt0 kk0 => XS.aload X22.here hx rfl (hb hby at_217) rfl rfl kk0) ?_
      refine Go.of (mkF m 221 #[.val (.int p0), .val (.int p1), .val (.int p2), .val (.int p3), .val (.int p4), .val (.int p5), .val (.ref b1), .val (.int of), .val (.int ln), .val (.int en), .val (.ref b12), .val (.int (own_sk y en 5 of)), .val (.int (1 : Int32)), .val (.int (1 : Int32)), .val (.int (own_sk y en 5 ((own_sk y en 5 of) + (1 : Int32)))), .val (.int (own_at y en (own_sk y en 5 ((own_sk y en 5 of) + (1 : Int32))))), .val (.int (0 : Int32)), .unset] [(.int (own_sk y en 5 ((own_sk y en 5 of) + (1 : Int32)))), (.ref b1)]) (fun tt0 kk0 => XS.iload X22.here hx rfl (hb hby at_219) rfl kk0) ?_
      refine Go.of (mkF m 222 #[.val (.int p0), .val (.int p1), .val (.int p2), .val (.int p3), .val (.int p4), .val (.int p5), .val (.ref b1), .val (.int of), .val (.int ln), .val (.int en), .val (.ref b12), .val (.int (own_sk y en 5 of)), .val (.int (1 : Int32)), .val (.int (1 : Int32)), .val (.int (own_sk y en 5 ((own_sk y en 5 of) + (1 : Int32)))), .val (.int (own_at y en (own_sk y en 5 ((own_sk y en 5 of) + (1 : Int32))))), .val (.int (0 : Int32)), .unset] [(.int (1 : Int32)), (.int (own_sk y en 5 ((own_sk y en 5 of) + (1 : Int32)))), (.ref b1)]) (fun tt0 kk0 => XS.iconst X22.here hx rfl (hb hby at_221) kk0) ?_
      refine Go.of (mkF m 223 #[.val (.int p0), .val (.int p1), .val (.int p2), .val (.int p3), .val (.int p4), .val (.int p5), .val (.ref b1), .val (.int of), .val (.int ln), .val (.int en), .val (.ref b12), .val (.int (own_sk y en 5 of)), .val (.int (1 : Int32)), .val (.int (1 : Int32)), .val (.int (own_sk y en 5 ((own_sk y en 5 of) + (1 : Int32)))), .val (.int (own_at y en (own_sk y en 5 ((own_sk y en 5 of) + (1 : Int32))))), .val (.int (0 : Int32)), .unset] [(.int ((own_sk y en 5 ((own_sk y en 5 of) + (1 : Int32))) + (1 : Int32))), (.ref b1)]) (fun tt0 kk0 => XS.iadd X22.here hx rfl (hb hby at_222) rfl kk0) ?_
      refine Go.of (mkF m 225 #[.val (.int p0), .val (.int p1), .val (.int p2), .val (.int p3), .val (.int p4), .val (.int p5), .val (.ref b1), .val (.int of), .val (.int ln), .val (.int en), .val (.ref b12), .val (.int (own_sk y en 5 of)), .val (.int (1 : Int32)), .val (.int (1 : Int32)), .val (.int (own_sk y en 5 ((own_sk y en 5 of) + (1 : Int32)))), .val (.int (own_at y en (own_sk y en 5 ((own_sk y en 5 of) + (1 : Int32))))), .val (.int (0 : Int32)), .unset] [(.int en), (.int ((own_sk y en 5 ((own_sk y en 5 of) + (1 : Int32))) + (1 : Int32))), (.ref b1)]) (fun tt0 kk0 => XS.iload X22.here hx rfl (hb hby at_223) rfl kk0) ?_
      refine Go.callS X22 hx hZ (y := (⟨"com/example/tidemark/tidemark/io/JsonBytesBeginArrayPinLaw", "skipWs", "([BII)I"⟩ : MethodName)) (argsL := [(.ref b1), (.int ((own_sk y en 5 ((own_sk y en 5 of) + (1 : Int32))) + (1 : Int32))), (.int en)]) (rest := []) hown (tw95 hw) (tw96 hw) (tw3 hw) (tw97 hw) (by decide) rfl (rmSkip l Z a0 hw [] b1 (5 : Int32) en ((own_sk y en 5 ((own_sk y en 5 of) + (1 : Int32))) + (1 : Int32)) y T22.heap VY (own_next (own_sk_ok 5 (own_next (own_sk_ok 5 hok) hc117 (by decide))) hn188 (by decide))) (g := (mkF m 225 #[.val (.int p0), .val (.int p1), .val (.int p2), .val (.int p3), .val (.int p4), .val (.int p5), .val (.ref b1), .val (.int of), .val (.int ln), .val (.int en), .val (.ref b12), .val (.int (own_sk y en 5 of)), .val (.int (1 : Int32)), .val (.int (1 : Int32)), .val (.int (own_sk y en 5 ((own_sk y en 5 of) + (1 : Int32)))), .val (.int (own_at y en (own_sk y en 5 ((own_sk y en 5 of) + (1 : Int32))))), .val (.int (0 : Int32)), .unset] [(.int en), (.int ((own_sk y en 5 ((own_sk y en 5 of) + (1 : Int32))) + (1 : Int32))), (.ref b1)])) rfl (by rw [hml]; rfl) (lenOf pd6 rfl) rfl (W := 0) (by show 2 * 0 + _ ≤ _; exact Nat.le_of_eq rfl) (hb hby at_225) (by decide) (by decide) (by decide) (by decide) ?_
      rintro T23 L23 v23 X23 ⟨rfl, rfl, hh23⟩
      have N23 := Fr.app N22 (Fr.nil n0)
      show Go pr ev below _ T23 (mkF m 228 #[.val (.int p0), .val (.int p1), .val (.int p2), .val (.int p3), .val (.int p4), .val (.int p5), .val (.ref b1), .val (.int of), .val (.int ln), .val (.int en), .val (.ref b12), .val (.int (own_sk y en 5 of)), .val (.int (1 : Int32)), .val (.int (1 : Int32)), .val (.int (own_sk y en 5 ((own_sk y en 5 of) + (1 : Int32)))), .val (.int (own_at y en (own_sk y en 5 ((own_sk y en 5 of) + (1 : Int32))))), .val (.int (0 : Int32)), .unset] [(.int (own_sk y en 5 ((own_sk y en 5 ((own_sk y en 5 of) + (1 : Int32))) + (1 : Int32))))])
      refine Go.of (mkF m 230 #[.val (.int p0), .val (.int p1), .val (.int p2), .val (.int p3), .val (.int p4), .val (.int p5), .val (.ref b1), .val (.int of), .val (.int ln), .val (.int en), .val (.ref b12), .val (.int (own_sk y en 5 of)), .val (.int (1 : Int32)), .val (.int (1 : Int32)), .val (.int (own_sk y en 5 ((own_sk y en 5 of) + (1 : Int32)))), .val (.int (own_at y en (own_sk y en 5 ((own_sk y en 5 of) + (1 : Int32))))), .val (.int (0 : Int32)), .val (.int (own_sk y en 5 ((own_sk y en 5 ((own_sk y en 5 of) + (1 : Int32))) + (1 : Int32))))] []) (fun tt0 kk0 => XS.istore X23.here hx rfl (hb hby at_228) rfl (l' := #[.val (.int p0), .val (.int p1), .val (.int p2), .val (.int p3), .val (.int p4), .val (.int p5), .val (.ref b1), .val (.int of), .val (.int ln), .val (.int en), .val (.ref b12), .val (.int (own_sk y en 5 of)), .val (.int (1 : Int32)), .val (.int (1 : Int32)), .val (.int (own_sk y en 5 ((own_sk y en 5 of) + (1 : Int32)))), .val (.int (own_at y en (own_sk y en 5 ((own_sk y en 5 of) + (1 : Int32))))), .val (.int (0 : Int32)), .val (.int (own_sk y en 5 ((own_sk y en 5 ((own_sk y en 5 of) + (1 : Int32))) + (1 : Int32))))]) rfl kk0) ?_
      refine Go.of (mkF m 232 #[.val (.int p0), .val (.int p1), .val (.int p2), .val (.int p3), .val (.int p4), .val (.int p5), .val (.ref b1), .val (.int of), .val (.int ln), .val (.int en), .val (.ref b12), .val (.int (own_sk y en 5 of)), .val (.int (1 : Int32)), .val (.int (1 : Int32)), .val (.int (own_sk y en 5 ((own_sk y en 5 of) + (1 : Int32)))), .val (.int (own_at y en (own_sk y en 5 ((own_sk y en 5 of) + (1 : Int32))))), .val (.int (0 : Int32)), .val (.int (own_sk y en 5 ((own_sk y en 5 ((own_sk y en 5 of) + (1 : Int32))) + (1 : Int32))))] [(.ref b12)]) (fun tt0 kk0 => XS.aload X23.here hx rfl (hb hby at_230) rfl rfl kk0) ?_
      by_cases hb232 : (own_at y en (own_sk y en 5 ((own_sk y en 5 ((own_sk y en 5 of) + (1 : Int32))) + (1 : Int32)))) = (91 : Int32)
      ·
        refine Go.virt X23 hx hZ (y := (⟨"com/example/tidemark/tidemark/io/JsonBytes", "beginArray", "()Z"⟩ : MethodName)) (z := (⟨"com/example/tidemark/tidemark/io/JsonBytes", "beginArray", "()Z"⟩ : MethodName)) (a := b12) (argsL := []) (rest := []) hown (tw107 hw) (tw108 hw) (notFace_of_selects (args := #[]) (mvT hZ (tw110 hw))) (tw110 hw) (tw109 hw) (tw8 hw) (tw111 hw) (by decide) hh23 A12 (rmBA1 l Z a0 hw [] b12 b1 (5 : Int32) en ((own_sk y en 5 ((own_sk y en 5 of) + (1 : Int32))) + (1 : Int32)) (0 : Int32) (0 : Int32) y T22.heap n0 hz A12 gb_b12 (Ne.symm ne_b1_b12) Fb_22 Fe_22 Fp_22 Fd_22 Fs_22 VY (own_next (own_sk_ok 5 (own_next (own_sk_ok 5 hok) hc117 (by decide))) hn188 (by decide)) (by decide) hb232 (by decide)) (g := (mkF m 232 #[.val (.int p0), .val (.int p1), .val (.int p2), .val (.int p3), .val (.int p4), .val (.int p5), .val (.ref b1), .val (.int of), .val (.int ln), .val (.int en), .val (.ref b12), .val (.int (own_sk y en 5 of)), .val (.int (1 : Int32)), .val (.int (1 : Int32)), .val (.int (own_sk y en 5 ((own_sk y en 5 of) + (1 : Int32)))), .val (.int (own_at y en (own_sk y en 5 ((own_sk y en 5 of) + (1 : Int32))))), .val (.int (0 : Int32)), .val (.int (own_sk y en 5 ((own_sk y en 5 ((own_sk y en 5 of) + (1 : Int32))) + (1 : Int32))))] [(.ref b12)])) rfl (by rw [hml]; rfl) (lenOf pd32 rfl) rfl (W := 0) (by show 2 * 0 + _ ≤ _; exact Nat.le_of_eq rfl) (hb hby at_232) (by decide) (by decide) (by decide) (by decide) ?_
        rintro T24 L24 v24 X24 ⟨rfl, NL24, K24, Fb_24, Fe_24, Fp_24, Fd_24, Fs_24⟩
        have N24 := Fr.app N23 NL24
        replace S1 := Sta.keep S1 K24 (allS (exa_ns A12) (all0))
        replace S2 := Sta.keep S2 K24 (allS (exa_ns A12) (all0))
        replace En := En.keep K24
        replace Q1 := Q1.keep K24
        replace A12 := A12.keep K24
        replace A13 := A13.keep K24
        replace Q14 := Q14.keep K24
        replace U_b14 := U_b14.keep K24
        replace VY := VY.keep K24 (ninS ne_b1_b12 nin0)
        replace V_b14 := V_b14.keep K24 (ninS (Ne.symm ne_b12_b14) nin0)
        replace hz := Nat.le_trans hz K24.1
        show Go pr ev below _ T24 (mkF m 235 #[.val (.int p0), .val (.int p1), .val (.int p2), .val (.int p3), .val (.int p4), .val (.int p5), .val (.ref b1), .val (.int of), .val (.int ln), .val (.int en), .val (.ref b12), .val (.int (own_sk y en 5 of)), .val (.int (1 : Int32)), .val (.int (1 : Int32)), .val (.int (own_sk y en 5 ((own_sk y en 5 of) + (1 : Int32)))), .val (.int (own_at y en (own_sk y en 5 ((own_sk y en 5 of) + (1 : Int32))))), .val (.int (0 : Int32)), .val (.int (own_sk y en 5 ((own_sk y en 5 ((own_sk y en 5 of) + (1 : Int32))) + (1 : Int32))))] [(.int (1 : Int32))])
        rw [show (0 : Int32) + 1 = (1 : Int32) from by decide] at Fd_24
        refine Go.of (mkF m 237 #[.val (.int p0), .val (.int p1), .val (.int p2), .val (.int p3), .val (.int p4), .val (.int p5), .val (.ref b1), .val (.int of), .val (.int ln), .val (.int en), .val (.ref b12), .val (.int (own_sk y en 5 of)), .val (.int (1 : Int32)), .val (.int (1 : Int32)), .val (.int (own_sk y en 5 ((own_sk y en 5 of) + (1 : Int32)))), .val (.int (own_at y en (own_sk y en 5 ((own_sk y en 5 of) + (1 : Int32))))), .val (.int (0 : Int32)), .val (.int (own_sk y en 5 ((own_sk y en 5 ((own_sk y en 5 of) + (1 : Int32))) + (1 : Int32))))] [(.ref b1), (.int (1 : Int32))]) (fun tt0 kk0 => XS.aload X24.here hx rfl (hb hby at_235) rfl rfl kk0) ?_
        refine Go.of (mkF m 239 #[.val (.int p0), .val (.int p1), .val (.int p2), .val (.int p3), .val (.int p4), .val (.int p5), .val (.ref b1), .val (.int of), .val (.int ln), .val (.int en), .val (.ref b12), .val (.int (own_sk y en 5 of)), .val (.int (1 : Int32)), .val (.int (1 : Int32)), .val (.int (own_sk y en 5 ((own_sk y en 5 of) + (1 : Int32)))), .val (.int (own_at y en (own_sk y en 5 ((own_sk y en 5 of) + (1 : Int32))))), .val (.int (0 : Int32)), .val (.int (own_sk y en 5 ((own_sk y en 5 ((own_sk y en 5 of) + (1 : Int32))) + (1 : Int32))))] [(.int (own_sk y en 5 ((own_sk y en 5 ((own_sk y en 5 of) + (1 : Int32))) + (1 : Int32)))), (.ref b1), (.int (1 : Int32))]) (fun tt0 kk0 => XS.iload X24.here hx rfl (hb hby at_237) rfl kk0) ?_
        refine Go.of (mkF m 241 #[.val (.int p0), .val (.int p1), .val (.int p2), .val (.int p3), .val (.int p4), .val (.int p5), .val (.ref b1), .val (.int of), .val (.int ln), .val (.int en), .val (.ref b12), .val (.int (own_sk y en 5 of)), .val (.int (1 : Int32)), .val (.int (1 : Int32)), .val (.int (own_sk y en 5 ((own_sk y en 5 of) + (1 : Int32)))), .val (.int (own_at y en (own_sk y en 5 ((own_sk y en 5 of) + (1 : Int32))))), .val (.int (0 : Int32)), .val (.int (own_sk y en 5 ((own_sk y en 5 ((own_sk y en 5 of) + (1 : Int32))) + (1 : Int32))))] [(.int en), (.int (own_sk y en 5 ((own_sk y en 5 ((own_sk y en 5 of) + (1 : Int32))) + (1 : Int32)))), (.ref b1), (.int (1 : Int32))]) (fun tt0 kk0 => XS.iload X24.here hx rfl (hb hby at_239) rfl kk0) ?_
        refine Go.callS X24 hx hZ (y := (⟨"com/example/tidemark/tidemark/io/JsonBytesBeginArrayPinLaw", "at", "([BII)I"⟩ : MethodName)) (argsL := [(.ref b1), (.int (own_sk y en 5 ((own_sk y en 5 ((own_sk y en 5 of) + (1 : Int32))) + (1 : Int32)))), (.int en)]) (rest := [(.int (1 : Int32))]) hown (tw104 hw) (tw105 hw) (tw3 hw) (tw106 hw) (by decide) rfl (rmAt l Z a0 hw [] b1 (5 : Int32) en (own_sk y en 5 ((own_sk y en 5 ((own_sk y en 5 of) + (1 : Int32))) + (1 : Int32))) y T24.heap VY (own_sk_ok 5 (own_next (own_sk_ok 5 (own_next (own_sk_ok 5 hok) hc117 (by decide))) hn188 (by decide)))) (g := (mkF m 241 #[.val (.int p0), .val (.int p1), .val (.int p2), .val (.int p3), .val (.int p4), .val (.int p5), .val (.ref b1), .val (.int of), .val (.int ln), .val (.int en), .val (.ref b12), .val (.int (own_sk y en 5 of)), .val (.int (1 : Int32)), .val (.int (1 : Int32)), .val (.int (own_sk y en 5 ((own_sk y en 5 of) + (1 : Int32)))), .val (.int (own_at y en (own_sk y en 5 ((own_sk y en 5 of) + (1 : Int32))))), .val (.int (0 : Int32)), .val (.int (own_sk y en 5 ((own_sk y en 5 ((own_sk y en 5 of) + (1 : Int32))) + (1 : Int32))))] [(.int en), (.int (own_sk y en 5 ((own_sk y en 5 ((own_sk y en 5 of) + (1 : Int32))) + (1 : Int32)))), (.ref b1), (.int (1 : Int32))])) rfl (by rw [hml]; rfl) (lenOf pd6 rfl) rfl (W := 1) (by show 2 * 0 + _ ≤ _; exact Nat.le_of_eq rfl) (hb hby at_241) (by decide) (by decide) (by decide) (by decide) ?_
        rintro T25 L25 v25 X25 ⟨rfl, rfl, hh25⟩
        have N25 := Fr.app N24 (Fr.nil n0)
        show Go pr ev below _ T25 (mkF m 244 #[.val (.int p0), .val (.int p1), .val (.int p2), .val (.int p3), .val (.int p4), .val (.int p5), .val (.ref b1), .val (.int of), .val (.int ln), .val (.int en), .val (.ref b12), .val (.int (own_sk y en 5 of)), .val (.int (1 : Int32)), .val (.int (1 : Int32)), .val (.int (own_sk y en 5 ((own_sk y en 5 of) + (1 : Int32)))), .val (.int (own_at y en (own_sk y en 5 ((own_sk y en 5 of) + (1 : Int32))))), .val (.int (0 : Int32)), .val (.int (own_sk y en 5 ((own_sk y en 5 ((own_sk y en 5 of) + (1 : Int32))) + (1 : Int32))))] [(.int (own_at y en (own_sk y en 5 ((own_sk y en 5 ((own_sk y en 5 of) + (1 : Int32))) + (1 : Int32))))), (.int (1 : Int32))])
        refine Go.of (mkF m 246 #[.val (.int p0), .val (.int p1), .val (.int p2), .val (.int p3), .val (.int p4), .val (.int p5), .val (.ref b1), .val (.int of), .val (.int ln), .val (.int en), .val (.ref b12), .val (.int (own_sk y en 5 of)), .val (.int (1 : Int32)), .val (.int (1 : Int32)), .val (.int (own_sk y en 5 ((own_sk y en 5 of) + (1 : Int32)))), .val (.int (own_at y en (own_sk y en 5 ((own_sk y en 5 of) + (1 : Int32))))), .val (.int (0 : Int32)), .val (.int (own_sk y en 5 ((own_sk y en 5 ((own_sk y en 5 of) + (1 : Int32))) + (1 : Int32))))] [(.int (91 : Int32)), (.int (own_at y en (own_sk y en 5 ((own_sk y en 5 ((own_sk y en 5 of) + (1 : Int32))) + (1 : Int32))))), (.int (1 : Int32))]) (fun tt0 kk0 => XS.bipush X25.here hx rfl (hb hby at_244) kk0) ?_
        refine Go.of (mkF m 249 #[.val (.int p0), .val (.int p1), .val (.int p2), .val (.int p3), .val (.int p4), .val (.int p5), .val (.ref b1), .val (.int of), .val (.int ln), .val (.int en), .val (.ref b12), .val (.int (own_sk y en 5 of)), .val (.int (1 : Int32)), .val (.int (1 : Int32)), .val (.int (own_sk y en 5 ((own_sk y en 5 of) + (1 : Int32)))), .val (.int (own_at y en (own_sk y en 5 ((own_sk y en 5 of) + (1 : Int32))))), .val (.int (0 : Int32)), .val (.int (own_sk y en 5 ((own_sk y en 5 ((own_sk y en 5 of) + (1 : Int32))) + (1 : Int32))))] [(.int (1 : Int32))]) (fun tt0 kk0 => XS.icmpNo X25.here hx rfl (hb hby at_246) rfl (teq hb232).2 kk0) ?_
        refine Go.of (mkF m 250 #[.val (.int p0), .val (.int p1), .val (.int p2), .val (.int p3), .val (.int p4), .val (.int p5), .val (.ref b1), .val (.int of), .val (.int ln), .val (.int en), .val (.ref b12), .val (.int (own_sk y en 5 of)), .val (.int (1 : Int32)), .val (.int (1 : Int32)), .val (.int (own_sk y en 5 ((own_sk y en 5 of) + (1 : Int32)))), .val (.int (own_at y en (own_sk y en 5 ((own_sk y en 5 of) + (1 : Int32))))), .val (.int (0 : Int32)), .val (.int (own_sk y en 5 ((own_sk y en 5 ((own_sk y en 5 of) + (1 : Int32))) + (1 : Int32))))] [(.int (1 : Int32)), (.int (1 : Int32))]) (fun tt0 kk0 => XS.iconst X25.here hx rfl (hb hby at_249) kk0) ?_
        refine Go.of (mkF m 254 #[.val (.int p0), .val (.int p1), .val (.int p2), .val (.int p3), .val (.int p4), .val (.int p5), .val (.ref b1), .val (.int of), .val (.int ln), .val (.int en), .val (.ref b12), .val (.int (own_sk y en 5 of)), .val (.int (1 : Int32)), .val (.int (1 : Int32)), .val (.int (own_sk y en 5 ((own_sk y en 5 of) + (1 : Int32)))), .val (.int (own_at y en (own_sk y en 5 ((own_sk y en 5 of) + (1 : Int32))))), .val (.int (0 : Int32)), .val (.int (own_sk y en 5 ((own_sk y en 5 ((own_sk y en 5 of) + (1 : Int32))) + (1 : Int32))))] [(.int (1 : Int32)), (.int (1 : Int32))]) (fun tt0 kk0 => XS.goto X25.here hx rfl (pc0 := 250) (pc' := 254) rfl (hb hby at_250) (by decide) (by decide) kk0) ?_
        refine Go.of (mkF m 257 #[.val (.int p0), .val (.int p1), .val (.int p2), .val (.int p3), .val (.int p4), .val (.int p5), .val (.ref b1), .val (.int of), .val (.int ln), .val (.int en), .val (.ref b12), .val (.int (own_sk y en 5 of)), .val (.int (1 : Int32)), .val (.int (1 : Int32)), .val (.int (own_sk y en 5 ((own_sk y en 5 of) + (1 : Int32)))), .val (.int (own_at y en (own_sk y en 5 ((own_sk y en 5 of) + (1 : Int32))))), .val (.int (0 : Int32)), .val (.int (own_sk y en 5 ((own_sk y en 5 ((own_sk y en 5 of) + (1 : Int32))) + (1 : Int32))))] []) (fun tt0 kk0 => XS.icmpNo X25.here hx rfl (hb hby at_254) rfl (teq (by decide)).2 kk0) ?_
        refine Go.of (mkF m 258 #[.val (.int p0), .val (.int p1), .val (.int p2), .val (.int p3), .val (.int p4), .val (.int p5), .val (.ref b1), .val (.int of), .val (.int ln), .val (.int en), .val (.ref b12), .val (.int (own_sk y en 5 of)), .val (.int (1 : Int32)), .val (.int (1 : Int32)), .val (.int (own_sk y en 5 ((own_sk y en 5 of) + (1 : Int32)))), .val (.int (own_at y en (own_sk y en 5 ((own_sk y en 5 of) + (1 : Int32))))), .val (.int (0 : Int32)), .val (.int (own_sk y en 5 ((own_sk y en 5 ((own_sk y en 5 of) + (1 : Int32))) + (1 : Int32))))] [(.int (1 : Int32))]) (fun tt0 kk0 => XS.iconst X25.here hx rfl (hb hby at_257) kk0) ?_
        refine Go.of (mkF m 262 #[.val (.int p0), .val (.int p1), .val (.int p2), .val (.int p3), .val (.int p4), .val (.int p5), .val (.ref b1), .val (.int of), .val (.int ln), .val (.int en), .val (.ref b12), .val (.int (own_sk y en 5 of)), .val (.int (1 : Int32)), .val (.int (1 : Int32)), .val (.int (own_sk y en 5 ((own_sk y en 5 of) + (1 : Int32)))), .val (.int (own_at y en (own_sk y en 5 ((own_sk y en 5 of) + (1 : Int32))))), .val (.int (0 : Int32)), .val (.int (own_sk y en 5 ((own_sk y en 5 ((own_sk y en 5 of) + (1 : Int32))) + (1 : Int32))))] [(.int (1 : Int32))]) (fun tt0 kk0 => XS.goto X25.here hx rfl (pc0 := 258) (pc' := 262) rfl (hb hby at_258) (by decide) (by decide) kk0) ?_
        exact Go.retW X25 hx (t := .boolean) hret hlk rfl (Or.inl ⟨rfl, by simp, _, rfl⟩) (hb hby at_262) (by decide) (by decide) ⟨rfl, N25⟩
      ·
        refine Go.virt X23 hx hZ (y := (⟨"com/example/tidemark/tidemark/io/JsonBytes", "beginArray", "()Z"⟩ : MethodName)) (z := (⟨"com/example/tidemark/tidemark/io/JsonBytes", "beginArray", "()Z"⟩ : MethodName)) (a := b12) (argsL := []) (rest := []) hown (tw107 hw) (tw108 hw) (notFace_of_selects (args := #[]) (mvT hZ (tw110 hw))) (tw110 hw) (tw109 hw) (tw8 hw) (tw111 hw) (by decide) hh23 A12 (rmBA0 l Z a0 hw [] b12 b1 (5 : Int32) en ((own_sk y en 5 ((own_sk y en 5 of) + (1 : Int32))) + (1 : Int32)) (0 : Int32) (0 : Int32) y T22.heap n0 hz A12 gb_b12 (Ne.symm ne_b1_b12) Fb_22 Fe_22 Fp_22 Fd_22 Fs_22 VY (own_next (own_sk_ok 5 (own_next (own_sk_ok 5 hok) hc117 (by decide))) hn188 (by decide)) (by decide) hb232) (g := (mkF m 232 #[.val (.int p0), .val (.int p1), .val (.int p2), .val (.int p3), .val (.int p4), .val (.int p5), .val (.ref b1), .val (.int of), .val (.int ln), .val (.int en), .val (.ref b12), .val (.int (own_sk y en 5 of)), .val (.int (1 : Int32)), .val (.int (1 : Int32)), .val (.int (own_sk y en 5 ((own_sk y en 5 of) + (1 : Int32)))), .val (.int (own_at y en (own_sk y en 5 ((own_sk y en 5 of) + (1 : Int32))))), .val (.int (0 : Int32)), .val (.int (own_sk y en 5 ((own_sk y en 5 ((own_sk y en 5 of) + (1 : Int32))) + (1 : Int32))))] [(.ref b12)])) rfl (by rw [hml]; rfl) (lenOf pd32 rfl) rfl (W := 0) (by show 2 * 0 + _ ≤ _; exact Nat.le_of_eq rfl) (hb hby at_232) (by decide) (by decide) (by decide) (by decide) ?_
        rintro T26 L26 v26 X26 ⟨rfl, NL26, K26, Fb_26, Fe_26, Fp_26, Fd_26, Fs_26⟩
        have N26 := Fr.app N23 NL26
        replace S1 := Sta.keep S1 K26 (allS (exa_ns A12) (all0))
        replace S2 := Sta.keep S2 K26 (allS (exa_ns A12) (all0))
        replace En := En.keep K26
        replace Q1 := Q1.keep K26
        replace A12 := A12.keep K26
        replace A13 := A13.keep K26
        replace Q14 := Q14.keep K26
        replace U_b14 := U_b14.keep K26
        replace VY := VY.keep K26 (ninS ne_b1_b12 nin0)
        replace V_b14 := V_b14.keep K26 (ninS (Ne.symm ne_b12_b14) nin0)
        replace hz := Nat.le_trans hz K26.1
        show Go pr ev below _ T26 (mkF m 235 #[.val (.int p0), .val (.int p1), .val (.int p2), .val (.int p3), .val (.int p4), .val (.int p5), .val (.ref b1), .val (.int of), .val (.int ln), .val (.int en), .val (.ref b12), .val (.int (own_sk y en 5 of)), .val (.int (1 : Int32)), .val (.int (1 : Int32)), .val (.int (own_sk y en 5 ((own_sk y en 5 of) + (1 : Int32)))), .val (.int (own_at y en (own_sk y en 5 ((own_sk y en 5 of) + (1 : Int32))))), .val (.int (0 : Int32)), .val (.int (own_sk y en 5 ((own_sk y en 5 ((own_sk y en 5 of) + (1 : Int32))) + (1 : Int32))))] [(.int (0 : Int32))])
        refine Go.of (mkF m 237 #[.val (.int p0), .val (.int p1), .val (.int p2), .val (.int p3), .val (.int p4), .val (.int p5), .val (.ref b1), .val (.int of), .val (.int ln), .val (.int en), .val (.ref b12), .val (.int (own_sk y en 5 of)), .val (.int (1 : Int32)), .val (.int (1 : Int32)), .val (.int (own_sk y en 5 ((own_sk y en 5 of) + (1 : Int32)))), .val (.int (own_at y en (own_sk y en 5 ((own_sk y en 5 of) + (1 : Int32))))), .val (.int (0 : Int32)), .val (.int (own_sk y en 5 ((own_sk y en 5 ((own_sk y en 5 of) + (1 : Int32))) + (1 : Int32))))] [(.ref b1), (.int (0 : Int32))]) (fun tt0 kk0 => XS.aload X26.here hx rfl (hb hby at_235) rfl rfl kk0) ?_
        refine Go.of (mkF m 239 #[.val (.int p0), .val (.int p1), .val (.int p2), .val (.int p3), .val (.int p4), .val (.int p5), .val (.ref b1), .val (.int of), .val (.int ln), .val (.int en), .val (.ref b12), .val (.int (own_sk y en 5 of)), .val (.int (1 : Int32)), .val (.int (1 : Int32)), .val (.int (own_sk y en 5 ((own_sk y en 5 of) + (1 : Int32)))), .val (.int (own_at y en (own_sk y en 5 ((own_sk y en 5 of) + (1 : Int32))))), .val (.int (0 : Int32)), .val (.int (own_sk y en 5 ((own_sk y en 5 ((own_sk y en 5 of) + (1 : Int32))) + (1 : Int32))))] [(.int (own_sk y en 5 ((own_sk y en 5 ((own_sk y en 5 of) + (1 : Int32))) + (1 : Int32)))), (.ref b1), (.int (0 : Int32))]) (fun tt0 kk0 => XS.iload X26.here hx rfl (hb hby at_237) rfl kk0) ?_
        refine Go.of (mkF m 241 #[.val (.int p0), .val (.int p1), .val (.int p2), .val (.int p3), .val (.int p4), .val (.int p5), .val (.ref b1), .val (.int of), .val (.int ln), .val (.int en), .val (.ref b12), .val (.int (own_sk y en 5 of)), .val (.int (1 : Int32)), .val (.int (1 : Int32)), .val (.int (own_sk y en 5 ((own_sk y en 5 of) + (1 : Int32)))), .val (.int (own_at y en (own_sk y en 5 ((own_sk y en 5 of) + (1 : Int32))))), .val (.int (0 : Int32)), .val (.int (own_sk y en 5 ((own_sk y en 5 ((own_sk y en 5 of) + (1 : Int32))) + (1 : Int32))))] [(.int en), (.int (own_sk y en 5 ((own_sk y en 5 ((own_sk y en 5 of) + (1 : Int32))) + (1 : Int32)))), (.ref b1), (.int (0 : Int32))]) (fun tt0 kk0 => XS.iload X26.here hx rfl (hb hby at_239) rfl kk0) ?_
        refine Go.callS X26 hx hZ (y := (⟨"com/example/tidemark/tidemark/io/JsonBytesBeginArrayPinLaw", "at", "([BII)I"⟩ : MethodName)) (argsL := [(.ref b1), (.int (own_sk y en 5 ((own_sk y en 5 ((own_sk y en 5 of) + (1 : Int32))) + (1 : Int32)))), (.int en)]) (rest := [(.int (0 : Int32))]) hown (tw104 hw) (tw105 hw) (tw3 hw) (tw106 hw) (by decide) rfl (rmAt l Z a0 hw [] b1 (5 : Int32) en (own_sk y en 5 ((own_sk y en 5 ((own_sk y en 5 of) + (1 : Int32))) + (1 : Int32))) y T26.heap VY (own_sk_ok 5 (own_next (own_sk_ok 5 (own_next (own_sk_ok 5 hok) hc117 (by decide))) hn188 (by decide)))) (g := (mkF m 241 #[.val (.int p0), .val (.int p1), .val (.int p2), .val (.int p3), .val (.int p4), .val (.int p5), .val (.ref b1), .val (.int of), .val (.int ln), .val (.int en), .val (.ref b12), .val (.int (own_sk y en 5 of)), .val (.int (1 : Int32)), .val (.int (1 : Int32)), .val (.int (own_sk y en 5 ((own_sk y en 5 of) + (1 : Int32)))), .val (.int (own_at y en (own_sk y en 5 ((own_sk y en 5 of) + (1 : Int32))))), .val (.int (0 : Int32)), .val (.int (own_sk y en 5 ((own_sk y en 5 ((own_sk y en 5 of) + (1 : Int32))) + (1 : Int32))))] [(.int en), (.int (own_sk y en 5 ((own_sk y en 5 ((own_sk y en 5 of) + (1 : Int32))) + (1 : Int32)))), (.ref b1), (.int (0 : Int32))])) rfl (by rw [hml]; rfl) (lenOf pd6 rfl) rfl (W := 1) (by show 2 * 0 + _ ≤ _; exact Nat.le_of_eq rfl) (hb hby at_241) (by decide) (by decide) (by decide) (by decide) ?_
        rintro T27 L27 v27 X27 ⟨rfl, rfl, hh27⟩
        have N27 := Fr.app N26 (Fr.nil n0)
        show Go pr ev below _ T27 (mkF m 244 #[.val (.int p0), .val (.int p1), .val (.int p2), .val (.int p3), .val (.int p4), .val (.int p5), .val (.ref b1), .val (.int of), .val (.int ln), .val (.int en), .val (.ref b12), .val (.int (own_sk y en 5 of)), .val (.int (1 : Int32)), .val (.int (1 : Int32)), .val (.int (own_sk y en 5 ((own_sk y en 5 of) + (1 : Int32)))), .val (.int (own_at y en (own_sk y en 5 ((own_sk y en 5 of) + (1 : Int32))))), .val (.int (0 : Int32)), .val (.int (own_sk y en 5 ((own_sk y en 5 ((own_sk y en 5 of) + (1 : Int32))) + (1 : Int32))))] [(.int (own_at y en (own_sk y en 5 ((own_sk y en 5 ((own_sk y en 5 of) + (1 : Int32))) + (1 : Int32))))), (.int (0 : Int32))])
        refine Go.of (mkF m 246 #[.val (.int p0), .val (.int p1), .val (.int p2), .val (.int p3), .val (.int p4), .val (.int p5), .val (.ref b1), .val (.int of), .val (.int ln), .val (.int en), .val (.ref b12), .val (.int (own_sk y en 5 of)), .val (.int (1 : Int32)), .val (.int (1 : Int32)), .val (.int (own_sk y en 5 ((own_sk y en 5 of) + (1 : Int32)))), .val (.int (own_at y en (own_sk y en 5 ((own_sk y en 5 of) + (1 : Int32))))), .val (.int (0 : Int32)), .val (.int (own_sk y en 5 ((own_sk y en 5 ((own_sk y en 5 of) + (1 : Int32))) + (1 : Int32))))] [(.int (91 : Int32)), (.int (own_at y en (own_sk y en 5 ((own_sk y en 5 ((own_sk y en 5 of) + (1 : Int32))) + (1 : Int32))))), (.int (0 : Int32))]) (fun tt0 kk0 => XS.bipush X27.here hx rfl (hb hby at_244) kk0) ?_
        refine Go.of (mkF m 253 #[.val (.int p0), .val (.int p1), .val (.int p2), .val (.int p3), .val (.int p4), .val (.int p5), .val (.ref b1), .val (.int of), .val (.int ln), .val (.int en), .val (.ref b12), .val (.int (own_sk y en 5 of)), .val (.int (1 : Int32)), .val (.int (1 : Int32)), .val (.int (own_sk y en 5 ((own_sk y en 5 of) + (1 : Int32)))), .val (.int (own_at y en (own_sk y en 5 ((own_sk y en 5 of) + (1 : Int32))))), .val (.int (0 : Int32)), .val (.int (own_sk y en 5 ((own_sk y en 5 ((own_sk y en 5 of) + (1 : Int32))) + (1 : Int32))))] [(.int (0 : Int32))]) (fun tt0 kk0 => XS.icmpYes X27.here hx rfl (pc0 := 246) (pc' := 253) rfl (hb hby at_246) rfl (feq hb232).2 (by decide) (by decide) kk0) ?_
        refine Go.of (mkF m 254 #[.val (.int p0), .val (.int p1), .val (.int p2), .val (.int p3), .val (.int p4), .val (.int p5), .val (.ref b1), .val (.int of), .val (.int ln), .val (.int en), .val (.ref b12), .val (.int (own_sk y en 5 of)), .val (.int (1 : Int32)), .val (.int (1 : Int32)), .val (.int (own_sk y en 5 ((own_sk y en 5 of) + (1 : Int32)))), .val (.int (own_at y en (own_sk y en 5 ((own_sk y en 5 of) + (1 : Int32))))), .val (.int (0 : Int32)), .val (.int (own_sk y en 5 ((own_sk y en 5 ((own_sk y en 5 of) + (1 : Int32))) + (1 : Int32))))] [(.int (0 : Int32)), (.int (0 : Int32))]) (fun tt0 kk0 => XS.iconst X27.here hx rfl (hb hby at_253) kk0) ?_
        refine Go.of (mkF m 257 #[.val (.int p0), .val (.int p1), .val (.int p2), .val (.int p3), .val (.int p4), .val (.int p5), .val (.ref b1), .val (.int of), .val (.int ln), .val (.int en), .val (.ref b12), .val (.int (own_sk y en 5 of)), .val (.int (1 : Int32)), .val (.int (1 : Int32)), .val (.int (own_sk y en 5 ((own_sk y en 5 of) + (1 : Int32)))), .val (.int (own_at y en (own_sk y en 5 ((own_sk y en 5 of) + (1 : Int32))))), .val (.int (0 : Int32)), .val (.int (own_sk y en 5 ((own_sk y en 5 ((own_sk y en 5 of) + (1 : Int32))) + (1 : Int32))))] []) (fun tt0 kk0 => XS.icmpNo X27.here hx rfl (hb hby at_254) rfl (teq (by decide)).2 kk0) ?_
        refine Go.of (mkF m 258 #[.val (.int p0), .val (.int p1), .val (.int p2), .val (.int p3), .val (.int p4), .val (.int p5), .val (.ref b1), .val (.int of), .val (.int ln), .val (.int en), .val (.ref b12), .val (.int (own_sk y en 5 of)), .val (.int (1 : Int32)), .val (.int (1 : Int32)), .val (.int (own_sk y en 5 ((own_sk y en 5 of) + (1 : Int32)))), .val (.int (own_at y en (own_sk y en 5 ((own_sk y en 5 of) + (1 : Int32))))), .val (.int (0 : Int32)), .val (.int (own_sk y en 5 ((own_sk y en 5 ((own_sk y en 5 of) + (1 : Int32))) + (1 : Int32))))] [(.int (1 : Int32))]) (fun tt0 kk0 => XS.iconst X27.here hx rfl (hb hby at_257) kk0) ?_
        refine Go.of (mkF m 262 #[.val (.int p0), .val (.int p1), .val (.int p2), .val (.int p3), .val (.int p4), .val (.int p5), .val (.ref b1), .val (.int of), .val (.int ln), .val (.int en), .val (.ref b12), .val (.int (own_sk y en 5 of)), .val (.int (1 : Int32)), .val (.int (1 : Int32)), .val (.int (own_sk y en 5 ((own_sk y en 5 of) + (1 : Int32)))), .val (.int (own_at y en (own_sk y en 5 ((own_sk y en 5 of) + (1 : Int32))))), .val (.int (0 : Int32)), .val (.int (own_sk y en 5 ((own_sk y en 5 ((own_sk y en 5 of) + (1 : Int32))) + (1 : Int32))))] [(.int (1 : Int32))]) (fun tt0 kk0 => XS.goto X27.here hx rfl (pc0 := 258) (pc' := 262) rfl (hb hby at_258) (by decide) (by decide) kk0) ?_
        exact Go.retW X27 hx (t := .boolean) hret hlk rfl (Or.inl ⟨rfl, by simp, _, rfl⟩) (hb hby at_262) (by decide) (by decide) ⟨rfl, N27⟩
    ·
      refine Go.virt X21 hx hZ (y := (⟨"com/example/tidemark/tidemark/io/JsonBytes", "nextElement", "()Z"⟩ : MethodName)) (z := (⟨"com/example/tidemark/tidemark/io/JsonBytes", "nextElement", "()Z"⟩ : MethodName)) (a := b12) (argsL := []) (rest := []) hown (tw123 hw) (tw124 hw) (notFace_of_selects (args := #[]) (mvT hZ (tw126 hw))) (tw126 hw) (tw125 hw) (tw8 hw) (tw127 hw) (by decide) hh21 A12 (rmNE0 l Z a0 hw [] b12 b1 (5 : Int32) en ((own_sk y en 5 of) + (1 : Int32)) (1 : Int32) (1 : Int32) y T19.heap n0 hz A12 gb_b12 (Ne.symm ne_b1_b12) Fb_19 Fe_19 Fp_19 Fd_19 Fs_19 VY (own_next (own_sk_ok 5 hok) hc117 (by decide)) (by decide) hn188) (g := (mkF m 188 #[.val (.int p0), .val (.int p1), .val (.int p2), .val (.int p3), .val (.int p4), .val (.int p5), .val (.ref b1), .val (.int of), .val (.int ln), .val (.int en), .val (.ref b12), .val (.int (own_sk y en 5 of)), .val (.int (1 : Int32)), .val (.int (1 : Int32)), .val (.int (own_sk y en 5 ((own_sk y en 5 of) + (1 : Int32)))), .val (.int (own_at y en (own_sk y en 5 ((own_sk y en 5 of) + (1 : Int32))))), .unset, .unset] [(.ref b12)])) rfl (by rw [hml]; rfl) (lenOf pd32 rfl) rfl (W := 0) (by show 2 * 0 + _ ≤ _; exact Nat.le_of_eq rfl) (hb hby at_188) (by decide) (by decide) (by decide) (by decide) ?_
      rintro T28 L28 v28 X28 ⟨rfl, NL28, K28, Fb_28, Fe_28, Fp_28, Fd_28, Fs_28⟩
      have N28 := Fr.app N21 NL28
      replace S1 := Sta.keep S1 K28 (allS (exa_ns A12) (all0))
      replace S2 := Sta.keep S2 K28 (allS (exa_ns A12) (all0))
      replace En := En.keep K28
      replace Q1 := Q1.keep K28
      replace A12 := A12.keep K28
      replace A13 := A13.keep K28
      replace Q14 := Q14.keep K28
      replace U_b14 := U_b14.keep K28
      replace VY := VY.keep K28 (ninS ne_b1_b12 nin0)
      replace V_b14 := V_b14.keep K28 (ninS (Ne.symm ne_b12_b14) nin0)
      replace hz := Nat.le_trans hz K28.1
      show Go pr ev below _ T28 (mkF m 191 #[.val (.int p0), .val (.int p1), .val (.int p2), .val (.int p3), .val (.int p4), .val (.int p5), .val (.ref b1), .val (.int of), .val (.int ln), .val (.int en), .val (.ref b12), .val (.int (own_sk y en 5 of)), .val (.int (1 : Int32)), .val (.int (1 : Int32)), .val (.int (own_sk y en 5 ((own_sk y en 5 of) + (1 : Int32)))), .val (.int (own_at y en (own_sk y en 5 ((own_sk y en 5 of) + (1 : Int32))))), .unset, .unset] [(.int (1 : Int32))])
      refine Go.of (mkF m 193 #[.val (.int p0), .val (.int p1), .val (.int p2), .val (.int p3), .val (.int p4), .val (.int p5), .val (.ref b1), .val (.int of), .val (.int ln), .val (.int en), .val (.ref b12), .val (.int (own_sk y en 5 of)), .val (.int (1 : Int32)), .val (.int (1 : Int32)), .val (.int (own_sk y en 5 ((own_sk y en 5 of) + (1 : Int32)))), .val (.int (own_at y en (own_sk y en 5 ((own_sk y en 5 of) + (1 : Int32))))), .val (.int (1 : Int32)), .unset] []) (fun tt0 kk0 => XS.istore X28.here hx rfl (hb hby at_191) rfl (l' := #[.val (.int p0), .val (.int p1), .val (.int p2), .val (.int p3), .val (.int p4), .val (.int p5), .val (.ref b1), .val (.int of), .val (.int ln), .val (.int en), .val (.ref b12), .val (.int (own_sk y en 5 of)), .val (.int (1 : Int32)), .val (.int (1 : Int32)), .val (.int (own_sk y en 5 ((own_sk y en 5 of) + (1 : Int32)))), .val (.int (own_at y en (own_sk y en 5 ((own_sk y en 5 of) + (1 : Int32))))), .val (.int (1 : Int32)), .unset]) rfl kk0) ?_
      refine Go.of (mkF m 195 #[.val (.int p0), .val (.int p1), .val (.int p2), .val (.int p3), .val (.int p4), .val (.int p5), .val (.ref b1), .val (.int of), .val (.int ln), .val (.int en), .val (.ref b12), .val (.int (own_sk y en 5 of)), .val (.int (1 : Int32)), .val (.int (1 : Int32)), .val (.int (own_sk y en 5 ((own_sk y en 5 of) + (1 : Int32)))), .val (.int (own_at y en (own_sk y en 5 ((own_sk y en 5 of) + (1 : Int32))))), .val (.int (1 : Int32)), .unset] [(.int (1 : Int32))]) (fun tt0 kk0 => XS.iload X28.here hx rfl (hb hby at_193) rfl kk0) ?_
      refine Go.of (mkF m 197 #[.val (.int p0), .val (.int p1), .val (.int p2), .val (.int p3), .val (.int p4), .val (.int p5), .val (.ref b1), .val (.int of), .val (.int ln), .val (.int en), .val (.ref b12), .val (.int (own_sk y en 5 of)), .val (.int (1 : Int32)), .val (.int (1 : Int32)), .val (.int (own_sk y en 5 ((own_sk y en 5 of) + (1 : Int32)))), .val (.int (own_at y en (own_sk y en 5 ((own_sk y en 5 of) + (1 : Int32))))), .val (.int (1 : Int32)), .unset] [(.int (own_at y en (own_sk y en 5 ((own_sk y en 5 of) + (1 : Int32))))), (.int (1 : Int32))]) (fun tt0 kk0 => XS.iload X28.here hx rfl (hb hby at_195) rfl kk0) ?_
      refine Go.of (mkF m 199 #[.val (.int p0), .val (.int p1), .val (.int p2), .val (.int p3), .val (.int p4), .val (.int p5), .val (.ref b1), .val (.int of), .val (.int ln), .val (.int en), .val (.ref b12), .val (.int (own_sk y en 5 of)), .val (.int (1 : Int32)), .val (.int (1 : Int32)), .val (.int (own_sk y en 5 ((own_sk y en 5 of) + (1 : Int32)))), .val (.int (own_at y en (own_sk y en 5 ((own_sk y en 5 of) + (1 : Int32))))), .val (.int (1 : Int32)), .unset] [(.int (93 : Int32)), (.int (own_at y en (own_sk y en 5 ((own_sk y en 5 of) + (1 : Int32))))), (.int (1 : Int32))]) (fun tt0 kk0 => XS.bipush X28.here hx rfl (hb hby at_197) kk0) ?_
      refine Go.of (mkF m 202 #[.val (.int p0), .val (.int p1), .val (.int p2), .val (.int p3), .val (.int p4), .val (.int p5), .val (.ref b1), .val (.int of), .val (.int ln), .val (.int en), .val (.ref b12), .val (.int (own_sk y en 5 of)), .val (.int (1 : Int32)), .val (.int (1 : Int32)), .val (.int (own_sk y en 5 ((own_sk y en 5 of) + (1 : Int32)))), .val (.int (own_at y en (own_sk y en 5 ((own_sk y en 5 of) + (1 : Int32))))), .val (.int (1 : Int32)), .unset] [(.int (1 : Int32))]) (fun tt0 kk0 => XS.icmpNo X28.here hx rfl (hb hby at_199) rfl (feq hn188).1 kk0) ?_
      refine Go.of (mkF m 203 #[.val (.int p0), .val (.int p1), .val (.int p2), .val (.int p3), .val (.int p4), .val (.int p5), .val (.ref b1), .val (.int of), .val (.int ln), .val (.int en), .val (.ref b12), .val (.int (own_sk y en 5 of)), .val (.int (1 : Int32)), .val (.int (1 : Int32)), .val (.int (own_sk y en 5 ((own_sk y en 5 of) + (1 : Int32)))), .val (.int (own_at y en (own_sk y en 5 ((own_sk y en 5 of) + (1 : Int32))))), .val (.int (1 : Int32)), .unset] [(.int (1 : Int32)), (.int (1 : Int32))]) (fun tt0 kk0 => XS.iconst X28.here hx rfl (hb hby at_202) kk0) ?_
      refine Go.of (mkF m 207 #[.val (.int p0), .val (.int p1), .val (.int p2), .val (.int p3), .val (.int p4), .val (.int p5), .val (.ref b1), .val (.int of), .val (.int ln), .val (.int en), .val (.ref b12), .val (.int (own_sk y en 5 of)), .val (.int (1 : Int32)), .val (.int (1 : Int32)), .val (.int (own_sk y en 5 ((own_sk y en 5 of) + (1 : Int32)))), .val (.int (own_at y en (own_sk y en 5 ((own_sk y en 5 of) + (1 : Int32))))), .val (.int (1 : Int32)), .unset] [(.int (1 : Int32)), (.int (1 : Int32))]) (fun tt0 kk0 => XS.goto X28.here hx rfl (pc0 := 203) (pc' := 207) rfl (hb hby at_203) (by decide) (by decide) kk0) ?_
      refine Go.of (mkF m 212 #[.val (.int p0), .val (.int p1), .val (.int p2), .val (.int p3), .val (.int p4), .val (.int p5), .val (.ref b1), .val (.int of), .val (.int ln), .val (.int en), .val (.ref b12), .val (.int (own_sk y en 5 of)), .val (.int (1 : Int32)), .val (.int (1 : Int32)), .val (.int (own_sk y en 5 ((own_sk y en 5 of) + (1 : Int32)))), .val (.int (own_at y en (own_sk y en 5 ((own_sk y en 5 of) + (1 : Int32))))), .val (.int (1 : Int32)), .unset] []) (fun tt0 kk0 => XS.icmpYes X28.here hx rfl (pc0 := 207) (pc' := 212) rfl (hb hby at_207) rfl (teq (by decide)).1 (by decide) (by decide) kk0) ?_
      refine Go.of (mkF m 214 #[.val (.int p0), .val (.int p1), .val (.int p2), .val (.int p3), .val (.int p4), .val (.int p5), .val (.ref b1), .val (.int of), .val (.int ln), .val (.int en), .val (.ref b12), .val (.int (own_sk y en 5 of)), .val (.int (1 : Int32)), .val (.int (1 : Int32)), .val (.int (own_sk y en 5 ((own_sk y en 5 of) + (1 : Int32)))), .val (.int (own_at y en (own_sk y en 5 ((own_sk y en 5 of) + (1 : Int32))))), .val (.int (1 : Int32)), .unset] [(.int (1 : Int32))]) (fun tt0 kk0 => XS.iload X28.here hx rfl (hb hby at_212) rfl kk0) ?_
      refine Go.of (mkF m 263 #[.val (.int p0), .val (.int p1), .val (.int p2), .val (.int p3), .val (.int p4), .val (.int p5), .val (.ref b1), .val (.int of), .val (.int ln), .val (.int en), .val (.ref b12), .val (.int (own_sk y en 5 of)), .val (.int (1 : Int32)), .val (.int (1 : Int32)), .val (.int (own_sk y en 5 ((own_sk y en 5 of) + (1 : Int32)))), .val (.int (own_at y en (own_sk y en 5 ((own_sk y en 5 of) + (1 : Int32))))), .val (.int (1 : Int32)), .unset] []) (fun tt0 kk0 => XS.ifYes X28.here hx rfl (pc0 := 214) (pc' := 263) rfl (hb hby at_214) rfl ((if0 _ _).trans (feq (by decide)).2) (by decide) (by decide) kk0) ?_
      refine Go.of (mkF m 265 #[.val (.int p0), .val (.int p1), .val (.int p2), .val (.int p3), .val (.int p4), .val (.int p5), .val (.ref b1), .val (.int of), .val (.int ln), .val (.int en), .val (.ref b12), .val (.int (own_sk y en 5 of)), .val (.int (1 : Int32)), .val (.int (1 : Int32)), .val (.int (own_sk y en 5 ((own_sk y en 5 of) + (1 : Int32)))), .val (.int (own_at y en (own_sk y en 5 ((own_sk y en 5 of) + (1 : Int32))))), .val (.int (1 : Int32)), .unset] [(.ref b12)]) (fun tt0 kk0 => XS.aload X28.here hx rfl (hb hby at_263) rfl rfl kk0) ?_
      by_cases hb265 : (own_at y en (own_sk y en 5 ((own_sk y en 5 of) + (1 : Int32)))) = (91 : Int32)
      ·
        refine Go.virt X28 hx hZ (y := (⟨"com/example/tidemark/tidemark/io/JsonBytes", "beginArray", "()Z"⟩ : MethodName)) (z := (⟨"com/example/tidemark/tidemark/io/JsonBytes", "beginArray", "()Z"⟩ : MethodName)) (a := b12) (argsL := []) (rest := []) hown (tw107 hw) (tw108 hw) (notFace_of_selects (args := #[]) (mvT hZ (tw110 hw))) (tw110 hw) (tw109 hw) (tw8 hw) (tw111 hw) (by decide) rfl A12 (rmBA1 l Z a0 hw [] b12 b1 (5 : Int32) en (own_sk y en 5 ((own_sk y en 5 of) + (1 : Int32))) (1 : Int32) (0 : Int32) y T28.heap n0 hz A12 gb_b12 (Ne.symm ne_b1_b12) Fb_28 Fe_28 Fp_28 Fd_28 Fs_28 VY (own_sk_ok 5 (own_next (own_sk_ok 5 hok) hc117 (by decide))) (by decide) (by rw [own_sk2 (own_next (own_sk_ok 5 hok) hc117 (by decide)) (own_room (own_next (own_sk_ok 5 hok) hc117 (by decide)) (by decide))]; exact hb265) (by decide)) (g := (mkF m 265 #[.val (.int p0), .val (.int p1), .val (.int p2), .val (.int p3), .val (.int p4), .val (.int p5), .val (.ref b1), .val (.int of), .val (.int ln), .val (.int en), .val (.ref b12), .val (.int (own_sk y en 5 of)), .val (.int (1 : Int32)), .val (.int (1 : Int32)), .val (.int (own_sk y en 5 ((own_sk y en 5 of) + (1 : Int32)))), .val (.int (own_at y en (own_sk y en 5 ((own_sk y en 5 of) + (1 : Int32))))), .val (.int (1 : Int32)), .unset] [(.ref b12)])) rfl (by rw [hml]; rfl) (lenOf pd32 rfl) rfl (W := 0) (by show 2 * 0 + _ ≤ _; exact Nat.le_of_eq rfl) (hb hby at_265) (by decide) (by decide) (by decide) (by decide) ?_
        rintro T29 L29 v29 X29 ⟨rfl, NL29, K29, Fb_29, Fe_29, Fp_29, Fd_29, Fs_29⟩
        have N29 := Fr.app N28 NL29
        replace S1 := Sta.keep S1 K29 (allS (exa_ns A12) (all0))
        replace S2 := Sta.keep S2 K29 (allS (exa_ns A12) (all0))
        replace En := En.keep K29
        replace Q1 := Q1.keep K29
        replace A12 := A12.keep K29
        replace A13 := A13.keep K29
        replace Q14 := Q14.keep K29
        replace U_b14 := U_b14.keep K29
        replace VY := VY.keep K29 (ninS ne_b1_b12 nin0)
        replace V_b14 := V_b14.keep K29 (ninS (Ne.symm ne_b12_b14) nin0)
        replace hz := Nat.le_trans hz K29.1
        show Go pr ev below _ T29 (mkF m 268 #[.val (.int p0), .val (.int p1), .val (.int p2), .val (.int p3), .val (.int p4), .val (.int p5), .val (.ref b1), .val (.int of), .val (.int ln), .val (.int en), .val (.ref b12), .val (.int (own_sk y en 5 of)), .val (.int (1 : Int32)), .val (.int (1 : Int32)), .val (.int (own_sk y en 5 ((own_sk y en 5 of) + (1 : Int32)))), .val (.int (own_at y en (own_sk y en 5 ((own_sk y en 5 of) + (1 : Int32))))), .val (.int (1 : Int32)), .unset] [(.int (1 : Int32))])
        rw [own_sk2 (own_next (own_sk_ok 5 hok) hc117 (by decide)) (own_room (own_next (own_sk_ok 5 hok) hc117 (by decide)) (by decide))] at Fp_29
        rw [show (1 : Int32) + 1 = (2 : Int32) from by decide] at Fd_29
        refine Go.of (mkF m 270 #[.val (.int p0), .val (.int p1), .val (.int p2), .val (.int p3), .val (.int p4), .val (.int p5), .val (.ref b1), .val (.int of), .val (.int ln), .val (.int en), .val (.ref b12), .val (.int (own_sk y en 5 of)), .val (.int (1 : Int32)), .val (.int (1 : Int32)), .val (.int (own_sk y en 5 ((own_sk y en 5 of) + (1 : Int32)))), .val (.int (own_at y en (own_sk y en 5 ((own_sk y en 5 of) + (1 : Int32))))), .val (.int (1 : Int32)), .unset] [(.int (own_at y en (own_sk y en 5 ((own_sk y en 5 of) + (1 : Int32))))), (.int (1 : Int32))]) (fun tt0 kk0 => XS.iload X29.here hx rfl (hb hby at_268) rfl kk0) ?_
        refine Go.of (mkF m 272 #[.val (.int p0), .val (.int p1), .val (.int p2), .val (.int p3), .val (.int p4), .val (.int p5), .val (.ref b1), .val (.int of), .val (.int ln), .val (.int en), .val (.ref b12), .val (.int (own_sk y en 5 of)), .val (.int (1 : Int32)), .val (.int (1 : Int32)), .val (.int (own_sk y en 5 ((own_sk y en 5 of) + (1 : Int32)))), .val (.int (own_at y en (own_sk y en 5 ((own_sk y en 5 of) + (1 : Int32))))), .val (.int (1 : Int32)), .unset] [(.int (91 : Int32)), (.int (own_at y en (own_sk y en 5 ((own_sk y en 5 of) + (1 : Int32))))), (.int (1 : Int32))]) (fun tt0 kk0 => XS.bipush X29.here hx rfl (hb hby at_270) kk0) ?_
        refine Go.of (mkF m 275 #[.val (.int p0), .val (.int p1), .val (.int p2), .val (.int p3), .val (.int p4), .val (.int p5), .val (.ref b1), .val (.int of), .val (.int ln), .val (.int en), .val (.ref b12), .val (.int (own_sk y en 5 of)), .val (.int (1 : Int32)), .val (.int (1 : Int32)), .val (.int (own_sk y en 5 ((own_sk y en 5 of) + (1 : Int32)))), .val (.int (own_at y en (own_sk y en 5 ((own_sk y en 5 of) + (1 : Int32))))), .val (.int (1 : Int32)), .unset] [(.int (1 : Int32))]) (fun tt0 kk0 => XS.icmpNo X29.here hx rfl (hb hby at_272) rfl (teq hb265).2 kk0) ?_
        refine Go.of (mkF m 276 #[.val (.int p0), .val (.int p1), .val (.int p2), .val (.int p3), .val (.int p4), .val (.int p5), .val (.ref b1), .val (.int of), .val (.int ln), .val (.int en), .val (.ref b12), .val (.int (own_sk y en 5 of)), .val (.int (1 : Int32)), .val (.int (1 : Int32)), .val (.int (own_sk y en 5 ((own_sk y en 5 of) + (1 : Int32)))), .val (.int (own_at y en (own_sk y en 5 ((own_sk y en 5 of) + (1 : Int32))))), .val (.int (1 : Int32)), .unset] [(.int (1 : Int32)), (.int (1 : Int32))]) (fun tt0 kk0 => XS.iconst X29.here hx rfl (hb hby at_275) kk0) ?_
        refine Go.of (mkF m 280 #[.val (.int p0), .val (.int p1), .val (.int p2), .val (.int p3), .val (.int p4), .val (.int p5), .val (.ref b1), .val (.int of), .val (.int ln), .val (.int en), .val (.ref b12), .val (.int (own_sk y en 5 of)), .val (.int (1 : Int32)), .val (.int (1 : Int32)), .val (.int (own_sk y en 5 ((own_sk y en 5 of) + (1 : Int32)))), .val (.int (own_at y en (own_sk y en 5 ((own_sk y en 5 of) + (1 : Int32))))), .val (.int (1 : Int32)), .unset] [(.int (1 : Int32)), (.int (1 : Int32))]) (fun tt0 kk0 => XS.goto X29.here hx rfl (pc0 := 276) (pc' := 280) rfl (hb hby at_276) (by decide) (by decide) kk0) ?_
        refine Go.of (mkF m 283 #[.val (.int p0), .val (.int p1), .val (.int p2), .val (.int p3), .val (.int p4), .val (.int p5), .val (.ref b1), .val (.int of), .val (.int ln), .val (.int en), .val (.ref b12), .val (.int (own_sk y en 5 of)), .val (.int (1 : Int32)), .val (.int (1 : Int32)), .val (.int (own_sk y en 5 ((own_sk y en 5 of) + (1 : Int32)))), .val (.int (own_at y en (own_sk y en 5 ((own_sk y en 5 of) + (1 : Int32))))), .val (.int (1 : Int32)), .unset] []) (fun tt0 kk0 => XS.icmpNo X29.here hx rfl (hb hby at_280) rfl (teq (by decide)).2 kk0) ?_
        refine Go.of (mkF m 284 #[.val (.int p0), .val (.int p1), .val (.int p2), .val (.int p3), .val (.int p4), .val (.int p5), .val (.ref b1), .val (.int of), .val (.int ln), .val (.int en), .val (.ref b12), .val (.int (own_sk y en 5 of)), .val (.int (1 : Int32)), .val (.int (1 : Int32)), .val (.int (own_sk y en 5 ((own_sk y en 5 of) + (1 : Int32)))), .val (.int (own_at y en (own_sk y en 5 ((own_sk y en 5 of) + (1 : Int32))))), .val (.int (1 : Int32)), .unset] [(.int (1 : Int32))]) (fun tt0 kk0 => XS.iconst X29.here hx rfl (hb hby at_283) kk0) ?_
        refine Go.of (mkF m 288 #[.val (.int p0), .val (.int p1), .val (.int p2), .val (.int p3), .val (.int p4), .val (.int p5), .val (.ref b1), .val (.int of), .val (.int ln), .val (.int en), .val (.ref b12), .val (.int (own_sk y en 5 of)), .val (.int (1 : Int32)), .val (.int (1 : Int32)), .val (.int (own_sk y en 5 ((own_sk y en 5 of) + (1 : Int32)))), .val (.int (own_at y en (own_sk y en 5 ((own_sk y en 5 of) + (1 : Int32))))), .val (.int (1 : Int32)), .unset] [(.int (1 : Int32))]) (fun tt0 kk0 => XS.goto X29.here hx rfl (pc0 := 284) (pc' := 288) rfl (hb hby at_284) (by decide) (by decide) kk0) ?_
        exact Go.retW X29 hx (t := .boolean) hret hlk rfl (Or.inl ⟨rfl, by simp, _, rfl⟩) (hb hby at_288) (by decide) (by decide) ⟨rfl, N29⟩
      ·
        refine Go.virt X28 hx hZ (y := (⟨"com/example/tidemark/tidemark/io/JsonBytes", "beginArray", "()Z"⟩ : MethodName)) (z := (⟨"com/example/tidemark/tidemark/io/JsonBytes", "beginArray", "()Z"⟩ : MethodName)) (a := b12) (argsL := []) (rest := []) hown (tw107 hw) (tw108 hw) (notFace_of_selects (args := #[]) (mvT hZ (tw110 hw))) (tw110 hw) (tw109 hw) (tw8 hw) (tw111 hw) (by decide) rfl A12 (rmBA0 l Z a0 hw [] b12 b1 (5 : Int32) en (own_sk y en 5 ((own_sk y en 5 of) + (1 : Int32))) (1 : Int32) (0 : Int32) y T28.heap n0 hz A12 gb_b12 (Ne.symm ne_b1_b12) Fb_28 Fe_28 Fp_28 Fd_28 Fs_28 VY (own_sk_ok 5 (own_next (own_sk_ok 5 hok) hc117 (by decide))) (by decide) (by rw [own_sk2 (own_next (own_sk_ok 5 hok) hc117 (by decide)) (own_room (own_next (own_sk_ok 5 hok) hc117 (by decide)) (by decide))]; exact hb265)) (g := (mkF m 265 #[.val (.int p0), .val (.int p1), .val (.int p2), .val (.int p3), .val (.int p4), .val (.int p5), .val (.ref b1), .val (.int of), .val (.int ln), .val (.int en), .val (.ref b12), .val (.int (own_sk y en 5 of)), .val (.int (1 : Int32)), .val (.int (1 : Int32)), .val (.int (own_sk y en 5 ((own_sk y en 5 of) + (1 : Int32)))), .val (.int (own_at y en (own_sk y en 5 ((own_sk y en 5 of) + (1 : Int32))))), .val (.int (1 : Int32)), .unset] [(.ref b12)])) rfl (by rw [hml]; rfl) (lenOf pd32 rfl) rfl (W := 0) (by show 2 * 0 + _ ≤ _; exact Nat.le_of_eq rfl) (hb hby at_265) (by decide) (by decide) (by decide) (by decide) ?_
        rintro T30 L30 v30 X30 ⟨rfl, NL30, K30, Fb_30, Fe_30, Fp_30, Fd_30, Fs_30⟩
        have N30 := Fr.app N28 NL30
        replace S1 := Sta.keep S1 K30 (allS (exa_ns A12) (all0))
        replace S2 := Sta.keep S2 K30 (allS (exa_ns A12) (all0))
        replace En := En.keep K30
        replace Q1 := Q1.keep K30
        replace A12 := A12.keep K30
        replace A13 := A13.keep K30
        replace Q14 := Q14.keep K30
        replace U_b14 := U_b14.keep K30
        replace VY := VY.keep K30 (ninS ne_b1_b12 nin0)
        replace V_b14 := V_b14.keep K30 (ninS (Ne.symm ne_b12_b14) nin0)
        replace hz := Nat.le_trans hz K30.1
        show Go pr ev below _ T30 (mkF m 268 #[.val (.int p0), .val (.int p1), .val (.int p2), .val (.int p3), .val (.int p4), .val (.int p5), .val (.ref b1), .val (.int of), .val (.int ln), .val (.int en), .val (.ref b12), .val (.int (own_sk y en 5 of)), .val (.int (1 : Int32)), .val (.int (1 : Int32)), .val (.int (own_sk y en 5 ((own_sk y en 5 of) + (1 : Int32)))), .val (.int (own_at y en (own_sk y en 5 ((own_sk y en 5 of) + (1 : Int32))))), .val (.int (1 : Int32)), .unset] [(.int (0 : Int32))])
        rw [own_sk2 (own_next (own_sk_ok 5 hok) hc117 (by decide)) (own_room (own_next (own_sk_ok 5 hok) hc117 (by decide)) (by decide))] at Fp_30
        refine Go.of (mkF m 270 #[.val (.int p0), .val (.int p1), .val (.int p2), .val (.int p3), .val (.int p4), .val (.int p5), .val (.ref b1), .val (.int of), .val (.int ln), .val (.int en), .val (.ref b12), .val (.int (own_sk y en 5 of)), .val (.int (1 : Int32)), .val (.int (1 : Int32)), .val (.int (own_sk y en 5 ((own_sk y en 5 of) + (1 : Int32)))), .val (.int (own_at y en (own_sk y en 5 ((own_sk y en 5 of) + (1 : Int32))))), .val (.int (1 : Int32)), .unset] [(.int (own_at y en (own_sk y en 5 ((own_sk y en 5 of) + (1 : Int32))))), (.int (0 : Int32))]) (fun tt0 kk0 => XS.iload X30.here hx rfl (hb hby at_268) rfl kk0) ?_
        refine Go.of (mkF m 272 #[.val (.int p0), .val (.int p1), .val (.int p2), .val (.int p3), .val (.int p4), .val (.int p5), .val (.ref b1), .val (.int of), .val (.int ln), .val (.int en), .val (.ref b12), .val (.int (own_sk y en 5 of)), .val (.int (1 : Int32)), .val (.int (1 : Int32)), .val (.int (own_sk y en 5 ((own_sk y en 5 of) + (1 : Int32)))), .val (.int (own_at y en (own_sk y en 5 ((own_sk y en 5 of) + (1 : Int32))))), .val (.int (1 : Int32)), .unset] [(.int (91 : Int32)), (.int (own_at y en (own_sk y en 5 ((own_sk y en 5 of) + (1 : Int32))))), (.int (0 : Int32))]) (fun tt0 kk0 => XS.bipush X30.here hx rfl (hb hby at_270) kk0) ?_
        refine Go.of (mkF m 279 #[.val (.int p0), .val (.int p1), .val (.int p2), .val (.int p3), .val (.int p4), .val (.int p5), .val (.ref b1), .val (.int of), .val (.int ln), .val (.int en), .val (.ref b12), .val (.int (own_sk y en 5 of)), .val (.int (1 : Int32)), .val (.int (1 : Int32)), .val (.int (own_sk y en 5 ((own_sk y en 5 of) + (1 : Int32)))), .val (.int (own_at y en (own_sk y en 5 ((own_sk y en 5 of) + (1 : Int32))))), .val (.int (1 : Int32)), .unset] [(.int (0 : Int32))]) (fun tt0 kk0 => XS.icmpYes X30.here hx rfl (pc0 := 272) (pc' := 279) rfl (hb hby at_272) rfl (feq hb265).2 (by decide) (by decide) kk0) ?_
        refine Go.of (mkF m 280 #[.val (.int p0), .val (.int p1), .val (.int p2), .val (.int p3), .val (.int p4), .val (.int p5), .val (.ref b1), .val (.int of), .val (.int ln), .val (.int en), .val (.ref b12), .val (.int (own_sk y en 5 of)), .val (.int (1 : Int32)), .val (.int (1 : Int32)), .val (.int (own_sk y en 5 ((own_sk y en 5 of) + (1 : Int32)))), .val (.int (own_at y en (own_sk y en 5 ((own_sk y en 5 of) + (1 : Int32))))), .val (.int (1 : Int32)), .unset] [(.int (0 : Int32)), (.int (0 : Int32))]) (fun tt0 kk0 => XS.iconst X30.here hx rfl (hb hby at_279) kk0) ?_
        refine Go.of (mkF m 283 #[.val (.int p0), .val (.int p1), .val (.int p2), .val (.int p3), .val (.int p4), .val (.int p5), .val (.ref b1), .val (.int of), .val (.int ln), .val (.int en), .val (.ref b12), .val (.int (own_sk y en 5 of)), .val (.int (1 : Int32)), .val (.int (1 : Int32)), .val (.int (own_sk y en 5 ((own_sk y en 5 of) + (1 : Int32)))), .val (.int (own_at y en (own_sk y en 5 ((own_sk y en 5 of) + (1 : Int32))))), .val (.int (1 : Int32)), .unset] []) (fun tt0 kk0 => XS.icmpNo X30.here hx rfl (hb hby at_280) rfl (teq (by decide)).2 kk0) ?_
        refine Go.of (mkF m 284 #[.val (.int p0), .val (.int p1), .val (.int p2), .val (.int p3), .val (.int p4), .val (.int p5), .val (.ref b1), .val (.int of), .val (.int ln), .val (.int en), .val (.ref b12), .val (.int (own_sk y en 5 of)), .val (.int (1 : Int32)), .val (.int (1 : Int32)), .val (.int (own_sk y en 5 ((own_sk y en 5 of) + (1 : Int32)))), .val (.int (own_at y en (own_sk y en 5 ((own_sk y en 5 of) + (1 : Int32))))), .val (.int (1 : Int32)), .unset] [(.int (1 : Int32))]) (fun tt0 kk0 => XS.iconst X30.here hx rfl (hb hby at_283) kk0) ?_
        refine Go.of (mkF m 288 #[.val (.int p0), .val (.int p1), .val (.int p2), .val (.int p3), .val (.int p4), .val (.int p5), .val (.ref b1), .val (.int of), .val (.int ln), .val (.int en), .val (.ref b12), .val (.int (own_sk y en 5 of)), .val (.int (1 : Int32)), .val (.int (1 : Int32)), .val (.int (own_sk y en 5 ((own_sk y en 5 of) + (1 : Int32)))), .val (.int (own_at y en (own_sk y en 5 ((own_sk y en 5 of) + (1 : Int32))))), .val (.int (1 : Int32)), .unset] [(.int (1 : Int32))]) (fun tt0 kk0 => XS.goto X30.here hx rfl (pc0 := 284) (pc' := 288) rfl (hb hby at_284) (by decide) (by decide) kk0) ?_
        exact Go.retW X30 hx (t := .boolean) hret hlk rfl (Or.inl ⟨rfl, by simp, _, rfl⟩) (hb hby at_288) (by decide) (by decide) ⟨rfl, N30⟩
  ·
    refine Go.of (mkF m 124 #[.val (.int p0), .val (.int p1), .val (.int p2), .val (.int p3), .val (.int p4), .val (.int p5), .val (.ref b1), .val (.int of), .val (.int ln), .val (.int en), .val (.ref b12), .val (.int (own_sk y en 5 of)), .unset, .unset, .unset, .unset, .unset, .unset] []) (fun tt0 kk0 => XS.icmpYes X18.here hx rfl (pc0 := 117) (pc' := 124) rfl (hb hby at_117) rfl (feq hc117).2 (by decide) (by decide) kk0) ?_
    refine Go.of (mkF m 125 #[.val (.int p0), .val (.int p1), .val (.int p2), .val (.int p3), .val (.int p4), .val (.int p5), .val (.ref b1), .val (.int of), .val (.int ln), .val (.int en), .val (.ref b12), .val (.int (own_sk y en 5 of)), .unset, .unset, .unset, .unset, .unset, .unset] [(.int (0 : Int32))]) (fun tt0 kk0 => XS.iconst X18.here hx rfl (hb hby at_124) kk0) ?_
    refine Go.of (mkF m 127 #[.val (.int p0), .val (.int p1), .val (.int p2), .val (.int p3), .val (.int p4), .val (.int p5), .val (.ref b1), .val (.int of), .val (.int ln), .val (.int en), .val (.ref b12), .val (.int (own_sk y en 5 of)), .val (.int (0 : Int32)), .unset, .unset, .unset, .unset, .unset] []) (fun tt0 kk0 => XS.istore X18.here hx rfl (hb hby at_125) rfl (l' := #[.val (.int p0), .val (.int p1), .val (.int p2), .val (.int p3), .val (.int p4), .val (.int p5), .val (.ref b1), .val (.int of), .val (.int ln), .val (.int en), .val (.ref b12), .val (.int (own_sk y en 5 of)), .val (.int (0 : Int32)), .unset, .unset, .unset, .unset, .unset]) rfl kk0) ?_
    refine Go.of (mkF m 129 #[.val (.int p0), .val (.int p1), .val (.int p2), .val (.int p3), .val (.int p4), .val (.int p5), .val (.ref b1), .val (.int of), .val (.int ln), .val (.int en), .val (.ref b12), .val (.int (own_sk y en 5 of)), .val (.int (0 : Int32)), .unset, .unset, .unset, .unset, .unset] [(.ref b12)]) (fun tt0 kk0 => XS.aload X18.here hx rfl (hb hby at_127) rfl rfl kk0) ?_
    refine Go.virt X18 hx hZ (y := (⟨"com/example/tidemark/tidemark/io/JsonBytes", "beginArray", "()Z"⟩ : MethodName)) (z := (⟨"com/example/tidemark/tidemark/io/JsonBytes", "beginArray", "()Z"⟩ : MethodName)) (a := b12) (argsL := []) (rest := []) hown (tw107 hw) (tw108 hw) (notFace_of_selects (args := #[]) (mvT hZ (tw110 hw))) (tw110 hw) (tw109 hw) (tw8 hw) (tw111 hw) (by decide) hh18 A12 (rmBA0 l Z a0 hw [] b12 b1 (5 : Int32) en of (0 : Int32) (0 : Int32) y T16.heap n0 hz A12 gb_b12 (Ne.symm ne_b1_b12) Fb_16 Fe_16 Fp_16 Fd_16 Fs_16 VY hok (by decide) hc117) (g := (mkF m 129 #[.val (.int p0), .val (.int p1), .val (.int p2), .val (.int p3), .val (.int p4), .val (.int p5), .val (.ref b1), .val (.int of), .val (.int ln), .val (.int en), .val (.ref b12), .val (.int (own_sk y en 5 of)), .val (.int (0 : Int32)), .unset, .unset, .unset, .unset, .unset] [(.ref b12)])) rfl (by rw [hml]; rfl) (lenOf pd32 rfl) rfl (W := 0) (by show 2 * 0 + _ ≤ _; exact Nat.le_of_eq rfl) (hb hby at_129) (by decide) (by decide) (by decide) (by decide) ?_
    rintro T31 L31 v31 X31 ⟨rfl, NL31, K31, Fb_31, Fe_31, Fp_31, Fd_31, Fs_31⟩
    have N31 := Fr.app N18 NL31
    replace S1 := Sta.keep S1 K31 (allS (exa_ns A12) (all0))
    replace S2 := Sta.keep S2 K31 (allS (exa_ns A12) (all0))
    replace En := En.keep K31
    replace Q1 := Q1.keep K31
    replace A12 := A12.keep K31
    replace A13 := A13.keep K31
    replace Q14 := Q14.keep K31
    replace U_b14 := U_b14.keep K31
    replace VY := VY.keep K31 (ninS ne_b1_b12 nin0)
    replace V_b14 := V_b14.keep K31 (ninS (Ne.symm ne_b12_b14) nin0)
    replace hz := Nat.le_trans hz K31.1
    show Go pr ev below _ T31 (mkF m 132 #[.val (.int p0), .val (.int p1), .val (.int p2), .val (.int p3), .val (.int p4), .val (.int p5), .val (.ref b1), .val (.int of), .val (.int ln), .val (.int en), .val (.ref b12), .val (.int (own_sk y en 5 of)), .val (.int (0 : Int32)), .unset, .unset, .unset, .unset, .unset] [(.int (0 : Int32))])
    refine Go.of (mkF m 134 #[.val (.int p0), .val (.int p1), .val (.int p2), .val (.int p3), .val (.int p4), .val (.int p5), .val (.ref b1), .val (.int of), .val (.int ln), .val (.int en), .val (.ref b12), .val (.int (own_sk y en 5 of)), .val (.int (0 : Int32)), .val (.int (0 : Int32)), .unset, .unset, .unset, .unset] []) (fun tt0 kk0 => XS.istore X31.here hx rfl (hb hby at_132) rfl (l' := #[.val (.int p0), .val (.int p1), .val (.int p2), .val (.int p3), .val (.int p4), .val (.int p5), .val (.ref b1), .val (.int of), .val (.int ln), .val (.int en), .val (.ref b12), .val (.int (own_sk y en 5 of)), .val (.int (0 : Int32)), .val (.int (0 : Int32)), .unset, .unset, .unset, .unset]) rfl kk0) ?_
    refine Go.of (mkF m 136 #[.val (.int p0), .val (.int p1), .val (.int p2), .val (.int p3), .val (.int p4), .val (.int p5), .val (.ref b1), .val (.int of), .val (.int ln), .val (.int en), .val (.ref b12), .val (.int (own_sk y en 5 of)), .val (.int (0 : Int32)), .val (.int (0 : Int32)), .unset, .unset, .unset, .unset] [(.int (0 : Int32))]) (fun tt0 kk0 => XS.iload X31.here hx rfl (hb hby at_134) rfl kk0) ?_
    refine Go.of (mkF m 138 #[.val (.int p0), .val (.int p1), .val (.int p2), .val (.int p3), .val (.int p4), .val (.int p5), .val (.ref b1), .val (.int of), .val (.int ln), .val (.int en), .val (.ref b12), .val (.int (own_sk y en 5 of)), .val (.int (0 : Int32)), .val (.int (0 : Int32)), .unset, .unset, .unset, .unset] [(.int (0 : Int32)), (.int (0 : Int32))]) (fun tt0 kk0 => XS.iload X31.here hx rfl (hb hby at_136) rfl kk0) ?_
    refine Go.of (mkF m 143 #[.val (.int p0), .val (.int p1), .val (.int p2), .val (.int p3), .val (.int p4), .val (.int p5), .val (.ref b1), .val (.int of), .val (.int ln), .val (.int en), .val (.ref b12), .val (.int (own_sk y en 5 of)), .val (.int (0 : Int32)), .val (.int (0 : Int32)), .unset, .unset, .unset, .unset] []) (fun tt0 kk0 => XS.icmpYes X31.here hx rfl (pc0 := 138) (pc' := 143) rfl (hb hby at_138) rfl (teq (by decide)).1 (by decide) (by decide) kk0) ?_
    refine Go.of (mkF m 145 #[.val (.int p0), .val (.int p1), .val (.int p2), .val (.int p3), .val (.int p4), .val (.int p5), .val (.ref b1), .val (.int of), .val (.int ln), .val (.int en), .val (.ref b12), .val (.int (own_sk y en 5 of)), .val (.int (0 : Int32)), .val (.int (0 : Int32)), .unset, .unset, .unset, .unset] [(.int (0 : Int32))]) (fun tt0 kk0 => XS.iload X31.here hx rfl (hb hby at_143) rfl kk0) ?_
    refine Go.of (mkF m 148 #[.val (.int p0), .val (.int p1), .val (.int p2), .val (.int p3), .val (.int p4), .val (.int p5), .val (.ref b1), .val (.int of), .val (.int ln), .val (.int en), .val (.ref b12), .val (.int (own_sk y en 5 of)), .val (.int (0 : Int32)), .val (.int (0 : Int32)), .unset, .unset, .unset, .unset] []) (fun tt0 kk0 => XS.ifNo X31.here hx rfl (hb hby at_145) rfl ((if0 _ _).trans (teq (by decide)).2) kk0) ?_
    refine Go.of (mkF m 150 #[.val (.int p0), .val (.int p1), .val (.int p2), .val (.int p3), .val (.int p4), .val (.int p5), .val (.ref b1), .val (.int of), .val (.int ln), .val (.int en), .val (.ref b12), .val (.int (own_sk y en 5 of)), .val (.int (0 : Int32)), .val (.int (0 : Int32)), .unset, .unset, .unset, .unset] [(.ref b12)]) (fun tt0 kk0 => XS.aload X31.here hx rfl (hb hby at_148) rfl rfl kk0) ?_
    refine Go.virt X31 hx hZ (y := (⟨"com/example/tidemark/tidemark/io/JsonBytes", "beginArray", "()Z"⟩ : MethodName)) (z := (⟨"com/example/tidemark/tidemark/io/JsonBytes", "beginArray", "()Z"⟩ : MethodName)) (a := b12) (argsL := []) (rest := []) hown (tw107 hw) (tw108 hw) (notFace_of_selects (args := #[]) (mvT hZ (tw110 hw))) (tw110 hw) (tw109 hw) (tw8 hw) (tw111 hw) (by decide) rfl A12 (rmBA0 l Z a0 hw [] b12 b1 (5 : Int32) en (own_sk y en 5 of) (0 : Int32) (0 : Int32) y T31.heap n0 hz A12 gb_b12 (Ne.symm ne_b1_b12) Fb_31 Fe_31 Fp_31 Fd_31 Fs_31 VY (own_sk_ok 5 hok) (by decide) (by rw [own_sk2 hok (own_room hok (by decide))]; exact hc117)) (g := (mkF m 150 #[.val (.int p0), .val (.int p1), .val (.int p2), .val (.int p3), .val (.int p4), .val (.int p5), .val (.ref b1), .val (.int of), .val (.int ln), .val (.int en), .val (.ref b12), .val (.int (own_sk y en 5 of)), .val (.int (0 : Int32)), .val (.int (0 : Int32)), .unset, .unset, .unset, .unset] [(.ref b12)])) rfl (by rw [hml]; rfl) (lenOf pd32 rfl) rfl (W := 0) (by show 2 * 0 + _ ≤ _; exact Nat.le_of_eq rfl) (hb hby at_150) (by decide) (by decide) (by decide) (by decide) ?_
    rintro T32 L32 v32 X32 ⟨rfl, NL32, K32, Fb_32, Fe_32, Fp_32, Fd_32, Fs_32⟩
    have N32 := Fr.app N31 NL32
    replace S1 := Sta.keep S1 K32 (allS (exa_ns A12) (all0))
    replace S2 := Sta.keep S2 K32 (allS (exa_ns A12) (all0))
    replace En := En.keep K32
    replace Q1 := Q1.keep K32
    replace A12 := A12.keep K32
    replace A13 := A13.keep K32
    replace Q14 := Q14.keep K32
    replace U_b14 := U_b14.keep K32
    replace VY := VY.keep K32 (ninS ne_b1_b12 nin0)
    replace V_b14 := V_b14.keep K32 (ninS (Ne.symm ne_b12_b14) nin0)
    replace hz := Nat.le_trans hz K32.1
    show Go pr ev below _ T32 (mkF m 153 #[.val (.int p0), .val (.int p1), .val (.int p2), .val (.int p3), .val (.int p4), .val (.int p5), .val (.ref b1), .val (.int of), .val (.int ln), .val (.int en), .val (.ref b12), .val (.int (own_sk y en 5 of)), .val (.int (0 : Int32)), .val (.int (0 : Int32)), .unset, .unset, .unset, .unset] [(.int (0 : Int32))])
    rw [own_sk2 hok (own_room hok (by decide))] at Fp_32
    refine Go.of (mkF m 156 #[.val (.int p0), .val (.int p1), .val (.int p2), .val (.int p3), .val (.int p4), .val (.int p5), .val (.ref b1), .val (.int of), .val (.int ln), .val (.int en), .val (.ref b12), .val (.int (own_sk y en 5 of)), .val (.int (0 : Int32)), .val (.int (0 : Int32)), .unset, .unset, .unset, .unset] []) (fun tt0 kk0 => XS.ifNo X32.here hx rfl (hb hby at_153) rfl ((if0 _ _).trans (teq (by decide)).2) kk0) ?_
    refine Go.of (mkF m 157 #[.val (.int p0), .val (.int p1), .val (.int p2), .val (.int p3), .val (.int p4), .val (.int p5), .val (.ref b1), .val (.int of), .val (.int ln), .val (.int en), .val (.ref b12), .val (.int (own_sk y en 5 of)), .val (.int (0 : Int32)), .val (.int (0 : Int32)), .unset, .unset, .unset, .unset] [(.int (1 : Int32))]) (fun tt0 kk0 => XS.iconst X32.here hx rfl (hb hby at_156) kk0) ?_
    refine Go.of (mkF m 161 #[.val (.int p0), .val (.int p1), .val (.int p2), .val (.int p3), .val (.int p4), .val (.int p5), .val (.ref b1), .val (.int of), .val (.int ln), .val (.int en), .val (.ref b12), .val (.int (own_sk y en 5 of)), .val (.int (0 : Int32)), .val (.int (0 : Int32)), .unset, .unset, .unset, .unset] [(.int (1 : Int32))]) (fun tt0 kk0 => XS.goto X32.here hx rfl (pc0 := 157) (pc' := 161) rfl (hb hby at_157) (by decide) (by decide) kk0) ?_
    exact Go.retW X32 hx (t := .boolean) hret hlk rfl (Or.inl ⟨rfl, by simp, _, rfl⟩) (hb hby at_161) (by decide) (by decide) ⟨rfl, N32⟩
set_option maxRecDepth 65536 in
set_option maxHeartbeats 40000000 in
theorem comes_1 {Post : Tables → Env → Array Value → State → Outcome → State → Prop} (hpost : ∀ tb e args s v u, (limb_1_1.after args s (.returned v) u = true ∧ limb_1_2.after args s (.returned v) u = true ∧ True) → FrameEnd s (.returned v) u (Jvm.fieldLocs frame_1_writes args s ++ Jvm.arrayLocs frame_1_arrays args s ++ Jvm.staticLocs frame_1_statics s) 24 128 → Post tb e args s (.returned v) u) :
    ArmFor flags0 classFile x code maxLocals ret World_1 tables_1 room_1 Calls_1 rest_1 Pre_1 Post := by
  intro l hfl _ _ p e ha hc hk s m args below hf hA hF happ hP
  obtain ⟨hcalls, hrest, hpre⟩ := hP
  obtain ⟨-, -, -, hnamed, -, -, -, hat⟩ := (Spec.applies_iff hf).mp happ
  obtain ⟨hg, hn⟩ := and_e (Cond.before_iff.mp (show (Jvm.Cond.and given_1 narrow_1).before args s = true from hpre))
  obtain ⟨gc, gr⟩ := and_e hg
  obtain ⟨gi0, gr⟩ := and_e gr
  obtain ⟨gi1, gr⟩ := and_e gr
  obtain ⟨gi2, gr⟩ := and_e gr
  obtain ⟨gi3, gr⟩ := and_e gr
  obtain ⟨gi4, gr⟩ := and_e gr
  have gi5 := gr
  obtain ⟨w0, w1, w2, w3, w4, w5, rfl⟩ : ∃ w0 w1 w2 w3 w4 w5 : Value, args = #[w0, w1, w2, w3, w4, w5] := by
    have hs : args.size = 6 := by simpa [Cond.value, given_1] using gc
    obtain ⟨L⟩ := args
    match L, hs with
    | [w0, w1, w2, w3, w4, w5], _ => exact ⟨w0, w1, w2, w3, w4, w5, rfl⟩
  have hw := fun d (hd : d ∈ tables_1) => atoms_spec (ws := Jvm.Cond.code x code maxLocals ret :: tables_1) hat d (List.mem_cons_of_mem _ hd)
  have hfit : Fit s := fun {y c} hc i hi => by
    obtain ⟨ha, rfl⟩ := Array.getElem?_eq_some_iff.mp hc
    have q := List.all_eq_true.mp ((Array.all_eq_true_iff_forall_mem.mp hF) _ (Array.getElem_mem ha)) i (List.mem_range.mpr hi)
    simpa [Array.getElem?_eq_getElem hi] using q
  obtain ⟨hsets, hown0⟩ := atoms_of _ (rest_1_c_eq ▸ (show rest_1_c.before _ s = true from hrest))
  have hr0 := Cond.before_iff.mp hown0
  obtain ⟨i0, ei0⟩ := is_v gi0
  obtain rfl : w0 = (.int i0) := Option.some.inj ei0
  obtain ⟨i1, ei1⟩ := is_v gi1
  obtain rfl : w1 = (.int i1) := Option.some.inj ei1
  obtain ⟨i2, ei2⟩ := is_v gi2
  obtain rfl : w2 = (.int i2) := Option.some.inj ei2
  obtain ⟨i3, ei3⟩ := is_v gi3
  obtain rfl : w3 = (.int i3) := Option.some.inj ei3
  obtain ⟨i4, ei4⟩ := is_v gi4
  obtain rfl : w4 = (.int i4) := Option.some.inj ei4
  obtain ⟨i5, ei5⟩ := is_v gi5
  obtain rfl : w5 = (.int i5) := Option.some.inj ei5
  obtain ⟨u, qu⟩ := exa_v (Cond.before_iff.mp (hsets _ (List.mem_of_getElem? (i := 2) rfl)))
  have S1 := Sta.start qu (Or.inr ⟨(tw25 hw), hsets _ (List.mem_of_getElem? (i := 0) rfl)⟩)
  obtain ⟨n1, hn⟩ := and_e hn
  obtain ⟨n2, hn⟩ := and_e hn
  obtain ⟨np, qn⟩ := exa_v n2
  have S2 := Sta.start qn (Or.inr ⟨(tw11 hw), (tw37 hw)⟩)
  have En := Exa.start qn n2
  obtain ⟨n, o, h1, h2, h3, _, L, rfl, ⟨rfl, N⟩, hq⟩ := rm0 l s _ hw tables_1 i0 i1 i2 i3 i4 i5 s.heap s.heap.size (Nat.le_refl _) u np S1 S2 En p e ha hc hk s m _ below hf ((Spec.applies_iff_loose hf).mp happ).1 ⟨rfl, State.Warmed39.refl s, rfl⟩ trivial
  refine ⟨n, _, h1, h2, h3, hpost _ _ _ _ _ _ ⟨Cond.after_iff.mpr rfl, Cond.after_iff.mpr (eq_i res_at (Term.int_eval (1)) rfl), trivial⟩ ⟨hq.1, hq.2.1, (hq.2.2.sift fun y hy => Or.inr (N y hy)).mono (by decide) (by decide)⟩⟩
theorem main_1_1 : Claimed_1_1 := comes_1 fun _ _ _ _ _ _ h hF => ⟨h.1, hF⟩
theorem main_1_2 : Claimed_1_2 := comes_1 fun _ _ _ _ _ _ h hF => ⟨h.2.1, hF⟩
end Jvm.Pilot.@@N@@
namespace Jvm.Pilot.@@N@@
open Jvm Jvm.ClassFile Sem Op Lib Jvm.Free Jvm.Stand Jvm.Pilot.@@N@@.Jvm.D
/-! MADE BY PROGRAM (witnessworld.py) out of the Statement's table words and the real class files: 34 classes; the members and pool entries that the words name. The judged class is class 1, her method 6. -/
namespace start1
open Jvm.ClassFile
def u (s : String) : CpInfo := .utf8 (stringToUtf16 s)
/-- a pool by its gaps: so many unusable entries, then the entry; so many at the end -/
def gap : Nat → List CpInfo → List CpInfo
  | 0, r => r
  | n + 1, r => .unusable :: gap n r
def poolList (es : List (Nat × CpInfo)) (last : Nat) : List CpInfo := es.foldr (fun e r => gap e.1 (e.2 :: r)) (gap last [])
def pool (es : List (Nat × CpInfo)) (last : Nat) : Array CpInfo := ⟨poolList es last⟩
def fileOf (pool : Array CpInfo) (this : Nat) (attrs : Array Attribute := #[]) (ms : Array MethodInfo := #[]) (fl : Nat := 33) (sup : Nat := 0) (ifs : Array Nat := #[]) (fds : Array FieldInfo := #[]) : ClassFile where
  minorVersion := 0
  majorVersion := 65
  constantPool := pool
  accessFlags := fl
  thisClass := this
  superClass := sup
  interfaces := ifs
  fields := fds
  methods := ms
  attributes := attrs
def plain (name : String) (sup : Option ClassId) : Class where
  name := name
  kind := .ordinary
  loader := none
  accessFlags := 33
  super := sup
  interfaces := #[]
  cf := none
  fields := #[]
  methods := #[]
  instanceTypes := #[]
  staticTypes := #[]
  resolved := #[]
  callSites := []
  init := .initialized
  statics := none
  mirror := none

def pool0 : Array CpInfo := pool [(5, u "<init>"), (0, u "()V"), (1, .class_ 10), (1, u "java/lang/Object")] 113

def k0c0 : Code := { maxStack := 0, maxLocals := 1, code := object_method_1_code, exceptionTable := #[], attributes := #[] }
def k0m0 : Method := { name := "<init>", desc := "()V", sig := { parameters := [], returnType := none }, accessFlags := 1, code := some k0c0 }
/-- java/lang/Object -/
def k0 : Class := { plain "java/lang/Object" none with
  accessFlags := 33
  interfaces := #[]
  cf := some (fileOf pool0 8 #[] #[{ accessFlags := 1, nameIndex := 5, descriptorIndex := 6, attributes := #[] }] 33 0 #[] #[])
  fields := #[]
  methods := #[k0m0]
  instanceTypes := #[]
  staticTypes := #[]
  resolved := Array.replicate 124 none
  statics := none }

def pool1 : Array CpInfo := pool [(2, .class_ 4), (1, u "java/lang/Object"), (0, u "<init>"), (0, u "()V"), (0, .methodref 8 9), (0, .class_ 10), (0, .nameAndType 11 12), (0, u "com/example/tidemark/tidemark/io/JsonBytesBeginArrayPinLaw"), (0, u "ws"), (0, u "(B)Z"), (0, .methodref 8 14), (0, .nameAndType 15 16), (0, u "step"), (0, u "([BII)I"), (0, .methodref 8 18), (0, .nameAndType 19 20), (0, u "pick"), (0, u "(I)B"), (0, .integer 2147483647), (0, .class_ 23), (0, u "com/example/tidemark/tidemark/io/JsonBytes"), (0, .class_ 25), (0, u "com/example/tidemark/tidemark/io/JsonBytes$Fields"), (0, .class_ 27), (0, u "java/lang/String"), (0, .methodref 24 29), (0, .nameAndType 5 30), (0, u "([Ljava/lang/String;)V"), (0, .methodref 22 32), (0, .nameAndType 5 33), (0, u "([BIILcom/example/tidemark/tidemark/io/JsonBytes$Fields;)V"), (0, .methodref 8 35), (0, .nameAndType 36 16), (0, u "skipWs"), (0, .methodref 8 38), (0, .nameAndType 39 16), (0, u "at"), (0, .methodref 22 41), (0, .nameAndType 42 43), (0, u "beginArray"), (0, u "()Z"), (0, .methodref 22 45), (0, .nameAndType 46 43), (0, u "nextElement"), (3, u "law"), (0, u "(IIIIII)Z")] 6

def k1m0 : Method := { name := "<init>", desc := "()V", sig := { parameters := [], returnType := none }, accessFlags := 1, code := none }
def k1c1 : Code := { maxStack := 2, maxLocals := 2, code := method_2_code, exceptionTable := #[], attributes := #[] }
def k1m1 : Method := { name := "pick", desc := "(I)B", sig := { parameters := [.int], returnType := some .byte }, accessFlags := 10, code := some k1c1 }
def k1c2 : Code := { maxStack := 2, maxLocals := 1, code := method_3_code, exceptionTable := #[], attributes := #[] }
def k1m2 : Method := { name := "ws", desc := "(B)Z", sig := { parameters := [.byte], returnType := some .boolean }, accessFlags := 10, code := some k1c2 }
def k1c3 : Code := { maxStack := 2, maxLocals := 3, code := method_4_code, exceptionTable := #[], attributes := #[] }
def k1m3 : Method := { name := "step", desc := "([BII)I", sig := { parameters := [(.array .byte), .int, .int], returnType := some .int }, accessFlags := 10, code := some k1c3 }
def k1c4 : Code := { maxStack := 3, maxLocals := 4, code := method_5_code, exceptionTable := #[], attributes := #[] }
def k1m4 : Method := { name := "skipWs", desc := "([BII)I", sig := { parameters := [(.array .byte), .int, .int], returnType := some .int }, accessFlags := 10, code := some k1c4 }
def k1c5 : Code := { maxStack := 2, maxLocals := 3, code := method_6_code, exceptionTable := #[], attributes := #[] }
def k1m5 : Method := { name := "at", desc := "([BII)I", sig := { parameters := [(.array .byte), .int, .int], returnType := some .int }, accessFlags := 10, code := some k1c5 }
def k1c6 : Code := { maxStack := 8, maxLocals := 18, code := code, exceptionTable := #[], attributes := #[] }
def k1m6 : Method := { name := "law", desc := "(IIIIII)Z", sig := { parameters := [.int, .int, .int, .int, .int, .int], returnType := some .boolean }, accessFlags := 9, code := some k1c6 }
/-- com/example/tidemark/tidemark/io/JsonBytesBeginArrayPinLaw -/
def k1 : Class := { plain "com/example/tidemark/tidemark/io/JsonBytesBeginArrayPinLaw" (some 0) with
  accessFlags := 49
  interfaces := #[]
  cf := some (fileOf pool1 8 #[] #[{ accessFlags := 1, nameIndex := 5, descriptorIndex := 6, attributes := #[] }, { accessFlags := 10, nameIndex := 19, descriptorIndex := 20, attributes := #[] }, { accessFlags := 10, nameIndex := 11, descriptorIndex := 12, attributes := #[] }, { accessFlags := 10, nameIndex := 15, descriptorIndex := 16, attributes := #[] }, { accessFlags := 10, nameIndex := 36, descriptorIndex := 16, attributes := #[] }, { accessFlags := 10, nameIndex := 39, descriptorIndex := 16, attributes := #[] }, { accessFlags := 9, nameIndex := 50, descriptorIndex := 51, attributes := #[] }] 49 2 #[] #[])
  fields := #[]
  methods := #[k1m0, k1m1, k1m2, k1m3, k1m4, k1m5, k1m6]
  instanceTypes := #[]
  staticTypes := #[]
  resolved := Array.replicate 58 none
  statics := none }

def pool2 : Array CpInfo := pool [(1, .methodref 2 3), (0, .class_ 4), (0, .nameAndType 5 6), (0, u "java/lang/Object"), (0, u "<init>"), (0, u "()V"), (0, .class_ 8), (0, u "java/util/HashSet"), (0, .methodref 7 3), (0, .fieldref 11 12), (0, .class_ 13), (0, .nameAndType 14 15), (0, u "com/example/tidemark/tidemark/io/JsonBytes"), (0, u "othersSeen"), (0, u "Ljava/util/Set;"), (0, .fieldref 11 17), (0, .nameAndType 18 19), (0, u "bytes"), (0, u "[B"), (0, .fieldref 11 21), (0, .nameAndType 22 23), (0, u "position"), (0, u "I"), (0, .fieldref 11 25), (0, .nameAndType 26 23), (0, u "end"), (0, .fieldref 11 28), (0, .nameAndType 29 30), (0, u "known"), (0, u "Lcom/example/tidemark/tidemark/io/JsonBytes$Fields;"), (2, u "NO_FIELDS"), (2, u "([BIILcom/example/tidemark/tidemark/io/JsonBytes$Fields;)V"), (11, .methodref 11 49), (0, .nameAndType 50 51), (0, u "peek"), (0, u "()I"), (5, .fieldref 11 58), (0, .nameAndType 59 23), (0, u "depth"), (0, .fieldref 11 61), (0, .nameAndType 62 63), (0, u "atStart"), (0, u "Z"), (0, .methodref 11 65), (0, .nameAndType 66 67), (0, u "nextMember"), (0, u "(C)Z"), (30, .methodref 11 99), (0, .nameAndType 100 101), (0, u "next"), (0, u "(CZ)Z"), (16, .class_ 120), (1, u "com/example/tidemark/tidemark/io/JsonBytes$Fields"), (20, u "knownSeen"), (0, u "J"), (37, .methodref 11 181), (0, .nameAndType 182 183), (0, u "isWhitespace"), (0, u "(B)Z"), (37, u "MAX_DEPTH"), (2, u "NOT_JSON"), (0, u "Ljava/lang/String;"), (0, u "NOT_UTF8"), (0, u "ESCAPES"), (1, u "NON_ASCII"), (1, u "END"), (12, u "beginArray"), (0, u "()Z"), (0, u "nextElement")] 23

def k2c0 : Code := { maxStack := 3, maxLocals := 5, code := prog_2_method_1_code, exceptionTable := #[], attributes := #[] }
def k2m0 : Method := { name := "<init>", desc := "([BIILcom/example/tidemark/tidemark/io/JsonBytes$Fields;)V", sig := { parameters := [(.array .byte), .int, .int, (.object "com/example/tidemark/tidemark/io/JsonBytes$Fields")], returnType := none }, accessFlags := 0, code := some k2c0 }
def k2c1 : Code := { maxStack := 3, maxLocals := 2, code := prog_2_method_6_code, exceptionTable := #[], attributes := #[] }
def k2m1 : Method := { name := "beginArray", desc := "()Z", sig := { parameters := [], returnType := some .boolean }, accessFlags := 0, code := some k2c1 }
def k2c2 : Code := { maxStack := 2, maxLocals := 1, code := prog_2_method_7_code, exceptionTable := #[], attributes := #[] }
def k2m2 : Method := { name := "nextElement", desc := "()Z", sig := { parameters := [], returnType := some .boolean }, accessFlags := 0, code := some k2c2 }
def k2c3 : Code := { maxStack := 3, maxLocals := 3, code := prog_2_method_11_code, exceptionTable := #[], attributes := #[] }
def k2m3 : Method := { name := "nextMember", desc := "(C)Z", sig := { parameters := [.char], returnType := some .boolean }, accessFlags := 2, code := some k2c3 }
def k2c4 : Code := { maxStack := 3, maxLocals := 5, code := prog_2_method_12_code, exceptionTable := #[], attributes := #[] }
def k2m4 : Method := { name := "next", desc := "(CZ)Z", sig := { parameters := [.char, .boolean], returnType := some .boolean }, accessFlags := 2, code := some k2c4 }
def k2c5 : Code := { maxStack := 3, maxLocals := 1, code := prog_2_method_23_code, exceptionTable := #[], attributes := #[] }
def k2m5 : Method := { name := "peek", desc := "()I", sig := { parameters := [], returnType := some .int }, accessFlags := 2, code := some k2c5 }
def k2c6 : Code := { maxStack := 2, maxLocals := 1, code := prog_2_method_28_code, exceptionTable := #[], attributes := #[] }
def k2m6 : Method := { name := "isWhitespace", desc := "(B)Z", sig := { parameters := [.byte], returnType := some .boolean }, accessFlags := 10, code := some k2c6 }
/-- com/example/tidemark/tidemark/io/JsonBytes -/
def k2 : Class := { plain "com/example/tidemark/tidemark/io/JsonBytes" (some 0) with
  accessFlags := 48
  interfaces := #[]
  cf := some (fileOf pool2 11 #[.nestMembers #[118]] #[{ accessFlags := 0, nameIndex := 5, descriptorIndex := 36, attributes := #[] }, { accessFlags := 0, nameIndex := 244, descriptorIndex := 245, attributes := #[] }, { accessFlags := 0, nameIndex := 246, descriptorIndex := 245, attributes := #[] }, { accessFlags := 2, nameIndex := 66, descriptorIndex := 67, attributes := #[] }, { accessFlags := 2, nameIndex := 100, descriptorIndex := 101, attributes := #[] }, { accessFlags := 2, nameIndex := 50, descriptorIndex := 51, attributes := #[] }, { accessFlags := 10, nameIndex := 182, descriptorIndex := 183, attributes := #[] }] 48 2 #[] #[{ accessFlags := 24, nameIndex := 221, descriptorIndex := 23, attributes := #[] }, { accessFlags := 24, nameIndex := 224, descriptorIndex := 225, attributes := #[] }, { accessFlags := 26, nameIndex := 226, descriptorIndex := 225, attributes := #[] }, { accessFlags := 26, nameIndex := 227, descriptorIndex := 23, attributes := #[] }, { accessFlags := 26, nameIndex := 229, descriptorIndex := 23, attributes := #[] }, { accessFlags := 26, nameIndex := 231, descriptorIndex := 23, attributes := #[] }, { accessFlags := 26, nameIndex := 33, descriptorIndex := 30, attributes := #[] }, { accessFlags := 18, nameIndex := 18, descriptorIndex := 19, attributes := #[] }, { accessFlags := 18, nameIndex := 26, descriptorIndex := 23, attributes := #[] }, { accessFlags := 18, nameIndex := 29, descriptorIndex := 30, attributes := #[] }, { accessFlags := 2, nameIndex := 141, descriptorIndex := 142, attributes := #[] }, { accessFlags := 18, nameIndex := 14, descriptorIndex := 15, attributes := #[] }, { accessFlags := 2, nameIndex := 22, descriptorIndex := 23, attributes := #[] }, { accessFlags := 2, nameIndex := 59, descriptorIndex := 23, attributes := #[] }, { accessFlags := 2, nameIndex := 62, descriptorIndex := 63, attributes := #[] }])
  fields := #[{ name := "MAX_DEPTH", type := .int, accessFlags := 24, slot := 0, constantValue := 0 }, { name := "NOT_JSON", type := (.object "java/lang/String"), accessFlags := 24, slot := 1, constantValue := 0 }, { name := "NOT_UTF8", type := (.object "java/lang/String"), accessFlags := 26, slot := 2, constantValue := 0 }, { name := "ESCAPES", type := .int, accessFlags := 26, slot := 3, constantValue := 0 }, { name := "NON_ASCII", type := .int, accessFlags := 26, slot := 4, constantValue := 0 }, { name := "END", type := .int, accessFlags := 26, slot := 5, constantValue := 0 }, { name := "NO_FIELDS", type := (.object "com/example/tidemark/tidemark/io/JsonBytes$Fields"), accessFlags := 26, slot := 6, constantValue := 0 }, { name := "bytes", type := (.array .byte), accessFlags := 18, slot := 0, constantValue := 0 }, { name := "end", type := .int, accessFlags := 18, slot := 1, constantValue := 0 }, { name := "known", type := (.object "com/example/tidemark/tidemark/io/JsonBytes$Fields"), accessFlags := 18, slot := 2, constantValue := 0 }, { name := "knownSeen", type := .long, accessFlags := 2, slot := 3, constantValue := 0 }, { name := "othersSeen", type := (.object "java/util/Set"), accessFlags := 18, slot := 4, constantValue := 0 }, { name := "position", type := .int, accessFlags := 2, slot := 5, constantValue := 0 }, { name := "depth", type := .int, accessFlags := 2, slot := 6, constantValue := 0 }, { name := "atStart", type := .boolean, accessFlags := 2, slot := 7, constantValue := 0 }]
  methods := #[k2m0, k2m1, k2m2, k2m3, k2m4, k2m5, k2m6]
  instanceTypes := #[(.array .byte), .int, (.object "com/example/tidemark/tidemark/io/JsonBytes$Fields"), .long, (.object "java/util/Set"), .int, .int, .boolean]
  staticTypes := #[.int, (.object "java/lang/String"), (.object "java/lang/String"), .int, .int, .int, (.object "com/example/tidemark/tidemark/io/JsonBytes$Fields")]
  resolved := Array.replicate 270 none
  statics := none }

def pool3 : Array CpInfo := pool [(1, .methodref 2 3), (0, .class_ 4), (0, .nameAndType 5 6), (0, u "java/lang/Object"), (0, u "<init>"), (0, u "()V"), (11, .interfaceMethodref 19 20), (0, .class_ 21), (0, .nameAndType 22 23), (0, u "java/util/List"), (0, u "of"), (0, u "([Ljava/lang/Object;)Ljava/util/List;"), (0, .fieldref 25 26), (0, .class_ 27), (0, .nameAndType 28 29), (0, u "com/example/tidemark/tidemark/io/JsonBytes$Fields"), (0, u "names"), (0, u "Ljava/util/List;"), (0, .class_ 31), (0, u "[B"), (0, .fieldref 25 33), (0, .nameAndType 34 35), (0, u "spelled"), (0, u "[[B"), (18, .class_ 55), (0, u "[I"), (0, .fieldref 25 57), (0, .nameAndType 58 59), (0, u "byLength"), (0, u "[[I"), (0, .fieldref 25 61), (0, .nameAndType 62 55), (0, u "NO_PLACES"), (0, .methodref 64 65), (0, .class_ 66), (0, .nameAndType 67 68), (0, u "java/util/Arrays"), (0, u "fill"), (0, u "([Ljava/lang/Object;Ljava/lang/Object;)V"), (10, u "([Ljava/lang/String;)V"), (11, .class_ 92), (0, u "com/example/tidemark/tidemark/io/JsonBytes")] 16

def k3c0 : Code := { maxStack := 4, maxLocals := 5, code := prog_3_method_1_code, exceptionTable := #[], attributes := #[] }
def k3m0 : Method := { name := "<init>", desc := "([Ljava/lang/String;)V", sig := { parameters := [(.array (.object "java/lang/String"))], returnType := none }, accessFlags := 128, code := some k3c0 }
/-- com/example/tidemark/tidemark/io/JsonBytes$Fields -/
def k3 : Class := { plain "com/example/tidemark/tidemark/io/JsonBytes$Fields" (some 0) with
  accessFlags := 48
  interfaces := #[]
  cf := some (fileOf pool3 25 #[.nestHost 91] #[{ accessFlags := 128, nameIndex := 5, descriptorIndex := 79, attributes := #[] }] 48 2 #[] #[{ accessFlags := 26, nameIndex := 62, descriptorIndex := 55, attributes := #[] }, { accessFlags := 18, nameIndex := 28, descriptorIndex := 29, attributes := #[] }, { accessFlags := 18, nameIndex := 34, descriptorIndex := 35, attributes := #[] }, { accessFlags := 18, nameIndex := 58, descriptorIndex := 59, attributes := #[] }])
  fields := #[{ name := "NO_PLACES", type := (.array .int), accessFlags := 26, slot := 0, constantValue := 0 }, { name := "names", type := (.object "java/util/List"), accessFlags := 18, slot := 0, constantValue := 0 }, { name := "spelled", type := (.array (.array .byte)), accessFlags := 18, slot := 1, constantValue := 0 }, { name := "byLength", type := (.array (.array .int)), accessFlags := 18, slot := 2, constantValue := 0 }]
  methods := #[k3m0]
  instanceTypes := #[(.object "java/util/List"), (.array (.array .byte)), (.array (.array .int))]
  staticTypes := #[(.array .int)]
  resolved := Array.replicate 109 none
  statics := some 0 }

def pool4 : Array CpInfo := pool [(1, .class_ 2), (0, u "java/io/Serializable"), (0, .class_ 4), (0, u "java/lang/Object")] 2

/-- java/io/Serializable -/
def k4 : Class := { plain "java/io/Serializable" (some 0) with
  accessFlags := 1537
  interfaces := #[]
  cf := some (fileOf pool4 1 #[] #[] 1537 3 #[] #[])
  fields := #[]
  methods := #[]
  instanceTypes := #[]
  staticTypes := #[]
  resolved := Array.replicate 7 none
  statics := none }

def pool5 : Array CpInfo := pool [(1, .class_ 2), (0, u "java/lang/Comparable"), (0, .class_ 4), (0, u "java/lang/Object")] 7

/-- java/lang/Comparable -/
def k5 : Class := { plain "java/lang/Comparable" (some 0) with
  accessFlags := 1537
  interfaces := #[]
  cf := some (fileOf pool5 1 #[] #[] 1537 3 #[] #[])
  fields := #[]
  methods := #[]
  instanceTypes := #[]
  staticTypes := #[]
  resolved := Array.replicate 12 none
  statics := none }

def pool6 : Array CpInfo := pool [(2, .class_ 4), (1, u "java/lang/CharSequence"), (42, .class_ 48), (0, u "java/lang/CharSequence$1CodePointIterator"), (10, .class_ 60), (0, u "java/lang/CharSequence$1CharIterator"), (5, .class_ 67), (0, u "java/lang/Object")] 63

/-- java/lang/CharSequence -/
def k6 : Class := { plain "java/lang/CharSequence" (some 0) with
  accessFlags := 1537
  interfaces := #[]
  cf := some (fileOf pool6 2 #[.nestMembers #[47, 59]] #[] 1537 66 #[] #[])
  fields := #[]
  methods := #[]
  instanceTypes := #[]
  staticTypes := #[]
  resolved := Array.replicate 131 none
  statics := none }

def pool7 : Array CpInfo := pool [(1, .class_ 2), (0, u "java/lang/constant/Constable"), (0, .class_ 4), (0, u "java/lang/Object")] 6

/-- java/lang/constant/Constable -/
def k7 : Class := { plain "java/lang/constant/Constable" (some 0) with
  accessFlags := 1537
  interfaces := #[]
  cf := some (fileOf pool7 1 #[] #[] 1537 3 #[] #[])
  fields := #[]
  methods := #[]
  instanceTypes := #[]
  staticTypes := #[]
  resolved := Array.replicate 11 none
  statics := none }

def pool8 : Array CpInfo := pool [(1, .class_ 2), (0, u "java/lang/constant/ConstantDesc"), (0, .class_ 4), (0, u "java/lang/Object")] 32

/-- java/lang/constant/ConstantDesc -/
def k8 : Class := { plain "java/lang/constant/ConstantDesc" (some 0) with
  accessFlags := 1537
  interfaces := #[]
  cf := some (fileOf pool8 1 #[] #[] 1537 3 #[] #[])
  fields := #[]
  methods := #[]
  instanceTypes := #[]
  staticTypes := #[]
  resolved := Array.replicate 37 none
  statics := none }

def pool9 : Array CpInfo := pool [(2, .class_ 4), (1, u "java/lang/Object"), (0, u "<init>"), (0, u "()V"), (3, .class_ 12), (1, u "java/lang/String"), (0, u "value"), (0, u "[B"), (2, u "coder"), (0, u "B"), (2, u "hash"), (0, u "I"), (2, u "hashIsZero"), (0, u "Z"), (13, u "COMPACT_STRINGS"), (534, .class_ 576), (0, u "java/lang/CharSequence"), (22, u "CASE_INSENSITIVE_ORDER"), (0, u "Ljava/util/Comparator;"), (500, u "serialPersistentFields"), (0, u "[Ljava/io/ObjectStreamField;"), (0, .class_ 1104), (0, u "java/lang/String$CaseInsensitiveComparator"), (1, .class_ 1107), (0, u "java/io/Serializable"), (0, .class_ 1109), (0, u "java/lang/Comparable"), (0, .class_ 1111), (0, u "java/lang/constant/Constable"), (0, .class_ 1113), (0, u "java/lang/constant/ConstantDesc"), (2, u "serialVersionUID"), (0, u "J"), (3, u "REPL"), (0, u "C"), (2, u "LATIN1"), (1, u "UTF16")] 323

def k9m0 : Method := { name := "<init>", desc := "()V", sig := { parameters := [], returnType := none }, accessFlags := 1, code := none }
/-- java/lang/String -/
def k9 : Class := { plain "java/lang/String" (some 0) with
  accessFlags := 49
  interfaces := #[4, 5, 6, 7, 8]
  cf := some (fileOf pool9 10 #[.nestMembers #[1103]] #[{ accessFlags := 1, nameIndex := 5, descriptorIndex := 6, attributes := #[] }] 49 2 #[1106, 1108, 575, 1110, 1112] #[{ accessFlags := 18, nameIndex := 13, descriptorIndex := 14, attributes := #[] }, { accessFlags := 18, nameIndex := 17, descriptorIndex := 18, attributes := #[] }, { accessFlags := 2, nameIndex := 21, descriptorIndex := 22, attributes := #[] }, { accessFlags := 2, nameIndex := 25, descriptorIndex := 26, attributes := #[] }, { accessFlags := 26, nameIndex := 1116, descriptorIndex := 1117, attributes := #[] }, { accessFlags := 24, nameIndex := 40, descriptorIndex := 26, attributes := #[] }, { accessFlags := 26, nameIndex := 1101, descriptorIndex := 1102, attributes := #[] }, { accessFlags := 26, nameIndex := 1121, descriptorIndex := 1122, attributes := #[] }, { accessFlags := 25, nameIndex := 599, descriptorIndex := 600, attributes := #[] }, { accessFlags := 24, nameIndex := 1125, descriptorIndex := 18, attributes := #[] }, { accessFlags := 24, nameIndex := 1127, descriptorIndex := 18, attributes := #[] }])
  fields := #[{ name := "value", type := (.array .byte), accessFlags := 18, slot := 0, constantValue := 0 }, { name := "coder", type := .byte, accessFlags := 18, slot := 1, constantValue := 0 }, { name := "hash", type := .int, accessFlags := 2, slot := 2, constantValue := 0 }, { name := "hashIsZero", type := .boolean, accessFlags := 2, slot := 3, constantValue := 0 }, { name := "serialVersionUID", type := .long, accessFlags := 26, slot := 0, constantValue := 0 }, { name := "COMPACT_STRINGS", type := .boolean, accessFlags := 24, slot := 1, constantValue := 0 }, { name := "serialPersistentFields", type := (.array (.object "java/io/ObjectStreamField")), accessFlags := 26, slot := 2, constantValue := 0 }, { name := "REPL", type := .char, accessFlags := 26, slot := 3, constantValue := 0 }, { name := "CASE_INSENSITIVE_ORDER", type := (.object "java/util/Comparator"), accessFlags := 25, slot := 4, constantValue := 0 }, { name := "LATIN1", type := .byte, accessFlags := 24, slot := 5, constantValue := 0 }, { name := "UTF16", type := .byte, accessFlags := 24, slot := 6, constantValue := 0 }]
  methods := #[k9m0]
  instanceTypes := #[(.array .byte), .byte, .int, .boolean]
  staticTypes := #[.long, .boolean, (.array (.object "java/io/ObjectStreamField")), .char, (.object "java/util/Comparator"), .byte, .byte]
  resolved := Array.replicate 1451 none
  statics := none }

def pool10 : Array CpInfo := pool [(8, .class_ 10), (1, u "java/lang/Iterable"), (24, .class_ 36), (0, u "java/lang/Object")] 25

/-- java/lang/Iterable -/
def k10 : Class := { plain "java/lang/Iterable" (some 0) with
  accessFlags := 1537
  interfaces := #[]
  cf := some (fileOf pool10 8 #[] #[] 1537 35 #[] #[])
  fields := #[]
  methods := #[]
  instanceTypes := #[]
  staticTypes := #[]
  resolved := Array.replicate 62 none
  statics := none }

def pool11 : Array CpInfo := pool [(10, .class_ 12), (1, u "java/util/Collection"), (47, .class_ 61), (0, u "java/lang/Object"), (0, .class_ 63), (0, u "java/lang/Iterable")] 51

/-- java/util/Collection -/
def k11 : Class := { plain "java/util/Collection" (some 0) with
  accessFlags := 1537
  interfaces := #[10]
  cf := some (fileOf pool11 10 #[] #[] 1537 60 #[62] #[])
  fields := #[]
  methods := #[]
  instanceTypes := #[]
  staticTypes := #[]
  resolved := Array.replicate 115 none
  statics := none }

def pool12 : Array CpInfo := pool [(8, .class_ 10), (1, u "java/util/SequencedCollection"), (15, .class_ 27), (0, u "java/lang/Object"), (0, .class_ 29), (0, u "java/util/Collection")] 27

/-- java/util/SequencedCollection -/
def k12 : Class := { plain "java/util/SequencedCollection" (some 0) with
  accessFlags := 1537
  interfaces := #[11]
  cf := some (fileOf pool12 8 #[] #[] 1537 26 #[28] #[])
  fields := #[]
  methods := #[]
  instanceTypes := #[]
  staticTypes := #[]
  resolved := Array.replicate 57 none
  statics := none }

def pool13 : Array CpInfo := pool [(8, .class_ 10), (1, u "java/util/List"), (77, u "of"), (1, .fieldref 91 92), (0, .class_ 93), (0, .nameAndType 94 95), (0, u "java/util/ImmutableCollections"), (0, u "EMPTY_LIST"), (0, u "Ljava/util/ImmutableCollections$ListN;"), (7, .class_ 104), (0, u "java/lang/Object"), (3, u "([Ljava/lang/Object;)Ljava/util/List;"), (11, .class_ 121), (0, u "java/util/SequencedCollection")] 129

def k13c0 : Code := { maxStack := 5, maxLocals := 2, code := jdk_40_method_47_code, exceptionTable := #[], attributes := #[] }
def k13m0 : Method := { name := "of", desc := "([Ljava/lang/Object;)Ljava/util/List;", sig := { parameters := [(.array (.object "java/lang/Object"))], returnType := some (.object "java/util/List") }, accessFlags := 137, code := some k13c0 }
/-- java/util/List -/
def k13 : Class := { plain "java/util/List" (some 0) with
  accessFlags := 1537
  interfaces := #[12]
  cf := some (fileOf pool13 8 #[] #[{ accessFlags := 137, nameIndex := 88, descriptorIndex := 108, attributes := #[] }] 1537 103 #[120] #[])
  fields := #[]
  methods := #[k13m0]
  instanceTypes := #[]
  staticTypes := #[]
  resolved := Array.replicate 251 none
  statics := none }

def pool14 : Array CpInfo := pool [(2, .class_ 4), (1, u "java/lang/Object"), (0, u "<init>"), (0, u "()V"), (3, .class_ 11), (0, u "java/util/ImmutableCollections$List12"), (0, .class_ 13), (0, u "java/util/ImmutableCollections$ListN"), (3, u "Z"), (29, .class_ 49), (1, u "java/util/ImmutableCollections"), (0, u "$assertionsDisabled"), (5, u "[Ljava/lang/Object;"), (5, u "EMPTY_LIST"), (0, u "Ljava/util/ImmutableCollections$ListN;"), (8, u "EMPTY_LIST_NULLS"), (22, u "SALT32L"), (0, u "J"), (2, u "REVERSE"), (6, u "archivedObjects"), (2, u "EMPTY"), (0, u "Ljava/lang/Object;"), (0, .class_ 112), (0, u "java/util/ImmutableCollections$SetN"), (5, u "EMPTY_SET"), (0, u "Ljava/util/ImmutableCollections$SetN;"), (0, .class_ 121), (0, u "java/util/ImmutableCollections$MapN"), (3, u "EMPTY_MAP"), (0, u "Ljava/util/ImmutableCollections$MapN;"), (4, u "EXPAND_FACTOR"), (0, u "I"), (36, .class_ 170), (0, u "java/util/ImmutableCollections$MapN$MapNIterator"), (0, .class_ 172), (0, u "java/util/ImmutableCollections$MapN$1"), (0, .class_ 174), (0, u "java/util/ImmutableCollections$Map1"), (0, .class_ 176), (0, u "java/util/ImmutableCollections$AbstractImmutableMap"), (0, .class_ 178), (0, u "java/util/ImmutableCollections$SetN$SetNIterator"), (0, .class_ 180), (0, u "java/util/ImmutableCollections$Set12"), (0, .class_ 182), (0, u "java/util/ImmutableCollections$Set12$1"), (0, .class_ 184), (0, u "java/util/ImmutableCollections$AbstractImmutableSet"), (0, .class_ 186), (0, u "java/util/ImmutableCollections$SubList"), (0, .class_ 188), (0, u "java/util/ImmutableCollections$ListItr"), (0, .class_ 190), (0, u "java/util/ImmutableCollections$AbstractImmutableList"), (0, .class_ 192), (0, u "java/util/ImmutableCollections$AbstractImmutableCollection"), (0, .class_ 194), (0, u "java/util/ImmutableCollections$Access"), (0, .class_ 196), (0, u "java/util/ImmutableCollections$Access$1")] 16

def k14m0 : Method := { name := "<init>", desc := "()V", sig := { parameters := [], returnType := none }, accessFlags := 2, code := none }
/-- java/util/ImmutableCollections -/
def k14 : Class := { plain "java/util/ImmutableCollections" (some 0) with
  accessFlags := 32
  interfaces := #[]
  cf := some (fileOf pool14 47 #[.nestMembers #[120, 169, 171, 173, 175, 111, 177, 179, 181, 183, 12, 10, 185, 187, 189, 191, 193, 195]] #[{ accessFlags := 2, nameIndex := 5, descriptorIndex := 6, attributes := #[] }] 32 2 #[] #[{ accessFlags := 26, nameIndex := 95, descriptorIndex := 96, attributes := #[] }, { accessFlags := 26, nameIndex := 99, descriptorIndex := 17, attributes := #[] }, { accessFlags := 10, nameIndex := 106, descriptorIndex := 56, attributes := #[] }, { accessFlags := 26, nameIndex := 109, descriptorIndex := 110, attributes := #[] }, { accessFlags := 24, nameIndex := 62, descriptorIndex := 63, attributes := #[] }, { accessFlags := 24, nameIndex := 72, descriptorIndex := 63, attributes := #[] }, { accessFlags := 24, nameIndex := 118, descriptorIndex := 119, attributes := #[] }, { accessFlags := 24, nameIndex := 125, descriptorIndex := 126, attributes := #[] }, { accessFlags := 24, nameIndex := 131, descriptorIndex := 132, attributes := #[] }, { accessFlags := 4120, nameIndex := 50, descriptorIndex := 17, attributes := #[] }])
  fields := #[{ name := "SALT32L", type := .long, accessFlags := 26, slot := 0, constantValue := 0 }, { name := "REVERSE", type := .boolean, accessFlags := 26, slot := 1, constantValue := 0 }, { name := "archivedObjects", type := (.array (.object "java/lang/Object")), accessFlags := 10, slot := 2, constantValue := 0 }, { name := "EMPTY", type := (.object "java/lang/Object"), accessFlags := 26, slot := 3, constantValue := 0 }, { name := "EMPTY_LIST", type := (.object "java/util/ImmutableCollections$ListN"), accessFlags := 24, slot := 4, constantValue := 0 }, { name := "EMPTY_LIST_NULLS", type := (.object "java/util/ImmutableCollections$ListN"), accessFlags := 24, slot := 5, constantValue := 0 }, { name := "EMPTY_SET", type := (.object "java/util/ImmutableCollections$SetN"), accessFlags := 24, slot := 6, constantValue := 0 }, { name := "EMPTY_MAP", type := (.object "java/util/ImmutableCollections$MapN"), accessFlags := 24, slot := 7, constantValue := 0 }, { name := "EXPAND_FACTOR", type := .int, accessFlags := 24, slot := 8, constantValue := 0 }, { name := "$assertionsDisabled", type := .boolean, accessFlags := 4120, slot := 9, constantValue := 0 }]
  methods := #[k14m0]
  instanceTypes := #[]
  staticTypes := #[.long, .boolean, (.array (.object "java/lang/Object")), (.object "java/lang/Object"), (.object "java/util/ImmutableCollections$ListN"), (.object "java/util/ImmutableCollections$ListN"), (.object "java/util/ImmutableCollections$SetN"), (.object "java/util/ImmutableCollections$MapN"), .int, .boolean]
  resolved := Array.replicate 213 none
  statics := some 1 }

def pool15 : Array CpInfo := pool [(2, .class_ 4), (1, u "java/lang/Object"), (0, u "<init>"), (0, u "()V"), (7, .class_ 16), (1, u "java/util/Arrays"), (57, .class_ 76), (1, u "java/util/Arrays$NaturalOrder"), (36, .class_ 115), (1, u "java/util/Arrays$LegacyMergeSort"), (1, u "Z"), (257, .class_ 376), (0, u "java/util/Arrays$ArrayList"), (68, u "$assertionsDisabled"), (269, u "MIN_ARRAY_SORT_GRAN"), (0, u "I"), (2, u "INSERTIONSORT_THRESHOLD"), (120, u "fill"), (17, u "([Ljava/lang/Object;Ljava/lang/Object;)V"), (116, .class_ 976), (0, u "java/util/Arrays$ArrayItr")] 52

def k15m0 : Method := { name := "<init>", desc := "()V", sig := { parameters := [], returnType := none }, accessFlags := 2, code := none }
def k15c1 : Code := { maxStack := 3, maxLocals := 4, code := jdk_65_method_117_code, exceptionTable := #[], attributes := #[] }
def k15m1 : Method := { name := "fill", desc := "([Ljava/lang/Object;Ljava/lang/Object;)V", sig := { parameters := [(.array (.object "java/lang/Object")), (.object "java/lang/Object")], returnType := none }, accessFlags := 9, code := some k15c1 }
/-- java/util/Arrays -/
def k15 : Class := { plain "java/util/Arrays" (some 0) with
  accessFlags := 49
  interfaces := #[]
  cf := some (fileOf pool15 14 #[.nestMembers #[975, 375, 113, 74]] #[{ accessFlags := 2, nameIndex := 5, descriptorIndex := 6, attributes := #[] }, { accessFlags := 9, nameIndex := 840, descriptorIndex := 858, attributes := #[] }] 49 2 #[] #[{ accessFlags := 26, nameIndex := 715, descriptorIndex := 716, attributes := #[] }, { accessFlags := 26, nameIndex := 719, descriptorIndex := 716, attributes := #[] }, { accessFlags := 4120, nameIndex := 445, descriptorIndex := 117, attributes := #[] }])
  fields := #[{ name := "MIN_ARRAY_SORT_GRAN", type := .int, accessFlags := 26, slot := 0, constantValue := 0 }, { name := "INSERTIONSORT_THRESHOLD", type := .int, accessFlags := 26, slot := 1, constantValue := 0 }, { name := "$assertionsDisabled", type := .boolean, accessFlags := 4120, slot := 2, constantValue := 0 }]
  methods := #[k15m0, k15m1]
  instanceTypes := #[]
  staticTypes := #[.int, .int, .boolean]
  resolved := Array.replicate 1029 none
  statics := none }

def pool16 : Array CpInfo := pool [(1, .methodref 2 3), (0, .class_ 4), (0, .nameAndType 5 6), (0, u "java/lang/Object"), (0, u "<init>"), (0, u "()V"), (1, .class_ 10), (1, u "java/util/AbstractCollection"), (66, .class_ 78), (0, u "java/util/Collection")] 81

def k16c0 : Code := { maxStack := 1, maxLocals := 1, code := jdk_22_method_1_code, exceptionTable := #[], attributes := #[] }
def k16m0 : Method := { name := "<init>", desc := "()V", sig := { parameters := [], returnType := none }, accessFlags := 4, code := some k16c0 }
/-- java/util/AbstractCollection -/
def k16 : Class := { plain "java/util/AbstractCollection" (some 0) with
  accessFlags := 1057
  interfaces := #[11]
  cf := some (fileOf pool16 8 #[] #[{ accessFlags := 4, nameIndex := 5, descriptorIndex := 6, attributes := #[] }] 1057 2 #[77] #[])
  fields := #[]
  methods := #[k16m0]
  instanceTypes := #[]
  staticTypes := #[]
  resolved := Array.replicate 160 none
  statics := none }

def pool17 : Array CpInfo := pool [(26, .class_ 27), (0, u "java/lang/Object"), (5, .class_ 34), (0, u "java/util/Set"), (1, .class_ 38), (1, u "java/util/Collection")] 105

/-- java/util/Set -/
def k17 : Class := { plain "java/util/Set" (some 0) with
  accessFlags := 1537
  interfaces := #[11]
  cf := some (fileOf pool17 33 #[] #[] 1537 26 #[36] #[])
  fields := #[]
  methods := #[]
  instanceTypes := #[]
  staticTypes := #[]
  resolved := Array.replicate 144 none
  statics := none }

def pool18 : Array CpInfo := pool [(1, .methodref 2 3), (0, .class_ 4), (0, .nameAndType 5 6), (0, u "java/util/AbstractCollection"), (0, u "<init>"), (0, u "()V"), (0, .class_ 8), (0, u "java/util/Set"), (7, .class_ 17), (0, u "java/util/AbstractSet")] 78

def k18c0 : Code := { maxStack := 1, maxLocals := 1, code := jdk_91_method_1_code, exceptionTable := #[], attributes := #[] }
def k18m0 : Method := { name := "<init>", desc := "()V", sig := { parameters := [], returnType := none }, accessFlags := 4, code := some k18c0 }
/-- java/util/AbstractSet -/
def k18 : Class := { plain "java/util/AbstractSet" (some 16) with
  accessFlags := 1057
  interfaces := #[17]
  cf := some (fileOf pool18 16 #[] #[{ accessFlags := 4, nameIndex := 5, descriptorIndex := 6, attributes := #[] }] 1057 2 #[7] #[])
  fields := #[]
  methods := #[k18m0]
  instanceTypes := #[]
  staticTypes := #[]
  resolved := Array.replicate 96 none
  statics := none }

def pool19 : Array CpInfo := pool [(1, .class_ 2), (0, u "java/lang/Cloneable"), (0, .class_ 4), (0, u "java/lang/Object")] 2

/-- java/lang/Cloneable -/
def k19 : Class := { plain "java/lang/Cloneable" (some 0) with
  accessFlags := 1537
  interfaces := #[]
  cf := some (fileOf pool19 1 #[] #[] 1537 3 #[] #[])
  fields := #[]
  methods := #[]
  instanceTypes := #[]
  staticTypes := #[]
  resolved := Array.replicate 7 none
  statics := none }

def pool20 : Array CpInfo := pool [(1, .methodref 2 3), (0, .class_ 4), (0, .nameAndType 5 6), (0, u "java/util/AbstractSet"), (0, u "<init>"), (0, u "()V"), (0, .class_ 8), (0, u "java/util/HashMap"), (0, .methodref 7 3), (0, .fieldref 11 12), (0, .class_ 13), (0, .nameAndType 14 15), (0, u "java/util/HashSet"), (0, u "map"), (0, u "Ljava/util/HashMap;"), (34, .class_ 52), (1, u "java/util/Set"), (13, u "PRESENT"), (0, u "Ljava/lang/Object;"), (158, .class_ 227), (0, u "java/lang/Cloneable"), (0, .class_ 229), (0, u "java/io/Serializable"), (0, u "serialVersionUID"), (0, u "J")] 71

def k20c0 : Code := { maxStack := 3, maxLocals := 1, code := jdk_93_method_1_code, exceptionTable := #[], attributes := #[] }
def k20m0 : Method := { name := "<init>", desc := "()V", sig := { parameters := [], returnType := none }, accessFlags := 1, code := some k20c0 }
/-- java/util/HashSet -/
def k20 : Class := { plain "java/util/HashSet" (some 18) with
  accessFlags := 33
  interfaces := #[17, 19, 4]
  cf := some (fileOf pool20 11 #[] #[{ accessFlags := 1, nameIndex := 5, descriptorIndex := 6, attributes := #[] }] 33 2 #[50, 226, 228] #[{ accessFlags := 24, nameIndex := 230, descriptorIndex := 231, attributes := #[] }, { accessFlags := 128, nameIndex := 14, descriptorIndex := 15, attributes := #[] }, { accessFlags := 24, nameIndex := 66, descriptorIndex := 67, attributes := #[] }])
  fields := #[{ name := "serialVersionUID", type := .long, accessFlags := 24, slot := 0, constantValue := 0 }, { name := "map", type := (.object "java/util/HashMap"), accessFlags := 128, slot := 0, constantValue := 0 }, { name := "PRESENT", type := (.object "java/lang/Object"), accessFlags := 24, slot := 1, constantValue := 0 }]
  methods := #[k20m0]
  instanceTypes := #[(.object "java/util/HashMap")]
  staticTypes := #[.long, (.object "java/lang/Object")]
  resolved := Array.replicate 303 none
  statics := none }

def pool21 : Array CpInfo := pool [(2, .class_ 4), (1, u "java/util/Map"), (31, .class_ 37), (0, u "java/util/Map$Entry"), (55, .class_ 94), (0, u "java/lang/Object")] 168

/-- java/util/Map -/
def k21 : Class := { plain "java/util/Map" (some 0) with
  accessFlags := 1537
  interfaces := #[]
  cf := some (fileOf pool21 2 #[.nestMembers #[36]] #[] 1537 93 #[] #[])
  fields := #[]
  methods := #[]
  instanceTypes := #[]
  staticTypes := #[]
  resolved := Array.replicate 263 none
  statics := none }

def pool22 : Array CpInfo := pool [(1, .methodref 2 3), (0, .class_ 4), (0, .nameAndType 5 6), (0, u "java/lang/Object"), (0, u "<init>"), (0, u "()V"), (1, .class_ 10), (1, u "java/util/AbstractMap"), (42, .class_ 54), (0, u "java/util/Map"), (9, u "keySet"), (0, u "Ljava/util/Set;"), (0, .class_ 67), (0, u "java/util/AbstractMap$1"), (5, u "values"), (0, u "Ljava/util/Collection;"), (0, .class_ 76), (0, u "java/util/AbstractMap$2"), (104, .class_ 182), (0, u "java/util/AbstractMap$ViewCollection"), (0, .class_ 184), (0, u "java/util/AbstractMap$SimpleImmutableEntry"), (0, .class_ 186), (0, u "java/util/AbstractMap$SimpleEntry"), (0, .class_ 188), (0, u "java/util/AbstractMap$2$1"), (0, .class_ 190), (0, u "java/util/AbstractMap$1$1")] 5

def k22c0 : Code := { maxStack := 1, maxLocals := 1, code := jdk_71_method_1_code, exceptionTable := #[], attributes := #[] }
def k22m0 : Method := { name := "<init>", desc := "()V", sig := { parameters := [], returnType := none }, accessFlags := 4, code := some k22c0 }
/-- java/util/AbstractMap -/
def k22 : Class := { plain "java/util/AbstractMap" (some 0) with
  accessFlags := 1057
  interfaces := #[21]
  cf := some (fileOf pool22 8 #[.nestMembers #[181, 183, 185, 75, 187, 66, 189]] #[{ accessFlags := 4, nameIndex := 5, descriptorIndex := 6, attributes := #[] }] 1057 2 #[53] #[{ accessFlags := 128, nameIndex := 64, descriptorIndex := 65, attributes := #[] }, { accessFlags := 128, nameIndex := 73, descriptorIndex := 74, attributes := #[] }])
  fields := #[{ name := "keySet", type := (.object "java/util/Set"), accessFlags := 128, slot := 0, constantValue := 0 }, { name := "values", type := (.object "java/util/Collection"), accessFlags := 128, slot := 1, constantValue := 0 }]
  methods := #[k22m0]
  instanceTypes := #[(.object "java/util/Set"), (.object "java/util/Collection")]
  staticTypes := #[]
  resolved := Array.replicate 196 none
  statics := none }

def pool23 : Array CpInfo := pool [(40, .class_ 41), (0, u "java/util/HashMap"), (1, .methodref 44 45), (0, .class_ 46), (0, .nameAndType 47 48), (0, u "java/util/AbstractMap"), (0, u "<init>"), (0, u "()V"), (32, .fieldref 40 82), (0, .nameAndType 83 84), (0, u "loadFactor"), (0, u "F"), (5, u "threshold"), (0, u "I"), (0, .float 1061158912), (8, .class_ 103), (1, u "java/util/Map"), (0, u "size"), (2, u "table"), (0, u "[Ljava/util/HashMap$Node;"), (14, u "entrySet"), (39, .class_ 165), (1, u "java/util/HashMap$Node"), (14, .class_ 181), (0, u "java/util/HashMap$TreeNode"), (22, u "modCount"), (37, u "Ljava/util/Set;"), (0, .class_ 244), (0, u "java/util/HashMap$KeySet"), (18, .class_ 264), (0, u "java/util/HashMap$Values"), (3, .class_ 269), (0, u "java/util/HashMap$EntrySet"), (76, .class_ 348), (1, u "java/util/HashMap$UnsafeHolder"), (43, .class_ 393), (0, u "java/lang/Cloneable"), (0, .class_ 395), (0, u "java/io/Serializable"), (0, u "serialVersionUID"), (0, u "J"), (3, u "DEFAULT_INITIAL_CAPACITY"), (1, u "MAXIMUM_CAPACITY"), (0, u "DEFAULT_LOAD_FACTOR"), (0, u "TREEIFY_THRESHOLD"), (1, u "UNTREEIFY_THRESHOLD"), (1, u "MIN_TREEIFY_CAPACITY"), (186, .class_ 597), (0, u "java/util/HashMap$EntrySpliterator"), (0, .class_ 599), (0, u "java/util/HashMap$ValueSpliterator"), (0, .class_ 601), (0, u "java/util/HashMap$KeySpliterator"), (0, .class_ 603), (0, u "java/util/HashMap$HashMapSpliterator"), (0, .class_ 605), (0, u "java/util/HashMap$EntryIterator"), (0, .class_ 607), (0, u "java/util/HashMap$ValueIterator"), (0, .class_ 609), (0, u "java/util/HashMap$KeyIterator"), (0, .class_ 611), (0, u "java/util/HashMap$HashIterator")] 17

def k23c0 : Code := { maxStack := 2, maxLocals := 1, code := jdk_69_method_7_code, exceptionTable := #[], attributes := #[] }
def k23m0 : Method := { name := "<init>", desc := "()V", sig := { parameters := [], returnType := none }, accessFlags := 1, code := some k23c0 }
/-- java/util/HashMap -/
def k23 : Class := { plain "java/util/HashMap" (some 22) with
  accessFlags := 33
  interfaces := #[21, 19, 4]
  cf := some (fileOf pool23 40 #[.nestMembers #[180, 596, 598, 600, 602, 604, 606, 608, 610, 346, 268, 263, 243, 163]] #[{ accessFlags := 1, nameIndex := 47, descriptorIndex := 48, attributes := #[] }] 33 44 #[101, 392, 394] #[{ accessFlags := 26, nameIndex := 396, descriptorIndex := 397, attributes := #[] }, { accessFlags := 24, nameIndex := 401, descriptorIndex := 91, attributes := #[] }, { accessFlags := 24, nameIndex := 403, descriptorIndex := 91, attributes := #[] }, { accessFlags := 24, nameIndex := 404, descriptorIndex := 84, attributes := #[] }, { accessFlags := 24, nameIndex := 405, descriptorIndex := 91, attributes := #[] }, { accessFlags := 24, nameIndex := 407, descriptorIndex := 91, attributes := #[] }, { accessFlags := 24, nameIndex := 409, descriptorIndex := 91, attributes := #[] }, { accessFlags := 128, nameIndex := 107, descriptorIndex := 108, attributes := #[] }, { accessFlags := 128, nameIndex := 123, descriptorIndex := 242, attributes := #[] }, { accessFlags := 128, nameIndex := 104, descriptorIndex := 91, attributes := #[] }, { accessFlags := 128, nameIndex := 204, descriptorIndex := 91, attributes := #[] }, { accessFlags := 0, nameIndex := 90, descriptorIndex := 91, attributes := #[] }, { accessFlags := 16, nameIndex := 83, descriptorIndex := 84, attributes := #[] }])
  fields := #[{ name := "serialVersionUID", type := .long, accessFlags := 26, slot := 0, constantValue := 0 }, { name := "DEFAULT_INITIAL_CAPACITY", type := .int, accessFlags := 24, slot := 1, constantValue := 0 }, { name := "MAXIMUM_CAPACITY", type := .int, accessFlags := 24, slot := 2, constantValue := 0 }, { name := "DEFAULT_LOAD_FACTOR", type := .float, accessFlags := 24, slot := 3, constantValue := 0 }, { name := "TREEIFY_THRESHOLD", type := .int, accessFlags := 24, slot := 4, constantValue := 0 }, { name := "UNTREEIFY_THRESHOLD", type := .int, accessFlags := 24, slot := 5, constantValue := 0 }, { name := "MIN_TREEIFY_CAPACITY", type := .int, accessFlags := 24, slot := 6, constantValue := 0 }, { name := "table", type := (.array (.object "java/util/HashMap$Node")), accessFlags := 128, slot := 2, constantValue := 0 }, { name := "entrySet", type := (.object "java/util/Set"), accessFlags := 128, slot := 3, constantValue := 0 }, { name := "size", type := .int, accessFlags := 128, slot := 4, constantValue := 0 }, { name := "modCount", type := .int, accessFlags := 128, slot := 5, constantValue := 0 }, { name := "threshold", type := .int, accessFlags := 0, slot := 6, constantValue := 0 }, { name := "loadFactor", type := .float, accessFlags := 16, slot := 7, constantValue := 0 }]
  methods := #[k23m0]
  instanceTypes := #[(.object "java/util/Set"), (.object "java/util/Collection"), (.array (.object "java/util/HashMap$Node")), (.object "java/util/Set"), .int, .int, .int, .float]
  staticTypes := #[.long, .int, .int, .float, .int, .int, .int]
  resolved := Array.replicate 629 none
  statics := none }

def pool24 : Array CpInfo := pool [(2, .class_ 4), (1, u "java/util/AbstractCollection"), (0, u "<init>"), (0, u "()V"), (1, .class_ 10), (1, u "java/util/ImmutableCollections"), (2, .class_ 14), (0, u "java/util/ImmutableCollections$AbstractImmutableCollection")] 41

def k24m0 : Method := { name := "<init>", desc := "()V", sig := { parameters := [], returnType := none }, accessFlags := 0, code := none }
/-- java/util/ImmutableCollections$AbstractImmutableCollection -/
def k24 : Class := { plain "java/util/ImmutableCollections$AbstractImmutableCollection" (some 16) with
  accessFlags := 1056
  interfaces := #[]
  cf := some (fileOf pool24 13 #[.nestHost 8] #[{ accessFlags := 0, nameIndex := 5, descriptorIndex := 6, attributes := #[] }] 1056 2 #[] #[])
  fields := #[]
  methods := #[k24m0]
  instanceTypes := #[]
  staticTypes := #[]
  resolved := Array.replicate 56 none
  statics := none }

def pool25 : Array CpInfo := pool [(1, .class_ 2), (0, u "java/util/RandomAccess"), (0, .class_ 4), (0, u "java/lang/Object")] 2

/-- java/util/RandomAccess -/
def k25 : Class := { plain "java/util/RandomAccess" (some 0) with
  accessFlags := 1537
  interfaces := #[]
  cf := some (fileOf pool25 1 #[] #[] 1537 3 #[] #[])
  fields := #[]
  methods := #[]
  instanceTypes := #[]
  staticTypes := #[]
  resolved := Array.replicate 7 none
  statics := none }

def pool26 : Array CpInfo := pool [(2, .class_ 4), (1, u "java/util/ImmutableCollections$AbstractImmutableCollection"), (0, u "<init>"), (0, u "()V"), (1, .class_ 10), (1, u "java/util/ImmutableCollections"), (3, .class_ 16), (1, u "java/util/ImmutableCollections$AbstractImmutableList"), (60, .class_ 78), (0, u "java/util/List"), (45, .class_ 125), (0, u "java/util/RandomAccess")] 70

def k26m0 : Method := { name := "<init>", desc := "()V", sig := { parameters := [], returnType := none }, accessFlags := 0, code := none }
/-- java/util/ImmutableCollections$AbstractImmutableList -/
def k26 : Class := { plain "java/util/ImmutableCollections$AbstractImmutableList" (some 24) with
  accessFlags := 1056
  interfaces := #[13, 25]
  cf := some (fileOf pool26 14 #[.nestHost 8] #[{ accessFlags := 0, nameIndex := 5, descriptorIndex := 6, attributes := #[] }] 1056 2 #[77, 124] #[])
  fields := #[]
  methods := #[k26m0]
  instanceTypes := #[]
  staticTypes := #[]
  resolved := Array.replicate 196 none
  statics := none }

def pool27 : Array CpInfo := pool [(2, .class_ 4), (1, u "java/util/ImmutableCollections$AbstractImmutableList"), (3, .class_ 10), (1, u "java/util/ImmutableCollections$ListN"), (0, u "elements"), (0, u "[Ljava/lang/Object;"), (2, u "allowNulls"), (0, u "Z"), (42, .class_ 60), (0, u "java/io/Serializable"), (53, .class_ 115), (0, u "java/util/ImmutableCollections")] 3

/-- java/util/ImmutableCollections$ListN -/
def k27 : Class := { plain "java/util/ImmutableCollections$ListN" (some 26) with
  accessFlags := 48
  interfaces := #[4]
  cf := some (fileOf pool27 8 #[.nestHost 114] #[] 48 2 #[59] #[{ accessFlags := 18, nameIndex := 11, descriptorIndex := 12, attributes := #[] }, { accessFlags := 18, nameIndex := 15, descriptorIndex := 16, attributes := #[] }])
  fields := #[{ name := "elements", type := (.array (.object "java/lang/Object")), accessFlags := 18, slot := 0, constantValue := 0 }, { name := "allowNulls", type := .boolean, accessFlags := 18, slot := 1, constantValue := 0 }]
  methods := #[]
  instanceTypes := #[(.array (.object "java/lang/Object")), .boolean]
  staticTypes := #[]
  resolved := Array.replicate 119 none
  statics := none }

/-- the primitive byte -/
def k28 : Class := { plain "byte" none with kind := .primitive 'B', accessFlags := 0x411 }
/-- [B -/
def k29 : Class := { plain "[B" (some 0) with kind := .array 28 .byte, interfaces := #[19, 4], accessFlags := 1041 }

/-- the primitive int -/
def k30 : Class := { plain "int" none with kind := .primitive 'I', accessFlags := 0x411 }
/-- [I -/
def k31 : Class := { plain "[I" (some 0) with kind := .array 30 .int, interfaces := #[19, 4], accessFlags := 1041 }

/-- [Ljava/lang/Object; -/
def k32 : Class := { plain "[Ljava/lang/Object;" (some 0) with kind := .array 0 (.object "java/lang/Object"), interfaces := #[19, 4], accessFlags := 1041 }

/-- [Ljava/lang/String; -/
def k33 : Class := { plain "[Ljava/lang/String;" (some 0) with kind := .array 9 (.object "java/lang/String"), interfaces := #[19, 4], accessFlags := 1041 }

def heap : Heap := #[{ cls := 3, slots := #[.ref 3], vm := .statics 3 },
  { cls := 14, slots := #[.long 0, .int 0, .null, .null, .ref 4, .null, .null, .null, .int 0, .int 0], vm := .statics 14 },
  { cls := 32, slots := #[], vm := .none },
  { cls := 31, slots := #[], vm := .none },
  { cls := 27, slots := #[.ref 2, .int 0], vm := .none }]
def k34 : Class := { plain "[[B" (some 0) with kind := .array 29 (.array .byte), interfaces := #[19, 4], accessFlags := 1041 }
def k35 : Class := { plain "[[I" (some 0) with kind := .array 31 (.array .int), interfaces := #[19, 4], accessFlags := 1041 }
def classes : Array Class := #[k0, k1, k2, k3, k4, k5, k6, k7, k8, k9, k10, k11, k12, k13, k14, k15, k16, k17, k18, k19, k20, k21, k22, k23, k24, k25, k26, k27, k28, k29, k30, k31, k32, k33, k34, k35]
def interned : List (Array UInt16 × Addr) := []
def slotsUsed : Nat := 13
def theMethod : MethodId := ⟨1, 6⟩
def args0 : Array Value := #[.int 5, .int 3, .int 7, .int 8, .int 9, .int 10]
def aboutOver (below : List Frame) : State where
  vm := { classes := classes, interned := interned.toArray }
  heap := heap
  slotsUsed := slotsUsed
  threads := #[{ frames := .invoking theMethod args0 :: below }]
def below0 : List Frame := [.native { method := ⟨0, 0⟩, args := #[] }]
def about1 : State := aboutOver below0
def p0 : Program := .bare "" "" ""
def e0 : Env := launch0.env 0 0 0
theorem w_frames : about1.frames = Frame.invoking theMethod args0 :: below0 := rfl
set_option maxRecDepth 65536 in
theorem w_args : argsFit about1.vm theMethod args0 = true := by decide +kernel
set_option maxRecDepth 65536 in
theorem w_heap : heapFits about1 = true := by decide +kernel
set_option maxRecDepth 65536 in
theorem w_runnable : about1.curStatus? = some .runnable := by decide +kernel
set_option maxRecDepth 65536 in
theorem w_alone : about1.alone = true := by decide +kernel
set_option maxRecDepth 65536 in
theorem w_named : about1.methodNamed? x = some theMethod := by decide +kernel
set_option maxRecDepth 65536 in
theorem w_hears : about1.hears theMethod below0 = true := by decide +kernel
set_option maxRecDepth 65536 in
theorem w_ripe : about1.ripe theMethod args0 below0 = true := by decide +kernel
theorem w_running : about1.status = .running := rfl
set_option maxRecDepth 65536 in
theorem w_room : about1.hasRoom e0.platform room_1 = true :=
  launch0.hasRoom_least _ room_1 (by decide +kernel) (by decide +kernel) (by decide +kernel) (by decide +kernel) (by decide +kernel) (by decide +kernel)
theorem allAtoms_all (ts : List Jvm.Cond) (a : Array Jvm.Value) (st : Jvm.State) : (allAtoms ts).before a st = ts.all (fun c => c.before a st) := by
  induction ts with
  | nil => rfl
  | cons c t ih =>
    show (Jvm.Cond.and c (allAtoms t)).before a st = _
    rw [Jvm.Cond.before_and, ih, List.all_cons]
def words1 : List Jvm.Cond := Jvm.Cond.code x code maxLocals ret :: tables_1
/-- a 'code' word, met by the world's own term for the bytes: nothing is compared byte by byte -/
theorem code_word {y : MethodName} {bytes : ByteArray} {mx : Nat} {rt : Option FieldType} {a : Array Value} {s : State} {m : MethodId} {meth : Method} {c : Code} (h1 : s.methodNamed? y = some m) (h2 : s.vm.method? m = some meth) (h3 : meth.code = some c) (h4 : c.code = bytes)
    (h5 : (c.maxLocals == mx && c.exceptionTable.isEmpty && decide (c.maxStack ≤ mostOperands) && decide (meth.sig.returnType = rt) && !meth.locks && decide (parseMethodDescriptor y.desc = some meth.sig)) = true) : (Jvm.Cond.code y bytes mx rt).before a s = true := by
  simp only [Bool.and_eq_true, beq_iff_eq, Bool.not_eq_true', decide_eq_true_eq] at h5
  obtain ⟨⟨⟨⟨⟨g1, g2⟩, g3⟩, g4⟩, g5⟩, g6⟩ := h5
  simp [Cond.before, Cond.holds, Cond.value, h1, h2, h3, h4, g1, g2, g3, g4, g5, g6]
def isCode : Jvm.Cond → Bool
  | .code _ _ _ _ => true
  | _ => false
theorem all_split {L : List Jvm.Cond} {P : Jvm.Cond → Bool} (h1 : L.all (fun c => isCode c || P c) = true) (h2 : ∀ c ∈ L.filter isCode, P c = true) : L.all P = true := by
  refine List.all_eq_true.mpr fun c hc => ?_
  have h := List.all_eq_true.mp h1 c hc
  rcases Bool.eq_false_or_eq_true (isCode c) with hi | hi
  · exact h2 c (List.mem_filter.mpr ⟨hc, hi⟩)
  · simpa [hi] using h
set_option maxRecDepth 65536 in
theorem w_c0 : (Jvm.Cond.code x code maxLocals ret).before args0 about1 = true := code_word (m := ⟨1, 6⟩) (meth := k1m6) (c := k1c6) (by decide +kernel) rfl rfl rfl (by decide +kernel)
set_option maxRecDepth 65536 in
theorem w_c1 : (Jvm.Cond.code ({ cls := "com/example/tidemark/tidemark/io/JsonBytesBeginArrayPinLaw", name := "pick", desc := "(I)B" } : Jvm.MethodName) method_2_code (2 : Nat) (Option.some Jvm.ClassFile.FieldType.byte)).before args0 about1 = true := code_word (m := ⟨1, 1⟩) (meth := k1m1) (c := k1c1) (by decide +kernel) rfl rfl rfl (by decide +kernel)
set_option maxRecDepth 65536 in
theorem w_c2 : (Jvm.Cond.code ({ cls := "com/example/tidemark/tidemark/io/JsonBytes$Fields", name := "<init>", desc := "([Ljava/lang/String;)V" } : Jvm.MethodName) prog_3_method_1_code (5 : Nat) (Option.none : Option Jvm.ClassFile.FieldType)).before args0 about1 = true := code_word (m := ⟨3, 0⟩) (meth := k3m0) (c := k3c0) (by decide +kernel) rfl rfl rfl (by decide +kernel)
set_option maxRecDepth 65536 in
theorem w_c3 : (Jvm.Cond.code ({ cls := "java/lang/Object", name := "<init>", desc := "()V" } : Jvm.MethodName) object_method_1_code (1 : Nat) (Option.none : Option Jvm.ClassFile.FieldType)).before args0 about1 = true := code_word (m := ⟨0, 0⟩) (meth := k0m0) (c := k0c0) (by decide +kernel) rfl rfl rfl (by decide +kernel)
set_option maxRecDepth 65536 in
theorem w_c4 : (Jvm.Cond.code ({ cls := "java/util/List", name := "of", desc := "([Ljava/lang/Object;)Ljava/util/List;" } : Jvm.MethodName) jdk_40_method_47_code (2 : Nat) (Option.some (Jvm.ClassFile.FieldType.object "java/util/List"))).before args0 about1 = true := code_word (m := ⟨13, 0⟩) (meth := k13m0) (c := k13c0) (by decide +kernel) rfl rfl rfl (by decide +kernel)
set_option maxRecDepth 65536 in
theorem w_c5 : (Jvm.Cond.code ({ cls := "java/util/Arrays", name := "fill", desc := "([Ljava/lang/Object;Ljava/lang/Object;)V" } : Jvm.MethodName) jdk_65_method_117_code (4 : Nat) (Option.none : Option Jvm.ClassFile.FieldType)).before args0 about1 = true := code_word (m := ⟨15, 1⟩) (meth := k15m1) (c := k15c1) (by decide +kernel) rfl rfl rfl (by decide +kernel)
set_option maxRecDepth 65536 in
theorem w_c6 : (Jvm.Cond.code ({ cls := "com/example/tidemark/tidemark/io/JsonBytes", name := "<init>", desc := "([BIILcom/example/tidemark/tidemark/io/JsonBytes$Fields;)V" } : Jvm.MethodName) prog_2_method_1_code (5 : Nat) (Option.none : Option Jvm.ClassFile.FieldType)).before args0 about1 = true := code_word (m := ⟨2, 0⟩) (meth := k2m0) (c := k2c0) (by decide +kernel) rfl rfl rfl (by decide +kernel)
set_option maxRecDepth 65536 in
theorem w_c7 : (Jvm.Cond.code ({ cls := "java/util/HashSet", name := "<init>", desc := "()V" } : Jvm.MethodName) jdk_93_method_1_code (1 : Nat) (Option.none : Option Jvm.ClassFile.FieldType)).before args0 about1 = true := code_word (m := ⟨20, 0⟩) (meth := k20m0) (c := k20c0) (by decide +kernel) rfl rfl rfl (by decide +kernel)
set_option maxRecDepth 65536 in
theorem w_c8 : (Jvm.Cond.code ({ cls := "java/util/AbstractSet", name := "<init>", desc := "()V" } : Jvm.MethodName) jdk_91_method_1_code (1 : Nat) (Option.none : Option Jvm.ClassFile.FieldType)).before args0 about1 = true := code_word (m := ⟨18, 0⟩) (meth := k18m0) (c := k18c0) (by decide +kernel) rfl rfl rfl (by decide +kernel)
set_option maxRecDepth 65536 in
theorem w_c9 : (Jvm.Cond.code ({ cls := "java/util/AbstractCollection", name := "<init>", desc := "()V" } : Jvm.MethodName) jdk_22_method_1_code (1 : Nat) (Option.none : Option Jvm.ClassFile.FieldType)).before args0 about1 = true := code_word (m := ⟨16, 0⟩) (meth := k16m0) (c := k16c0) (by decide +kernel) rfl rfl rfl (by decide +kernel)
set_option maxRecDepth 65536 in
theorem w_c10 : (Jvm.Cond.code ({ cls := "java/util/HashMap", name := "<init>", desc := "()V" } : Jvm.MethodName) jdk_69_method_7_code (1 : Nat) (Option.none : Option Jvm.ClassFile.FieldType)).before args0 about1 = true := code_word (m := ⟨23, 0⟩) (meth := k23m0) (c := k23c0) (by decide +kernel) rfl rfl rfl (by decide +kernel)
set_option maxRecDepth 65536 in
theorem w_c11 : (Jvm.Cond.code ({ cls := "java/util/AbstractMap", name := "<init>", desc := "()V" } : Jvm.MethodName) jdk_71_method_1_code (1 : Nat) (Option.none : Option Jvm.ClassFile.FieldType)).before args0 about1 = true := code_word (m := ⟨22, 0⟩) (meth := k22m0) (c := k22c0) (by decide +kernel) rfl rfl rfl (by decide +kernel)
set_option maxRecDepth 65536 in
theorem w_c12 : (Jvm.Cond.code ({ cls := "com/example/tidemark/tidemark/io/JsonBytesBeginArrayPinLaw", name := "skipWs", desc := "([BII)I" } : Jvm.MethodName) method_5_code (4 : Nat) (Option.some Jvm.ClassFile.FieldType.int)).before args0 about1 = true := code_word (m := ⟨1, 4⟩) (meth := k1m4) (c := k1c4) (by decide +kernel) rfl rfl rfl (by decide +kernel)
set_option maxRecDepth 65536 in
theorem w_c13 : (Jvm.Cond.code ({ cls := "com/example/tidemark/tidemark/io/JsonBytesBeginArrayPinLaw", name := "step", desc := "([BII)I" } : Jvm.MethodName) method_4_code (3 : Nat) (Option.some Jvm.ClassFile.FieldType.int)).before args0 about1 = true := code_word (m := ⟨1, 3⟩) (meth := k1m3) (c := k1c3) (by decide +kernel) rfl rfl rfl (by decide +kernel)
set_option maxRecDepth 65536 in
theorem w_c14 : (Jvm.Cond.code ({ cls := "com/example/tidemark/tidemark/io/JsonBytesBeginArrayPinLaw", name := "ws", desc := "(B)Z" } : Jvm.MethodName) method_3_code (1 : Nat) (Option.some Jvm.ClassFile.FieldType.boolean)).before args0 about1 = true := code_word (m := ⟨1, 2⟩) (meth := k1m2) (c := k1c2) (by decide +kernel) rfl rfl rfl (by decide +kernel)
set_option maxRecDepth 65536 in
theorem w_c15 : (Jvm.Cond.code ({ cls := "com/example/tidemark/tidemark/io/JsonBytesBeginArrayPinLaw", name := "at", desc := "([BII)I" } : Jvm.MethodName) method_6_code (3 : Nat) (Option.some Jvm.ClassFile.FieldType.int)).before args0 about1 = true := code_word (m := ⟨1, 5⟩) (meth := k1m5) (c := k1c5) (by decide +kernel) rfl rfl rfl (by decide +kernel)
set_option maxRecDepth 65536 in
theorem w_c16 : (Jvm.Cond.code ({ cls := "com/example/tidemark/tidemark/io/JsonBytes", name := "beginArray", desc := "()Z" } : Jvm.MethodName) prog_2_method_6_code (2 : Nat) (Option.some Jvm.ClassFile.FieldType.boolean)).before args0 about1 = true := code_word (m := ⟨2, 1⟩) (meth := k2m1) (c := k2c1) (by decide +kernel) rfl rfl rfl (by decide +kernel)
set_option maxRecDepth 65536 in
theorem w_c17 : (Jvm.Cond.code ({ cls := "com/example/tidemark/tidemark/io/JsonBytes", name := "peek", desc := "()I" } : Jvm.MethodName) prog_2_method_23_code (1 : Nat) (Option.some Jvm.ClassFile.FieldType.int)).before args0 about1 = true := code_word (m := ⟨2, 5⟩) (meth := k2m5) (c := k2c5) (by decide +kernel) rfl rfl rfl (by decide +kernel)
set_option maxRecDepth 65536 in
theorem w_c18 : (Jvm.Cond.code ({ cls := "com/example/tidemark/tidemark/io/JsonBytes", name := "isWhitespace", desc := "(B)Z" } : Jvm.MethodName) prog_2_method_28_code (1 : Nat) (Option.some Jvm.ClassFile.FieldType.boolean)).before args0 about1 = true := code_word (m := ⟨2, 6⟩) (meth := k2m6) (c := k2c6) (by decide +kernel) rfl rfl rfl (by decide +kernel)
set_option maxRecDepth 65536 in
theorem w_c19 : (Jvm.Cond.code ({ cls := "com/example/tidemark/tidemark/io/JsonBytes", name := "nextElement", desc := "()Z" } : Jvm.MethodName) prog_2_method_7_code (1 : Nat) (Option.some Jvm.ClassFile.FieldType.boolean)).before args0 about1 = true := code_word (m := ⟨2, 2⟩) (meth := k2m2) (c := k2c2) (by decide +kernel) rfl rfl rfl (by decide +kernel)
set_option maxRecDepth 65536 in
theorem w_c20 : (Jvm.Cond.code ({ cls := "com/example/tidemark/tidemark/io/JsonBytes", name := "nextMember", desc := "(C)Z" } : Jvm.MethodName) prog_2_method_11_code (3 : Nat) (Option.some Jvm.ClassFile.FieldType.boolean)).before args0 about1 = true := code_word (m := ⟨2, 3⟩) (meth := k2m3) (c := k2c3) (by decide +kernel) rfl rfl rfl (by decide +kernel)
set_option maxRecDepth 65536 in
theorem w_c21 : (Jvm.Cond.code ({ cls := "com/example/tidemark/tidemark/io/JsonBytes", name := "next", desc := "(CZ)Z" } : Jvm.MethodName) prog_2_method_12_code (5 : Nat) (Option.some Jvm.ClassFile.FieldType.boolean)).before args0 about1 = true := code_word (m := ⟨2, 4⟩) (meth := k2m4) (c := k2c4) (by decide +kernel) rfl rfl rfl (by decide +kernel)
def codes1 : List Jvm.Cond := [Jvm.Cond.code x code maxLocals ret, Jvm.Cond.code ({ cls := "com/example/tidemark/tidemark/io/JsonBytesBeginArrayPinLaw", name := "pick", desc := "(I)B" } : Jvm.MethodName) method_2_code (2 : Nat) (Option.some Jvm.ClassFile.FieldType.byte), Jvm.Cond.code ({ cls := "com/example/tidemark/tidemark/io/JsonBytes$Fields", name := "<init>", desc := "([Ljava/lang/String;)V" } : Jvm.MethodName) prog_3_method_1_code (5 : Nat) (Option.none : Option Jvm.ClassFile.FieldType), Jvm.Cond.code ({ cls := "java/lang/Object", name := "<init>", desc := "()V" } : Jvm.MethodName) object_method_1_code (1 : Nat) (Option.none : Option Jvm.ClassFile.FieldType), Jvm.Cond.code ({ cls := "java/util/List", name := "of", desc := "([Ljava/lang/Object;)Ljava/util/List;" } : Jvm.MethodName) jdk_40_method_47_code (2 : Nat) (Option.some (Jvm.ClassFile.FieldType.object "java/util/List")), Jvm.Cond.code ({ cls := "java/util/Arrays", name := "fill", desc := "([Ljava/lang/Object;Ljava/lang/Object;)V" } : Jvm.MethodName) jdk_65_method_117_code (4 : Nat) (Option.none : Option Jvm.ClassFile.FieldType), Jvm.Cond.code ({ cls := "com/example/tidemark/tidemark/io/JsonBytes", name := "<init>", desc := "([BIILcom/example/tidemark/tidemark/io/JsonBytes$Fields;)V" } : Jvm.MethodName) prog_2_method_1_code (5 : Nat) (Option.none : Option Jvm.ClassFile.FieldType), Jvm.Cond.code ({ cls := "java/util/HashSet", name := "<init>", desc := "()V" } : Jvm.MethodName) jdk_93_method_1_code (1 : Nat) (Option.none : Option Jvm.ClassFile.FieldType), Jvm.Cond.code ({ cls := "java/util/AbstractSet", name := "<init>", desc := "()V" } : Jvm.MethodName) jdk_91_method_1_code (1 : Nat) (Option.none : Option Jvm.ClassFile.FieldType), Jvm.Cond.code ({ cls := "java/util/AbstractCollection", name := "<init>", desc := "()V" } : Jvm.MethodName) jdk_22_method_1_code (1 : Nat) (Option.none : Option Jvm.ClassFile.FieldType), Jvm.Cond.code ({ cls := "java/util/HashMap", name := "<init>", desc := "()V" } : Jvm.MethodName) jdk_69_method_7_code (1 : Nat) (Option.none : Option Jvm.ClassFile.FieldType), Jvm.Cond.code ({ cls := "java/util/AbstractMap", name := "<init>", desc := "()V" } : Jvm.MethodName) jdk_71_method_1_code (1 : Nat) (Option.none : Option Jvm.ClassFile.FieldType), Jvm.Cond.code ({ cls := "com/example/tidemark/tidemark/io/JsonBytesBeginArrayPinLaw", name := "skipWs", desc := "([BII)I" } : Jvm.MethodName) method_5_code (4 : Nat) (Option.some Jvm.ClassFile.FieldType.int), Jvm.Cond.code ({ cls := "com/example/tidemark/tidemark/io/JsonBytesBeginArrayPinLaw", name := "step", desc := "([BII)I" } : Jvm.MethodName) method_4_code (3 : Nat) (Option.some Jvm.ClassFile.FieldType.int), Jvm.Cond.code ({ cls := "com/example/tidemark/tidemark/io/JsonBytesBeginArrayPinLaw", name := "ws", desc := "(B)Z" } : Jvm.MethodName) method_3_code (1 : Nat) (Option.some Jvm.ClassFile.FieldType.boolean), Jvm.Cond.code ({ cls := "com/example/tidemark/tidemark/io/JsonBytesBeginArrayPinLaw", name := "at", desc := "([BII)I" } : Jvm.MethodName) method_6_code (3 : Nat) (Option.some Jvm.ClassFile.FieldType.int), Jvm.Cond.code ({ cls := "com/example/tidemark/tidemark/io/JsonBytes", name := "beginArray", desc := "()Z" } : Jvm.MethodName) prog_2_method_6_code (2 : Nat) (Option.some Jvm.ClassFile.FieldType.boolean), Jvm.Cond.code ({ cls := "com/example/tidemark/tidemark/io/JsonBytes", name := "peek", desc := "()I" } : Jvm.MethodName) prog_2_method_23_code (1 : Nat) (Option.some Jvm.ClassFile.FieldType.int), Jvm.Cond.code ({ cls := "com/example/tidemark/tidemark/io/JsonBytes", name := "isWhitespace", desc := "(B)Z" } : Jvm.MethodName) prog_2_method_28_code (1 : Nat) (Option.some Jvm.ClassFile.FieldType.boolean), Jvm.Cond.code ({ cls := "com/example/tidemark/tidemark/io/JsonBytes", name := "nextElement", desc := "()Z" } : Jvm.MethodName) prog_2_method_7_code (1 : Nat) (Option.some Jvm.ClassFile.FieldType.boolean), Jvm.Cond.code ({ cls := "com/example/tidemark/tidemark/io/JsonBytes", name := "nextMember", desc := "(C)Z" } : Jvm.MethodName) prog_2_method_11_code (3 : Nat) (Option.some Jvm.ClassFile.FieldType.boolean), Jvm.Cond.code ({ cls := "com/example/tidemark/tidemark/io/JsonBytes", name := "next", desc := "(CZ)Z" } : Jvm.MethodName) prog_2_method_12_code (5 : Nat) (Option.some Jvm.ClassFile.FieldType.boolean)]
set_option maxRecDepth 65536 in
theorem codes_eq : words1.filter isCode = codes1 := rfl
theorem w_codes : ∀ c ∈ words1.filter isCode, c.before args0 about1 = true := by
  rw [codes_eq]
  intro c hc
  simp only [codes1, List.mem_cons, List.not_mem_nil, or_false] at hc
  rcases hc with rfl | rfl | rfl | rfl | rfl | rfl | rfl | rfl | rfl | rfl | rfl | rfl | rfl | rfl | rfl | rfl | rfl | rfl | rfl | rfl | rfl | rfl
  · exact w_c0
  · exact w_c1
  · exact w_c2
  · exact w_c3
  · exact w_c4
  · exact w_c5
  · exact w_c6
  · exact w_c7
  · exact w_c8
  · exact w_c9
  · exact w_c10
  · exact w_c11
  · exact w_c12
  · exact w_c13
  · exact w_c14
  · exact w_c15
  · exact w_c16
  · exact w_c17
  · exact w_c18
  · exact w_c19
  · exact w_c20
  · exact w_c21
set_option maxRecDepth 65536 in
theorem w_t1 : (words1.take 24).all (fun c => isCode c || c.before args0 about1) = true := by decide +kernel
set_option maxRecDepth 65536 in
theorem w_t2 : ((words1.drop 24).take 24).all (fun c => isCode c || c.before args0 about1) = true := by decide +kernel
set_option maxRecDepth 65536 in
theorem w_t3 : (((words1.drop 24).drop 24).take 24).all (fun c => isCode c || c.before args0 about1) = true := by decide +kernel
set_option maxRecDepth 65536 in
theorem w_t4 : ((((words1.drop 24).drop 24).drop 24).take 24).all (fun c => isCode c || c.before args0 about1) = true := by decide +kernel
set_option maxRecDepth 65536 in
theorem w_t5 : (((((words1.drop 24).drop 24).drop 24).drop 24).take 24).all (fun c => isCode c || c.before args0 about1) = true := by decide +kernel
set_option maxRecDepth 65536 in
theorem w_t6 : (((((words1.drop 24).drop 24).drop 24).drop 24).drop 24).all (fun c => isCode c || c.before args0 about1) = true := by decide +kernel
theorem w_tables : (allAtoms (Jvm.Cond.code x code maxLocals ret :: tables_1)).before args0 about1 = true := by
  rw [allAtoms_all]
  show words1.all (fun c => c.before args0 about1) = true
  refine all_split ?_ w_codes
  rw [← List.take_append_drop 24 words1, List.all_append, w_t1, ← List.take_append_drop 24 (words1.drop 24), List.all_append, w_t2, ← List.take_append_drop 24 ((words1.drop 24).drop 24), List.all_append, w_t3, ← List.take_append_drop 24 (((words1.drop 24).drop 24).drop 24), List.all_append, w_t4, ← List.take_append_drop 24 ((((words1.drop 24).drop 24).drop 24).drop 24), List.all_append, w_t5, w_t6]
  rfl
set_option maxRecDepth 65536 in
theorem w_rest : rest_1_c.before args0 about1 = true := by decide +kernel
set_option maxRecDepth 65536 in
theorem w_case : (Jvm.Cond.and given_1 narrow_1).before args0 about1 = true := by decide +kernel
theorem w_applies : (headSpec (Jvm.Cond.code x code maxLocals ret :: tables_1) room_1).applies x e0.platform about1 = true :=
  (Spec.applies_iff w_frames).mpr ⟨w_running, w_runnable, w_alone, w_named, w_hears, w_ripe, w_room, w_tables⟩
theorem atStart : AtStart classFile x code maxLocals ret World_1 tables_1 room_1 Calls_1 rest_1 Pre_1 launch0 p0 e0 about1 theMethod args0 below0 :=
  ⟨lists_1, trivial, launch0.admits_env _ _ _, launch0.least_env, fairChoices_fair.cas, fairChoices_fair.clock, w_frames, w_args, w_heap, w_applies, trivial, w_rest, w_case⟩
end start1
theorem witness_1 : WitnessClaimed_1 := ⟨start1.p0, start1.e0, start1.about1, start1.theMethod, start1.args0, start1.below0, start1.atStart⟩
end Jvm.Pilot.@@N@@
