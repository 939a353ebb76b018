import JvmDerived
import JvmDerived.Pilot.@@N@@Statement
import JvmDerived.Pilot.@@N@@Code
set_option linter.unusedVariables false
set_option linter.unusedSimpArgs false
namespace Jvm.OwnGo
open Jvm Jvm.ClassFile Sem Op Lib Jvm.Free Jvm.Stand Jvm.LawKit Jvm.RoadKit
section Own
variable {p : Program} {l : Launch} {e : Env} {R : Room} {s : State} {m : MethodId} {args : Array Value} {below : List Frame} {meth : Method} {c : Code} {T T' : State} {locs : List Loc} {cells slots : Nat} {Z : State} {a0 : Array Value} {h : Heap} {g g' : JFrame} {P : Outcome → State → Prop}
/-- the run goes on from T with the frame g on top and comes to an end at which P holds -/
def Go (p : Program) (e : Env) (below : List Frame) (P : Outcome → State → Prop) (T : State) (g : JFrame) : Prop := ∃ t o, Steps p.tables e below (T.setTop g) t ∧ t.status = .running ∧ Ended t below o ∧ P o t
theorem Go.of (g' : JFrame) (st : ∀ t, Steps p.tables e below (T'.setTop g') t → Steps p.tables e below (T.setTop g) t) (k : Go p e below P T' g') : Go p e below P T g := by
  obtain ⟨t, o, h1, h2⟩ := k; exact ⟨t, o, st t h1, h2⟩
theorem Go.via (g' : JFrame) (st : Steps p.tables e below (T.setTop g) (T'.setTop g')) (k : Go p e below P T' g') : Go p e below P T g := by
  obtain ⟨t, o, h1, h2⟩ := k; exact ⟨t, o, st.trans h1, h2⟩
theorem Go.cast (q : g = g') (k : Go p e below P T g') : Go p e below P T g := q ▸ k
abbrev EndP (s : State) (rm : Room) (Q : Option Value → Heap → List Loc → Prop) : Outcome → State → Prop := fun o U' => ∃ v L, o = .returned v ∧ Q v U'.heap L ∧ FrameEnd s o U' L rm.cells rm.slots
def Met (l : Launch) (Z : State) (y : MethodName) (bytes : ByteArray) (maxL : Nat) (ret : Option FieldType) (ws : List Cond) (rm : Room) (as' : Array Value) (h0 : Heap) (Q : Option Value → Heap → List Loc → Prop) : Prop :=
  MetFree l y (head1 (Cond.code y bytes maxL ret :: ws) rm) (fun a U => a = as' ∧ Z.Warmed39 U.vm ∧ U.heap = h0) (fun _ _ _ _ _ => True) (fun _ U o U' => ∃ v L, o = .returned v ∧ Q v U'.heap L ∧ FrameEnd U o U' L rm.cells rm.slots)
variable {y : MethodName} {bytes : ByteArray} {maxL : Nat} {ret : Option FieldType} {ws : List Cond} {rm : Room} {as' : Array Value} {h0 : Heap} {Q : Option Value → Heap → List Loc → Prop}
theorem Met.intro (hpl : plainFor y = true)
    (body : ∀ p e s m below meth c s₁, Stand p l e rm s m as' below meth c s₁ [] 0 0 → p.tables.exec = Jvm.exec → Z.Warmed39 s.vm → s.vm.findClass y.cls = some m.cls → c.code = bytes → c.maxLocals = maxL →
      meth.sig.returnType = ret → meth.locks = false → meth.name = y.name → s₁.heap = h0 → Go p e below (EndP s rm Q) s₁ (entryFrame m as' maxL)) : Met l Z y bytes maxL ret ws rm as' h0 Q := by
  refine MetFree.of_bodySF hpl hisR ?_
  intro p e s m args below meth c s₁ Bd hml0 hP hK
  obtain ⟨rfl, hZ, hh⟩ := hP
  exact body p e s m below meth c s₁ (Stand.of_body Bd) Bd.exec hZ (findClass_of_methodNamed Bd.named) Bd.bytes hml0 Bd.returns Bd.notSynchronized (name_of_methodNamed Bd.named Bd.method).1 (by rw [← hh, Bd.state]; rfl)
theorem Met.mono {Q' : Option Value → Heap → List Loc → Prop} (h : Met l Z y bytes maxL ret ws rm as' h0 Q) (q : ∀ v h L, Q v h L → Q' v h L) : Met l Z y bytes maxL ret ws rm as' h0 Q' := by
  intro p e ha hc hk s m args below hf happ hP hK
  obtain ⟨n, o, h1, h2, h3, v, L, h4, h5, h6⟩ := h p e ha hc hk s m args below hf happ hP hK
  exact ⟨n, o, h1, h2, h3, v, L, h4, q _ _ _ h5, h6⟩
theorem Go.fin (X : Stand p l e R s m args below meth c T locs cells slots) {v : Option Value} (hv : meth.sig.returnType = none → v = none) (hlk : meth.locks = false) (hc : cells ≤ rm.cells) (hs : slots ≤ rm.slots)
    (st : ∀ fs, (∀ (f : JFrame) (acts : List Action), f.method = m → f.locked = none → f.entered = [] → (doReturn e (T.setTop f) acts v).1 = T.setFrames fs) → Steps p.tables e below (T.setTop g) (T.setFrames fs)) (hQ : Q v T.heap locs) : Go p e below (EndP s rm Q) T g := by
  obtain ⟨fs, hr, hrun, hended, hW, hsame⟩ := X.leave (v := v) hv hlk
  exact ⟨_, _, st fs hr, hrun, hended, v, locs, rfl, hQ, ⟨v, rfl⟩, hW, hsame.mono hc hs⟩
/-- a value is returned -/
theorem Go.retW (X : Stand p l e R s m args below meth c T locs cells slots) (hx : p.tables.exec = Jvm.exec) {pc : Nat} {Ls : Array Slot} {w : Value} {t : FieldType} {i : Instr} {rest : List Value} (hret : meth.sig.returnType = some t) (hlk : meth.locks = false) (hn : narrow t w = w)
    (hi : (i = .ireturn ∧ (t = .int ∨ t = .boolean ∨ t = .byte ∨ t = .char ∨ t = .short) ∧ ∃ z, w = .int z) ∨ (i = .lreturn ∧ t = .long ∧ ∃ z, w = .long z) ∨ (i = .dreturn ∧ t = .double ∧ ∃ z, w = .double z) ∨ (i = .freturn ∧ t = .float ∧ ∃ z, w = .float z) ∨ (i = .areturn ∧ t.isReference = true ∧ w.isRef = true))
    (hd : decode c.code pc = .ok (i, 1)) (hc : cells ≤ rm.cells) (hs : slots ≤ rm.slots) (hQ : Q (some w) T.heap locs) : Go p e below (EndP s rm Q) T (mkF m pc Ls (w :: rest)) :=
  Go.fin X (fun q => by rw [hret] at q; cases q) hlk hc hs (fun fs hr => retOut X hx hret hn hi hd hr) hQ
/-- nothing is returned -/
theorem Go.retV (X : Stand p l e R s m args below meth c T locs cells slots) (hx : p.tables.exec = Jvm.exec) {pc : Nat} {Ls : Array Slot} (hret : meth.sig.returnType = none) (hlk : meth.locks = false)
    (hd : decode c.code pc = .ok (.return_, 1)) (hc : cells ≤ rm.cells) (hs : slots ≤ rm.slots) (hQ : Q none T.heap locs) : Go p e below (EndP s rm Q) T (mkF m pc Ls []) :=
  Go.fin X (fun _ => rfl) hlk hc hs (fun fs hr => X.returnOut hx hret hd hr) hQ
theorem ri_int {z : Int32} {t : FieldType} (ht : t = .int ∨ t = .boolean ∨ t = .byte ∨ t = .char ∨ t = .short) : ((.ireturn : Instr) = .ireturn ∧ (t = .int ∨ t = .boolean ∨ t = .byte ∨ t = .char ∨ t = .short) ∧ ∃ z', (Value.int z) = .int z') ∨ ((.ireturn : Instr) = .lreturn ∧ t = .long ∧ ∃ z', (Value.int z) = .long z') ∨ ((.ireturn : Instr) = .dreturn ∧ t = .double ∧ ∃ z', (Value.int z) = .double z') ∨ ((.ireturn : Instr) = .freturn ∧ t = .float ∧ ∃ z', (Value.int z) = .float z') ∨ ((.ireturn : Instr) = .areturn ∧ t.isReference = true ∧ (Value.int z).isRef = true) := Or.inl ⟨rfl, ht, z, rfl⟩
/-- a static call, by the callee's contract -/
theorem Go.callS (X : Stand p l e R s m args below meth c T locs cells slots) (hx : p.tables.exec = Jvm.exec) (hZ : Z.Warmed39 s.vm) {own : String} {index W : Nat} {argsL rest : List Value} (hown : s.vm.findClass own = some m.cls)
    (w1 : (Cond.methodLink own index y).before a0 Z = true) (w2 : (Cond.static y).before a0 Z = true) (w3 : (Cond.initialized y.cls).before a0 Z = true) (w4 : (Cond.code y bytes maxL ret).before a0 Z = true)
    (hy : y.cls ≠ "java/lang/invoke/MethodHandle" ∧ y.cls ≠ "java/lang/invoke/VarHandle") (eT : T.heap = h) (hM : Met l Z y bytes maxL ret [] rm argsL.toArray h Q)
    (hg : g.method = m) (hsize : g.locals.size = c.maxLocals) (hlen : ∀ sig, parseMethodDescriptor y.desc = some sig → argsL.length = sig.parameters.length) (hs : g.stack = argsL.reverse ++ rest)
    (hW : 2 * g.monitorRoom + (rest.map fun v => v.category).sum ≤ W) (hd : decode c.code g.pc = .ok (.invokestatic index, 3)) (hf : rm.frames + 1 ≤ R.frames) (hl : W + (maxL + 11) + rm.locals ≤ R.locals) (hc : cells + rm.cells ≤ R.cells) (hsl : slots + rm.slots ≤ R.slots)
    (k : ∀ T' L v, Stand p l e R s m args below meth c T' (locs ++ L) (cells + rm.cells) (slots + rm.slots) → Q v T'.heap L → Go p e below P T' { g with pc := g.pc + 3, stack := v.toList ++ rest }) : Go p e below P T g := by
  obtain ⟨v, _, ⟨U, L, q1, q2⟩, -, X', ⟨Lc, hQ, l1, l2, l3⟩, st⟩ := Jvm.LawKit.callS X hx (y := y) hown (mvT hZ w1) (mvT hZ w2) (mvT hZ w3) (mvT hZ w4) hy (backOf (W := W) hM hZ w4 w3 hf hl) hg hsize hlen hs hW hd (fun _ _ => ⟨rfl, eT, hc, hsl⟩)
  dsimp only [Pt.U, Pt.locs, Pt.cells, Pt.slots] at X' l1 l2 l3 st hQ
  subst l1 l2 l3
  exact Go.of _ st (k _ _ _ X' hQ)
/-- a constructor, by its contract -/
theorem Go.init (X : Stand p l e R s m args below meth c T locs cells slots) (hx : p.tables.exec = Jvm.exec) (hZ : Z.Warmed39 s.vm) {own : String} {index W : Nat} {a : Addr} {argsL rest : List Value} (hown : s.vm.findClass own = some m.cls) (hy1 : y.name = "<init>")
    (w1 : (Cond.methodLink own index y).before a0 Z = true) (w2 : (Cond.instanceMethod y).before a0 Z = true) (w3 : (Cond.initialized y.cls).before a0 Z = true) (w4 : (Cond.code y bytes maxL none).before a0 Z = true)
    (hy : y.cls ≠ "java/lang/invoke/MethodHandle" ∧ y.cls ≠ "java/lang/invoke/VarHandle") (eT : T.heap = h) (hM : Met l Z y bytes maxL none [] rm (.ref a :: argsL).toArray h Q)
    (hg : g.method = m) (hsize : g.locals.size = c.maxLocals) (hlen : ∀ sig, parseMethodDescriptor y.desc = some sig → argsL.length = sig.parameters.length) (hs : g.stack = argsL.reverse ++ .ref a :: rest)
    (hW : 2 * g.monitorRoom + (rest.map fun v => v.category).sum ≤ W) (hd : decode c.code g.pc = .ok (.invokespecial index, 3)) (hf : rm.frames + 1 ≤ R.frames) (hl : W + (maxL + 11) + rm.locals ≤ R.locals) (hc : cells + rm.cells ≤ R.cells) (hsl : slots + rm.slots ≤ R.slots)
    (k : ∀ T' L v, Stand p l e R s m args below meth c T' (locs ++ L) (cells + rm.cells) (slots + rm.slots) → Q v T'.heap L → Go p e below P T' { g with pc := g.pc + 3, stack := v.toList ++ rest }) : Go p e below P T g := by
  obtain ⟨v, _, ⟨U, L, q1, q2⟩, -, X', ⟨Lc, hQ, l1, l2, l3⟩, st⟩ := X.specialBack hx (y := y) hy1 hown (mvT hZ w1) (mvT hZ w2) (mvT hZ w4) hy (backOf (W := W) hM hZ w4 w3 hf hl) hg hsize (Steps.refl _) hlen hs hW hd (fun _ _ => ⟨rfl, eT, hc, hsl⟩)
  dsimp only [Pt.U, Pt.locs, Pt.cells, Pt.slots] at X' l1 l2 l3 st hQ
  subst l1 l2 l3
  exact Go.via _ st (k _ _ _ X' hQ)
/-- an instance method, by the contract of the method that the receiver's class selects -/
theorem Go.virt (X : Stand p l e R s m args below meth c T locs cells slots) (hx : p.tables.exec = Jvm.exec) (hZ : Z.Warmed39 s.vm) {own C : String} {z : MethodName} {index W : Nat} {a : Addr} {argsL rest : List Value} (hown : s.vm.findClass own = some m.cls)
    (w1 : (Cond.methodLink own index z).before a0 Z = true) (w2 : (Cond.declares z).before a0 Z = true) (nf : NotFace s z) (w5 : (Cond.selects C z y).before a0 Z = true) (w6 : (Cond.instanceMethod y).before a0 Z = true) (w3 : (Cond.initialized y.cls).before a0 Z = true) (w4 : (Cond.code y bytes maxL ret).before a0 Z = true)
    (hy : z.cls ≠ "java/lang/invoke/MethodHandle" ∧ z.cls ≠ "java/lang/invoke/VarHandle") (eT : T.heap = h) (E : Exa Z h a C) (hM : Met l Z y bytes maxL ret [] rm (.ref a :: argsL).toArray h Q)
    (hg : g.method = m) (hsize : g.locals.size = c.maxLocals) (hlen : ∀ sig, parseMethodDescriptor z.desc = some sig → argsL.length = sig.parameters.length) (hs : g.stack = argsL.reverse ++ .ref a :: rest)
    (hW : 2 * g.monitorRoom + (rest.map fun v => v.category).sum ≤ W) (hd : decode c.code g.pc = .ok (.invokevirtual index, 3)) (hf : rm.frames + 1 ≤ R.frames) (hl : W + (maxL + 11) + rm.locals ≤ R.locals) (hc : cells + rm.cells ≤ R.cells) (hsl : slots + rm.slots ≤ R.slots)
    (k : ∀ T' L v, Stand p l e R s m args below meth c T' (locs ++ L) (cells + rm.cells) (slots + rm.slots) → Q v T'.heap L → Go p e below P T' { g with pc := g.pc + 3, stack := v.toList ++ rest }) : Go p e below P T g := by
  obtain ⟨cq, kq, qa, qb, qc⟩ := isOf hZ eT E
  obtain ⟨v, _, ⟨U, L, q1, q2⟩, -, X', ⟨Lc, hQ, l1, l2, l3⟩, st⟩ := X.virtualBack hx (y := z) (z := y) hown (mvT hZ w1) (mvT hZ w2) nf (mvT hZ w5) (mvT hZ w6) hy (backOf (W := W) hM hZ w4 w3 hf hl) qa qc hg hsize (Steps.refl _) hlen hs hW hd (fun _ _ => ⟨rfl, eT, hc, hsl⟩)
  dsimp only [Pt.U, Pt.locs, Pt.cells, Pt.slots] at X' l1 l2 l3 st hQ
  subst l1 l2 l3
  exact Go.via _ st (k _ _ _ X' hQ)
/-- a private method (invokevirtual) -/
theorem Go.priv (X : Stand p l e R s m args below meth c T locs cells slots) (hx : p.tables.exec = Jvm.exec) (hZ : Z.Warmed39 s.vm) {own C : String} {index W : Nat} {a : Addr} {argsL rest : List Value} (hown : s.vm.findClass own = some m.cls)
    (w1 : (Cond.methodLink own index y).before a0 Z = true) (w6 : (Cond.instanceMethod y).before a0 Z = true) (w5 : (Cond.selects y.cls y y).before a0 Z = true) (w7 : (Cond.privateMethod y).before a0 Z = true) (w3 : (Cond.initialized y.cls).before a0 Z = true) (w4 : (Cond.code y bytes maxL ret).before a0 Z = true)
    (hy : y.cls ≠ "java/lang/invoke/MethodHandle" ∧ y.cls ≠ "java/lang/invoke/VarHandle") (eT : T.heap = h) (E : Exa Z h a C) (hM : Met l Z y bytes maxL ret [] rm (.ref a :: argsL).toArray h Q)
    (hg : g.method = m) (hsize : g.locals.size = c.maxLocals) (hlen : ∀ sig, parseMethodDescriptor y.desc = some sig → argsL.length = sig.parameters.length) (hs : g.stack = argsL.reverse ++ .ref a :: rest)
    (hW : 2 * g.monitorRoom + (rest.map fun v => v.category).sum ≤ W) (hd : decode c.code g.pc = .ok (.invokevirtual index, 3)) (hf : rm.frames + 1 ≤ R.frames) (hl : W + (maxL + 11) + rm.locals ≤ R.locals) (hc : cells + rm.cells ≤ R.cells) (hsl : slots + rm.slots ≤ R.slots)
    (k : ∀ T' L v, Stand p l e R s m args below meth c T' (locs ++ L) (cells + rm.cells) (slots + rm.slots) → Q v T'.heap L → Go p e below P T' { g with pc := g.pc + 3, stack := v.toList ++ rest }) : Go p e below P T g := by
  obtain ⟨cq, q, q'⟩ := E.cell
  obtain ⟨v, _, ⟨U, L, q1, q2⟩, -, X', ⟨Lc, hQ, l1, l2, l3⟩, st⟩ := X.privateBack hx (y := y) hown (mvT hZ w1) (mvT hZ w6) (mvT hZ w5) (Cond.privateMethod_at (mvP hZ w7 (args := #[]))) (mvT hZ w4) hy (backOf (W := W) hM hZ w4 w3 hf hl) hg hsize (Steps.refl _) (a := a) (by rw [eT]; exact q) q' hlen hs hW hd (fun _ _ => ⟨rfl, eT, hc, hsl⟩)
  dsimp only [Pt.U, Pt.locs, Pt.cells, Pt.slots] at X' l1 l2 l3 st hQ
  subst l1 l2 l3
  exact Go.via _ st (k _ _ _ X' hQ)
/-! arrays by a function of the place -/
def fnup {α : Type} (y : Int32 → α) (j : Int32) (v : α) : Int32 → α := fun i => if i = j then v else y i
theorem fnup_same {α : Type} (y : Int32 → α) (j : Int32) (v : α) : fnup y j v j = v := if_pos rfl
theorem fnup_ne {α : Type} {y : Int32 → α} {i j : Int32} {v : α} (h : ¬ i = j) : fnup y j v i = y i := if_neg h
def Fa (Z : State) (h : Heap) (a : Addr) (ty : FieldType) (n : Int32) (y : Int32 → Value) : Prop :=
  ∃ c : Cell, Arr Z h a c ty ∧ c.slots.size = n.toNatClampNeg ∧ ¬ n < 0 ∧ ∀ j : Int32, ¬ j < 0 → j < n → c.slots[j.toNatClampNeg]? = some (y j) ∧ fits ty (y j) = true
variable {a b : Addr} {ty : FieldType} {n : Int32} {yv : Int32 → Value} {h' : Heap} {j : Int32} {v : Value} {sl : Nat} {hws : List Addr}
theorem Fa.lt (F : Fa Z h a ty n yv) : a < h.size := by obtain ⟨c, A, -⟩ := F; exact A.lt
theorem Fa.ext (F : Fa Z h a ty n yv) (E : Ext h h') : Fa Z h' a ty n yv := by obtain ⟨c, A, r⟩ := F; exact ⟨c, A.ext E, r⟩
theorem Fa.other (F : Fa Z h b ty n yv) (W : Wr h h' a sl v) (q : b ≠ a) : Fa Z h' b ty n yv := by obtain ⟨c, A, r⟩ := F; exact ⟨c, A.other W q, r⟩
theorem Fa.keep (F : Fa Z h a ty n yv) (K : Keep h h' hws) (q : a ∉ hws) : Fa Z h' a ty n yv := by obtain ⟨c, A, r⟩ := F; exact ⟨c, ⟨K.2.1 a c A.1 q, A.2⟩, r⟩
theorem Fa.new {k : ClassId} (A : Arr Z h a (newA k ty n) ty) (q : ¬ n < 0) : Fa Z h a ty n (fun _ => defaultValue ty) :=
  ⟨_, A, sz_new _ _ _, q, fun i h0 h1 => ⟨get_new (by have := inb_of (c := newA k ty n) (sz_new k ty n) ⟨h0, h1⟩; rwa [sz_new] at this), by cases ty <;> rfl⟩⟩
theorem Fa.set (F : Fa Z h a ty n yv) (W : Wr h h' a j.toNatClampNeg v) (hj : ¬ j < 0) (hv : fits ty v = true) : Fa Z h' a ty n (fnup yv j v) := by
  obtain ⟨c, A, S, M, H⟩ := F
  refine ⟨c.setSlot j.toNatClampNeg v, A.same W, by rw [sz_set]; exact S, M, fun i h0 h1 => ?_⟩
  by_cases e : i = j
  · subst e; rw [fnup_same]; exact ⟨get_hit (inb_of S ⟨h0, h1⟩) rfl, hv⟩
  · rw [fnup_ne e, get_miss hj h0 e]; exact H i h0 h1
theorem Fa.congr {yw : Int32 → Value} (F : Fa Z h a ty n yv) (q : ∀ j, ¬ j < 0 → j < n → yw j = yv j) : Fa Z h a ty n yw := by
  obtain ⟨c, A, S, M, H⟩ := F
  exact ⟨c, A, S, M, fun j h0 h1 => by rw [q j h0 h1]; exact H j h0 h1⟩
theorem Fa.pos (F : Fa Z h a ty n yv) : ¬ n < 0 := by obtain ⟨c, A, S, M, H⟩ := F; exact M
theorem Fa.ofArv {k : ClassId} {vs : List Value} {dv : Value} (F : Arv Z h a k ty n vs dv) : Fa Z h a ty n (fun j => vs.getD j.toNatClampNeg dv) := by
  obtain ⟨c, A, q1, S, M, H, G⟩ := F
  exact ⟨c, A, S, M, fun j h0 h1 => by
    have q : j.toNatClampNeg < c.slots.size := Nat.lt_of_not_le fun z => inb_of S ⟨h0, h1⟩ (Or.inr z)
    exact ⟨H _ q, G _ q⟩⟩
theorem fnup_int (y : Int32 → Int32) (j x : Int32) : fnup (fun i => Value.int (y i)) j (.int x) = fun i => Value.int (fnup y j x i) := by funext i; unfold fnup; split <;> rfl
theorem fnup_long (y : Int32 → Int64) (j : Int32) (x : Int64) : fnup (fun i => Value.long (y i)) j (.long x) = fun i => Value.long (fnup y j x i) := by funext i; unfold fnup; split <;> rfl
theorem fnup_dbl (y : Int32 → UInt64) (j : Int32) (x : UInt64) : fnup (fun i => Value.double (y i)) j (.double x) = fun i => Value.double (fnup y j x i) := by funext i; unfold fnup; split <;> rfl
variable {rest : List Value}
theorem Go.arraylength (X : Stand p l e R s m args below meth c T locs cells slots) (hx : p.tables.exec = Jvm.exec) (hZ : Z.Warmed39 s.vm) (eT : T.heap = h) (F : Fa Z h a ty n yv) (hg : g.method = m) (hs : g.stack = .ref a :: rest) (hd : decode c.code g.pc = .ok (.arraylength, 1))
    (k : Go p e below P T { g with pc := g.pc + 1, stack := .int n :: rest }) : Go p e below P T g := by
  obtain ⟨cl, A, S, M, H⟩ := F
  refine Go.of _ (fun t k => X.arraylength hx (by rw [eT]; exact A.1) (State.isArrayOf_alike hZ.alike A.2.1) hg hs hd _ k) ?_
  rw [len_of S M]; exact k
theorem Go.iaload (X : Stand p l e R s m args below meth c T locs cells slots) (hx : p.tables.exec = Jvm.exec) (hZ : Z.Warmed39 s.vm) (eT : T.heap = h) {y : Int32 → Int32} (F : Fa Z h a .int n (fun i => .int (y i))) (h0 : ¬ j < 0) (h1 : j < n) (hg : g.method = m) (hs : g.stack = .int j :: .ref a :: rest) (hd : decode c.code g.pc = .ok (.iaload, 1))
    (k : Go p e below P T { g with pc := g.pc + 1, stack := .int (y j) :: rest }) : Go p e below P T g := by
  obtain ⟨cl, A, S, M, H⟩ := F
  exact Go.of _ (fun t k => X.iaload hx (by rw [eT]; exact A.1) (State.isArrayOf_alike hZ.alike A.2.1) A.2.2 (inb_of S ⟨h0, h1⟩) (H j h0 h1).1 hg hs hd _ k) k
theorem Go.caload (X : Stand p l e R s m args below meth c T locs cells slots) (hx : p.tables.exec = Jvm.exec) (hZ : Z.Warmed39 s.vm) (eT : T.heap = h) {y : Int32 → Int32} (F : Fa Z h a .char n (fun i => .int (y i))) (h0 : ¬ j < 0) (h1 : j < n) (hg : g.method = m) (hs : g.stack = .int j :: .ref a :: rest) (hd : decode c.code g.pc = .ok (.caload, 1))
    (k : Go p e below P T { g with pc := g.pc + 1, stack := .int (y j) :: rest }) : Go p e below P T g := by
  obtain ⟨cl, A, S, M, H⟩ := F
  exact Go.of _ (fun t k => X.caload hx (by rw [eT]; exact A.1) (State.isArrayOf_alike hZ.alike A.2.1) A.2.2 (inb_of S ⟨h0, h1⟩) (H j h0 h1).1 hg hs hd _ k) k
theorem Go.saload (X : Stand p l e R s m args below meth c T locs cells slots) (hx : p.tables.exec = Jvm.exec) (hZ : Z.Warmed39 s.vm) (eT : T.heap = h) {y : Int32 → Int32} (F : Fa Z h a .short n (fun i => .int (y i))) (h0 : ¬ j < 0) (h1 : j < n) (hg : g.method = m) (hs : g.stack = .int j :: .ref a :: rest) (hd : decode c.code g.pc = .ok (.saload, 1))
    (k : Go p e below P T { g with pc := g.pc + 1, stack := .int (y j) :: rest }) : Go p e below P T g := by
  obtain ⟨cl, A, S, M, H⟩ := F
  exact Go.of _ (fun t k => X.saload hx (by rw [eT]; exact A.1) (State.isArrayOf_alike hZ.alike A.2.1) A.2.2 (inb_of S ⟨h0, h1⟩) (H j h0 h1).1 hg hs hd _ k) k
theorem Go.baload (X : Stand p l e R s m args below meth c T locs cells slots) (hx : p.tables.exec = Jvm.exec) (hZ : Z.Warmed39 s.vm) (eT : T.heap = h) {y : Int32 → Int32} (F : Fa Z h a .byte n (fun i => .int (y i))) (h0 : ¬ j < 0) (h1 : j < n) (hg : g.method = m) (hs : g.stack = .int j :: .ref a :: rest) (hd : decode c.code g.pc = .ok (.baload, 1))
    (k : Go p e below P T { g with pc := g.pc + 1, stack := .int (y j) :: rest }) : Go p e below P T g := by
  obtain ⟨cl, A, S, M, H⟩ := F
  exact Go.of _ (fun t k => X.baloadBytes hx (by rw [eT]; exact A.1) (State.isArrayOf_alike hZ.alike A.2.1) A.2.2 (inb_of S ⟨h0, h1⟩) (H j h0 h1).1 hg hs hd _ k) k
theorem Go.zaload (X : Stand p l e R s m args below meth c T locs cells slots) (hx : p.tables.exec = Jvm.exec) (hZ : Z.Warmed39 s.vm) (eT : T.heap = h) {y : Int32 → Int32} (F : Fa Z h a .boolean n (fun i => .int (y i))) (h0 : ¬ j < 0) (h1 : j < n) (hg : g.method = m) (hs : g.stack = .int j :: .ref a :: rest) (hd : decode c.code g.pc = .ok (.baload, 1))
    (k : Go p e below P T { g with pc := g.pc + 1, stack := .int (y j) :: rest }) : Go p e below P T g := by
  obtain ⟨cl, A, S, M, H⟩ := F
  exact Go.of _ (fun t k => X.baloadBooleans hx (by rw [eT]; exact A.1) (State.isArrayOf_alike hZ.alike A.2.1) A.2.2 (inb_of S ⟨h0, h1⟩) (H j h0 h1).1 hg hs hd _ k) k
theorem Go.laload (X : Stand p l e R s m args below meth c T locs cells slots) (hx : p.tables.exec = Jvm.exec) (hZ : Z.Warmed39 s.vm) (eT : T.heap = h) {y : Int32 → Int64} (F : Fa Z h a .long n (fun i => .long (y i))) (h0 : ¬ j < 0) (h1 : j < n) (hg : g.method = m) (hs : g.stack = .int j :: .ref a :: rest) (hd : decode c.code g.pc = .ok (.laload, 1))
    (k : Go p e below P T { g with pc := g.pc + 1, stack := .long (y j) :: rest }) : Go p e below P T g := by
  obtain ⟨cl, A, S, M, H⟩ := F
  exact Go.of _ (fun t k => X.laload hx (by rw [eT]; exact A.1) (State.isArrayOf_alike hZ.alike A.2.1) A.2.2 (inb_of S ⟨h0, h1⟩) (H j h0 h1).1 hg hs hd _ k) k
theorem Go.aaload (X : Stand p l e R s m args below meth c T locs cells slots) (hx : p.tables.exec = Jvm.exec) (hZ : Z.Warmed39 s.vm) (eT : T.heap = h) (F : Fa Z h a ty n yv) (hty : ty.isReference = true) (h0 : ¬ j < 0) (h1 : j < n) (hg : g.method = m) (hs : g.stack = .int j :: .ref a :: rest) (hd : decode c.code g.pc = .ok (.aaload, 1))
    (k : Go p e below P T { g with pc := g.pc + 1, stack := yv j :: rest }) : Go p e below P T g := by
  obtain ⟨cl, A, S, M, H⟩ := F
  exact Go.of _ (fun t k => X.aaload hx (by rw [eT]; exact A.1) (State.isArrayOf_alike hZ.alike A.2.1) hty A.2.2 (inb_of S ⟨h0, h1⟩) (H j h0 h1).1 hg hs hd _ k) k
theorem Go.iastore (X : Stand p l e R s m args below meth c T locs cells slots) (hx : p.tables.exec = Jvm.exec) (hZ : Z.Warmed39 s.vm) (eT : T.heap = h) {y : Int32 → Int32} {x : Int32} (F : Fa Z h a .int n (fun i => .int (y i))) (h0 : ¬ j < 0) (h1 : j < n) (hg : g.method = m) (hs : g.stack = .int x :: .int j :: .ref a :: rest) (hd : decode c.code g.pc = .ok (.iastore, 1))
    (k : ∀ T' h', Stand p l e R s m args below meth c T' (locs ++ [⟨a, j.toNatClampNeg⟩]) cells slots → T'.heap = h' → Wr h h' a j.toNatClampNeg (.int x) → Fa Z h' a .int n (fun i => .int (fnup y j x i)) → Go p e below P T' { g with pc := g.pc + 1, stack := rest }) : Go p e below P T g := by
  obtain ⟨cl, A, S, M, H⟩ := id F
  obtain ⟨T', h', X', e', W, st⟩ := stI X hx hZ eT A (inb_of S ⟨h0, h1⟩) hg hs hd
  exact Go.of _ st (k _ _ X' e' W (by have := F.set W h0 rfl; rwa [fnup_int] at this))
theorem Go.castore (X : Stand p l e R s m args below meth c T locs cells slots) (hx : p.tables.exec = Jvm.exec) (hZ : Z.Warmed39 s.vm) (eT : T.heap = h) {y : Int32 → Int32} {x : Int32} (F : Fa Z h a .char n (fun i => .int (y i))) (h0 : ¬ j < 0) (h1 : j < n) (hg : g.method = m) (hs : g.stack = .int x :: .int j :: .ref a :: rest) (hd : decode c.code g.pc = .ok (.castore, 1))
    (k : ∀ T' h', Stand p l e R s m args below meth c T' (locs ++ [⟨a, j.toNatClampNeg⟩]) cells slots → T'.heap = h' → Wr h h' a j.toNatClampNeg (.int (nar .char x)) → Fa Z h' a .char n (fun i => .int (fnup y j (nar .char x) i)) → Go p e below P T' { g with pc := g.pc + 1, stack := rest }) : Go p e below P T g := by
  obtain ⟨cl, A, S, M, H⟩ := id F
  obtain ⟨T', h', X', e', W, st⟩ := stC X hx hZ eT A (inb_of S ⟨h0, h1⟩) hg hs hd
  exact Go.of _ st (k _ _ X' e' W (by have := F.set W h0 (fits_nar_char _); rwa [fnup_int] at this))
theorem Go.bastore (X : Stand p l e R s m args below meth c T locs cells slots) (hx : p.tables.exec = Jvm.exec) (hZ : Z.Warmed39 s.vm) (eT : T.heap = h) {y : Int32 → Int32} {x : Int32} (F : Fa Z h a .byte n (fun i => .int (y i))) (h0 : ¬ j < 0) (h1 : j < n) (hg : g.method = m) (hs : g.stack = .int x :: .int j :: .ref a :: rest) (hd : decode c.code g.pc = .ok (.bastore, 1))
    (k : ∀ T' h', Stand p l e R s m args below meth c T' (locs ++ [⟨a, j.toNatClampNeg⟩]) cells slots → T'.heap = h' → Wr h h' a j.toNatClampNeg (.int (nar .byte x)) → Fa Z h' a .byte n (fun i => .int (fnup y j (nar .byte x) i)) → Go p e below P T' { g with pc := g.pc + 1, stack := rest }) : Go p e below P T g := by
  obtain ⟨cl, A, S, M, H⟩ := id F
  obtain ⟨T', h', X', e', W, st⟩ := stB X hx hZ eT A (inb_of S ⟨h0, h1⟩) hg hs hd
  exact Go.of _ st (k _ _ X' e' W (by have := F.set W h0 (fits_nar_byte _); rwa [fnup_int] at this))
theorem Go.zastore (X : Stand p l e R s m args below meth c T locs cells slots) (hx : p.tables.exec = Jvm.exec) (hZ : Z.Warmed39 s.vm) (eT : T.heap = h) {y : Int32 → Int32} {x : Int32} (F : Fa Z h a .boolean n (fun i => .int (y i))) (h0 : ¬ j < 0) (h1 : j < n) (hg : g.method = m) (hs : g.stack = .int x :: .int j :: .ref a :: rest) (hd : decode c.code g.pc = .ok (.bastore, 1))
    (k : ∀ T' h', Stand p l e R s m args below meth c T' (locs ++ [⟨a, j.toNatClampNeg⟩]) cells slots → T'.heap = h' → Wr h h' a j.toNatClampNeg (.int (nar .boolean x)) → Fa Z h' a .boolean n (fun i => .int (fnup y j (nar .boolean x) i)) → Go p e below P T' { g with pc := g.pc + 1, stack := rest }) : Go p e below P T g := by
  obtain ⟨cl, A, S, M, H⟩ := id F
  obtain ⟨T', h', X', e', W, st⟩ := stZ X hx hZ eT A (inb_of S ⟨h0, h1⟩) hg hs hd
  exact Go.of _ st (k _ _ X' e' W (by have := F.set W h0 (fits_nar_bool _); rwa [fnup_int] at this))
theorem Go.lastore (X : Stand p l e R s m args below meth c T locs cells slots) (hx : p.tables.exec = Jvm.exec) (hZ : Z.Warmed39 s.vm) (eT : T.heap = h) {y : Int32 → Int64} {x : Int64} (F : Fa Z h a .long n (fun i => .long (y i))) (h0 : ¬ j < 0) (h1 : j < n) (hg : g.method = m) (hs : g.stack = .long x :: .int j :: .ref a :: rest) (hd : decode c.code g.pc = .ok (.lastore, 1))
    (k : ∀ T' h', Stand p l e R s m args below meth c T' (locs ++ [⟨a, j.toNatClampNeg⟩]) cells slots → T'.heap = h' → Wr h h' a j.toNatClampNeg (.long x) → Fa Z h' a .long n (fun i => .long (fnup y j x i)) → Go p e below P T' { g with pc := g.pc + 1, stack := rest }) : Go p e below P T g := by
  obtain ⟨cl, A, S, M, H⟩ := id F
  obtain ⟨T', h', X', e', W, st⟩ := stJ X hx hZ eT A (inb_of S ⟨h0, h1⟩) hg hs hd
  exact Go.of _ st (k _ _ X' e' W (by have := F.set W h0 rfl; rwa [fnup_long] at this))
theorem Go.aastore (X : Stand p l e R s m args below meth c T locs cells slots) (hx : p.tables.exec = Jvm.exec) (hZ : Z.Warmed39 s.vm) (eT : T.heap = h) (F : Fa Z h a ty n yv) (hty : ty.isReference = true) (hf : fits ty v = true) (O : Sto Z h a v) (h0 : ¬ j < 0) (h1 : j < n) (hg : g.method = m) (hs : g.stack = v :: .int j :: .ref a :: rest) (hd : decode c.code g.pc = .ok (.aastore, 1))
    (k : ∀ T' h', Stand p l e R s m args below meth c T' (locs ++ [⟨a, j.toNatClampNeg⟩]) cells slots → T'.heap = h' → Wr h h' a j.toNatClampNeg v → Fa Z h' a ty n (fnup yv j v) → Go p e below P T' { g with pc := g.pc + 1, stack := rest }) : Go p e below P T g := by
  obtain ⟨cl, A, S, M, H⟩ := id F
  obtain ⟨T', h', X', e', W, st⟩ := stR X hx hZ eT A (inb_of S ⟨h0, h1⟩) hty O hg hs hd
  exact Go.of _ st (k _ _ X' e' W (F.set W h0 hf))
/-- the array's class is that of the arrays over C -/
def Uty (Z : State) (h : Heap) (a : Addr) (C : String) : Prop := ∃ c : Cell, h[a]? = some c ∧ Ovr Z c.cls C
theorem Uty.ext {C : String} (F : Uty Z h a C) (E : Ext h h') : Uty Z h' a C := by obtain ⟨c, A, r⟩ := F; exact ⟨c, E.2 _ _ A, r⟩
theorem Uty.wr {C : String} (F : Uty Z h b C) (W : Wr h h' a sl v) : Uty Z h' b C := by
  obtain ⟨c, A, r⟩ := F
  obtain ⟨c', e1, e2, -⟩ := wr_at W A
  exact ⟨c', e1, by rw [e2]; exact r⟩
theorem Uty.keep {C : String} (F : Uty Z h a C) (K : Keep h h' hws) : Uty Z h' a C := by
  obtain ⟨c, A, r⟩ := F
  obtain ⟨c', e1, e2, -⟩ := K.2.2 _ _ A
  exact ⟨c', e1, by rw [e2]; exact r⟩
theorem Fa.sto {C : String} (F : Fa Z h a ty n yv) (U : Uty Z h a C) (I : Ins Z h b C true) : Sto Z h a (.ref b) := by
  obtain ⟨c, A, -⟩ := F
  obtain ⟨c', A', O⟩ := U
  cases A.1.symm.trans A'
  exact Sto.of A O I
theorem nat_back {i : Nat} (hi : i < 2 ^ 31) : i.toInt32.toNatClampNeg = i ∧ ¬ i.toInt32 < 0 := by
  have e : i.toInt32.toInt = i := len_toInt hi
  refine ⟨?_, ?_⟩
  · show i.toInt32.toInt.toNat = i
    rw [e]; rfl
  · rw [Int32.lt_iff_toInt_lt, e]
    have z : (0 : Int32).toInt = 0 := by decide
    omega
theorem lt_of_nat {i : Nat} {z : Int32} (hz : ¬ z < 0) (hi : i < z.toNatClampNeg) : i.toInt32 < z ∧ i < 2 ^ 31 := by
  have q := nat_of hz
  have b := rng32 z
  have hb : i < 2 ^ 31 := by omega
  refine ⟨?_, hb⟩
  rw [Int32.lt_iff_toInt_lt, len_toInt hb]
  omega
theorem Fa.fitC {cl : Cell} (A : Arr Z h a cl ty) (S : cl.slots.size = n.toNatClampNeg) (M : ¬ n < 0) (H : ∀ j : Int32, ¬ j < 0 → j < n → cl.slots[j.toNatClampNeg]? = some (yv j) ∧ fits ty (yv j) = true) : FitC Z cl :=
  fitC_of A fun i hi w hw => by
    have q := lt_of_nat M (S ▸ hi)
    have r := nat_back q.2
    have u := H i.toInt32 r.2 q.1
    rw [r.1] at u
    cases hw.symm.trans u.1
    exact u.2
theorem Go.clone (X : Stand p l e R s m args below meth c T locs cells slots) (hx : p.tables.exec = Jvm.exec) (hZ : Z.Warmed39 s.vm) {own ad : String} {index : Nat} (hown : s.vm.findClass own = some m.cls)
    (w1 : (Cond.methodLink own index ⟨ad, "clone", "()Ljava/lang/Object;"⟩).before a0 Z = true) (w2 : (Cond.sameMethod ad "java/lang/Object" "clone" "()Ljava/lang/Object;").before a0 Z = true) (w3 : (Cond.native ⟨"java/lang/Object", "clone", "()Ljava/lang/Object;"⟩).before a0 Z = true)
    (w4 : (Cond.instanceMethod ⟨"java/lang/Object", "clone", "()Ljava/lang/Object;"⟩).before a0 Z = true) (w5 : (Cond.selects ad ⟨ad, "clone", "()Ljava/lang/Object;"⟩ ⟨"java/lang/Object", "clone", "()Ljava/lang/Object;"⟩).before a0 Z = true) (w6 : (Cond.castable ad "java/lang/Cloneable").before a0 Z = true)
    (eT : T.heap = h) (F : Fa Z h a ty n yv) (E : Exa Z h a ad) (hg : g.method = m) (hsize : g.locals.size = c.maxLocals) (hs : g.stack = .ref a :: rest) (hd : decode c.code g.pc = .ok (.invokevirtual index, 3))
    (hf : 1 ≤ R.frames) {W cap : Nat} (hW : 2 * g.monitorRoom + (rest.map fun v => v.category).sum ≤ W) (hl : W + 14 ≤ R.locals) (hcap : n.toNatClampNeg ≤ cap) (hc : cells + 1 ≤ R.cells) (hsl : slots + cap ≤ R.slots)
    (k : ∀ T' h', Stand p l e R s m args below meth c T' locs (cells + 1) (slots + cap) → T'.heap = h' → Ext h h' → Fa Z h' h.size ty n yv → Exa Z h' h.size ad → Go p e below P T' { g with pc := g.pc + 3, stack := .ref h.size :: rest }) : Go p e below P T g := by
  obtain ⟨cl, A, S, M, H⟩ := id F
  obtain ⟨T', h', X', e', ex, A', E', st⟩ := cloneA X hx hZ hown w1 w2 w3 w4 w5 w6 eT A E (Fa.fitC A S M H) hg hsize hs hd hf hW hl (by rw [S]; exact hcap) hc hsl
  exact Go.of _ st (k _ _ X' e' ex ⟨cloneOf cl, A', S, M, H⟩ E')
theorem exa_ns {C : String} (E : Exa Z h a C) : ∀ c : Cell, h[a]? = some c → c.vm.isStatics = false := fun c hc => by
  obtain ⟨c', k, h1, -, -, h4, -⟩ := E
  cases h1.symm.trans hc; exact h4
theorem Sta.keep {C nn d : String} (F : Sta Z h C nn d v) (K : Keep h h' hws) (q : ∀ x ∈ hws, ∀ c : Cell, h[x]? = some c → c.vm.isStatics = false) : Sta Z h' C nn d v := by
  obtain ⟨cf, i, k, f, st, cell, h1, h2, h3, h4, h5, h6, h7⟩ := F
  refine ⟨cf, i, k, f, st, cell, h1, h2, h3, h4, K.2.1 _ _ h5 fun z => ?_, h6, h7⟩
  rw [q _ z _ h5] at h6; cases h6
/-- an inherited instance method (the entry names it through the subclass) -/
theorem Go.virtUp (X : Stand p l e R s m args below meth c T locs cells slots) (hx : p.tables.exec = Jvm.exec) (hZ : Z.Warmed39 s.vm) {own C owner : String} {z : MethodName} {index W : Nat} {argsL : List Value} (hown : s.vm.findClass own = some m.cls)
    (w1 : (Cond.methodLink own index z).before a0 Z = true) (w2 : (Cond.sameMethod z.cls owner z.name z.desc).before a0 Z = true) (w8 : (Cond.declares ⟨owner, z.name, z.desc⟩).before a0 Z = true) (hy : owner ≠ "java/lang/invoke/MethodHandle" ∧ owner ≠ "java/lang/invoke/VarHandle") (w5 : (Cond.selects C z y).before a0 Z = true) (w6 : (Cond.instanceMethod y).before a0 Z = true) (w3 : (Cond.initialized y.cls).before a0 Z = true) (w4 : (Cond.code y bytes maxL ret).before a0 Z = true)
    (eT : T.heap = h) (E : Exa Z h a C) (hM : Met l Z y bytes maxL ret [] rm (.ref a :: argsL).toArray h Q)
    (hg : g.method = m) (hsize : g.locals.size = c.maxLocals) (hlen : ∀ sig, parseMethodDescriptor z.desc = some sig → argsL.length = sig.parameters.length) (hs : g.stack = argsL.reverse ++ .ref a :: rest)
    (hW : 2 * g.monitorRoom + (rest.map fun v => v.category).sum ≤ W) (hd : decode c.code g.pc = .ok (.invokevirtual index, 3)) (hf : rm.frames + 1 ≤ R.frames) (hl : W + (maxL + 11) + rm.locals ≤ R.locals) (hc : cells + rm.cells ≤ R.cells) (hsl : slots + rm.slots ≤ R.slots)
    (k : ∀ T' L v, Stand p l e R s m args below meth c T' (locs ++ L) (cells + rm.cells) (slots + rm.slots) → Q v T'.heap L → Go p e below P T' { g with pc := g.pc + 3, stack := v.toList ++ rest }) : Go p e below P T g := by
  obtain ⟨cq, kq, qa, qb, qc⟩ := isOf hZ eT E
  obtain ⟨v, _, ⟨U, L, q1, q2⟩, -, X', ⟨Lc, hQ, l1, l2, l3⟩, st⟩ := X.virtualBackUp hx (x := z) (y := y) hown (mvT hZ w1) (mvT hZ w2) (mvT hZ w8) hy (mvT hZ w5) (mvT hZ w6) (backOf (W := W) hM hZ w4 w3 hf hl) qa qc hg hsize (Steps.refl _) hlen hs hW hd (fun _ _ => ⟨rfl, eT, hc, hsl⟩)
  dsimp only [Pt.U, Pt.locs, Pt.cells, Pt.slots] at X' l1 l2 l3 st hQ
  subst l1 l2 l3
  exact Go.via _ st (k _ _ _ X' hQ)
/-- the two sides of a call as the pasted laws of String have them -/
abbrev BPre (R : Room) (as' : Array Value) (h : Heap) (kc ks : Nat) : Pt → Array Value → Prop := fun P a => a = as' ∧ P.U.heap = h ∧ P.cells + kc ≤ R.cells ∧ P.slots + ks ≤ R.slots
abbrev BPost (Q : Option Value → Heap → List Loc → Prop) (kc ks : Nat) : Pt → Array Value → Option Value → Pt → Prop := fun P _ v B => ∃ L, Q v B.U.heap L ∧ B.locs = P.locs ++ L ∧ B.cells = P.cells + kc ∧ B.slots = P.slots + ks
theorem Go.initB (X : Stand p l e R s m args below meth c T locs cells slots) (hx : p.tables.exec = Jvm.exec) (hZ : Z.Warmed39 s.vm) {own : String} {index W kc ks : Nat} {argsL : List Value} (hown : s.vm.findClass own = some m.cls) (hy1 : y.name = "<init>")
    (w1 : (Cond.methodLink own index y).before a0 Z = true) (w2 : (Cond.instanceMethod y).before a0 Z = true) (w4 : (Cond.code y bytes maxL none).before a0 Z = true)
    (hy : y.cls ≠ "java/lang/invoke/MethodHandle" ∧ y.cls ≠ "java/lang/invoke/VarHandle") (eT : T.heap = h) (hK : Back l R p e below s args y 3 W (BPre R (.ref a :: argsL).toArray h kc ks) (BPost Q kc ks))
    (hg : g.method = m) (hsize : g.locals.size = c.maxLocals) (hlen : ∀ sig, parseMethodDescriptor y.desc = some sig → argsL.length = sig.parameters.length) (hs : g.stack = argsL.reverse ++ .ref a :: rest)
    (hW : 2 * g.monitorRoom + (rest.map fun v => v.category).sum ≤ W) (hd : decode c.code g.pc = .ok (.invokespecial index, 3)) (hc : cells + kc ≤ R.cells) (hsl : slots + ks ≤ R.slots)
    (k : ∀ T' L v, Stand p l e R s m args below meth c T' (locs ++ L) (cells + kc) (slots + ks) → Q v T'.heap L → Go p e below P T' { g with pc := g.pc + 3, stack := v.toList ++ rest }) : Go p e below P T g := by
  obtain ⟨v, _, ⟨U, L, q1, q2⟩, -, X', ⟨Lc, hQ, l1, l2, l3⟩, st⟩ := X.specialBack hx (y := y) hy1 hown (mvT hZ w1) (mvT hZ w2) (mvT hZ w4) hy hK hg hsize (Steps.refl _) hlen hs hW hd (fun _ _ => ⟨rfl, eT, hc, hsl⟩)
  dsimp only [Pt.U, Pt.locs, Pt.cells, Pt.slots] at X' l1 l2 l3 st hQ
  subst l1 l2 l3
  exact Go.via _ st (k _ _ _ X' hQ)
theorem Go.virtB (X : Stand p l e R s m args below meth c T locs cells slots) (hx : p.tables.exec = Jvm.exec) (hZ : Z.Warmed39 s.vm) {own C : String} {z : MethodName} {index W kc ks : Nat} {argsL : List Value} (hown : s.vm.findClass own = some m.cls)
    (w1 : (Cond.methodLink own index z).before a0 Z = true) (w2 : (Cond.declares z).before a0 Z = true) (nf : NotFace s z) (w5 : (Cond.selects C z y).before a0 Z = true) (w6 : (Cond.instanceMethod y).before a0 Z = true)
    (hy : z.cls ≠ "java/lang/invoke/MethodHandle" ∧ z.cls ≠ "java/lang/invoke/VarHandle") (eT : T.heap = h) (E : Exa Z h a C) (hK : Back l R p e below s args y 3 W (BPre R (.ref a :: argsL).toArray h kc ks) (BPost Q kc ks))
    (hg : g.method = m) (hsize : g.locals.size = c.maxLocals) (hlen : ∀ sig, parseMethodDescriptor z.desc = some sig → argsL.length = sig.parameters.length) (hs : g.stack = argsL.reverse ++ .ref a :: rest)
    (hW : 2 * g.monitorRoom + (rest.map fun v => v.category).sum ≤ W) (hd : decode c.code g.pc = .ok (.invokevirtual index, 3)) (hc : cells + kc ≤ R.cells) (hsl : slots + ks ≤ R.slots)
    (k : ∀ T' L v, Stand p l e R s m args below meth c T' (locs ++ L) (cells + kc) (slots + ks) → Q v T'.heap L → Go p e below P T' { g with pc := g.pc + 3, stack := v.toList ++ rest }) : Go p e below P T g := by
  obtain ⟨cq, kq, qa, qb, qc⟩ := isOf hZ eT E
  obtain ⟨v, _, ⟨U, L, q1, q2⟩, -, X', ⟨Lc, hQ, l1, l2, l3⟩, st⟩ := X.virtualBack hx (y := z) (z := y) hown (mvT hZ w1) (mvT hZ w2) nf (mvT hZ w5) (mvT hZ w6) hy hK qa qc hg hsize (Steps.refl _) hlen hs hW hd (fun _ _ => ⟨rfl, eT, hc, hsl⟩)
  dsimp only [Pt.U, Pt.locs, Pt.cells, Pt.slots] at X' l1 l2 l3 st hQ
  subst l1 l2 l3
  exact Go.via _ st (k _ _ _ X' hQ)
theorem Fa.toArv {vs : List Value} {dv : Value} (F : Fa Z h a ty n yv) (q : ∀ i : Nat, i < n.toNatClampNeg → vs.getD i dv = yv i.toInt32) : ∃ k, Arv Z h a k ty n vs dv := by
  obtain ⟨cl, A, S, M, H⟩ := F
  refine ⟨cl.cls, cl, A, rfl, S, M, fun i hi => ?_, fun i hi => ?_⟩
  · rw [S] at hi
    have b := lt_of_nat M hi
    have r := nat_back b.2
    have u := (H _ r.2 b.1).1
    rw [r.1] at u; rw [q i hi]; exact u
  · rw [S] at hi
    have b := lt_of_nat M hi
    have r := nat_back b.2
    rw [q i hi]; exact (H _ r.2 b.1).2
end Own
end Jvm.OwnGo
namespace Jvm.Pilot.@@N@@
open Jvm Jvm.ClassFile Sem Op Lib Jvm.Free Jvm.Stand Jvm.LawKit Jvm.RoadKit Bundle Jvm.OwnGo Jvm.Pilot.@@N@@.Jvm.D

def own_of (p : Int32) (u1 u2 u3 u4 : Addr) : Addr := if p < 25 then u1 else if p < 45 then u2 else if p < 65 then u3 else u4
theorem own_a {p : Int32} (h : p < 25) : p < 45 := by
  rw [Int32.lt_iff_toInt_lt] at *
  have e1 : (25 : Int32).toInt = 25 := by decide
  have e2 : (45 : Int32).toInt = 45 := by decide
  omega
theorem own_b {p : Int32} (h : p < 45) : p < 65 := by
  rw [Int32.lt_iff_toInt_lt] at *
  have e1 : (65 : Int32).toInt = 65 := by decide
  have e2 : (45 : Int32).toInt = 45 := by decide
  omega
theorem tw0 {Z : State} {a0 : Array Value} (hw : ∀ d ∈ tables_1, d.before a0 Z = true) : (Jvm.Cond.methodLink "com/example/kiriman/kiriman/demand/AgeGroupOfPinLaw" (7 : Nat) ({ cls := "com/example/kiriman/kiriman/demand/AgeGroupOfPinLaw", name := "agrees", desc := "(I)Z" } : Jvm.MethodName)).before a0 Z = true := hw _ (List.mem_of_getElem? (i := 0) rfl)
theorem tw1 {Z : State} {a0 : Array Value} (hw : ∀ d ∈ tables_1, d.before a0 Z = true) : (Jvm.Cond.static ({ cls := "com/example/kiriman/kiriman/demand/AgeGroupOfPinLaw", name := "agrees", desc := "(I)Z" } : Jvm.MethodName)).before a0 Z = true := hw _ (List.mem_of_getElem? (i := 1) rfl)
theorem tw2 {Z : State} {a0 : Array Value} (hw : ∀ d ∈ tables_1, d.before a0 Z = true) : (Jvm.Cond.initialized "com/example/kiriman/kiriman/demand/AgeGroupOfPinLaw").before a0 Z = true := hw _ (List.mem_of_getElem? (i := 2) rfl)
theorem tw3 {Z : State} {a0 : Array Value} (hw : ∀ d ∈ tables_1, d.before a0 Z = true) : (Jvm.Cond.code ({ cls := "com/example/kiriman/kiriman/demand/AgeGroupOfPinLaw", name := "agrees", desc := "(I)Z" } : Jvm.MethodName) method_3_code (4 : Nat) (Option.some Jvm.ClassFile.FieldType.boolean)).before a0 Z = true := hw _ (List.mem_of_getElem? (i := 3) rfl)
theorem tw4 {Z : State} {a0 : Array Value} (hw : ∀ d ∈ tables_1, d.before a0 Z = true) : (Jvm.Cond.methodLink "com/example/kiriman/kiriman/demand/AgeGroupOfPinLaw" (13 : Nat) ({ cls := "com/example/kiriman/kiriman/demand/PersonAttributes$AgeGroup", name := "of", desc := "(I)Lcom/example/kiriman/kiriman/demand/PersonAttributes$AgeGroup;" } : Jvm.MethodName)).before a0 Z = true := hw _ (List.mem_of_getElem? (i := 4) rfl)
theorem tw5 {Z : State} {a0 : Array Value} (hw : ∀ d ∈ tables_1, d.before a0 Z = true) : (Jvm.Cond.static ({ cls := "com/example/kiriman/kiriman/demand/PersonAttributes$AgeGroup", name := "of", desc := "(I)Lcom/example/kiriman/kiriman/demand/PersonAttributes$AgeGroup;" } : Jvm.MethodName)).before a0 Z = true := hw _ (List.mem_of_getElem? (i := 5) rfl)
theorem tw6 {Z : State} {a0 : Array Value} (hw : ∀ d ∈ tables_1, d.before a0 Z = true) : (Jvm.Cond.initialized "com/example/kiriman/kiriman/demand/PersonAttributes$AgeGroup").before a0 Z = true := hw _ (List.mem_of_getElem? (i := 6) rfl)
theorem tw7 {Z : State} {a0 : Array Value} (hw : ∀ d ∈ tables_1, d.before a0 Z = true) : (Jvm.Cond.code ({ cls := "com/example/kiriman/kiriman/demand/PersonAttributes$AgeGroup", name := "of", desc := "(I)Lcom/example/kiriman/kiriman/demand/PersonAttributes$AgeGroup;" } : Jvm.MethodName) prog_13_method_4_code (2 : Nat) (Option.some (Jvm.ClassFile.FieldType.object "com/example/kiriman/kiriman/demand/PersonAttributes$AgeGroup"))).before a0 Z = true := hw _ (List.mem_of_getElem? (i := 7) rfl)
theorem tw8 {Z : State} {a0 : Array Value} (hw : ∀ d ∈ tables_1, d.before a0 Z = true) : (Jvm.Cond.fieldLink "com/example/kiriman/kiriman/demand/PersonAttributes$AgeGroup" (3 : Nat) "com/example/kiriman/kiriman/demand/PersonAttributes$AgeGroup" "UNDER_25" "Lcom/example/kiriman/kiriman/demand/PersonAttributes$AgeGroup;").before a0 Z = true := hw _ (List.mem_of_getElem? (i := 8) rfl)
theorem tw9 {Z : State} {a0 : Array Value} (hw : ∀ d ∈ tables_1, d.before a0 Z = true) : (Jvm.Cond.laysStatic "com/example/kiriman/kiriman/demand/PersonAttributes$AgeGroup" "UNDER_25" "Lcom/example/kiriman/kiriman/demand/PersonAttributes$AgeGroup;").before a0 Z = true := hw _ (List.mem_of_getElem? (i := 9) rfl)
theorem tw10 {Z : State} {a0 : Array Value} (hw : ∀ d ∈ tables_1, d.before a0 Z = true) : (Jvm.Cond.fieldLink "com/example/kiriman/kiriman/demand/AgeGroupOfPinLaw" (19 : Nat) "com/example/kiriman/kiriman/demand/PersonAttributes$AgeGroup" "UNDER_25" "Lcom/example/kiriman/kiriman/demand/PersonAttributes$AgeGroup;").before a0 Z = true := hw _ (List.mem_of_getElem? (i := 10) rfl)
theorem tw11 {Z : State} {a0 : Array Value} (hw : ∀ d ∈ tables_1, d.before a0 Z = true) : (Jvm.Cond.fieldLink "com/example/kiriman/kiriman/demand/PersonAttributes$AgeGroup" (7 : Nat) "com/example/kiriman/kiriman/demand/PersonAttributes$AgeGroup" "FROM_25_TO_44" "Lcom/example/kiriman/kiriman/demand/PersonAttributes$AgeGroup;").before a0 Z = true := hw _ (List.mem_of_getElem? (i := 11) rfl)
theorem tw12 {Z : State} {a0 : Array Value} (hw : ∀ d ∈ tables_1, d.before a0 Z = true) : (Jvm.Cond.laysStatic "com/example/kiriman/kiriman/demand/PersonAttributes$AgeGroup" "FROM_25_TO_44" "Lcom/example/kiriman/kiriman/demand/PersonAttributes$AgeGroup;").before a0 Z = true := hw _ (List.mem_of_getElem? (i := 12) rfl)
theorem tw13 {Z : State} {a0 : Array Value} (hw : ∀ d ∈ tables_1, d.before a0 Z = true) : (Jvm.Cond.fieldLink "com/example/kiriman/kiriman/demand/AgeGroupOfPinLaw" (23 : Nat) "com/example/kiriman/kiriman/demand/PersonAttributes$AgeGroup" "FROM_25_TO_44" "Lcom/example/kiriman/kiriman/demand/PersonAttributes$AgeGroup;").before a0 Z = true := hw _ (List.mem_of_getElem? (i := 13) rfl)
theorem tw14 {Z : State} {a0 : Array Value} (hw : ∀ d ∈ tables_1, d.before a0 Z = true) : (Jvm.Cond.fieldLink "com/example/kiriman/kiriman/demand/PersonAttributes$AgeGroup" (13 : Nat) "com/example/kiriman/kiriman/demand/PersonAttributes$AgeGroup" "FROM_65" "Lcom/example/kiriman/kiriman/demand/PersonAttributes$AgeGroup;").before a0 Z = true := hw _ (List.mem_of_getElem? (i := 14) rfl)
theorem tw15 {Z : State} {a0 : Array Value} (hw : ∀ d ∈ tables_1, d.before a0 Z = true) : (Jvm.Cond.laysStatic "com/example/kiriman/kiriman/demand/PersonAttributes$AgeGroup" "FROM_65" "Lcom/example/kiriman/kiriman/demand/PersonAttributes$AgeGroup;").before a0 Z = true := hw _ (List.mem_of_getElem? (i := 15) rfl)
theorem tw16 {Z : State} {a0 : Array Value} (hw : ∀ d ∈ tables_1, d.before a0 Z = true) : (Jvm.Cond.fieldLink "com/example/kiriman/kiriman/demand/AgeGroupOfPinLaw" (29 : Nat) "com/example/kiriman/kiriman/demand/PersonAttributes$AgeGroup" "FROM_65" "Lcom/example/kiriman/kiriman/demand/PersonAttributes$AgeGroup;").before a0 Z = true := hw _ (List.mem_of_getElem? (i := 16) rfl)
theorem tw17 {Z : State} {a0 : Array Value} (hw : ∀ d ∈ tables_1, d.before a0 Z = true) : (Jvm.Cond.fieldLink "com/example/kiriman/kiriman/demand/PersonAttributes$AgeGroup" (10 : Nat) "com/example/kiriman/kiriman/demand/PersonAttributes$AgeGroup" "FROM_45_TO_64" "Lcom/example/kiriman/kiriman/demand/PersonAttributes$AgeGroup;").before a0 Z = true := hw _ (List.mem_of_getElem? (i := 17) rfl)
theorem tw18 {Z : State} {a0 : Array Value} (hw : ∀ d ∈ tables_1, d.before a0 Z = true) : (Jvm.Cond.laysStatic "com/example/kiriman/kiriman/demand/PersonAttributes$AgeGroup" "FROM_45_TO_64" "Lcom/example/kiriman/kiriman/demand/PersonAttributes$AgeGroup;").before a0 Z = true := hw _ (List.mem_of_getElem? (i := 18) rfl)
theorem tw19 {Z : State} {a0 : Array Value} (hw : ∀ d ∈ tables_1, d.before a0 Z = true) : (Jvm.Cond.fieldLink "com/example/kiriman/kiriman/demand/AgeGroupOfPinLaw" (26 : Nat) "com/example/kiriman/kiriman/demand/PersonAttributes$AgeGroup" "FROM_45_TO_64" "Lcom/example/kiriman/kiriman/demand/PersonAttributes$AgeGroup;").before a0 Z = true := hw _ (List.mem_of_getElem? (i := 19) rfl)
theorem pn0 : plainFor (⟨"com/example/kiriman/kiriman/demand/PersonAttributes$AgeGroup", "of", "(I)Lcom/example/kiriman/kiriman/demand/PersonAttributes$AgeGroup;"⟩ : MethodName) = true := plainFor_of_name (by first | (simp [plainName, overriddenIn]; done) | decide +kernel)
theorem d2_0 : decode prog_13_method_4_code 0 = .ok (.iload_n 0, 1) := by decide +kernel
theorem d2_1 : decode prog_13_method_4_code 1 = .ok (.bipush 25, 2) := by decide +kernel
theorem d2_3 : decode prog_13_method_4_code 3 = .ok (.if_icmp .ge 10, 3) := by decide +kernel
theorem d2_6 : decode prog_13_method_4_code 6 = .ok (.getstatic 3, 3) := by decide +kernel
theorem d2_9 : decode prog_13_method_4_code 9 = .ok (.astore_n 1, 1) := by decide +kernel
theorem d2_10 : decode prog_13_method_4_code 10 = .ok (.goto 33, 3) := by decide +kernel
theorem d2_43 : decode prog_13_method_4_code 43 = .ok (.aload_n 1, 1) := by decide +kernel
theorem d2_44 : decode prog_13_method_4_code 44 = .ok (.areturn, 1) := by decide +kernel
theorem d2_13 : decode prog_13_method_4_code 13 = .ok (.iload_n 0, 1) := by decide +kernel
theorem d2_14 : decode prog_13_method_4_code 14 = .ok (.bipush 45, 2) := by decide +kernel
theorem d2_16 : decode prog_13_method_4_code 16 = .ok (.if_icmp .ge 10, 3) := by decide +kernel
theorem d2_19 : decode prog_13_method_4_code 19 = .ok (.getstatic 7, 3) := by decide +kernel
theorem d2_22 : decode prog_13_method_4_code 22 = .ok (.astore_n 1, 1) := by decide +kernel
theorem d2_23 : decode prog_13_method_4_code 23 = .ok (.goto 20, 3) := by decide +kernel
theorem d2_26 : decode prog_13_method_4_code 26 = .ok (.iload_n 0, 1) := by decide +kernel
theorem d2_27 : decode prog_13_method_4_code 27 = .ok (.bipush 65, 2) := by decide +kernel
theorem d2_29 : decode prog_13_method_4_code 29 = .ok (.if_icmp .ge 10, 3) := by decide +kernel
theorem d2_32 : decode prog_13_method_4_code 32 = .ok (.getstatic 10, 3) := by decide +kernel
theorem d2_35 : decode prog_13_method_4_code 35 = .ok (.astore_n 1, 1) := by decide +kernel
theorem d2_36 : decode prog_13_method_4_code 36 = .ok (.goto 7, 3) := by decide +kernel
theorem d2_39 : decode prog_13_method_4_code 39 = .ok (.getstatic 13, 3) := by decide +kernel
theorem d2_42 : decode prog_13_method_4_code 42 = .ok (.astore_n 1, 1) := by decide +kernel
theorem pn1 : plainFor (⟨"com/example/kiriman/kiriman/demand/AgeGroupOfPinLaw", "agrees", "(I)Z"⟩ : MethodName) = true := plainFor_of_name (by first | (simp [plainName, overriddenIn]; done) | decide +kernel)
theorem d1_0 : decode method_3_code 0 = .ok (.iload_n 0, 1) := by decide +kernel
theorem d1_1 : decode method_3_code 1 = .ok (.invokestatic 13, 3) := by decide +kernel
theorem pd2 : parseMethodDescriptor "(I)Lcom/example/kiriman/kiriman/demand/PersonAttributes$AgeGroup;" = some ⟨[.int], some (.object "com/example/kiriman/kiriman/demand/PersonAttributes$AgeGroup")⟩ := by decide +kernel
theorem d1_4 : decode method_3_code 4 = .ok (.astore_n 1, 1) := by decide +kernel
theorem d1_5 : decode method_3_code 5 = .ok (.iload_n 0, 1) := by decide +kernel
theorem d1_6 : decode method_3_code 6 = .ok (.bipush 25, 2) := by decide +kernel
theorem d1_8 : decode method_3_code 8 = .ok (.if_icmp .lt 7, 3) := by decide +kernel
theorem d1_15 : decode method_3_code 15 = .ok (.iconst 0, 1) := by decide +kernel
theorem d1_16 : decode method_3_code 16 = .ok (.iload_n 0, 1) := by decide +kernel
theorem d1_17 : decode method_3_code 17 = .ok (.bipush 45, 2) := by decide +kernel
theorem d1_19 : decode method_3_code 19 = .ok (.if_icmp .lt 7, 3) := by decide +kernel
theorem d1_26 : decode method_3_code 26 = .ok (.iconst 0, 1) := by decide +kernel
theorem d1_27 : decode method_3_code 27 = .ok (.iadd, 1) := by decide +kernel
theorem d1_28 : decode method_3_code 28 = .ok (.iload_n 0, 1) := by decide +kernel
theorem d1_29 : decode method_3_code 29 = .ok (.bipush 65, 2) := by decide +kernel
theorem d1_31 : decode method_3_code 31 = .ok (.if_icmp .lt 7, 3) := by decide +kernel
theorem d1_38 : decode method_3_code 38 = .ok (.iconst 0, 1) := by decide +kernel
theorem d1_39 : decode method_3_code 39 = .ok (.iadd, 1) := by decide +kernel
theorem d1_40 : decode method_3_code 40 = .ok (.istore_n 2, 1) := by decide +kernel
theorem d1_41 : decode method_3_code 41 = .ok (.iload_n 2, 1) := by decide +kernel
theorem d1_42 : decode method_3_code 42 = .ok (.ifCond .ne 10, 3) := by decide +kernel
theorem d1_45 : decode method_3_code 45 = .ok (.getstatic 19, 3) := by decide +kernel
theorem d1_48 : decode method_3_code 48 = .ok (.astore_n 3, 1) := by decide +kernel
theorem d1_49 : decode method_3_code 49 = .ok (.goto 31, 3) := by decide +kernel
theorem d1_80 : decode method_3_code 80 = .ok (.aload_n 1, 1) := by decide +kernel
theorem d1_81 : decode method_3_code 81 = .ok (.aload_n 3, 1) := by decide +kernel
theorem d1_82 : decode method_3_code 82 = .ok (.if_acmp .ne 7, 3) := by decide +kernel
theorem d1_85 : decode method_3_code 85 = .ok (.iconst 1, 1) := by decide +kernel
theorem d1_86 : decode method_3_code 86 = .ok (.goto 4, 3) := by decide +kernel
theorem d1_90 : decode method_3_code 90 = .ok (.ireturn, 1) := by decide +kernel
theorem d1_11 : decode method_3_code 11 = .ok (.iconst 1, 1) := by decide +kernel
theorem d1_12 : decode method_3_code 12 = .ok (.goto 4, 3) := by decide +kernel
theorem d1_52 : decode method_3_code 52 = .ok (.iload_n 2, 1) := by decide +kernel
theorem d1_53 : decode method_3_code 53 = .ok (.iconst 1, 1) := by decide +kernel
theorem d1_54 : decode method_3_code 54 = .ok (.if_icmp .ne 10, 3) := by decide +kernel
theorem d1_57 : decode method_3_code 57 = .ok (.getstatic 23, 3) := by decide +kernel
theorem d1_60 : decode method_3_code 60 = .ok (.astore_n 3, 1) := by decide +kernel
theorem d1_61 : decode method_3_code 61 = .ok (.goto 19, 3) := by decide +kernel
theorem d1_22 : decode method_3_code 22 = .ok (.iconst 1, 1) := by decide +kernel
theorem d1_23 : decode method_3_code 23 = .ok (.goto 4, 3) := by decide +kernel
theorem d1_64 : decode method_3_code 64 = .ok (.iload_n 2, 1) := by decide +kernel
theorem d1_65 : decode method_3_code 65 = .ok (.iconst 2, 1) := by decide +kernel
theorem d1_66 : decode method_3_code 66 = .ok (.if_icmp .ne 10, 3) := by decide +kernel
theorem d1_69 : decode method_3_code 69 = .ok (.getstatic 26, 3) := by decide +kernel
theorem d1_72 : decode method_3_code 72 = .ok (.astore_n 3, 1) := by decide +kernel
theorem d1_73 : decode method_3_code 73 = .ok (.goto 7, 3) := by decide +kernel
theorem d1_34 : decode method_3_code 34 = .ok (.iconst 1, 1) := by decide +kernel
theorem d1_35 : decode method_3_code 35 = .ok (.goto 4, 3) := by decide +kernel
theorem d1_76 : decode method_3_code 76 = .ok (.getstatic 29, 3) := by decide +kernel
theorem d1_79 : decode method_3_code 79 = .ok (.astore_n 3, 1) := by decide +kernel
theorem pn3 : plainFor (⟨"com/example/kiriman/kiriman/demand/AgeGroupOfPinLaw", "law", "(II)Z"⟩ : MethodName) = true := plainFor_of_name (by first | (simp [plainName, overriddenIn]; done) | decide +kernel)
theorem pd4 : parseMethodDescriptor "(I)Z" = some ⟨[.int], some .boolean⟩ := by decide +kernel
theorem ef_rm1 (m : MethodId) (x0 : Int32) : entryFrame m #[(.int x0)] 2 = mkF m 0 #[.val (.int x0), .unset] [] := by first | (simp [entryFrame, mkF, argsToLocals, Value.category]; done) | rfl
set_option maxRecDepth 65536 in
set_option maxHeartbeats 40000000 in
theorem rm1 (l : Launch) (Z : State) (a0 : Array Value) (hw : ∀ d ∈ tables_1, d.before a0 Z = true) (ws : List Jvm.Cond) (p : Int32) (u1 u2 u3 u4 : Addr) (h0 : Heap) (S1 : Sta Z h0 "com/example/kiriman/kiriman/demand/PersonAttributes$AgeGroup" "UNDER_25" "Lcom/example/kiriman/kiriman/demand/PersonAttributes$AgeGroup;" (.ref u1)) (S2 : Sta Z h0 "com/example/kiriman/kiriman/demand/PersonAttributes$AgeGroup" "FROM_25_TO_44" "Lcom/example/kiriman/kiriman/demand/PersonAttributes$AgeGroup;" (.ref u2)) (S3 : Sta Z h0 "com/example/kiriman/kiriman/demand/PersonAttributes$AgeGroup" "FROM_45_TO_64" "Lcom/example/kiriman/kiriman/demand/PersonAttributes$AgeGroup;" (.ref u3)) (S4 : Sta Z h0 "com/example/kiriman/kiriman/demand/PersonAttributes$AgeGroup" "FROM_65" "Lcom/example/kiriman/kiriman/demand/PersonAttributes$AgeGroup;" (.ref u4)) :
    Met l Z (⟨"com/example/kiriman/kiriman/demand/PersonAttributes$AgeGroup", "of", "(I)Lcom/example/kiriman/kiriman/demand/PersonAttributes$AgeGroup;"⟩ : MethodName) prog_13_method_4_code 2 (some (.object "com/example/kiriman/kiriman/demand/PersonAttributes$AgeGroup")) ws ({ frames := 0, cells := 0, slots := 0, locals := 0 } : Room) #[(.int p)] h0 (fun v h L => v = some (.ref (own_of p u1 u2 u3 u4)) ∧ L = [] ∧ h = h0) := by
  refine Met.intro pn0 ?_
  intro pr ev s m below meth c T0 X0 hx hZ hown hby hml hret hlk hnm e0
  refine Go.cast (ef_rm1 m p) ?_
  refine Go.of (mkF m 1 #[.val (.int p), .unset] [(.int p)]) (fun t k => XS.iloadN X0.here hx rfl (hb hby d2_0) rfl k) ?_
  refine Go.of (mkF m 3 #[.val (.int p), .unset] [(.int (25 : Int32)), (.int p)]) (fun t k => XS.bipush X0.here hx rfl (hb hby d2_1) k) ?_
  by_cases hc3 : p < (25 : Int32)
  ·
    refine Go.of (mkF m 6 #[.val (.int p), .unset] []) (fun t k => XS.icmpNo X0.here hx rfl (hb hby d2_3) rfl (tlt hc3).2.1 k) ?_
    obtain ⟨T1, X1, e1, st1⟩ := getS2 X0 hx hZ hown (host := "") (Or.inl (tw8 hw)) Via.refl e0 S1 (g := (mkF m 6 #[.val (.int p), .unset] [])) rfl (hb hby d2_6)
    refine Go.of (mkF m 9 #[.val (.int p), .unset] [(.ref u1)]) (st1) ?_
    refine Go.of (mkF m 10 #[.val (.int p), .val (.ref u1)] []) (fun t k => XS.astoreN X1.here hx rfl (hb hby d2_9) rfl rfl (l' := #[.val (.int p), .val (.ref u1)]) rfl k) ?_
    refine Go.of (mkF m 43 #[.val (.int p), .val (.ref u1)] []) (fun t k => XS.goto X1.here hx rfl (pc0 := 10) (pc' := 43) rfl (hb hby d2_10) (by decide) (by decide) k) ?_
    refine Go.of (mkF m 44 #[.val (.int p), .val (.ref u1)] [(.ref u1)]) (fun t k => XS.aloadN X1.here hx rfl (hb hby d2_43) rfl rfl k) ?_
    exact Go.retW X1 hx (t := (.object "com/example/kiriman/kiriman/demand/PersonAttributes$AgeGroup")) hret hlk rfl (Or.inr (Or.inr (Or.inr (Or.inr ⟨rfl, rfl, rfl⟩)))) (hb hby d2_44) (by decide) (by decide) ⟨by simp [own_of, hc3], rfl, e1⟩
  ·
    refine Go.of (mkF m 13 #[.val (.int p), .unset] []) (fun t k => XS.icmpYes X0.here hx rfl (pc0 := 3) (pc' := 13) rfl (hb hby d2_3) rfl (flt hc3).2.1 (by decide) (by decide) k) ?_
    refine Go.of (mkF m 14 #[.val (.int p), .unset] [(.int p)]) (fun t k => XS.iloadN X0.here hx rfl (hb hby d2_13) rfl k) ?_
    refine Go.of (mkF m 16 #[.val (.int p), .unset] [(.int (45 : Int32)), (.int p)]) (fun t k => XS.bipush X0.here hx rfl (hb hby d2_14) k) ?_
    by_cases hc16 : p < (45 : Int32)
    ·
      refine Go.of (mkF m 19 #[.val (.int p), .unset] []) (fun t k => XS.icmpNo X0.here hx rfl (hb hby d2_16) rfl (tlt hc16).2.1 k) ?_
      obtain ⟨T2, X2, e2, st2⟩ := getS2 X0 hx hZ hown (host := "") (Or.inl (tw11 hw)) Via.refl e0 S2 (g := (mkF m 19 #[.val (.int p), .unset] [])) rfl (hb hby d2_19)
      refine Go.of (mkF m 22 #[.val (.int p), .unset] [(.ref u2)]) (st2) ?_
      refine Go.of (mkF m 23 #[.val (.int p), .val (.ref u2)] []) (fun t k => XS.astoreN X2.here hx rfl (hb hby d2_22) rfl rfl (l' := #[.val (.int p), .val (.ref u2)]) rfl k) ?_
      refine Go.of (mkF m 43 #[.val (.int p), .val (.ref u2)] []) (fun t k => XS.goto X2.here hx rfl (pc0 := 23) (pc' := 43) rfl (hb hby d2_23) (by decide) (by decide) k) ?_
      refine Go.of (mkF m 44 #[.val (.int p), .val (.ref u2)] [(.ref u2)]) (fun t k => XS.aloadN X2.here hx rfl (hb hby d2_43) rfl rfl k) ?_
      exact Go.retW X2 hx (t := (.object "com/example/kiriman/kiriman/demand/PersonAttributes$AgeGroup")) hret hlk rfl (Or.inr (Or.inr (Or.inr (Or.inr ⟨rfl, rfl, rfl⟩)))) (hb hby d2_44) (by decide) (by decide) ⟨by simp [own_of, hc3, hc16], rfl, e2⟩
    ·
      refine Go.of (mkF m 26 #[.val (.int p), .unset] []) (fun t k => XS.icmpYes X0.here hx rfl (pc0 := 16) (pc' := 26) rfl (hb hby d2_16) rfl (flt hc16).2.1 (by decide) (by decide) k) ?_
      refine Go.of (mkF m 27 #[.val (.int p), .unset] [(.int p)]) (fun t k => XS.iloadN X0.here hx rfl (hb hby d2_26) rfl k) ?_
      refine Go.of (mkF m 29 #[.val (.int p), .unset] [(.int (65 : Int32)), (.int p)]) (fun t k => XS.bipush X0.here hx rfl (hb hby d2_27) k) ?_
      by_cases hc29 : p < (65 : Int32)
      ·
        refine Go.of (mkF m 32 #[.val (.int p), .unset] []) (fun t k => XS.icmpNo X0.here hx rfl (hb hby d2_29) rfl (tlt hc29).2.1 k) ?_
        obtain ⟨T3, X3, e3, st3⟩ := getS2 X0 hx hZ hown (host := "") (Or.inl (tw17 hw)) Via.refl e0 S3 (g := (mkF m 32 #[.val (.int p), .unset] [])) rfl (hb hby d2_32)
        refine Go.of (mkF m 35 #[.val (.int p), .unset] [(.ref u3)]) (st3) ?_
        refine Go.of (mkF m 36 #[.val (.int p), .val (.ref u3)] []) (fun t k => XS.astoreN X3.here hx rfl (hb hby d2_35) rfl rfl (l' := #[.val (.int p), .val (.ref u3)]) rfl k) ?_
        refine Go.of (mkF m 43 #[.val (.int p), .val (.ref u3)] []) (fun t k => XS.goto X3.here hx rfl (pc0 := 36) (pc' := 43) rfl (hb hby d2_36) (by decide) (by decide) k) ?_
        refine Go.of (mkF m 44 #[.val (.int p), .val (.ref u3)] [(.ref u3)]) (fun t k => XS.aloadN X3.here hx rfl (hb hby d2_43) rfl rfl k) ?_
        exact Go.retW X3 hx (t := (.object "com/example/kiriman/kiriman/demand/PersonAttributes$AgeGroup")) hret hlk rfl (Or.inr (Or.inr (Or.inr (Or.inr ⟨rfl, rfl, rfl⟩)))) (hb hby d2_44) (by decide) (by decide) ⟨by simp [own_of, hc3, hc16, hc29], rfl, e3⟩
      ·
        refine Go.of (mkF m 39 #[.val (.int p), .unset] []) (fun t k => XS.icmpYes X0.here hx rfl (pc0 := 29) (pc' := 39) rfl (hb hby d2_29) rfl (flt hc29).2.1 (by decide) (by decide) k) ?_
        obtain ⟨T4, X4, e4, st4⟩ := getS2 X0 hx hZ hown (host := "") (Or.inl (tw14 hw)) Via.refl e0 S4 (g := (mkF m 39 #[.val (.int p), .unset] [])) rfl (hb hby d2_39)
        refine Go.of (mkF m 42 #[.val (.int p), .unset] [(.ref u4)]) (st4) ?_
        refine Go.of (mkF m 43 #[.val (.int p), .val (.ref u4)] []) (fun t k => XS.astoreN X4.here hx rfl (hb hby d2_42) rfl rfl (l' := #[.val (.int p), .val (.ref u4)]) rfl k) ?_
        refine Go.of (mkF m 44 #[.val (.int p), .val (.ref u4)] [(.ref u4)]) (fun t k => XS.aloadN X4.here hx rfl (hb hby d2_43) rfl rfl k) ?_
        exact Go.retW X4 hx (t := (.object "com/example/kiriman/kiriman/demand/PersonAttributes$AgeGroup")) hret hlk rfl (Or.inr (Or.inr (Or.inr (Or.inr ⟨rfl, rfl, rfl⟩)))) (hb hby d2_44) (by decide) (by decide) ⟨by simp [own_of, hc3, hc16, hc29], rfl, e4⟩
theorem ef_rm2 (m : MethodId) (x0 : Int32) : entryFrame m #[(.int x0)] 4 = mkF m 0 #[.val (.int x0), .unset, .unset, .unset] [] := by first | (simp [entryFrame, mkF, argsToLocals, Value.category]; done) | rfl
set_option maxRecDepth 65536 in
set_option maxHeartbeats 40000000 in
theorem rm2 (l : Launch) (Z : State) (a0 : Array Value) (hw : ∀ d ∈ tables_1, d.before a0 Z = true) (ws : List Jvm.Cond) (p : Int32) (u1 u2 u3 u4 : Addr) (h0 : Heap) (S1 : Sta Z h0 "com/example/kiriman/kiriman/demand/PersonAttributes$AgeGroup" "UNDER_25" "Lcom/example/kiriman/kiriman/demand/PersonAttributes$AgeGroup;" (.ref u1)) (S2 : Sta Z h0 "com/example/kiriman/kiriman/demand/PersonAttributes$AgeGroup" "FROM_25_TO_44" "Lcom/example/kiriman/kiriman/demand/PersonAttributes$AgeGroup;" (.ref u2)) (S3 : Sta Z h0 "com/example/kiriman/kiriman/demand/PersonAttributes$AgeGroup" "FROM_45_TO_64" "Lcom/example/kiriman/kiriman/demand/PersonAttributes$AgeGroup;" (.ref u3)) (S4 : Sta Z h0 "com/example/kiriman/kiriman/demand/PersonAttributes$AgeGroup" "FROM_65" "Lcom/example/kiriman/kiriman/demand/PersonAttributes$AgeGroup;" (.ref u4)) :
    Met l Z (⟨"com/example/kiriman/kiriman/demand/AgeGroupOfPinLaw", "agrees", "(I)Z"⟩ : MethodName) method_3_code 4 (some .boolean) ws ({ frames := 1, cells := 0, slots := 0, locals := 24 } : Room) #[(.int p)] h0 (fun v h L => v = some (.int 1) ∧ L = [] ∧ h = h0) := by
  refine Met.intro pn1 ?_
  intro pr ev s m below meth c T0 X0 hx hZ hown hby hml hret hlk hnm e0
  refine Go.cast (ef_rm2 m p) ?_
  refine Go.of (mkF m 1 #[.val (.int p), .unset, .unset, .unset] [(.int p)]) (fun t k => XS.iloadN X0.here hx rfl (hb hby d1_0) rfl k) ?_
  refine Go.callS X0 hx hZ (y := (⟨"com/example/kiriman/kiriman/demand/PersonAttributes$AgeGroup", "of", "(I)Lcom/example/kiriman/kiriman/demand/PersonAttributes$AgeGroup;"⟩ : MethodName)) (argsL := [(.int p)]) (rest := []) hown (tw4 hw) (tw5 hw) (tw6 hw) (tw7 hw) (by decide) e0 (rm1 l Z a0 hw [] p u1 u2 u3 u4 h0 S1 S2 S3 S4) (g := (mkF m 1 #[.val (.int p), .unset, .unset, .unset] [(.int p)])) rfl (by rw [hml]; rfl) (lenOf pd2 rfl) rfl (W := 0) (by show 2 * 0 + _ ≤ _; exact Nat.le_of_eq rfl) (hb hby d1_1) (by decide) (by decide) (by decide) (by decide) ?_
  rintro T1 L1 v1 X1 ⟨rfl, rfl, hh1⟩
  show Go pr ev below _ T1 (mkF m 4 #[.val (.int p), .unset, .unset, .unset] [(.ref (own_of p u1 u2 u3 u4))])
  refine Go.of (mkF m 5 #[.val (.int p), .val (.ref (own_of p u1 u2 u3 u4)), .unset, .unset] []) (fun t k => XS.astoreN X1.here hx rfl (hb hby d1_4) rfl rfl (l' := #[.val (.int p), .val (.ref (own_of p u1 u2 u3 u4)), .unset, .unset]) rfl k) ?_
  refine Go.of (mkF m 6 #[.val (.int p), .val (.ref (own_of p u1 u2 u3 u4)), .unset, .unset] [(.int p)]) (fun t k => XS.iloadN X1.here hx rfl (hb hby d1_5) rfl k) ?_
  refine Go.of (mkF m 8 #[.val (.int p), .val (.ref (own_of p u1 u2 u3 u4)), .unset, .unset] [(.int (25 : Int32)), (.int p)]) (fun t k => XS.bipush X1.here hx rfl (hb hby d1_6) k) ?_
  by_cases hc8 : p < (25 : Int32)
  ·
    refine Go.of (mkF m 15 #[.val (.int p), .val (.ref (own_of p u1 u2 u3 u4)), .unset, .unset] []) (fun t k => XS.icmpYes X1.here hx rfl (pc0 := 8) (pc' := 15) rfl (hb hby d1_8) rfl (tlt hc8).1 (by decide) (by decide) k) ?_
    refine Go.of (mkF m 16 #[.val (.int p), .val (.ref (own_of p u1 u2 u3 u4)), .unset, .unset] [(.int (0 : Int32))]) (fun t k => XS.iconst X1.here hx rfl (hb hby d1_15) k) ?_
    refine Go.of (mkF m 17 #[.val (.int p), .val (.ref (own_of p u1 u2 u3 u4)), .unset, .unset] [(.int p), (.int (0 : Int32))]) (fun t k => XS.iloadN X1.here hx rfl (hb hby d1_16) rfl k) ?_
    refine Go.of (mkF m 19 #[.val (.int p), .val (.ref (own_of p u1 u2 u3 u4)), .unset, .unset] [(.int (45 : Int32)), (.int p), (.int (0 : Int32))]) (fun t k => XS.bipush X1.here hx rfl (hb hby d1_17) k) ?_
    refine Go.of (mkF m 26 #[.val (.int p), .val (.ref (own_of p u1 u2 u3 u4)), .unset, .unset] [(.int (0 : Int32))]) (fun t k => XS.icmpYes X1.here hx rfl (pc0 := 19) (pc' := 26) rfl (hb hby d1_19) rfl (tlt (own_a hc8)).1 (by decide) (by decide) k) ?_
    refine Go.of (mkF m 27 #[.val (.int p), .val (.ref (own_of p u1 u2 u3 u4)), .unset, .unset] [(.int (0 : Int32)), (.int (0 : Int32))]) (fun t k => XS.iconst X1.here hx rfl (hb hby d1_26) k) ?_
    refine Go.of (mkF m 28 #[.val (.int p), .val (.ref (own_of p u1 u2 u3 u4)), .unset, .unset] [(.int ((0 : Int32) + (0 : Int32)))]) (fun t k => XS.iadd X1.here hx rfl (hb hby d1_27) rfl k) ?_
    rw [show ((0 : Int32) + (0 : Int32)) = (0 : Int32) from by decide]
    refine Go.of (mkF m 29 #[.val (.int p), .val (.ref (own_of p u1 u2 u3 u4)), .unset, .unset] [(.int p), (.int (0 : Int32))]) (fun t k => XS.iloadN X1.here hx rfl (hb hby d1_28) rfl k) ?_
    refine Go.of (mkF m 31 #[.val (.int p), .val (.ref (own_of p u1 u2 u3 u4)), .unset, .unset] [(.int (65 : Int32)), (.int p), (.int (0 : Int32))]) (fun t k => XS.bipush X1.here hx rfl (hb hby d1_29) k) ?_
    refine Go.of (mkF m 38 #[.val (.int p), .val (.ref (own_of p u1 u2 u3 u4)), .unset, .unset] [(.int (0 : Int32))]) (fun t k => XS.icmpYes X1.here hx rfl (pc0 := 31) (pc' := 38) rfl (hb hby d1_31) rfl (tlt (own_b (own_a hc8))).1 (by decide) (by decide) k) ?_
    refine Go.of (mkF m 39 #[.val (.int p), .val (.ref (own_of p u1 u2 u3 u4)), .unset, .unset] [(.int (0 : Int32)), (.int (0 : Int32))]) (fun t k => XS.iconst X1.here hx rfl (hb hby d1_38) k) ?_
    refine Go.of (mkF m 40 #[.val (.int p), .val (.ref (own_of p u1 u2 u3 u4)), .unset, .unset] [(.int ((0 : Int32) + (0 : Int32)))]) (fun t k => XS.iadd X1.here hx rfl (hb hby d1_39) rfl k) ?_
    rw [show ((0 : Int32) + (0 : Int32)) = (0 : Int32) from by decide]
    refine Go.of (mkF m 41 #[.val (.int p), .val (.ref (own_of p u1 u2 u3 u4)), .val (.int (0 : Int32)), .unset] []) (fun t k => XS.istoreN X1.here hx rfl (hb hby d1_40) rfl (l' := #[.val (.int p), .val (.ref (own_of p u1 u2 u3 u4)), .val (.int (0 : Int32)), .unset]) rfl k) ?_
    refine Go.of (mkF m 42 #[.val (.int p), .val (.ref (own_of p u1 u2 u3 u4)), .val (.int (0 : Int32)), .unset] [(.int (0 : Int32))]) (fun t k => XS.iloadN X1.here hx rfl (hb hby d1_41) rfl k) ?_
    refine Go.of (mkF m 45 #[.val (.int p), .val (.ref (own_of p u1 u2 u3 u4)), .val (.int (0 : Int32)), .unset] []) (fun t k => XS.ifNo X1.here hx rfl (hb hby d1_42) rfl ((if0 _ _).trans (teq (by decide)).2) k) ?_
    obtain ⟨T2, X2, e2, st2⟩ := getS2 X1 hx hZ hown (host := "") (Or.inl (tw10 hw)) Via.refl hh1 S1 (g := (mkF m 45 #[.val (.int p), .val (.ref (own_of p u1 u2 u3 u4)), .val (.int (0 : Int32)), .unset] [])) rfl (hb hby d1_45)
    refine Go.of (mkF m 48 #[.val (.int p), .val (.ref (own_of p u1 u2 u3 u4)), .val (.int (0 : Int32)), .unset] [(.ref u1)]) (st2) ?_
    refine Go.of (mkF m 49 #[.val (.int p), .val (.ref (own_of p u1 u2 u3 u4)), .val (.int (0 : Int32)), .val (.ref u1)] []) (fun t k => XS.astoreN X2.here hx rfl (hb hby d1_48) rfl rfl (l' := #[.val (.int p), .val (.ref (own_of p u1 u2 u3 u4)), .val (.int (0 : Int32)), .val (.ref u1)]) rfl k) ?_
    refine Go.of (mkF m 80 #[.val (.int p), .val (.ref (own_of p u1 u2 u3 u4)), .val (.int (0 : Int32)), .val (.ref u1)] []) (fun t k => XS.goto X2.here hx rfl (pc0 := 49) (pc' := 80) rfl (hb hby d1_49) (by decide) (by decide) k) ?_
    refine Go.of (mkF m 81 #[.val (.int p), .val (.ref (own_of p u1 u2 u3 u4)), .val (.int (0 : Int32)), .val (.ref u1)] [(.ref (own_of p u1 u2 u3 u4))]) (fun t k => XS.aloadN X2.here hx rfl (hb hby d1_80) rfl rfl k) ?_
    refine Go.of (mkF m 82 #[.val (.int p), .val (.ref (own_of p u1 u2 u3 u4)), .val (.int (0 : Int32)), .val (.ref u1)] [(.ref u1), (.ref (own_of p u1 u2 u3 u4))]) (fun t k => XS.aloadN X2.here hx rfl (hb hby d1_81) rfl rfl k) ?_
    refine Go.of (mkF m 85 #[.val (.int p), .val (.ref (own_of p u1 u2 u3 u4)), .val (.int (0 : Int32)), .val (.ref u1)] []) (fun t k => Jvm.RoadKit.acmp (g := (mkF m 82 #[.val (.int p), .val (.ref (own_of p u1 u2 u3 u4)), .val (.int (0 : Int32)), .val (.ref u1)] [(.ref u1), (.ref (own_of p u1 u2 u3 u4))])) X2 hx rfl (x := (.ref (own_of p u1 u2 u3 u4))) (y := (.ref u1)) rfl rfl (pc0 := 82) (pc' := 85) (same := true) rfl (hb hby d1_82) rfl (decide_eq_true (congrArg Value.ref (by simp [own_of, hc8]))) (by decide) (by decide) k) ?_
    refine Go.of (mkF m 86 #[.val (.int p), .val (.ref (own_of p u1 u2 u3 u4)), .val (.int (0 : Int32)), .val (.ref u1)] [(.int (1 : Int32))]) (fun t k => XS.iconst X2.here hx rfl (hb hby d1_85) k) ?_
    refine Go.of (mkF m 90 #[.val (.int p), .val (.ref (own_of p u1 u2 u3 u4)), .val (.int (0 : Int32)), .val (.ref u1)] [(.int (1 : Int32))]) (fun t k => XS.goto X2.here hx rfl (pc0 := 86) (pc' := 90) rfl (hb hby d1_86) (by decide) (by decide) k) ?_
    exact Go.retW X2 hx (t := .boolean) hret hlk rfl (Or.inl ⟨rfl, by simp, _, rfl⟩) (hb hby d1_90) (by decide) (by decide) ⟨rfl, by simp, e2⟩
  ·
    refine Go.of (mkF m 11 #[.val (.int p), .val (.ref (own_of p u1 u2 u3 u4)), .unset, .unset] []) (fun t k => XS.icmpNo X1.here hx rfl (hb hby d1_8) rfl (flt hc8).1 k) ?_
    refine Go.of (mkF m 12 #[.val (.int p), .val (.ref (own_of p u1 u2 u3 u4)), .unset, .unset] [(.int (1 : Int32))]) (fun t k => XS.iconst X1.here hx rfl (hb hby d1_11) k) ?_
    refine Go.of (mkF m 16 #[.val (.int p), .val (.ref (own_of p u1 u2 u3 u4)), .unset, .unset] [(.int (1 : Int32))]) (fun t k => XS.goto X1.here hx rfl (pc0 := 12) (pc' := 16) rfl (hb hby d1_12) (by decide) (by decide) k) ?_
    refine Go.of (mkF m 17 #[.val (.int p), .val (.ref (own_of p u1 u2 u3 u4)), .unset, .unset] [(.int p), (.int (1 : Int32))]) (fun t k => XS.iloadN X1.here hx rfl (hb hby d1_16) rfl k) ?_
    refine Go.of (mkF m 19 #[.val (.int p), .val (.ref (own_of p u1 u2 u3 u4)), .unset, .unset] [(.int (45 : Int32)), (.int p), (.int (1 : Int32))]) (fun t k => XS.bipush X1.here hx rfl (hb hby d1_17) k) ?_
    by_cases hc19 : p < (45 : Int32)
    ·
      refine Go.of (mkF m 26 #[.val (.int p), .val (.ref (own_of p u1 u2 u3 u4)), .unset, .unset] [(.int (1 : Int32))]) (fun t k => XS.icmpYes X1.here hx rfl (pc0 := 19) (pc' := 26) rfl (hb hby d1_19) rfl (tlt hc19).1 (by decide) (by decide) k) ?_
      refine Go.of (mkF m 27 #[.val (.int p), .val (.ref (own_of p u1 u2 u3 u4)), .unset, .unset] [(.int (0 : Int32)), (.int (1 : Int32))]) (fun t k => XS.iconst X1.here hx rfl (hb hby d1_26) k) ?_
      refine Go.of (mkF m 28 #[.val (.int p), .val (.ref (own_of p u1 u2 u3 u4)), .unset, .unset] [(.int ((1 : Int32) + (0 : Int32)))]) (fun t k => XS.iadd X1.here hx rfl (hb hby d1_27) rfl k) ?_
      rw [show ((1 : Int32) + (0 : Int32)) = (1 : Int32) from by decide]
      refine Go.of (mkF m 29 #[.val (.int p), .val (.ref (own_of p u1 u2 u3 u4)), .unset, .unset] [(.int p), (.int (1 : Int32))]) (fun t k => XS.iloadN X1.here hx rfl (hb hby d1_28) rfl k) ?_
      refine Go.of (mkF m 31 #[.val (.int p), .val (.ref (own_of p u1 u2 u3 u4)), .unset, .unset] [(.int (65 : Int32)), (.int p), (.int (1 : Int32))]) (fun t k => XS.bipush X1.here hx rfl (hb hby d1_29) k) ?_
      refine Go.of (mkF m 38 #[.val (.int p), .val (.ref (own_of p u1 u2 u3 u4)), .unset, .unset] [(.int (1 : Int32))]) (fun t k => XS.icmpYes X1.here hx rfl (pc0 := 31) (pc' := 38) rfl (hb hby d1_31) rfl (tlt (own_b hc19)).1 (by decide) (by decide) k) ?_
      refine Go.of (mkF m 39 #[.val (.int p), .val (.ref (own_of p u1 u2 u3 u4)), .unset, .unset] [(.int (0 : Int32)), (.int (1 : Int32))]) (fun t k => XS.iconst X1.here hx rfl (hb hby d1_38) k) ?_
      refine Go.of (mkF m 40 #[.val (.int p), .val (.ref (own_of p u1 u2 u3 u4)), .unset, .unset] [(.int ((1 : Int32) + (0 : Int32)))]) (fun t k => XS.iadd X1.here hx rfl (hb hby d1_39) rfl k) ?_
      rw [show ((1 : Int32) + (0 : Int32)) = (1 : Int32) from by decide]
      refine Go.of (mkF m 41 #[.val (.int p), .val (.ref (own_of p u1 u2 u3 u4)), .val (.int (1 : Int32)), .unset] []) (fun t k => XS.istoreN X1.here hx rfl (hb hby d1_40) rfl (l' := #[.val (.int p), .val (.ref (own_of p u1 u2 u3 u4)), .val (.int (1 : Int32)), .unset]) rfl k) ?_
      refine Go.of (mkF m 42 #[.val (.int p), .val (.ref (own_of p u1 u2 u3 u4)), .val (.int (1 : Int32)), .unset] [(.int (1 : Int32))]) (fun t k => XS.iloadN X1.here hx rfl (hb hby d1_41) rfl k) ?_
      refine Go.of (mkF m 52 #[.val (.int p), .val (.ref (own_of p u1 u2 u3 u4)), .val (.int (1 : Int32)), .unset] []) (fun t k => XS.ifYes X1.here hx rfl (pc0 := 42) (pc' := 52) rfl (hb hby d1_42) rfl ((if0 _ _).trans (feq (by decide)).2) (by decide) (by decide) k) ?_
      refine Go.of (mkF m 53 #[.val (.int p), .val (.ref (own_of p u1 u2 u3 u4)), .val (.int (1 : Int32)), .unset] [(.int (1 : Int32))]) (fun t k => XS.iloadN X1.here hx rfl (hb hby d1_52) rfl k) ?_
      refine Go.of (mkF m 54 #[.val (.int p), .val (.ref (own_of p u1 u2 u3 u4)), .val (.int (1 : Int32)), .unset] [(.int (1 : Int32)), (.int (1 : Int32))]) (fun t k => XS.iconst X1.here hx rfl (hb hby d1_53) k) ?_
      refine Go.of (mkF m 57 #[.val (.int p), .val (.ref (own_of p u1 u2 u3 u4)), .val (.int (1 : Int32)), .unset] []) (fun t k => XS.icmpNo X1.here hx rfl (hb hby d1_54) rfl (teq (by decide)).2 k) ?_
      obtain ⟨T3, X3, e3, st3⟩ := getS2 X1 hx hZ hown (host := "") (Or.inl (tw13 hw)) Via.refl hh1 S2 (g := (mkF m 57 #[.val (.int p), .val (.ref (own_of p u1 u2 u3 u4)), .val (.int (1 : Int32)), .unset] [])) rfl (hb hby d1_57)
      refine Go.of (mkF m 60 #[.val (.int p), .val (.ref (own_of p u1 u2 u3 u4)), .val (.int (1 : Int32)), .unset] [(.ref u2)]) (st3) ?_
      refine Go.of (mkF m 61 #[.val (.int p), .val (.ref (own_of p u1 u2 u3 u4)), .val (.int (1 : Int32)), .val (.ref u2)] []) (fun t k => XS.astoreN X3.here hx rfl (hb hby d1_60) rfl rfl (l' := #[.val (.int p), .val (.ref (own_of p u1 u2 u3 u4)), .val (.int (1 : Int32)), .val (.ref u2)]) rfl k) ?_
      refine Go.of (mkF m 80 #[.val (.int p), .val (.ref (own_of p u1 u2 u3 u4)), .val (.int (1 : Int32)), .val (.ref u2)] []) (fun t k => XS.goto X3.here hx rfl (pc0 := 61) (pc' := 80) rfl (hb hby d1_61) (by decide) (by decide) k) ?_
      refine Go.of (mkF m 81 #[.val (.int p), .val (.ref (own_of p u1 u2 u3 u4)), .val (.int (1 : Int32)), .val (.ref u2)] [(.ref (own_of p u1 u2 u3 u4))]) (fun t k => XS.aloadN X3.here hx rfl (hb hby d1_80) rfl rfl k) ?_
      refine Go.of (mkF m 82 #[.val (.int p), .val (.ref (own_of p u1 u2 u3 u4)), .val (.int (1 : Int32)), .val (.ref u2)] [(.ref u2), (.ref (own_of p u1 u2 u3 u4))]) (fun t k => XS.aloadN X3.here hx rfl (hb hby d1_81) rfl rfl k) ?_
      refine Go.of (mkF m 85 #[.val (.int p), .val (.ref (own_of p u1 u2 u3 u4)), .val (.int (1 : Int32)), .val (.ref u2)] []) (fun t k => Jvm.RoadKit.acmp (g := (mkF m 82 #[.val (.int p), .val (.ref (own_of p u1 u2 u3 u4)), .val (.int (1 : Int32)), .val (.ref u2)] [(.ref u2), (.ref (own_of p u1 u2 u3 u4))])) X3 hx rfl (x := (.ref (own_of p u1 u2 u3 u4))) (y := (.ref u2)) rfl rfl (pc0 := 82) (pc' := 85) (same := true) rfl (hb hby d1_82) rfl (decide_eq_true (congrArg Value.ref (by simp [own_of, hc8, hc19]))) (by decide) (by decide) k) ?_
      refine Go.of (mkF m 86 #[.val (.int p), .val (.ref (own_of p u1 u2 u3 u4)), .val (.int (1 : Int32)), .val (.ref u2)] [(.int (1 : Int32))]) (fun t k => XS.iconst X3.here hx rfl (hb hby d1_85) k) ?_
      refine Go.of (mkF m 90 #[.val (.int p), .val (.ref (own_of p u1 u2 u3 u4)), .val (.int (1 : Int32)), .val (.ref u2)] [(.int (1 : Int32))]) (fun t k => XS.goto X3.here hx rfl (pc0 := 86) (pc' := 90) rfl (hb hby d1_86) (by decide) (by decide) k) ?_
      exact Go.retW X3 hx (t := .boolean) hret hlk rfl (Or.inl ⟨rfl, by simp, _, rfl⟩) (hb hby d1_90) (by decide) (by decide) ⟨rfl, by simp, e3⟩
    ·
      refine Go.of (mkF m 22 #[.val (.int p), .val (.ref (own_of p u1 u2 u3 u4)), .unset, .unset] [(.int (1 : Int32))]) (fun t k => XS.icmpNo X1.here hx rfl (hb hby d1_19) rfl (flt hc19).1 k) ?_
      refine Go.of (mkF m 23 #[.val (.int p), .val (.ref (own_of p u1 u2 u3 u4)), .unset, .unset] [(.int (1 : Int32)), (.int (1 : Int32))]) (fun t k => XS.iconst X1.here hx rfl (hb hby d1_22) k) ?_
      refine Go.of (mkF m 27 #[.val (.int p), .val (.ref (own_of p u1 u2 u3 u4)), .unset, .unset] [(.int (1 : Int32)), (.int (1 : Int32))]) (fun t k => XS.goto X1.here hx rfl (pc0 := 23) (pc' := 27) rfl (hb hby d1_23) (by decide) (by decide) k) ?_
      refine Go.of (mkF m 28 #[.val (.int p), .val (.ref (own_of p u1 u2 u3 u4)), .unset, .unset] [(.int ((1 : Int32) + (1 : Int32)))]) (fun t k => XS.iadd X1.here hx rfl (hb hby d1_27) rfl k) ?_
      rw [show ((1 : Int32) + (1 : Int32)) = (2 : Int32) from by decide]
      refine Go.of (mkF m 29 #[.val (.int p), .val (.ref (own_of p u1 u2 u3 u4)), .unset, .unset] [(.int p), (.int (2 : Int32))]) (fun t k => XS.iloadN X1.here hx rfl (hb hby d1_28) rfl k) ?_
      refine Go.of (mkF m 31 #[.val (.int p), .val (.ref (own_of p u1 u2 u3 u4)), .unset, .unset] [(.int (65 : Int32)), (.int p), (.int (2 : Int32))]) (fun t k => XS.bipush X1.here hx rfl (hb hby d1_29) k) ?_
      by_cases hc31 : p < (65 : Int32)
      ·
        refine Go.of (mkF m 38 #[.val (.int p), .val (.ref (own_of p u1 u2 u3 u4)), .unset, .unset] [(.int (2 : Int32))]) (fun t k => XS.icmpYes X1.here hx rfl (pc0 := 31) (pc' := 38) rfl (hb hby d1_31) rfl (tlt hc31).1 (by decide) (by decide) k) ?_
        refine Go.of (mkF m 39 #[.val (.int p), .val (.ref (own_of p u1 u2 u3 u4)), .unset, .unset] [(.int (0 : Int32)), (.int (2 : Int32))]) (fun t k => XS.iconst X1.here hx rfl (hb hby d1_38) k) ?_
        refine Go.of (mkF m 40 #[.val (.int p), .val (.ref (own_of p u1 u2 u3 u4)), .unset, .unset] [(.int ((2 : Int32) + (0 : Int32)))]) (fun t k => XS.iadd X1.here hx rfl (hb hby d1_39) rfl k) ?_
        rw [show ((2 : Int32) + (0 : Int32)) = (2 : Int32) from by decide]
        refine Go.of (mkF m 41 #[.val (.int p), .val (.ref (own_of p u1 u2 u3 u4)), .val (.int (2 : Int32)), .unset] []) (fun t k => XS.istoreN X1.here hx rfl (hb hby d1_40) rfl (l' := #[.val (.int p), .val (.ref (own_of p u1 u2 u3 u4)), .val (.int (2 : Int32)), .unset]) rfl k) ?_
        refine Go.of (mkF m 42 #[.val (.int p), .val (.ref (own_of p u1 u2 u3 u4)), .val (.int (2 : Int32)), .unset] [(.int (2 : Int32))]) (fun t k => XS.iloadN X1.here hx rfl (hb hby d1_41) rfl k) ?_
        refine Go.of (mkF m 52 #[.val (.int p), .val (.ref (own_of p u1 u2 u3 u4)), .val (.int (2 : Int32)), .unset] []) (fun t k => XS.ifYes X1.here hx rfl (pc0 := 42) (pc' := 52) rfl (hb hby d1_42) rfl ((if0 _ _).trans (feq (by decide)).2) (by decide) (by decide) k) ?_
        refine Go.of (mkF m 53 #[.val (.int p), .val (.ref (own_of p u1 u2 u3 u4)), .val (.int (2 : Int32)), .unset] [(.int (2 : Int32))]) (fun t k => XS.iloadN X1.here hx rfl (hb hby d1_52) rfl k) ?_
        refine Go.of (mkF m 54 #[.val (.int p), .val (.ref (own_of p u1 u2 u3 u4)), .val (.int (2 : Int32)), .unset] [(.int (1 : Int32)), (.int (2 : Int32))]) (fun t k => XS.iconst X1.here hx rfl (hb hby d1_53) k) ?_
        refine Go.of (mkF m 64 #[.val (.int p), .val (.ref (own_of p u1 u2 u3 u4)), .val (.int (2 : Int32)), .unset] []) (fun t k => XS.icmpYes X1.here hx rfl (pc0 := 54) (pc' := 64) rfl (hb hby d1_54) rfl (feq (by decide)).2 (by decide) (by decide) k) ?_
        refine Go.of (mkF m 65 #[.val (.int p), .val (.ref (own_of p u1 u2 u3 u4)), .val (.int (2 : Int32)), .unset] [(.int (2 : Int32))]) (fun t k => XS.iloadN X1.here hx rfl (hb hby d1_64) rfl k) ?_
        refine Go.of (mkF m 66 #[.val (.int p), .val (.ref (own_of p u1 u2 u3 u4)), .val (.int (2 : Int32)), .unset] [(.int (2 : Int32)), (.int (2 : Int32))]) (fun t k => XS.iconst X1.here hx rfl (hb hby d1_65) k) ?_
        refine Go.of (mkF m 69 #[.val (.int p), .val (.ref (own_of p u1 u2 u3 u4)), .val (.int (2 : Int32)), .unset] []) (fun t k => XS.icmpNo X1.here hx rfl (hb hby d1_66) rfl (teq (by decide)).2 k) ?_
        obtain ⟨T4, X4, e4, st4⟩ := getS2 X1 hx hZ hown (host := "") (Or.inl (tw19 hw)) Via.refl hh1 S3 (g := (mkF m 69 #[.val (.int p), .val (.ref (own_of p u1 u2 u3 u4)), .val (.int (2 : Int32)), .unset] [])) rfl (hb hby d1_69)
        refine Go.of (mkF m 72 #[.val (.int p), .val (.ref (own_of p u1 u2 u3 u4)), .val (.int (2 : Int32)), .unset] [(.ref u3)]) (st4) ?_
        refine Go.of (mkF m 73 #[.val (.int p), .val (.ref (own_of p u1 u2 u3 u4)), .val (.int (2 : Int32)), .val (.ref u3)] []) (fun t k => XS.astoreN X4.here hx rfl (hb hby d1_72) rfl rfl (l' := #[.val (.int p), .val (.ref (own_of p u1 u2 u3 u4)), .val (.int (2 : Int32)), .val (.ref u3)]) rfl k) ?_
        refine Go.of (mkF m 80 #[.val (.int p), .val (.ref (own_of p u1 u2 u3 u4)), .val (.int (2 : Int32)), .val (.ref u3)] []) (fun t k => XS.goto X4.here hx rfl (pc0 := 73) (pc' := 80) rfl (hb hby d1_73) (by decide) (by decide) k) ?_
        refine Go.of (mkF m 81 #[.val (.int p), .val (.ref (own_of p u1 u2 u3 u4)), .val (.int (2 : Int32)), .val (.ref u3)] [(.ref (own_of p u1 u2 u3 u4))]) (fun t k => XS.aloadN X4.here hx rfl (hb hby d1_80) rfl rfl k) ?_
        refine Go.of (mkF m 82 #[.val (.int p), .val (.ref (own_of p u1 u2 u3 u4)), .val (.int (2 : Int32)), .val (.ref u3)] [(.ref u3), (.ref (own_of p u1 u2 u3 u4))]) (fun t k => XS.aloadN X4.here hx rfl (hb hby d1_81) rfl rfl k) ?_
        refine Go.of (mkF m 85 #[.val (.int p), .val (.ref (own_of p u1 u2 u3 u4)), .val (.int (2 : Int32)), .val (.ref u3)] []) (fun t k => Jvm.RoadKit.acmp (g := (mkF m 82 #[.val (.int p), .val (.ref (own_of p u1 u2 u3 u4)), .val (.int (2 : Int32)), .val (.ref u3)] [(.ref u3), (.ref (own_of p u1 u2 u3 u4))])) X4 hx rfl (x := (.ref (own_of p u1 u2 u3 u4))) (y := (.ref u3)) rfl rfl (pc0 := 82) (pc' := 85) (same := true) rfl (hb hby d1_82) rfl (decide_eq_true (congrArg Value.ref (by simp [own_of, hc8, hc19, hc31]))) (by decide) (by decide) k) ?_
        refine Go.of (mkF m 86 #[.val (.int p), .val (.ref (own_of p u1 u2 u3 u4)), .val (.int (2 : Int32)), .val (.ref u3)] [(.int (1 : Int32))]) (fun t k => XS.iconst X4.here hx rfl (hb hby d1_85) k) ?_
        refine Go.of (mkF m 90 #[.val (.int p), .val (.ref (own_of p u1 u2 u3 u4)), .val (.int (2 : Int32)), .val (.ref u3)] [(.int (1 : Int32))]) (fun t k => XS.goto X4.here hx rfl (pc0 := 86) (pc' := 90) rfl (hb hby d1_86) (by decide) (by decide) k) ?_
        exact Go.retW X4 hx (t := .boolean) hret hlk rfl (Or.inl ⟨rfl, by simp, _, rfl⟩) (hb hby d1_90) (by decide) (by decide) ⟨rfl, by simp, e4⟩
      ·
        refine Go.of (mkF m 34 #[.val (.int p), .val (.ref (own_of p u1 u2 u3 u4)), .unset, .unset] [(.int (2 : Int32))]) (fun t k => XS.icmpNo X1.here hx rfl (hb hby d1_31) rfl (flt hc31).1 k) ?_
        refine Go.of (mkF m 35 #[.val (.int p), .val (.ref (own_of p u1 u2 u3 u4)), .unset, .unset] [(.int (1 : Int32)), (.int (2 : Int32))]) (fun t k => XS.iconst X1.here hx rfl (hb hby d1_34) k) ?_
        refine Go.of (mkF m 39 #[.val (.int p), .val (.ref (own_of p u1 u2 u3 u4)), .unset, .unset] [(.int (1 : Int32)), (.int (2 : Int32))]) (fun t k => XS.goto X1.here hx rfl (pc0 := 35) (pc' := 39) rfl (hb hby d1_35) (by decide) (by decide) k) ?_
        refine Go.of (mkF m 40 #[.val (.int p), .val (.ref (own_of p u1 u2 u3 u4)), .unset, .unset] [(.int ((2 : Int32) + (1 : Int32)))]) (fun t k => XS.iadd X1.here hx rfl (hb hby d1_39) rfl k) ?_
        rw [show ((2 : Int32) + (1 : Int32)) = (3 : Int32) from by decide]
        refine Go.of (mkF m 41 #[.val (.int p), .val (.ref (own_of p u1 u2 u3 u4)), .val (.int (3 : Int32)), .unset] []) (fun t k => XS.istoreN X1.here hx rfl (hb hby d1_40) rfl (l' := #[.val (.int p), .val (.ref (own_of p u1 u2 u3 u4)), .val (.int (3 : Int32)), .unset]) rfl k) ?_
        refine Go.of (mkF m 42 #[.val (.int p), .val (.ref (own_of p u1 u2 u3 u4)), .val (.int (3 : Int32)), .unset] [(.int (3 : Int32))]) (fun t k => XS.iloadN X1.here hx rfl (hb hby d1_41) rfl k) ?_
        refine Go.of (mkF m 52 #[.val (.int p), .val (.ref (own_of p u1 u2 u3 u4)), .val (.int (3 : Int32)), .unset] []) (fun t k => XS.ifYes X1.here hx rfl (pc0 := 42) (pc' := 52) rfl (hb hby d1_42) rfl ((if0 _ _).trans (feq (by decide)).2) (by decide) (by decide) k) ?_
        refine Go.of (mkF m 53 #[.val (.int p), .val (.ref (own_of p u1 u2 u3 u4)), .val (.int (3 : Int32)), .unset] [(.int (3 : Int32))]) (fun t k => XS.iloadN X1.here hx rfl (hb hby d1_52) rfl k) ?_
        refine Go.of (mkF m 54 #[.val (.int p), .val (.ref (own_of p u1 u2 u3 u4)), .val (.int (3 : Int32)), .unset] [(.int (1 : Int32)), (.int (3 : Int32))]) (fun t k => XS.iconst X1.here hx rfl (hb hby d1_53) k) ?_
        refine Go.of (mkF m 64 #[.val (.int p), .val (.ref (own_of p u1 u2 u3 u4)), .val (.int (3 : Int32)), .unset] []) (fun t k => XS.icmpYes X1.here hx rfl (pc0 := 54) (pc' := 64) rfl (hb hby d1_54) rfl (feq (by decide)).2 (by decide) (by decide) k) ?_
        refine Go.of (mkF m 65 #[.val (.int p), .val (.ref (own_of p u1 u2 u3 u4)), .val (.int (3 : Int32)), .unset] [(.int (3 : Int32))]) (fun t k => XS.iloadN X1.here hx rfl (hb hby d1_64) rfl k) ?_
        refine Go.of (mkF m 66 #[.val (.int p), .val (.ref (own_of p u1 u2 u3 u4)), .val (.int (3 : Int32)), .unset] [(.int (2 : Int32)), (.int (3 : Int32))]) (fun t k => XS.iconst X1.here hx rfl (hb hby d1_65) k) ?_
        refine Go.of (mkF m 76 #[.val (.int p), .val (.ref (own_of p u1 u2 u3 u4)), .val (.int (3 : Int32)), .unset] []) (fun t k => XS.icmpYes X1.here hx rfl (pc0 := 66) (pc' := 76) rfl (hb hby d1_66) rfl (feq (by decide)).2 (by decide) (by decide) k) ?_
        obtain ⟨T5, X5, e5, st5⟩ := getS2 X1 hx hZ hown (host := "") (Or.inl (tw16 hw)) Via.refl hh1 S4 (g := (mkF m 76 #[.val (.int p), .val (.ref (own_of p u1 u2 u3 u4)), .val (.int (3 : Int32)), .unset] [])) rfl (hb hby d1_76)
        refine Go.of (mkF m 79 #[.val (.int p), .val (.ref (own_of p u1 u2 u3 u4)), .val (.int (3 : Int32)), .unset] [(.ref u4)]) (st5) ?_
        refine Go.of (mkF m 80 #[.val (.int p), .val (.ref (own_of p u1 u2 u3 u4)), .val (.int (3 : Int32)), .val (.ref u4)] []) (fun t k => XS.astoreN X5.here hx rfl (hb hby d1_79) rfl rfl (l' := #[.val (.int p), .val (.ref (own_of p u1 u2 u3 u4)), .val (.int (3 : Int32)), .val (.ref u4)]) rfl k) ?_
        refine Go.of (mkF m 81 #[.val (.int p), .val (.ref (own_of p u1 u2 u3 u4)), .val (.int (3 : Int32)), .val (.ref u4)] [(.ref (own_of p u1 u2 u3 u4))]) (fun t k => XS.aloadN X5.here hx rfl (hb hby d1_80) rfl rfl k) ?_
        refine Go.of (mkF m 82 #[.val (.int p), .val (.ref (own_of p u1 u2 u3 u4)), .val (.int (3 : Int32)), .val (.ref u4)] [(.ref u4), (.ref (own_of p u1 u2 u3 u4))]) (fun t k => XS.aloadN X5.here hx rfl (hb hby d1_81) rfl rfl k) ?_
        refine Go.of (mkF m 85 #[.val (.int p), .val (.ref (own_of p u1 u2 u3 u4)), .val (.int (3 : Int32)), .val (.ref u4)] []) (fun t k => Jvm.RoadKit.acmp (g := (mkF m 82 #[.val (.int p), .val (.ref (own_of p u1 u2 u3 u4)), .val (.int (3 : Int32)), .val (.ref u4)] [(.ref u4), (.ref (own_of p u1 u2 u3 u4))])) X5 hx rfl (x := (.ref (own_of p u1 u2 u3 u4))) (y := (.ref u4)) rfl rfl (pc0 := 82) (pc' := 85) (same := true) rfl (hb hby d1_82) rfl (decide_eq_true (congrArg Value.ref (by simp [own_of, hc8, hc19, hc31]))) (by decide) (by decide) k) ?_
        refine Go.of (mkF m 86 #[.val (.int p), .val (.ref (own_of p u1 u2 u3 u4)), .val (.int (3 : Int32)), .val (.ref u4)] [(.int (1 : Int32))]) (fun t k => XS.iconst X5.here hx rfl (hb hby d1_85) k) ?_
        refine Go.of (mkF m 90 #[.val (.int p), .val (.ref (own_of p u1 u2 u3 u4)), .val (.int (3 : Int32)), .val (.ref u4)] [(.int (1 : Int32))]) (fun t k => XS.goto X5.here hx rfl (pc0 := 86) (pc' := 90) rfl (hb hby d1_86) (by decide) (by decide) k) ?_
        exact Go.retW X5 hx (t := .boolean) hret hlk rfl (Or.inl ⟨rfl, by simp, _, rfl⟩) (hb hby d1_90) (by decide) (by decide) ⟨rfl, by simp, e5⟩
theorem ef_rm0 (m : MethodId) (x0 : Int32) (x1 : Int32) : entryFrame m #[(.int x0), (.int x1)] maxLocals = mkF m 0 #[.val (.int x0), .val (.int x1), .unset] [] := by first | (simp [entryFrame, mkF, argsToLocals, Value.category, maxLocals]; done) | rfl
set_option maxRecDepth 65536 in
set_option maxHeartbeats 40000000 in
theorem rm0 (l : Launch) (Z : State) (a0 : Array Value) (hw : ∀ d ∈ tables_1, d.before a0 Z = true) (ws : List Jvm.Cond) (p q : Int32) (n0 : Nat) (u1 u2 u3 u4 : Addr) (h0 : Heap) (S1 : Sta Z h0 "com/example/kiriman/kiriman/demand/PersonAttributes$AgeGroup" "UNDER_25" "Lcom/example/kiriman/kiriman/demand/PersonAttributes$AgeGroup;" (.ref u1)) (S2 : Sta Z h0 "com/example/kiriman/kiriman/demand/PersonAttributes$AgeGroup" "FROM_25_TO_44" "Lcom/example/kiriman/kiriman/demand/PersonAttributes$AgeGroup;" (.ref u2)) (S3 : Sta Z h0 "com/example/kiriman/kiriman/demand/PersonAttributes$AgeGroup" "FROM_45_TO_64" "Lcom/example/kiriman/kiriman/demand/PersonAttributes$AgeGroup;" (.ref u3)) (S4 : Sta Z h0 "com/example/kiriman/kiriman/demand/PersonAttributes$AgeGroup" "FROM_65" "Lcom/example/kiriman/kiriman/demand/PersonAttributes$AgeGroup;" (.ref u4)) :
    Met l Z x code maxLocals ret ws room_1 #[(.int p), (.int q)] h0 (fun v h L => v = some (.int 1) ∧ Fr n0 L) := by
  refine Met.intro pn3 ?_
  intro pr ev s m below meth c T0 X0 hx hZ hown hby hml hret hlk hnm e0
  refine Go.cast (ef_rm0 m p q) ?_
  have N0 := Fr.nil n0
  refine Go.of (mkF m 2 #[.val (.int p), .val (.int q), .unset] [(.int (24 : Int32))]) (fun t k => XS.bipush X0.here hx rfl (hb hby at_0) k) ?_
  refine Go.of (mkF m 3 #[.val (.int p), .val (.int q), .unset] [(.int q), (.int (24 : Int32))]) (fun t k => XS.iloadN X0.here hx rfl (hb hby at_2) rfl k) ?_
  refine Go.of (mkF m 5 #[.val (.int p), .val (.int q), .unset] [(.int (63 : Int32)), (.int q), (.int (24 : Int32))]) (fun t k => XS.bipush X0.here hx rfl (hb hby at_3) k) ?_
  refine Go.of (mkF m 6 #[.val (.int p), .val (.int q), .unset] [(.int (q &&& (63 : Int32))), (.int (24 : Int32))]) (fun t k => XS.iand X0.here hx rfl (hb hby at_5) rfl k) ?_
  refine Go.of (mkF m 7 #[.val (.int p), .val (.int q), .unset] [(.int ((24 : Int32) + (q &&& (63 : Int32))))]) (fun t k => XS.iadd X0.here hx rfl (hb hby at_6) rfl k) ?_
  refine Go.of (mkF m 8 #[.val (.int p), .val (.int q), .val (.int ((24 : Int32) + (q &&& (63 : Int32))))] []) (fun t k => XS.istoreN X0.here hx rfl (hb hby at_7) rfl (l' := #[.val (.int p), .val (.int q), .val (.int ((24 : Int32) + (q &&& (63 : Int32))))]) rfl k) ?_
  refine Go.of (mkF m 9 #[.val (.int p), .val (.int q), .val (.int ((24 : Int32) + (q &&& (63 : Int32))))] [(.int p)]) (fun t k => XS.iloadN X0.here hx rfl (hb hby at_8) rfl k) ?_
  refine Go.callS X0 hx hZ (y := (⟨"com/example/kiriman/kiriman/demand/AgeGroupOfPinLaw", "agrees", "(I)Z"⟩ : MethodName)) (argsL := [(.int p)]) (rest := []) hown (tw0 hw) (tw1 hw) (tw2 hw) (tw3 hw) (by decide) e0 (rm2 l Z a0 hw [] p u1 u2 u3 u4 h0 S1 S2 S3 S4) (g := (mkF m 9 #[.val (.int p), .val (.int q), .val (.int ((24 : Int32) + (q &&& (63 : Int32))))] [(.int p)])) rfl (by rw [hml]; rfl) (lenOf pd4 rfl) rfl (W := 0) (by show 2 * 0 + _ ≤ _; exact Nat.le_of_eq rfl) (hb hby at_9) (by decide) (by decide) (by decide) (by decide) ?_
  rintro T1 L1 v1 X1 ⟨rfl, rfl, hh1⟩
  have N1 := Fr.app N0 (Fr.nil n0)
  show Go pr ev below _ T1 (mkF m 12 #[.val (.int p), .val (.int q), .val (.int ((24 : Int32) + (q &&& (63 : Int32))))] [(.int (1 : Int32))])
  refine Go.of (mkF m 15 #[.val (.int p), .val (.int q), .val (.int ((24 : Int32) + (q &&& (63 : Int32))))] []) (fun t k => XS.ifNo X1.here hx rfl (hb hby at_12) rfl ((if0 _ _).trans (feq (by decide)).1) k) ?_
  refine Go.of (mkF m 16 #[.val (.int p), .val (.int q), .val (.int ((24 : Int32) + (q &&& (63 : Int32))))] [(.int ((24 : Int32) + (q &&& (63 : Int32))))]) (fun t k => XS.iloadN X1.here hx rfl (hb hby at_15) rfl k) ?_
  refine Go.callS X1 hx hZ (y := (⟨"com/example/kiriman/kiriman/demand/AgeGroupOfPinLaw", "agrees", "(I)Z"⟩ : MethodName)) (argsL := [(.int ((24 : Int32) + (q &&& (63 : Int32))))]) (rest := []) hown (tw0 hw) (tw1 hw) (tw2 hw) (tw3 hw) (by decide) hh1 (rm2 l Z a0 hw [] ((24 : Int32) + (q &&& (63 : Int32))) u1 u2 u3 u4 h0 S1 S2 S3 S4) (g := (mkF m 16 #[.val (.int p), .val (.int q), .val (.int ((24 : Int32) + (q &&& (63 : Int32))))] [(.int ((24 : Int32) + (q &&& (63 : Int32))))])) rfl (by rw [hml]; rfl) (lenOf pd4 rfl) rfl (W := 0) (by show 2 * 0 + _ ≤ _; exact Nat.le_of_eq rfl) (hb hby at_16) (by decide) (by decide) (by decide) (by decide) ?_
  rintro T2 L2 v2 X2 ⟨rfl, rfl, hh2⟩
  have N2 := Fr.app N1 (Fr.nil n0)
  show Go pr ev below _ T2 (mkF m 19 #[.val (.int p), .val (.int q), .val (.int ((24 : Int32) + (q &&& (63 : Int32))))] [(.int (1 : Int32))])
  refine Go.of (mkF m 22 #[.val (.int p), .val (.int q), .val (.int ((24 : Int32) + (q &&& (63 : Int32))))] []) (fun t k => XS.ifNo X2.here hx rfl (hb hby at_19) rfl ((if0 _ _).trans (feq (by decide)).1) k) ?_
  refine Go.of (mkF m 23 #[.val (.int p), .val (.int q), .val (.int ((24 : Int32) + (q &&& (63 : Int32))))] [(.int (1 : Int32))]) (fun t k => XS.iconst X2.here hx rfl (hb hby at_22) k) ?_
  refine Go.of (mkF m 27 #[.val (.int p), .val (.int q), .val (.int ((24 : Int32) + (q &&& (63 : Int32))))] [(.int (1 : Int32))]) (fun t k => XS.goto X2.here hx rfl (pc0 := 23) (pc' := 27) rfl (hb hby at_23) (by decide) (by decide) k) ?_
  exact Go.retW X2 hx (t := .boolean) hret hlk rfl (Or.inl ⟨rfl, by simp, _, rfl⟩) (hb hby at_27) (by decide) (by decide) ⟨rfl, N2⟩
set_option maxRecDepth 65536 in
set_option maxHeartbeats 40000000 in
theorem comes_1 {Post : Tables → Env → Array Value → State → Outcome → State → Prop} (hpost : ∀ tb e args s v u, (limb_1_1.after args s (.returned v) u = true ∧ limb_1_2.after args s (.returned v) u = true ∧ True) → FrameEnd s (.returned v) u (Jvm.fieldLocs frame_1_writes args s ++ Jvm.arrayLocs frame_1_arrays args s ++ Jvm.staticLocs frame_1_statics s) 0 0 → Post tb e args s (.returned v) u) :
    ArmFor flags0 classFile x code maxLocals ret World_1 tables_1 room_1 Calls_1 rest_1 Pre_1 Post := by
  intro l hfl _ _ p e ha hc hk s m args below hf hA hF happ hP
  obtain ⟨hcalls, hrest, hpre⟩ := hP
  obtain ⟨-, -, -, hnamed, -, -, -, hat⟩ := (Spec.applies_iff hf).mp happ
  obtain ⟨hg, hn⟩ := and_e (Cond.before_iff.mp (show (Jvm.Cond.and given_1 narrow_1).before args s = true from hpre))
  obtain ⟨gc, gr⟩ := and_e hg
  obtain ⟨gi0, gr⟩ := and_e gr
  have gi1 := gr
  obtain ⟨w0, w1, rfl⟩ : ∃ w0 w1 : Value, args = #[w0, w1] := by
    have hs : args.size = 2 := by simpa [Cond.value, given_1] using gc
    obtain ⟨L⟩ := args
    match L, hs with
    | [w0, w1], _ => exact ⟨w0, w1, rfl⟩
  have hw := fun d (hd : d ∈ tables_1) => atoms_spec (ws := Jvm.Cond.code x code maxLocals ret :: tables_1) hat d (List.mem_cons_of_mem _ hd)
  have hfit : Fit s := fun {y c} hc i hi => by
    obtain ⟨ha, rfl⟩ := Array.getElem?_eq_some_iff.mp hc
    have q := List.all_eq_true.mp ((Array.all_eq_true_iff_forall_mem.mp hF) _ (Array.getElem_mem ha)) i (List.mem_range.mpr hi)
    simpa [Array.getElem?_eq_getElem hi] using q
  obtain ⟨i0, ei0⟩ := is_v gi0
  obtain rfl : w0 = (.int i0) := Option.some.inj ei0
  obtain ⟨i1, ei1⟩ := is_v gi1
  obtain rfl : w1 = (.int i1) := Option.some.inj ei1
  obtain ⟨m1, hn⟩ := and_e hn
  obtain ⟨m2, hn⟩ := and_e hn
  obtain ⟨m4, m3⟩ := and_e hn
  obtain ⟨u1, q1⟩ := exa_v m1
  have S1 := Sta.start q1 (Or.inr ⟨(tw6 hw), (tw9 hw)⟩)
  obtain ⟨u2, q2⟩ := exa_v m2
  have S2 := Sta.start q2 (Or.inr ⟨(tw6 hw), (tw12 hw)⟩)
  obtain ⟨u3, q3⟩ := exa_v m3
  have S3 := Sta.start q3 (Or.inr ⟨(tw6 hw), (tw18 hw)⟩)
  obtain ⟨u4, q4⟩ := exa_v m4
  have S4 := Sta.start q4 (Or.inr ⟨(tw6 hw), (tw15 hw)⟩)
  obtain ⟨n, o, h1, h2, h3, _, L, rfl, ⟨rfl, N⟩, hq⟩ := rm0 l s _ hw tables_1 i0 i1 s.heap.size u1 u2 u3 u4 s.heap S1 S2 S3 S4 p e ha hc hk s m _ below hf ((Spec.applies_iff_loose hf).mp happ).1 ⟨rfl, State.Warmed39.refl s, rfl⟩ trivial
  refine ⟨n, _, h1, h2, h3, hpost _ _ _ _ _ _ ⟨Cond.after_iff.mpr rfl, Cond.after_iff.mpr (eq_i res_at (Term.int_eval (1)) rfl), trivial⟩ ⟨hq.1, hq.2.1, (hq.2.2.sift fun y hy => Or.inr (N y hy)).mono (by decide) (by decide)⟩⟩
theorem main_1_1 : Claimed_1_1 := comes_1 fun _ _ _ _ _ _ h hF => ⟨h.1, hF⟩
theorem main_1_2 : Claimed_1_2 := comes_1 fun _ _ _ _ _ _ h hF => ⟨h.2.1, hF⟩
end Jvm.Pilot.@@N@@
namespace Jvm.Pilot.@@N@@
open Jvm Jvm.ClassFile Sem Op Lib Jvm.Free Jvm.Stand Jvm.Pilot.@@N@@.Jvm.D
/-! MADE BY PROGRAM (witnessworld.py) out of the Statement's table words and the real class files: 12 classes; the members and pool entries that the words name. The judged class is class 1, her method 1. -/
namespace start1
open Jvm.ClassFile
def u (s : String) : CpInfo := .utf8 (stringToUtf16 s)
/-- a pool by its gaps: so many unusable entries, then the entry; so many at the end -/
def gap : Nat → List CpInfo → List CpInfo
  | 0, r => r
  | n + 1, r => .unusable :: gap n r
def poolList (es : List (Nat × CpInfo)) (last : Nat) : List CpInfo := es.foldr (fun e r => gap e.1 (e.2 :: r)) (gap last [])
def pool (es : List (Nat × CpInfo)) (last : Nat) : Array CpInfo := ⟨poolList es last⟩
def fileOf (pool : Array CpInfo) (this : Nat) (attrs : Array Attribute := #[]) (ms : Array MethodInfo := #[]) (fl : Nat := 33) (sup : Nat := 0) (ifs : Array Nat := #[]) (fds : Array FieldInfo := #[]) : ClassFile where
  minorVersion := 0
  majorVersion := 65
  constantPool := pool
  accessFlags := fl
  thisClass := this
  superClass := sup
  interfaces := ifs
  fields := fds
  methods := ms
  attributes := attrs
def plain (name : String) (sup : Option ClassId) : Class where
  name := name
  kind := .ordinary
  loader := none
  accessFlags := 33
  super := sup
  interfaces := #[]
  cf := none
  fields := #[]
  methods := #[]
  instanceTypes := #[]
  staticTypes := #[]
  resolved := #[]
  callSites := []
  init := .initialized
  statics := none
  mirror := none

def pool0 : Array CpInfo := pool [(5, u "<init>"), (0, u "()V"), (1, .class_ 10), (1, u "java/lang/Object")] 113

def k0m0 : Method := { name := "<init>", desc := "()V", sig := { parameters := [], returnType := none }, accessFlags := 1, code := none }
/-- java/lang/Object -/
def k0 : Class := { plain "java/lang/Object" none with
  accessFlags := 33
  interfaces := #[]
  cf := some (fileOf pool0 8 #[] #[{ accessFlags := 1, nameIndex := 5, descriptorIndex := 6, attributes := #[] }] 33 0 #[] #[])
  fields := #[]
  methods := #[k0m0]
  instanceTypes := #[]
  staticTypes := #[]
  resolved := Array.replicate 124 none
  statics := none }

def pool1 : Array CpInfo := pool [(2, .class_ 4), (1, u "java/lang/Object"), (0, u "<init>"), (0, u "()V"), (0, .methodref 8 9), (0, .class_ 10), (0, .nameAndType 11 12), (0, u "com/example/kiriman/kiriman/demand/AgeGroupOfPinLaw"), (0, u "agrees"), (0, u "(I)Z"), (0, .methodref 14 15), (0, .class_ 16), (0, .nameAndType 17 18), (0, u "com/example/kiriman/kiriman/demand/PersonAttributes$AgeGroup"), (0, u "of"), (0, u "(I)Lcom/example/kiriman/kiriman/demand/PersonAttributes$AgeGroup;"), (0, .fieldref 14 20), (0, .nameAndType 21 22), (0, u "UNDER_25"), (0, u "Lcom/example/kiriman/kiriman/demand/PersonAttributes$AgeGroup;"), (0, .fieldref 14 24), (0, .nameAndType 25 22), (0, u "FROM_25_TO_44"), (0, .fieldref 14 27), (0, .nameAndType 28 22), (0, u "FROM_45_TO_64"), (0, .fieldref 14 30), (0, .nameAndType 31 22), (0, u "FROM_65"), (2, u "law"), (0, u "(II)Z")] 7

def k1m0 : Method := { name := "<init>", desc := "()V", sig := { parameters := [], returnType := none }, accessFlags := 2, code := none }
def k1c1 : Code := { maxStack := 3, maxLocals := 3, code := code, exceptionTable := #[], attributes := #[] }
def k1m1 : Method := { name := "law", desc := "(II)Z", sig := { parameters := [.int, .int], returnType := some .boolean }, accessFlags := 9, code := some k1c1 }
def k1c2 : Code := { maxStack := 3, maxLocals := 4, code := method_3_code, exceptionTable := #[], attributes := #[] }
def k1m2 : Method := { name := "agrees", desc := "(I)Z", sig := { parameters := [.int], returnType := some .boolean }, accessFlags := 10, code := some k1c2 }
/-- com/example/kiriman/kiriman/demand/AgeGroupOfPinLaw -/
def k1 : Class := { plain "com/example/kiriman/kiriman/demand/AgeGroupOfPinLaw" (some 0) with
  accessFlags := 49
  interfaces := #[]
  cf := some (fileOf pool1 8 #[] #[{ accessFlags := 2, nameIndex := 5, descriptorIndex := 6, attributes := #[] }, { accessFlags := 9, nameIndex := 34, descriptorIndex := 35, attributes := #[] }, { accessFlags := 10, nameIndex := 11, descriptorIndex := 12, attributes := #[] }] 49 2 #[] #[])
  fields := #[]
  methods := #[k1m0, k1m1, k1m2]
  instanceTypes := #[]
  staticTypes := #[]
  resolved := Array.replicate 43 none
  statics := none }

def pool2 : Array CpInfo := pool [(1, .class_ 2), (0, u "java/lang/constant/Constable"), (0, .class_ 4), (0, u "java/lang/Object")] 6

/-- java/lang/constant/Constable -/
def k2 : Class := { plain "java/lang/constant/Constable" (some 0) with
  accessFlags := 1537
  interfaces := #[]
  cf := some (fileOf pool2 1 #[] #[] 1537 3 #[] #[])
  fields := #[]
  methods := #[]
  instanceTypes := #[]
  staticTypes := #[]
  resolved := Array.replicate 11 none
  statics := none }

def pool3 : Array CpInfo := pool [(1, .class_ 2), (0, u "java/lang/Comparable"), (0, .class_ 4), (0, u "java/lang/Object")] 7

/-- java/lang/Comparable -/
def k3 : Class := { plain "java/lang/Comparable" (some 0) with
  accessFlags := 1537
  interfaces := #[]
  cf := some (fileOf pool3 1 #[] #[] 1537 3 #[] #[])
  fields := #[]
  methods := #[]
  instanceTypes := #[]
  staticTypes := #[]
  resolved := Array.replicate 12 none
  statics := none }

def pool4 : Array CpInfo := pool [(1, .class_ 2), (0, u "java/io/Serializable"), (0, .class_ 4), (0, u "java/lang/Object")] 2

/-- java/io/Serializable -/
def k4 : Class := { plain "java/io/Serializable" (some 0) with
  accessFlags := 1537
  interfaces := #[]
  cf := some (fileOf pool4 1 #[] #[] 1537 3 #[] #[])
  fields := #[]
  methods := #[]
  instanceTypes := #[]
  staticTypes := #[]
  resolved := Array.replicate 7 none
  statics := none }

def pool5 : Array CpInfo := pool [(2, .class_ 4), (1, u "java/lang/Enum"), (0, u "name"), (0, u "Ljava/lang/String;"), (2, u "ordinal"), (0, u "I"), (1, .class_ 14), (1, u "java/lang/Object"), (4, u "hash"), (86, .class_ 108), (1, u "java/lang/Enum$EnumDesc"), (2, .class_ 112), (0, u "java/lang/constant/Constable"), (0, .class_ 114), (0, u "java/lang/Comparable"), (0, .class_ 116), (0, u "java/io/Serializable")] 87

/-- java/lang/Enum -/
def k5 : Class := { plain "java/lang/Enum" (some 0) with
  accessFlags := 1057
  interfaces := #[2, 3, 4]
  cf := some (fileOf pool5 2 #[.nestMembers #[106]] #[] 1057 12 #[111, 113, 115] #[{ accessFlags := 18, nameIndex := 5, descriptorIndex := 6, attributes := #[] }, { accessFlags := 18, nameIndex := 9, descriptorIndex := 10, attributes := #[] }, { accessFlags := 2, nameIndex := 19, descriptorIndex := 10, attributes := #[] }])
  fields := #[{ name := "name", type := (.object "java/lang/String"), accessFlags := 18, slot := 0, constantValue := 0 }, { name := "ordinal", type := .int, accessFlags := 18, slot := 1, constantValue := 0 }, { name := "hash", type := .int, accessFlags := 2, slot := 2, constantValue := 0 }]
  methods := #[]
  instanceTypes := #[(.object "java/lang/String"), .int, .int]
  staticTypes := #[]
  resolved := Array.replicate 204 none
  statics := none }

def pool6 : Array CpInfo := pool [(1, .class_ 2), (0, u "com/example/kiriman/kiriman/demand/PersonAttributes$AgeGroup"), (0, .fieldref 1 4), (0, .nameAndType 5 6), (0, u "UNDER_25"), (0, u "Lcom/example/kiriman/kiriman/demand/PersonAttributes$AgeGroup;"), (0, .fieldref 1 8), (0, .nameAndType 9 6), (0, u "FROM_25_TO_44"), (0, .fieldref 1 11), (0, .nameAndType 12 6), (0, u "FROM_45_TO_64"), (0, .fieldref 1 14), (0, .nameAndType 15 6), (0, u "FROM_65"), (2, u "$VALUES"), (0, u "[Lcom/example/kiriman/kiriman/demand/PersonAttributes$AgeGroup;"), (6, .class_ 28), (1, u "java/lang/Enum"), (22, u "of"), (0, u "(I)Lcom/example/kiriman/kiriman/demand/PersonAttributes$AgeGroup;"), (6, .class_ 60), (0, u "com/example/kiriman/kiriman/demand/PersonAttributes")] 2

def k6c0 : Code := { maxStack := 2, maxLocals := 2, code := prog_13_method_4_code, exceptionTable := #[], attributes := #[] }
def k6m0 : Method := { name := "of", desc := "(I)Lcom/example/kiriman/kiriman/demand/PersonAttributes$AgeGroup;", sig := { parameters := [.int], returnType := some (.object "com/example/kiriman/kiriman/demand/PersonAttributes$AgeGroup") }, accessFlags := 8, code := some k6c0 }
/-- com/example/kiriman/kiriman/demand/PersonAttributes$AgeGroup -/
def k6 : Class := { plain "com/example/kiriman/kiriman/demand/PersonAttributes$AgeGroup" (some 5) with
  accessFlags := 16433
  interfaces := #[]
  cf := some (fileOf pool6 1 #[.nestHost 59] #[{ accessFlags := 8, nameIndex := 51, descriptorIndex := 52, attributes := #[] }] 16433 26 #[] #[{ accessFlags := 16409, nameIndex := 5, descriptorIndex := 6, attributes := #[] }, { accessFlags := 16409, nameIndex := 9, descriptorIndex := 6, attributes := #[] }, { accessFlags := 16409, nameIndex := 12, descriptorIndex := 6, attributes := #[] }, { accessFlags := 16409, nameIndex := 15, descriptorIndex := 6, attributes := #[] }, { accessFlags := 4122, nameIndex := 18, descriptorIndex := 19, attributes := #[] }])
  fields := #[{ name := "UNDER_25", type := (.object "com/example/kiriman/kiriman/demand/PersonAttributes$AgeGroup"), accessFlags := 16409, slot := 0, constantValue := 0 }, { name := "FROM_25_TO_44", type := (.object "com/example/kiriman/kiriman/demand/PersonAttributes$AgeGroup"), accessFlags := 16409, slot := 1, constantValue := 0 }, { name := "FROM_45_TO_64", type := (.object "com/example/kiriman/kiriman/demand/PersonAttributes$AgeGroup"), accessFlags := 16409, slot := 2, constantValue := 0 }, { name := "FROM_65", type := (.object "com/example/kiriman/kiriman/demand/PersonAttributes$AgeGroup"), accessFlags := 16409, slot := 3, constantValue := 0 }, { name := "$VALUES", type := (.array (.object "com/example/kiriman/kiriman/demand/PersonAttributes$AgeGroup")), accessFlags := 4122, slot := 4, constantValue := 0 }]
  methods := #[k6m0]
  instanceTypes := #[(.object "java/lang/String"), .int, .int]
  staticTypes := #[(.object "com/example/kiriman/kiriman/demand/PersonAttributes$AgeGroup"), (.object "com/example/kiriman/kiriman/demand/PersonAttributes$AgeGroup"), (.object "com/example/kiriman/kiriman/demand/PersonAttributes$AgeGroup"), (.object "com/example/kiriman/kiriman/demand/PersonAttributes$AgeGroup"), (.array (.object "com/example/kiriman/kiriman/demand/PersonAttributes$AgeGroup"))]
  resolved := Array.replicate 63 none
  statics := some 0 }

def pool7 : Array CpInfo := pool [(1, u "java/lang/Cloneable"), (0, .class_ 1), (0, u "java/lang/Object"), (0, .class_ 3)] 3

/-- java/lang/Cloneable -/
def k7 : Class := { plain "java/lang/Cloneable" (some 0) with
  accessFlags := 1537
  interfaces := #[]
  cf := some (fileOf pool7 2 #[] #[] 1537 4 #[] #[])
  fields := #[]
  methods := #[]
  instanceTypes := #[]
  staticTypes := #[]
  resolved := Array.replicate 8 none
  statics := none }

/-- the primitive byte -/
def k8 : Class := { plain "byte" none with kind := .primitive 'B', accessFlags := 0x411 }
/-- [B -/
def k9 : Class := { plain "[B" (some 0) with kind := .array 8 .byte, interfaces := #[7, 4], accessFlags := 1041 }

/-- the primitive int -/
def k10 : Class := { plain "int" none with kind := .primitive 'I', accessFlags := 0x411 }
/-- [I -/
def k11 : Class := { plain "[I" (some 0) with kind := .array 10 .int, interfaces := #[7, 4], accessFlags := 1041 }

def heap : Heap := #[{ cls := 6, slots := #[.ref 1, .ref 1, .ref 1, .ref 1, .null], vm := .statics 6 },
  { cls := 6, slots := #[.null, .int 0, .int 0], vm := .none }]
def classes : Array Class := #[k0, k1, k2, k3, k4, k5, k6, k7, k8, k9, k10, k11]
def interned : List (Array UInt16 × Addr) := []
def slotsUsed : Nat := 8
def theMethod : MethodId := ⟨1, 1⟩
def args0 : Array Value := #[.int 5, .int 3]
def aboutOver (below : List Frame) : State where
  vm := { classes := classes, interned := interned.toArray }
  heap := heap
  slotsUsed := slotsUsed
  threads := #[{ frames := .invoking theMethod args0 :: below }]
def below0 : List Frame := [.native { method := ⟨0, 0⟩, args := #[] }]
def about1 : State := aboutOver below0
def p0 : Program := .bare "" "" ""
def e0 : Env := launch0.env 0 0 0
theorem w_frames : about1.frames = Frame.invoking theMethod args0 :: below0 := rfl
set_option maxRecDepth 65536 in
theorem w_args : argsFit about1.vm theMethod args0 = true := by decide +kernel
set_option maxRecDepth 65536 in
theorem w_heap : heapFits about1 = true := by decide +kernel
set_option maxRecDepth 65536 in
theorem w_runnable : about1.curStatus? = some .runnable := by decide +kernel
set_option maxRecDepth 65536 in
theorem w_alone : about1.alone = true := by decide +kernel
set_option maxRecDepth 65536 in
theorem w_named : about1.methodNamed? x = some theMethod := by decide +kernel
set_option maxRecDepth 65536 in
theorem w_hears : about1.hears theMethod below0 = true := by decide +kernel
set_option maxRecDepth 65536 in
theorem w_ripe : about1.ripe theMethod args0 below0 = true := by decide +kernel
theorem w_running : about1.status = .running := rfl
set_option maxRecDepth 65536 in
theorem w_room : about1.hasRoom e0.platform room_1 = true :=
  launch0.hasRoom_least _ room_1 (by decide +kernel) (by decide +kernel) (by decide +kernel) (by decide +kernel) (by decide +kernel) (by decide +kernel)
theorem allAtoms_all (ts : List Jvm.Cond) (a : Array Jvm.Value) (st : Jvm.State) : (allAtoms ts).before a st = ts.all (fun c => c.before a st) := by
  induction ts with
  | nil => rfl
  | cons c t ih =>
    show (Jvm.Cond.and c (allAtoms t)).before a st = _
    rw [Jvm.Cond.before_and, ih, List.all_cons]
def words1 : List Jvm.Cond := Jvm.Cond.code x code maxLocals ret :: tables_1
/-- a 'code' word, met by the world's own term for the bytes: nothing is compared byte by byte -/
theorem code_word {y : MethodName} {bytes : ByteArray} {mx : Nat} {rt : Option FieldType} {a : Array Value} {s : State} {m : MethodId} {meth : Method} {c : Code} (h1 : s.methodNamed? y = some m) (h2 : s.vm.method? m = some meth) (h3 : meth.code = some c) (h4 : c.code = bytes)
    (h5 : (c.maxLocals == mx && c.exceptionTable.isEmpty && decide (c.maxStack ≤ mostOperands) && decide (meth.sig.returnType = rt) && !meth.locks && decide (parseMethodDescriptor y.desc = some meth.sig)) = true) : (Jvm.Cond.code y bytes mx rt).before a s = true := by
  simp only [Bool.and_eq_true, beq_iff_eq, Bool.not_eq_true', decide_eq_true_eq] at h5
  obtain ⟨⟨⟨⟨⟨g1, g2⟩, g3⟩, g4⟩, g5⟩, g6⟩ := h5
  simp [Cond.before, Cond.holds, Cond.value, h1, h2, h3, h4, g1, g2, g3, g4, g5, g6]
def isCode : Jvm.Cond → Bool
  | .code _ _ _ _ => true
  | _ => false
theorem all_split {L : List Jvm.Cond} {P : Jvm.Cond → Bool} (h1 : L.all (fun c => isCode c || P c) = true) (h2 : ∀ c ∈ L.filter isCode, P c = true) : L.all P = true := by
  refine List.all_eq_true.mpr fun c hc => ?_
  have h := List.all_eq_true.mp h1 c hc
  rcases Bool.eq_false_or_eq_true (isCode c) with hi | hi
  · exact h2 c (List.mem_filter.mpr ⟨hc, hi⟩)
  · simpa [hi] using h
set_option maxRecDepth 65536 in
theorem w_c0 : (Jvm.Cond.code x code maxLocals ret).before args0 about1 = true := code_word (m := ⟨1, 1⟩) (meth := k1m1) (c := k1c1) (by decide +kernel) rfl rfl rfl (by decide +kernel)
set_option maxRecDepth 65536 in
theorem w_c1 : (Jvm.Cond.code ({ cls := "com/example/kiriman/kiriman/demand/AgeGroupOfPinLaw", name := "agrees", desc := "(I)Z" } : Jvm.MethodName) method_3_code (4 : Nat) (Option.some Jvm.ClassFile.FieldType.boolean)).before args0 about1 = true := code_word (m := ⟨1, 2⟩) (meth := k1m2) (c := k1c2) (by decide +kernel) rfl rfl rfl (by decide +kernel)
set_option maxRecDepth 65536 in
theorem w_c2 : (Jvm.Cond.code ({ cls := "com/example/kiriman/kiriman/demand/PersonAttributes$AgeGroup", name := "of", desc := "(I)Lcom/example/kiriman/kiriman/demand/PersonAttributes$AgeGroup;" } : Jvm.MethodName) prog_13_method_4_code (2 : Nat) (Option.some (Jvm.ClassFile.FieldType.object "com/example/kiriman/kiriman/demand/PersonAttributes$AgeGroup"))).before args0 about1 = true := code_word (m := ⟨6, 0⟩) (meth := k6m0) (c := k6c0) (by decide +kernel) rfl rfl rfl (by decide +kernel)
def codes1 : List Jvm.Cond := [Jvm.Cond.code x code maxLocals ret, Jvm.Cond.code ({ cls := "com/example/kiriman/kiriman/demand/AgeGroupOfPinLaw", name := "agrees", desc := "(I)Z" } : Jvm.MethodName) method_3_code (4 : Nat) (Option.some Jvm.ClassFile.FieldType.boolean), Jvm.Cond.code ({ cls := "com/example/kiriman/kiriman/demand/PersonAttributes$AgeGroup", name := "of", desc := "(I)Lcom/example/kiriman/kiriman/demand/PersonAttributes$AgeGroup;" } : Jvm.MethodName) prog_13_method_4_code (2 : Nat) (Option.some (Jvm.ClassFile.FieldType.object "com/example/kiriman/kiriman/demand/PersonAttributes$AgeGroup"))]
set_option maxRecDepth 65536 in
theorem codes_eq : words1.filter isCode = codes1 := rfl
theorem w_codes : ∀ c ∈ words1.filter isCode, c.before args0 about1 = true := by
  rw [codes_eq]
  intro c hc
  simp only [codes1, List.mem_cons, List.not_mem_nil, or_false] at hc
  rcases hc with rfl | rfl | rfl
  · exact w_c0
  · exact w_c1
  · exact w_c2
set_option maxRecDepth 65536 in
theorem w_t1 : words1.all (fun c => isCode c || c.before args0 about1) = true := by decide +kernel
theorem w_tables : (allAtoms (Jvm.Cond.code x code maxLocals ret :: tables_1)).before args0 about1 = true := by
  rw [allAtoms_all]
  show words1.all (fun c => c.before args0 about1) = true
  refine all_split ?_ w_codes
  rw [w_t1]
set_option maxRecDepth 65536 in
theorem w_case : (Jvm.Cond.and given_1 narrow_1).before args0 about1 = true := by decide +kernel
theorem w_applies : (headSpec (Jvm.Cond.code x code maxLocals ret :: tables_1) room_1).applies x e0.platform about1 = true :=
  (Spec.applies_iff w_frames).mpr ⟨w_running, w_runnable, w_alone, w_named, w_hears, w_ripe, w_room, w_tables⟩
theorem atStart : AtStart classFile x code maxLocals ret World_1 tables_1 room_1 Calls_1 rest_1 Pre_1 launch0 p0 e0 about1 theMethod args0 below0 :=
  ⟨lists_1, trivial, launch0.admits_env _ _ _, launch0.least_env, fairChoices_fair.cas, fairChoices_fair.clock, w_frames, w_args, w_heap, w_applies, trivial, trivial, w_case⟩
end start1
theorem witness_1 : WitnessClaimed_1 := ⟨start1.p0, start1.e0, start1.about1, start1.theMethod, start1.args0, start1.below0, start1.atStart⟩
end Jvm.Pilot.@@N@@
