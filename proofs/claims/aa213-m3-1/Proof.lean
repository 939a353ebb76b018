import JvmDerived
import JvmDerived.Pilot.@@N@@Statement
import JvmDerived.Pilot.@@N@@Code
set_option linter.unusedVariables false
set_option linter.unusedSimpArgs false
namespace Jvm.OwnGo
open Jvm Jvm.ClassFile Sem Op Lib Jvm.Free Jvm.Stand Jvm.LawKit Jvm.RoadKit
section Own
variable {p : Program} {l : Launch} {e : Env} {R : Room} {s : State} {m : MethodId} {args : Array Value} {below : List Frame} {meth : Method} {c : Code} {T T' : State} {locs : List Loc} {cells slots : Nat} {Z : State} {a0 : Array Value} {h : Heap} {g g' : JFrame} {P : Outcome → State → Prop}
/-- the run goes on from T with the frame g on top and comes to an end at which P holds -/
def Go (p : Program) (e : Env) (below : List Frame) (P : Outcome → State → Prop) (T : State) (g : JFrame) : Prop := ∃ t o, Steps p.tables e below (T.setTop g) t ∧ t.status = .running ∧ Ended t below o ∧ P o t
theorem Go.of (g' : JFrame) (st : ∀ t, Steps p.tables e below (T'.setTop g') t → Steps p.tables e below (T.setTop g) t) (k : Go p e below P T' g') : Go p e below P T g := by
  obtain ⟨t, o, h1, h2⟩ := k; exact ⟨t, o, st t h1, h2⟩
theorem Go.via (g' : JFrame) (st : Steps p.tables e below (T.setTop g) (T'.setTop g')) (k : Go p e below P T' g') : Go p e below P T g := by
  obtain ⟨t, o, h1, h2⟩ := k; exact ⟨t, o, st.trans h1, h2⟩
theorem Go.cast (q : g = g') (k : Go p e below P T g') : Go p e below P T g := q ▸ k
abbrev EndP (s : State) (rm : Room) (Q : Option Value → Heap → List Loc → Prop) : Outcome → State → Prop := fun o U' => ∃ v L, o = .returned v ∧ Q v U'.heap L ∧ FrameEnd s o U' L rm.cells rm.slots
def Met (l : Launch) (Z : State) (y : MethodName) (bytes : ByteArray) (maxL : Nat) (ret : Option FieldType) (ws : List Cond) (rm : Room) (as' : Array Value) (h0 : Heap) (Q : Option Value → Heap → List Loc → Prop) : Prop :=
  MetFree l y (head1 (Cond.code y bytes maxL ret :: ws) rm) (fun a U => a = as' ∧ Z.Warmed39 U.vm ∧ U.heap = h0) (fun _ _ _ _ _ => True) (fun _ U o U' => ∃ v L, o = .returned v ∧ Q v U'.heap L ∧ FrameEnd U o U' L rm.cells rm.slots)
variable {y : MethodName} {bytes : ByteArray} {maxL : Nat} {ret : Option FieldType} {ws : List Cond} {rm : Room} {as' : Array Value} {h0 : Heap} {Q : Option Value → Heap → List Loc → Prop}
theorem Met.intro (hpl : plainFor y = true)
    (body : ∀ p e s m below meth c s₁, Stand p l e rm s m as' below meth c s₁ [] 0 0 → p.tables.exec = Jvm.exec → Z.Warmed39 s.vm → s.vm.findClass y.cls = some m.cls → c.code = bytes → c.maxLocals = maxL →
      meth.sig.returnType = ret → meth.locks = false → meth.name = y.name → s₁.heap = h0 → Go p e below (EndP s rm Q) s₁ (entryFrame m as' maxL)) : Met l Z y bytes maxL ret ws rm as' h0 Q := by
  refine MetFree.of_bodySF hpl hisR ?_
  intro p e s m args below meth c s₁ Bd hml0 hP hK
  obtain ⟨rfl, hZ, hh⟩ := hP
  exact body p e s m below meth c s₁ (Stand.of_body Bd) Bd.exec hZ (findClass_of_methodNamed Bd.named) Bd.bytes hml0 Bd.returns Bd.notSynchronized (name_of_methodNamed Bd.named Bd.method).1 (by rw [← hh, Bd.state]; rfl)
theorem Met.mono {Q' : Option Value → Heap → List Loc → Prop} (h : Met l Z y bytes maxL ret ws rm as' h0 Q) (q : ∀ v h L, Q v h L → Q' v h L) : Met l Z y bytes maxL ret ws rm as' h0 Q' := by
  intro p e ha hc hk s m args below hf happ hP hK
  obtain ⟨n, o, h1, h2, h3, v, L, h4, h5, h6⟩ := h p e ha hc hk s m args below hf happ hP hK
  exact ⟨n, o, h1, h2, h3, v, L, h4, q _ _ _ h5, h6⟩
theorem Go.fin (X : Stand p l e R s m args below meth c T locs cells slots) {v : Option Value} (hv : meth.sig.returnType = none → v = none) (hlk : meth.locks = false) (hc : cells ≤ rm.cells) (hs : slots ≤ rm.slots)
    (st : ∀ fs, (∀ (f : JFrame) (acts : List Action), f.method = m → f.locked = none → f.entered = [] → (doReturn e (T.setTop f) acts v).1 = T.setFrames fs) → Steps p.tables e below (T.setTop g) (T.setFrames fs)) (hQ : Q v T.heap locs) : Go p e below (EndP s rm Q) T g := by
  obtain ⟨fs, hr, hrun, hended, hW, hsame⟩ := X.leave (v := v) hv hlk
  exact ⟨_, _, st fs hr, hrun, hended, v, locs, rfl, hQ, ⟨v, rfl⟩, hW, hsame.mono hc hs⟩
/-- a value is returned -/
theorem Go.retW (X : Stand p l e R s m args below meth c T locs cells slots) (hx : p.tables.exec = Jvm.exec) {pc : Nat} {Ls : Array Slot} {w : Value} {t : FieldType} {i : Instr} {rest : List Value} (hret : meth.sig.returnType = some t) (hlk : meth.locks = false) (hn : narrow t w = w)
    (hi : (i = .ireturn ∧ (t = .int ∨ t = .boolean ∨ t = .byte ∨ t = .char ∨ t = .short) ∧ ∃ z, w = .int z) ∨ (i = .lreturn ∧ t = .long ∧ ∃ z, w = .long z) ∨ (i = .dreturn ∧ t = .double ∧ ∃ z, w = .double z) ∨ (i = .freturn ∧ t = .float ∧ ∃ z, w = .float z) ∨ (i = .areturn ∧ t.isReference = true ∧ w.isRef = true))
    (hd : decode c.code pc = .ok (i, 1)) (hc : cells ≤ rm.cells) (hs : slots ≤ rm.slots) (hQ : Q (some w) T.heap locs) : Go p e below (EndP s rm Q) T (mkF m pc Ls (w :: rest)) :=
  Go.fin X (fun q => by rw [hret] at q; cases q) hlk hc hs (fun fs hr => retOut X hx hret hn hi hd hr) hQ
/-- nothing is returned -/
theorem Go.retV (X : Stand p l e R s m args below meth c T locs cells slots) (hx : p.tables.exec = Jvm.exec) {pc : Nat} {Ls : Array Slot} (hret : meth.sig.returnType = none) (hlk : meth.locks = false)
    (hd : decode c.code pc = .ok (.return_, 1)) (hc : cells ≤ rm.cells) (hs : slots ≤ rm.slots) (hQ : Q none T.heap locs) : Go p e below (EndP s rm Q) T (mkF m pc Ls []) :=
  Go.fin X (fun _ => rfl) hlk hc hs (fun fs hr => X.returnOut hx hret hd hr) hQ
theorem ri_int {z : Int32} {t : FieldType} (ht : t = .int ∨ t = .boolean ∨ t = .byte ∨ t = .char ∨ t = .short) : ((.ireturn : Instr) = .ireturn ∧ (t = .int ∨ t = .boolean ∨ t = .byte ∨ t = .char ∨ t = .short) ∧ ∃ z', (Value.int z) = .int z') ∨ ((.ireturn : Instr) = .lreturn ∧ t = .long ∧ ∃ z', (Value.int z) = .long z') ∨ ((.ireturn : Instr) = .dreturn ∧ t = .double ∧ ∃ z', (Value.int z) = .double z') ∨ ((.ireturn : Instr) = .freturn ∧ t = .float ∧ ∃ z', (Value.int z) = .float z') ∨ ((.ireturn : Instr) = .areturn ∧ t.isReference = true ∧ (Value.int z).isRef = true) := Or.inl ⟨rfl, ht, z, rfl⟩
/-- a static call, by the callee's contract -/
theorem Go.callS (X : Stand p l e R s m args below meth c T locs cells slots) (hx : p.tables.exec = Jvm.exec) (hZ : Z.Warmed39 s.vm) {own : String} {index W : Nat} {argsL rest : List Value} (hown : s.vm.findClass own = some m.cls)
    (w1 : (Cond.methodLink own index y).before a0 Z = true) (w2 : (Cond.static y).before a0 Z = true) (w3 : (Cond.initialized y.cls).before a0 Z = true) (w4 : (Cond.code y bytes maxL ret).before a0 Z = true)
    (hy : y.cls ≠ "java/lang/invoke/MethodHandle" ∧ y.cls ≠ "java/lang/invoke/VarHandle") (eT : T.heap = h) (hM : Met l Z y bytes maxL ret [] rm argsL.toArray h Q)
    (hg : g.method = m) (hsize : g.locals.size = c.maxLocals) (hlen : ∀ sig, parseMethodDescriptor y.desc = some sig → argsL.length = sig.parameters.length) (hs : g.stack = argsL.reverse ++ rest)
    (hW : 2 * g.monitorRoom + (rest.map fun v => v.category).sum ≤ W) (hd : decode c.code g.pc = .ok (.invokestatic index, 3)) (hf : rm.frames + 1 ≤ R.frames) (hl : W + (maxL + 11) + rm.locals ≤ R.locals) (hc : cells + rm.cells ≤ R.cells) (hsl : slots + rm.slots ≤ R.slots)
    (k : ∀ T' L v, Stand p l e R s m args below meth c T' (locs ++ L) (cells + rm.cells) (slots + rm.slots) → Q v T'.heap L → Go p e below P T' { g with pc := g.pc + 3, stack := v.toList ++ rest }) : Go p e below P T g := by
  obtain ⟨v, _, ⟨U, L, q1, q2⟩, -, X', ⟨Lc, hQ, l1, l2, l3⟩, st⟩ := Jvm.LawKit.callS X hx (y := y) hown (mvT hZ w1) (mvT hZ w2) (mvT hZ w3) (mvT hZ w4) hy (backOf (W := W) hM hZ w4 w3 hf hl) hg hsize hlen hs hW hd (fun _ _ => ⟨rfl, eT, hc, hsl⟩)
  dsimp only [Pt.U, Pt.locs, Pt.cells, Pt.slots] at X' l1 l2 l3 st hQ
  subst l1 l2 l3
  exact Go.of _ st (k _ _ _ X' hQ)
/-- a constructor, by its contract -/
theorem Go.init (X : Stand p l e R s m args below meth c T locs cells slots) (hx : p.tables.exec = Jvm.exec) (hZ : Z.Warmed39 s.vm) {own : String} {index W : Nat} {a : Addr} {argsL rest : List Value} (hown : s.vm.findClass own = some m.cls) (hy1 : y.name = "<init>")
    (w1 : (Cond.methodLink own index y).before a0 Z = true) (w2 : (Cond.instanceMethod y).before a0 Z = true) (w3 : (Cond.initialized y.cls).before a0 Z = true) (w4 : (Cond.code y bytes maxL none).before a0 Z = true)
    (hy : y.cls ≠ "java/lang/invoke/MethodHandle" ∧ y.cls ≠ "java/lang/invoke/VarHandle") (eT : T.heap = h) (hM : Met l Z y bytes maxL none [] rm (.ref a :: argsL).toArray h Q)
    (hg : g.method = m) (hsize : g.locals.size = c.maxLocals) (hlen : ∀ sig, parseMethodDescriptor y.desc = some sig → argsL.length = sig.parameters.length) (hs : g.stack = argsL.reverse ++ .ref a :: rest)
    (hW : 2 * g.monitorRoom + (rest.map fun v => v.category).sum ≤ W) (hd : decode c.code g.pc = .ok (.invokespecial index, 3)) (hf : rm.frames + 1 ≤ R.frames) (hl : W + (maxL + 11) + rm.locals ≤ R.locals) (hc : cells + rm.cells ≤ R.cells) (hsl : slots + rm.slots ≤ R.slots)
    (k : ∀ T' L v, Stand p l e R s m args below meth c T' (locs ++ L) (cells + rm.cells) (slots + rm.slots) → Q v T'.heap L → Go p e below P T' { g with pc := g.pc + 3, stack := v.toList ++ rest }) : Go p e below P T g := by
  obtain ⟨v, _, ⟨U, L, q1, q2⟩, -, X', ⟨Lc, hQ, l1, l2, l3⟩, st⟩ := X.specialBack hx (y := y) hy1 hown (mvT hZ w1) (mvT hZ w2) (mvT hZ w4) hy (backOf (W := W) hM hZ w4 w3 hf hl) hg hsize (Steps.refl _) hlen hs hW hd (fun _ _ => ⟨rfl, eT, hc, hsl⟩)
  dsimp only [Pt.U, Pt.locs, Pt.cells, Pt.slots] at X' l1 l2 l3 st hQ
  subst l1 l2 l3
  exact Go.via _ st (k _ _ _ X' hQ)
/-- an instance method, by the contract of the method that the receiver's class selects -/
theorem Go.virt (X : Stand p l e R s m args below meth c T locs cells slots) (hx : p.tables.exec = Jvm.exec) (hZ : Z.Warmed39 s.vm) {own C : String} {z : MethodName} {index W : Nat} {a : Addr} {argsL rest : List Value} (hown : s.vm.findClass own = some m.cls)
    (w1 : (Cond.methodLink own index z).before a0 Z = true) (w2 : (Cond.declares z).before a0 Z = true) (nf : NotFace s z) (w5 : (Cond.selects C z y).before a0 Z = true) (w6 : (Cond.instanceMethod y).before a0 Z = true) (w3 : (Cond.initialized y.cls).before a0 Z = true) (w4 : (Cond.code y bytes maxL ret).before a0 Z = true)
    (hy : z.cls ≠ "java/lang/invoke/MethodHandle" ∧ z.cls ≠ "java/lang/invoke/VarHandle") (eT : T.heap = h) (E : Exa Z h a C) (hM : Met l Z y bytes maxL ret [] rm (.ref a :: argsL).toArray h Q)
    (hg : g.method = m) (hsize : g.locals.size = c.maxLocals) (hlen : ∀ sig, parseMethodDescriptor z.desc = some sig → argsL.length = sig.parameters.length) (hs : g.stack = argsL.reverse ++ .ref a :: rest)
    (hW : 2 * g.monitorRoom + (rest.map fun v => v.category).sum ≤ W) (hd : decode c.code g.pc = .ok (.invokevirtual index, 3)) (hf : rm.frames + 1 ≤ R.frames) (hl : W + (maxL + 11) + rm.locals ≤ R.locals) (hc : cells + rm.cells ≤ R.cells) (hsl : slots + rm.slots ≤ R.slots)
    (k : ∀ T' L v, Stand p l e R s m args below meth c T' (locs ++ L) (cells + rm.cells) (slots + rm.slots) → Q v T'.heap L → Go p e below P T' { g with pc := g.pc + 3, stack := v.toList ++ rest }) : Go p e below P T g := by
  obtain ⟨cq, kq, qa, qb, qc⟩ := isOf hZ eT E
  obtain ⟨v, _, ⟨U, L, q1, q2⟩, -, X', ⟨Lc, hQ, l1, l2, l3⟩, st⟩ := X.virtualBack hx (y := z) (z := y) hown (mvT hZ w1) (mvT hZ w2) nf (mvT hZ w5) (mvT hZ w6) hy (backOf (W := W) hM hZ w4 w3 hf hl) qa qc hg hsize (Steps.refl _) hlen hs hW hd (fun _ _ => ⟨rfl, eT, hc, hsl⟩)
  dsimp only [Pt.U, Pt.locs, Pt.cells, Pt.slots] at X' l1 l2 l3 st hQ
  subst l1 l2 l3
  exact Go.via _ st (k _ _ _ X' hQ)
/-- a private method (invokevirtual) -/
theorem Go.priv (X : Stand p l e R s m args below meth c T locs cells slots) (hx : p.tables.exec = Jvm.exec) (hZ : Z.Warmed39 s.vm) {own C : String} {index W : Nat} {a : Addr} {argsL rest : List Value} (hown : s.vm.findClass own = some m.cls)
    (w1 : (Cond.methodLink own index y).before a0 Z = true) (w6 : (Cond.instanceMethod y).before a0 Z = true) (w5 : (Cond.selects y.cls y y).before a0 Z = true) (w7 : (Cond.privateMethod y).before a0 Z = true) (w3 : (Cond.initialized y.cls).before a0 Z = true) (w4 : (Cond.code y bytes maxL ret).before a0 Z = true)
    (hy : y.cls ≠ "java/lang/invoke/MethodHandle" ∧ y.cls ≠ "java/lang/invoke/VarHandle") (eT : T.heap = h) (E : Exa Z h a C) (hM : Met l Z y bytes maxL ret [] rm (.ref a :: argsL).toArray h Q)
    (hg : g.method = m) (hsize : g.locals.size = c.maxLocals) (hlen : ∀ sig, parseMethodDescriptor y.desc = some sig → argsL.length = sig.parameters.length) (hs : g.stack = argsL.reverse ++ .ref a :: rest)
    (hW : 2 * g.monitorRoom + (rest.map fun v => v.category).sum ≤ W) (hd : decode c.code g.pc = .ok (.invokevirtual index, 3)) (hf : rm.frames + 1 ≤ R.frames) (hl : W + (maxL + 11) + rm.locals ≤ R.locals) (hc : cells + rm.cells ≤ R.cells) (hsl : slots + rm.slots ≤ R.slots)
    (k : ∀ T' L v, Stand p l e R s m args below meth c T' (locs ++ L) (cells + rm.cells) (slots + rm.slots) → Q v T'.heap L → Go p e below P T' { g with pc := g.pc + 3, stack := v.toList ++ rest }) : Go p e below P T g := by
  obtain ⟨cq, q, q'⟩ := E.cell
  obtain ⟨v, _, ⟨U, L, q1, q2⟩, -, X', ⟨Lc, hQ, l1, l2, l3⟩, st⟩ := X.privateBack hx (y := y) hown (mvT hZ w1) (mvT hZ w6) (mvT hZ w5) (Cond.privateMethod_at (mvP hZ w7 (args := #[]))) (mvT hZ w4) hy (backOf (W := W) hM hZ w4 w3 hf hl) hg hsize (Steps.refl _) (a := a) (by rw [eT]; exact q) q' hlen hs hW hd (fun _ _ => ⟨rfl, eT, hc, hsl⟩)
  dsimp only [Pt.U, Pt.locs, Pt.cells, Pt.slots] at X' l1 l2 l3 st hQ
  subst l1 l2 l3
  exact Go.via _ st (k _ _ _ X' hQ)
/-! arrays by a function of the place -/
def fnup {α : Type} (y : Int32 → α) (j : Int32) (v : α) : Int32 → α := fun i => if i = j then v else y i
theorem fnup_same {α : Type} (y : Int32 → α) (j : Int32) (v : α) : fnup y j v j = v := if_pos rfl
theorem fnup_ne {α : Type} {y : Int32 → α} {i j : Int32} {v : α} (h : ¬ i = j) : fnup y j v i = y i := if_neg h
def Fa (Z : State) (h : Heap) (a : Addr) (ty : FieldType) (n : Int32) (y : Int32 → Value) : Prop :=
  ∃ c : Cell, Arr Z h a c ty ∧ c.slots.size = n.toNatClampNeg ∧ ¬ n < 0 ∧ ∀ j : Int32, ¬ j < 0 → j < n → c.slots[j.toNatClampNeg]? = some (y j) ∧ fits ty (y j) = true
variable {a b : Addr} {ty : FieldType} {n : Int32} {yv : Int32 → Value} {h' : Heap} {j : Int32} {v : Value} {sl : Nat} {hws : List Addr}
theorem Fa.lt (F : Fa Z h a ty n yv) : a < h.size := by obtain ⟨c, A, -⟩ := F; exact A.lt
theorem Fa.ext (F : Fa Z h a ty n yv) (E : Ext h h') : Fa Z h' a ty n yv := by obtain ⟨c, A, r⟩ := F; exact ⟨c, A.ext E, r⟩
theorem Fa.other (F : Fa Z h b ty n yv) (W : Wr h h' a sl v) (q : b ≠ a) : Fa Z h' b ty n yv := by obtain ⟨c, A, r⟩ := F; exact ⟨c, A.other W q, r⟩
theorem Fa.keep (F : Fa Z h a ty n yv) (K : Keep h h' hws) (q : a ∉ hws) : Fa Z h' a ty n yv := by obtain ⟨c, A, r⟩ := F; exact ⟨c, ⟨K.2.1 a c A.1 q, A.2⟩, r⟩
theorem Fa.new {k : ClassId} (A : Arr Z h a (newA k ty n) ty) (q : ¬ n < 0) : Fa Z h a ty n (fun _ => defaultValue ty) :=
  ⟨_, A, sz_new _ _ _, q, fun i h0 h1 => ⟨get_new (by have := inb_of (c := newA k ty n) (sz_new k ty n) ⟨h0, h1⟩; rwa [sz_new] at this), by cases ty <;> rfl⟩⟩
theorem Fa.set (F : Fa Z h a ty n yv) (W : Wr h h' a j.toNatClampNeg v) (hj : ¬ j < 0) (hv : fits ty v = true) : Fa Z h' a ty n (fnup yv j v) := by
  obtain ⟨c, A, S, M, H⟩ := F
  refine ⟨c.setSlot j.toNatClampNeg v, A.same W, by rw [sz_set]; exact S, M, fun i h0 h1 => ?_⟩
  by_cases e : i = j
  · subst e; rw [fnup_same]; exact ⟨get_hit (inb_of S ⟨h0, h1⟩) rfl, hv⟩
  · rw [fnup_ne e, get_miss hj h0 e]; exact H i h0 h1
theorem Fa.congr {yw : Int32 → Value} (F : Fa Z h a ty n yv) (q : ∀ j, ¬ j < 0 → j < n → yw j = yv j) : Fa Z h a ty n yw := by
  obtain ⟨c, A, S, M, H⟩ := F
  exact ⟨c, A, S, M, fun j h0 h1 => by rw [q j h0 h1]; exact H j h0 h1⟩
theorem Fa.pos (F : Fa Z h a ty n yv) : ¬ n < 0 := by obtain ⟨c, A, S, M, H⟩ := F; exact M
theorem Fa.ofArv {k : ClassId} {vs : List Value} {dv : Value} (F : Arv Z h a k ty n vs dv) : Fa Z h a ty n (fun j => vs.getD j.toNatClampNeg dv) := by
  obtain ⟨c, A, q1, S, M, H, G⟩ := F
  exact ⟨c, A, S, M, fun j h0 h1 => by
    have q : j.toNatClampNeg < c.slots.size := Nat.lt_of_not_le fun z => inb_of S ⟨h0, h1⟩ (Or.inr z)
    exact ⟨H _ q, G _ q⟩⟩
theorem fnup_int (y : Int32 → Int32) (j x : Int32) : fnup (fun i => Value.int (y i)) j (.int x) = fun i => Value.int (fnup y j x i) := by funext i; unfold fnup; split <;> rfl
theorem fnup_long (y : Int32 → Int64) (j : Int32) (x : Int64) : fnup (fun i => Value.long (y i)) j (.long x) = fun i => Value.long (fnup y j x i) := by funext i; unfold fnup; split <;> rfl
theorem fnup_dbl (y : Int32 → UInt64) (j : Int32) (x : UInt64) : fnup (fun i => Value.double (y i)) j (.double x) = fun i => Value.double (fnup y j x i) := by funext i; unfold fnup; split <;> rfl
variable {rest : List Value}
theorem Go.arraylength (X : Stand p l e R s m args below meth c T locs cells slots) (hx : p.tables.exec = Jvm.exec) (hZ : Z.Warmed39 s.vm) (eT : T.heap = h) (F : Fa Z h a ty n yv) (hg : g.method = m) (hs : g.stack = .ref a :: rest) (hd : decode c.code g.pc = .ok (.arraylength, 1))
    (k : Go p e below P T { g with pc := g.pc + 1, stack := .int n :: rest }) : Go p e below P T g := by
  obtain ⟨cl, A, S, M, H⟩ := F
  refine Go.of _ (fun t k => X.arraylength hx (by rw [eT]; exact A.1) (State.isArrayOf_alike hZ.alike A.2.1) hg hs hd _ k) ?_
  rw [len_of S M]; exact k
theorem Go.iaload (X : Stand p l e R s m args below meth c T locs cells slots) (hx : p.tables.exec = Jvm.exec) (hZ : Z.Warmed39 s.vm) (eT : T.heap = h) {y : Int32 → Int32} (F : Fa Z h a .int n (fun i => .int (y i))) (h0 : ¬ j < 0) (h1 : j < n) (hg : g.method = m) (hs : g.stack = .int j :: .ref a :: rest) (hd : decode c.code g.pc = .ok (.iaload, 1))
    (k : Go p e below P T { g with pc := g.pc + 1, stack := .int (y j) :: rest }) : Go p e below P T g := by
  obtain ⟨cl, A, S, M, H⟩ := F
  exact Go.of _ (fun t k => X.iaload hx (by rw [eT]; exact A.1) (State.isArrayOf_alike hZ.alike A.2.1) A.2.2 (inb_of S ⟨h0, h1⟩) (H j h0 h1).1 hg hs hd _ k) k
theorem Go.caload (X : Stand p l e R s m args below meth c T locs cells slots) (hx : p.tables.exec = Jvm.exec) (hZ : Z.Warmed39 s.vm) (eT : T.heap = h) {y : Int32 → Int32} (F : Fa Z h a .char n (fun i => .int (y i))) (h0 : ¬ j < 0) (h1 : j < n) (hg : g.method = m) (hs : g.stack = .int j :: .ref a :: rest) (hd : decode c.code g.pc = .ok (.caload, 1))
    (k : Go p e below P T { g with pc := g.pc + 1, stack := .int (y j) :: rest }) : Go p e below P T g := by
  obtain ⟨cl, A, S, M, H⟩ := F
  exact Go.of _ (fun t k => X.caload hx (by rw [eT]; exact A.1) (State.isArrayOf_alike hZ.alike A.2.1) A.2.2 (inb_of S ⟨h0, h1⟩) (H j h0 h1).1 hg hs hd _ k) k
theorem Go.saload (X : Stand p l e R s m args below meth c T locs cells slots) (hx : p.tables.exec = Jvm.exec) (hZ : Z.Warmed39 s.vm) (eT : T.heap = h) {y : Int32 → Int32} (F : Fa Z h a .short n (fun i => .int (y i))) (h0 : ¬ j < 0) (h1 : j < n) (hg : g.method = m) (hs : g.stack = .int j :: .ref a :: rest) (hd : decode c.code g.pc = .ok (.saload, 1))
    (k : Go p e below P T { g with pc := g.pc + 1, stack := .int (y j) :: rest }) : Go p e below P T g := by
  obtain ⟨cl, A, S, M, H⟩ := F
  exact Go.of _ (fun t k => X.saload hx (by rw [eT]; exact A.1) (State.isArrayOf_alike hZ.alike A.2.1) A.2.2 (inb_of S ⟨h0, h1⟩) (H j h0 h1).1 hg hs hd _ k) k
theorem Go.baload (X : Stand p l e R s m args below meth c T locs cells slots) (hx : p.tables.exec = Jvm.exec) (hZ : Z.Warmed39 s.vm) (eT : T.heap = h) {y : Int32 → Int32} (F : Fa Z h a .byte n (fun i => .int (y i))) (h0 : ¬ j < 0) (h1 : j < n) (hg : g.method = m) (hs : g.stack = .int j :: .ref a :: rest) (hd : decode c.code g.pc = .ok (.baload, 1))
    (k : Go p e below P T { g with pc := g.pc + 1, stack := .int (y j) :: rest }) : Go p e below P T g := by
  obtain ⟨cl, A, S, M, H⟩ := F
  exact Go.of _ (fun t k => X.baloadBytes hx (by rw [eT]; exact A.1) (State.isArrayOf_alike hZ.alike A.2.1) A.2.2 (inb_of S ⟨h0, h1⟩) (H j h0 h1).1 hg hs hd _ k) k
theorem Go.zaload (X : Stand p l e R s m args below meth c T locs cells slots) (hx : p.tables.exec = Jvm.exec) (hZ : Z.Warmed39 s.vm) (eT : T.heap = h) {y : Int32 → Int32} (F : Fa Z h a .boolean n (fun i => .int (y i))) (h0 : ¬ j < 0) (h1 : j < n) (hg : g.method = m) (hs : g.stack = .int j :: .ref a :: rest) (hd : decode c.code g.pc = .ok (.baload, 1))
    (k : Go p e below P T { g with pc := g.pc + 1, stack := .int (y j) :: rest }) : Go p e below P T g := by
  obtain ⟨cl, A, S, M, H⟩ := F
  exact Go.of _ (fun t k => X.baloadBooleans hx (by rw [eT]; exact A.1) (State.isArrayOf_alike hZ.alike A.2.1) A.2.2 (inb_of S ⟨h0, h1⟩) (H j h0 h1).1 hg hs hd _ k) k
theorem Go.laload (X : Stand p l e R s m args below meth c T locs cells slots) (hx : p.tables.exec = Jvm.exec) (hZ : Z.Warmed39 s.vm) (eT : T.heap = h) {y : Int32 → Int64} (F : Fa Z h a .long n (fun i => .long (y i))) (h0 : ¬ j < 0) (h1 : j < n) (hg : g.method = m) (hs : g.stack = .int j :: .ref a :: rest) (hd : decode c.code g.pc = .ok (.laload, 1))
    (k : Go p e below P T { g with pc := g.pc + 1, stack := .long (y j) :: rest }) : Go p e below P T g := by
  obtain ⟨cl, A, S, M, H⟩ := F
  exact Go.of _ (fun t k => X.laload hx (by rw [eT]; exact A.1) (State.isArrayOf_alike hZ.alike A.2.1) A.2.2 (inb_of S ⟨h0, h1⟩) (H j h0 h1).1 hg hs hd _ k) k
theorem Go.aaload (X : Stand p l e R s m args below meth c T locs cells slots) (hx : p.tables.exec = Jvm.exec) (hZ : Z.Warmed39 s.vm) (eT : T.heap = h) (F : Fa Z h a ty n yv) (hty : ty.isReference = true) (h0 : ¬ j < 0) (h1 : j < n) (hg : g.method = m) (hs : g.stack = .int j :: .ref a :: rest) (hd : decode c.code g.pc = .ok (.aaload, 1))
    (k : Go p e below P T { g with pc := g.pc + 1, stack := yv j :: rest }) : Go p e below P T g := by
  obtain ⟨cl, A, S, M, H⟩ := F
  exact Go.of _ (fun t k => X.aaload hx (by rw [eT]; exact A.1) (State.isArrayOf_alike hZ.alike A.2.1) hty A.2.2 (inb_of S ⟨h0, h1⟩) (H j h0 h1).1 hg hs hd _ k) k
theorem Go.iastore (X : Stand p l e R s m args below meth c T locs cells slots) (hx : p.tables.exec = Jvm.exec) (hZ : Z.Warmed39 s.vm) (eT : T.heap = h) {y : Int32 → Int32} {x : Int32} (F : Fa Z h a .int n (fun i => .int (y i))) (h0 : ¬ j < 0) (h1 : j < n) (hg : g.method = m) (hs : g.stack = .int x :: .int j :: .ref a :: rest) (hd : decode c.code g.pc = .ok (.iastore, 1))
    (k : ∀ T' h', Stand p l e R s m args below meth c T' (locs ++ [⟨a, j.toNatClampNeg⟩]) cells slots → T'.heap = h' → Wr h h' a j.toNatClampNeg (.int x) → Fa Z h' a .int n (fun i => .int (fnup y j x i)) → Go p e below P T' { g with pc := g.pc + 1, stack := rest }) : Go p e below P T g := by
  obtain ⟨cl, A, S, M, H⟩ := id F
  obtain ⟨T', h', X', e', W, st⟩ := stI X hx hZ eT A (inb_of S ⟨h0, h1⟩) hg hs hd
  exact Go.of _ st (k _ _ X' e' W (by have := F.set W h0 rfl; rwa [fnup_int] at this))
theorem Go.castore (X : Stand p l e R s m args below meth c T locs cells slots) (hx : p.tables.exec = Jvm.exec) (hZ : Z.Warmed39 s.vm) (eT : T.heap = h) {y : Int32 → Int32} {x : Int32} (F : Fa Z h a .char n (fun i => .int (y i))) (h0 : ¬ j < 0) (h1 : j < n) (hg : g.method = m) (hs : g.stack = .int x :: .int j :: .ref a :: rest) (hd : decode c.code g.pc = .ok (.castore, 1))
    (k : ∀ T' h', Stand p l e R s m args below meth c T' (locs ++ [⟨a, j.toNatClampNeg⟩]) cells slots → T'.heap = h' → Wr h h' a j.toNatClampNeg (.int (nar .char x)) → Fa Z h' a .char n (fun i => .int (fnup y j (nar .char x) i)) → Go p e below P T' { g with pc := g.pc + 1, stack := rest }) : Go p e below P T g := by
  obtain ⟨cl, A, S, M, H⟩ := id F
  obtain ⟨T', h', X', e', W, st⟩ := stC X hx hZ eT A (inb_of S ⟨h0, h1⟩) hg hs hd
  exact Go.of _ st (k _ _ X' e' W (by have := F.set W h0 (fits_nar_char _); rwa [fnup_int] at this))
theorem Go.bastore (X : Stand p l e R s m args below meth c T locs cells slots) (hx : p.tables.exec = Jvm.exec) (hZ : Z.Warmed39 s.vm) (eT : T.heap = h) {y : Int32 → Int32} {x : Int32} (F : Fa Z h a .byte n (fun i => .int (y i))) (h0 : ¬ j < 0) (h1 : j < n) (hg : g.method = m) (hs : g.stack = .int x :: .int j :: .ref a :: rest) (hd : decode c.code g.pc = .ok (.bastore, 1))
    (k : ∀ T' h', Stand p l e R s m args below meth c T' (locs ++ [⟨a, j.toNatClampNeg⟩]) cells slots → T'.heap = h' → Wr h h' a j.toNatClampNeg (.int (nar .byte x)) → Fa Z h' a .byte n (fun i => .int (fnup y j (nar .byte x) i)) → Go p e below P T' { g with pc := g.pc + 1, stack := rest }) : Go p e below P T g := by
  obtain ⟨cl, A, S, M, H⟩ := id F
  obtain ⟨T', h', X', e', W, st⟩ := stB X hx hZ eT A (inb_of S ⟨h0, h1⟩) hg hs hd
  exact Go.of _ st (k _ _ X' e' W (by have := F.set W h0 (fits_nar_byte _); rwa [fnup_int] at this))
theorem Go.zastore (X : Stand p l e R s m args below meth c T locs cells slots) (hx : p.tables.exec = Jvm.exec) (hZ : Z.Warmed39 s.vm) (eT : T.heap = h) {y : Int32 → Int32} {x : Int32} (F : Fa Z h a .boolean n (fun i => .int (y i))) (h0 : ¬ j < 0) (h1 : j < n) (hg : g.method = m) (hs : g.stack = .int x :: .int j :: .ref a :: rest) (hd : decode c.code g.pc = .ok (.bastore, 1))
    (k : ∀ T' h', Stand p l e R s m args below meth c T' (locs ++ [⟨a, j.toNatClampNeg⟩]) cells slots → T'.heap = h' → Wr h h' a j.toNatClampNeg (.int (nar .boolean x)) → Fa Z h' a .boolean n (fun i => .int (fnup y j (nar .boolean x) i)) → Go p e below P T' { g with pc := g.pc + 1, stack := rest }) : Go p e below P T g := by
  obtain ⟨cl, A, S, M, H⟩ := id F
  obtain ⟨T', h', X', e', W, st⟩ := stZ X hx hZ eT A (inb_of S ⟨h0, h1⟩) hg hs hd
  exact Go.of _ st (k _ _ X' e' W (by have := F.set W h0 (fits_nar_bool _); rwa [fnup_int] at this))
theorem Go.lastore (X : Stand p l e R s m args below meth c T locs cells slots) (hx : p.tables.exec = Jvm.exec) (hZ : Z.Warmed39 s.vm) (eT : T.heap = h) {y : Int32 → Int64} {x : Int64} (F : Fa Z h a .long n (fun i => .long (y i))) (h0 : ¬ j < 0) (h1 : j < n) (hg : g.method = m) (hs : g.stack = .long x :: .int j :: .ref a :: rest) (hd : decode c.code g.pc = .ok (.lastore, 1))
    (k : ∀ T' h', Stand p l e R s m args below meth c T' (locs ++ [⟨a, j.toNatClampNeg⟩]) cells slots → T'.heap = h' → Wr h h' a j.toNatClampNeg (.long x) → Fa Z h' a .long n (fun i => .long (fnup y j x i)) → Go p e below P T' { g with pc := g.pc + 1, stack := rest }) : Go p e below P T g := by
  obtain ⟨cl, A, S, M, H⟩ := id F
  obtain ⟨T', h', X', e', W, st⟩ := stJ X hx hZ eT A (inb_of S ⟨h0, h1⟩) hg hs hd
  exact Go.of _ st (k _ _ X' e' W (by have := F.set W h0 rfl; rwa [fnup_long] at this))
theorem Go.aastore (X : Stand p l e R s m args below meth c T locs cells slots) (hx : p.tables.exec = Jvm.exec) (hZ : Z.Warmed39 s.vm) (eT : T.heap = h) (F : Fa Z h a ty n yv) (hty : ty.isReference = true) (hf : fits ty v = true) (O : Sto Z h a v) (h0 : ¬ j < 0) (h1 : j < n) (hg : g.method = m) (hs : g.stack = v :: .int j :: .ref a :: rest) (hd : decode c.code g.pc = .ok (.aastore, 1))
    (k : ∀ T' h', Stand p l e R s m args below meth c T' (locs ++ [⟨a, j.toNatClampNeg⟩]) cells slots → T'.heap = h' → Wr h h' a j.toNatClampNeg v → Fa Z h' a ty n (fnup yv j v) → Go p e below P T' { g with pc := g.pc + 1, stack := rest }) : Go p e below P T g := by
  obtain ⟨cl, A, S, M, H⟩ := id F
  obtain ⟨T', h', X', e', W, st⟩ := stR X hx hZ eT A (inb_of S ⟨h0, h1⟩) hty O hg hs hd
  exact Go.of _ st (k _ _ X' e' W (F.set W h0 hf))
/-- the array's class is that of the arrays over C -/
def Uty (Z : State) (h : Heap) (a : Addr) (C : String) : Prop := ∃ c : Cell, h[a]? = some c ∧ Ovr Z c.cls C
theorem Uty.ext {C : String} (F : Uty Z h a C) (E : Ext h h') : Uty Z h' a C := by obtain ⟨c, A, r⟩ := F; exact ⟨c, E.2 _ _ A, r⟩
theorem Uty.wr {C : String} (F : Uty Z h b C) (W : Wr h h' a sl v) : Uty Z h' b C := by
  obtain ⟨c, A, r⟩ := F
  obtain ⟨c', e1, e2, -⟩ := wr_at W A
  exact ⟨c', e1, by rw [e2]; exact r⟩
theorem Uty.keep {C : String} (F : Uty Z h a C) (K : Keep h h' hws) : Uty Z h' a C := by
  obtain ⟨c, A, r⟩ := F
  obtain ⟨c', e1, e2, -⟩ := K.2.2 _ _ A
  exact ⟨c', e1, by rw [e2]; exact r⟩
theorem Fa.sto {C : String} (F : Fa Z h a ty n yv) (U : Uty Z h a C) (I : Ins Z h b C true) : Sto Z h a (.ref b) := by
  obtain ⟨c, A, -⟩ := F
  obtain ⟨c', A', O⟩ := U
  cases A.1.symm.trans A'
  exact Sto.of A O I
theorem nat_back {i : Nat} (hi : i < 2 ^ 31) : i.toInt32.toNatClampNeg = i ∧ ¬ i.toInt32 < 0 := by
  have e : i.toInt32.toInt = i := len_toInt hi
  refine ⟨?_, ?_⟩
  · show i.toInt32.toInt.toNat = i
    rw [e]; rfl
  · rw [Int32.lt_iff_toInt_lt, e]
    have z : (0 : Int32).toInt = 0 := by decide
    omega
theorem lt_of_nat {i : Nat} {z : Int32} (hz : ¬ z < 0) (hi : i < z.toNatClampNeg) : i.toInt32 < z ∧ i < 2 ^ 31 := by
  have q := nat_of hz
  have b := rng32 z
  have hb : i < 2 ^ 31 := by omega
  refine ⟨?_, hb⟩
  rw [Int32.lt_iff_toInt_lt, len_toInt hb]
  omega
theorem Fa.fitC {cl : Cell} (A : Arr Z h a cl ty) (S : cl.slots.size = n.toNatClampNeg) (M : ¬ n < 0) (H : ∀ j : Int32, ¬ j < 0 → j < n → cl.slots[j.toNatClampNeg]? = some (yv j) ∧ fits ty (yv j) = true) : FitC Z cl :=
  fitC_of A fun i hi w hw => by
    have q := lt_of_nat M (S ▸ hi)
    have r := nat_back q.2
    have u := H i.toInt32 r.2 q.1
    rw [r.1] at u
    cases hw.symm.trans u.1
    exact u.2
theorem Go.clone (X : Stand p l e R s m args below meth c T locs cells slots) (hx : p.tables.exec = Jvm.exec) (hZ : Z.Warmed39 s.vm) {own ad : String} {index : Nat} (hown : s.vm.findClass own = some m.cls)
    (w1 : (Cond.methodLink own index ⟨ad, "clone", "()Ljava/lang/Object;"⟩).before a0 Z = true) (w2 : (Cond.sameMethod ad "java/lang/Object" "clone" "()Ljava/lang/Object;").before a0 Z = true) (w3 : (Cond.native ⟨"java/lang/Object", "clone", "()Ljava/lang/Object;"⟩).before a0 Z = true)
    (w4 : (Cond.instanceMethod ⟨"java/lang/Object", "clone", "()Ljava/lang/Object;"⟩).before a0 Z = true) (w5 : (Cond.selects ad ⟨ad, "clone", "()Ljava/lang/Object;"⟩ ⟨"java/lang/Object", "clone", "()Ljava/lang/Object;"⟩).before a0 Z = true) (w6 : (Cond.castable ad "java/lang/Cloneable").before a0 Z = true)
    (eT : T.heap = h) (F : Fa Z h a ty n yv) (E : Exa Z h a ad) (hg : g.method = m) (hsize : g.locals.size = c.maxLocals) (hs : g.stack = .ref a :: rest) (hd : decode c.code g.pc = .ok (.invokevirtual index, 3))
    (hf : 1 ≤ R.frames) {W cap : Nat} (hW : 2 * g.monitorRoom + (rest.map fun v => v.category).sum ≤ W) (hl : W + 14 ≤ R.locals) (hcap : n.toNatClampNeg ≤ cap) (hc : cells + 1 ≤ R.cells) (hsl : slots + cap ≤ R.slots)
    (k : ∀ T' h' b, b = h.size → Stand p l e R s m args below meth c T' locs (cells + 1) (slots + cap) → T'.heap = h' → Ext h h' → Fa Z h' b ty n yv → Exa Z h' b ad → Go p e below P T' { g with pc := g.pc + 3, stack := .ref b :: rest }) : Go p e below P T g := by
  obtain ⟨cl, A, S, M, H⟩ := id F
  obtain ⟨T', h', X', e', ex, A', E', st⟩ := cloneA X hx hZ hown w1 w2 w3 w4 w5 w6 eT A E (Fa.fitC A S M H) hg hsize hs hd hf hW hl (by rw [S]; exact hcap) hc hsl
  exact Go.of _ st (k _ _ _ rfl X' e' ex ⟨cloneOf cl, A', S, M, H⟩ E')
theorem exa_ns {C : String} (E : Exa Z h a C) : ∀ c : Cell, h[a]? = some c → c.vm.isStatics = false := fun c hc => by
  obtain ⟨c', k, h1, -, -, h4, -⟩ := E
  cases h1.symm.trans hc; exact h4
theorem Sta.keep {C nn d : String} (F : Sta Z h C nn d v) (K : Keep h h' hws) (q : ∀ x ∈ hws, ∀ c : Cell, h[x]? = some c → c.vm.isStatics = false) : Sta Z h' C nn d v := by
  obtain ⟨cf, i, k, f, st, cell, h1, h2, h3, h4, h5, h6, h7⟩ := F
  refine ⟨cf, i, k, f, st, cell, h1, h2, h3, h4, K.2.1 _ _ h5 fun z => ?_, h6, h7⟩
  rw [q _ z _ h5] at h6; cases h6
/-- an inherited instance method (the entry names it through the subclass) -/
theorem Go.virtUp (X : Stand p l e R s m args below meth c T locs cells slots) (hx : p.tables.exec = Jvm.exec) (hZ : Z.Warmed39 s.vm) {own C owner : String} {z : MethodName} {index W : Nat} {argsL : List Value} (hown : s.vm.findClass own = some m.cls)
    (w1 : (Cond.methodLink own index z).before a0 Z = true) (w2 : (Cond.sameMethod z.cls owner z.name z.desc).before a0 Z = true) (w8 : (Cond.declares ⟨owner, z.name, z.desc⟩).before a0 Z = true) (hy : owner ≠ "java/lang/invoke/MethodHandle" ∧ owner ≠ "java/lang/invoke/VarHandle") (w5 : (Cond.selects C z y).before a0 Z = true) (w6 : (Cond.instanceMethod y).before a0 Z = true) (w3 : (Cond.initialized y.cls).before a0 Z = true) (w4 : (Cond.code y bytes maxL ret).before a0 Z = true)
    (eT : T.heap = h) (E : Exa Z h a C) (hM : Met l Z y bytes maxL ret [] rm (.ref a :: argsL).toArray h Q)
    (hg : g.method = m) (hsize : g.locals.size = c.maxLocals) (hlen : ∀ sig, parseMethodDescriptor z.desc = some sig → argsL.length = sig.parameters.length) (hs : g.stack = argsL.reverse ++ .ref a :: rest)
    (hW : 2 * g.monitorRoom + (rest.map fun v => v.category).sum ≤ W) (hd : decode c.code g.pc = .ok (.invokevirtual index, 3)) (hf : rm.frames + 1 ≤ R.frames) (hl : W + (maxL + 11) + rm.locals ≤ R.locals) (hc : cells + rm.cells ≤ R.cells) (hsl : slots + rm.slots ≤ R.slots)
    (k : ∀ T' L v, Stand p l e R s m args below meth c T' (locs ++ L) (cells + rm.cells) (slots + rm.slots) → Q v T'.heap L → Go p e below P T' { g with pc := g.pc + 3, stack := v.toList ++ rest }) : Go p e below P T g := by
  obtain ⟨cq, kq, qa, qb, qc⟩ := isOf hZ eT E
  obtain ⟨v, _, ⟨U, L, q1, q2⟩, -, X', ⟨Lc, hQ, l1, l2, l3⟩, st⟩ := X.virtualBackUp hx (x := z) (y := y) hown (mvT hZ w1) (mvT hZ w2) (mvT hZ w8) hy (mvT hZ w5) (mvT hZ w6) (backOf (W := W) hM hZ w4 w3 hf hl) qa qc hg hsize (Steps.refl _) hlen hs hW hd (fun _ _ => ⟨rfl, eT, hc, hsl⟩)
  dsimp only [Pt.U, Pt.locs, Pt.cells, Pt.slots] at X' l1 l2 l3 st hQ
  subst l1 l2 l3
  exact Go.via _ st (k _ _ _ X' hQ)
/-- the two sides of a call as the pasted laws of String have them -/
abbrev BPre (R : Room) (as' : Array Value) (h : Heap) (kc ks : Nat) : Pt → Array Value → Prop := fun P a => a = as' ∧ P.U.heap = h ∧ P.cells + kc ≤ R.cells ∧ P.slots + ks ≤ R.slots
abbrev BPost (Q : Option Value → Heap → List Loc → Prop) (kc ks : Nat) : Pt → Array Value → Option Value → Pt → Prop := fun P _ v B => ∃ L, Q v B.U.heap L ∧ B.locs = P.locs ++ L ∧ B.cells = P.cells + kc ∧ B.slots = P.slots + ks
theorem Go.initB (X : Stand p l e R s m args below meth c T locs cells slots) (hx : p.tables.exec = Jvm.exec) (hZ : Z.Warmed39 s.vm) {own : String} {index W kc ks : Nat} {argsL : List Value} (hown : s.vm.findClass own = some m.cls) (hy1 : y.name = "<init>")
    (w1 : (Cond.methodLink own index y).before a0 Z = true) (w2 : (Cond.instanceMethod y).before a0 Z = true) (w4 : (Cond.code y bytes maxL none).before a0 Z = true)
    (hy : y.cls ≠ "java/lang/invoke/MethodHandle" ∧ y.cls ≠ "java/lang/invoke/VarHandle") (eT : T.heap = h) (hK : Back l R p e below s args y 3 W (BPre R (.ref a :: argsL).toArray h kc ks) (BPost Q kc ks))
    (hg : g.method = m) (hsize : g.locals.size = c.maxLocals) (hlen : ∀ sig, parseMethodDescriptor y.desc = some sig → argsL.length = sig.parameters.length) (hs : g.stack = argsL.reverse ++ .ref a :: rest)
    (hW : 2 * g.monitorRoom + (rest.map fun v => v.category).sum ≤ W) (hd : decode c.code g.pc = .ok (.invokespecial index, 3)) (hc : cells + kc ≤ R.cells) (hsl : slots + ks ≤ R.slots)
    (k : ∀ T' L v, Stand p l e R s m args below meth c T' (locs ++ L) (cells + kc) (slots + ks) → Q v T'.heap L → Go p e below P T' { g with pc := g.pc + 3, stack := v.toList ++ rest }) : Go p e below P T g := by
  obtain ⟨v, _, ⟨U, L, q1, q2⟩, -, X', ⟨Lc, hQ, l1, l2, l3⟩, st⟩ := X.specialBack hx (y := y) hy1 hown (mvT hZ w1) (mvT hZ w2) (mvT hZ w4) hy hK hg hsize (Steps.refl _) hlen hs hW hd (fun _ _ => ⟨rfl, eT, hc, hsl⟩)
  dsimp only [Pt.U, Pt.locs, Pt.cells, Pt.slots] at X' l1 l2 l3 st hQ
  subst l1 l2 l3
  exact Go.via _ st (k _ _ _ X' hQ)
theorem Go.virtB (X : Stand p l e R s m args below meth c T locs cells slots) (hx : p.tables.exec = Jvm.exec) (hZ : Z.Warmed39 s.vm) {own C : String} {z : MethodName} {index W kc ks : Nat} {argsL : List Value} (hown : s.vm.findClass own = some m.cls)
    (w1 : (Cond.methodLink own index z).before a0 Z = true) (w2 : (Cond.declares z).before a0 Z = true) (nf : NotFace s z) (w5 : (Cond.selects C z y).before a0 Z = true) (w6 : (Cond.instanceMethod y).before a0 Z = true)
    (hy : z.cls ≠ "java/lang/invoke/MethodHandle" ∧ z.cls ≠ "java/lang/invoke/VarHandle") (eT : T.heap = h) (E : Exa Z h a C) (hK : Back l R p e below s args y 3 W (BPre R (.ref a :: argsL).toArray h kc ks) (BPost Q kc ks))
    (hg : g.method = m) (hsize : g.locals.size = c.maxLocals) (hlen : ∀ sig, parseMethodDescriptor z.desc = some sig → argsL.length = sig.parameters.length) (hs : g.stack = argsL.reverse ++ .ref a :: rest)
    (hW : 2 * g.monitorRoom + (rest.map fun v => v.category).sum ≤ W) (hd : decode c.code g.pc = .ok (.invokevirtual index, 3)) (hc : cells + kc ≤ R.cells) (hsl : slots + ks ≤ R.slots)
    (k : ∀ T' L v, Stand p l e R s m args below meth c T' (locs ++ L) (cells + kc) (slots + ks) → Q v T'.heap L → Go p e below P T' { g with pc := g.pc + 3, stack := v.toList ++ rest }) : Go p e below P T g := by
  obtain ⟨cq, kq, qa, qb, qc⟩ := isOf hZ eT E
  obtain ⟨v, _, ⟨U, L, q1, q2⟩, -, X', ⟨Lc, hQ, l1, l2, l3⟩, st⟩ := X.virtualBack hx (y := z) (z := y) hown (mvT hZ w1) (mvT hZ w2) nf (mvT hZ w5) (mvT hZ w6) hy hK qa qc hg hsize (Steps.refl _) hlen hs hW hd (fun _ _ => ⟨rfl, eT, hc, hsl⟩)
  dsimp only [Pt.U, Pt.locs, Pt.cells, Pt.slots] at X' l1 l2 l3 st hQ
  subst l1 l2 l3
  exact Go.via _ st (k _ _ _ X' hQ)
theorem Fa.toArv {vs : List Value} {dv : Value} (F : Fa Z h a ty n yv) (q : ∀ i : Nat, i < n.toNatClampNeg → vs.getD i dv = yv i.toInt32) : ∃ k, Arv Z h a k ty n vs dv := by
  obtain ⟨cl, A, S, M, H⟩ := F
  refine ⟨cl.cls, cl, A, rfl, S, M, fun i hi => ?_, fun i hi => ?_⟩
  · rw [S] at hi
    have b := lt_of_nat M hi
    have r := nat_back b.2
    have u := (H _ r.2 b.1).1
    rw [r.1] at u; rw [q i hi]; exact u
  · rw [S] at hi
    have b := lt_of_nat M hi
    have r := nat_back b.2
    rw [q i hi]; exact (H _ r.2 b.1).2
end Own
end Jvm.OwnGo
namespace Jvm.Pilot.@@N@@
open Jvm Jvm.ClassFile Sem Op Lib Jvm.Free Jvm.Stand Jvm.LawKit Jvm.RoadKit Bundle Jvm.OwnGo Jvm.Pilot.@@N@@.Jvm.D

theorem own_m3 (x : Int32) : ¬ (x &&& 3) < 0 ∧ (x &&& 3) < 4 := by
  have e : (x &&& 3).toInt = x.toInt % (2 ^ 2 : Nat) := c_mask x 3 2 (by decide) (by decide)
  have z : (0 : Int32).toInt = 0 := by decide
  have f : (4 : Int32).toInt = 4 := by decide
  constructor
  · rw [Int32.lt_iff_toInt_lt, e, z]; omega
  · rw [Int32.lt_iff_toInt_lt, e, f]; omega
def own_exp (y : Int32 → Int32) (f s i : Int32) : Int32 := if i = f then y s else if i = s then y f else y i
theorem own_e1 {y : Int32 → Int32} {f s i : Int32} (h : i = f) : own_exp y f s i = y s := if_pos h
theorem own_e2 {y : Int32 → Int32} {f s i : Int32} (h : ¬ i = f) (h2 : i = s) : own_exp y f s i = y f := (if_neg h).trans (if_pos h2)
theorem own_e3 {y : Int32 → Int32} {f s i : Int32} (h : ¬ i = f) (h2 : ¬ i = s) : own_exp y f s i = y i := (if_neg h).trans (if_neg h2)
theorem own_eq (y : Int32 → Int32) (f s i : Int32) : fnup (fnup y f (y s)) s (y f) i = own_exp y f s i := by
  unfold fnup own_exp
  by_cases h1 : i = s
  · by_cases h2 : i = f
    · subst h1; subst h2; simp
    · simp [h1]
      intro e; rw [e]
  · simp [h1]
theorem tw0 {Z : State} {a0 : Array Value} (hw : ∀ d ∈ tables_1, d.before a0 Z = true) : (Jvm.Cond.arrayClass Jvm.ClassFile.FieldType.int).before a0 Z = true := hw _ (List.mem_of_getElem? (i := 0) rfl)
theorem tw1 {Z : State} {a0 : Array Value} (hw : ∀ d ∈ tables_1, d.before a0 Z = true) : (Jvm.Cond.methodLink "com/example/quench/quench/LocalSearchSwappedPinLaw" (7 : Nat) ({ cls := "com/example/quench/quench/LocalSearch", name := "swapped", desc := "([III)[I" } : Jvm.MethodName)).before a0 Z = true := hw _ (List.mem_of_getElem? (i := 1) rfl)
theorem tw2 {Z : State} {a0 : Array Value} (hw : ∀ d ∈ tables_1, d.before a0 Z = true) : (Jvm.Cond.static ({ cls := "com/example/quench/quench/LocalSearch", name := "swapped", desc := "([III)[I" } : Jvm.MethodName)).before a0 Z = true := hw _ (List.mem_of_getElem? (i := 2) rfl)
theorem tw3 {Z : State} {a0 : Array Value} (hw : ∀ d ∈ tables_1, d.before a0 Z = true) : (Jvm.Cond.initialized "com/example/quench/quench/LocalSearch").before a0 Z = true := hw _ (List.mem_of_getElem? (i := 3) rfl)
theorem tw4 {Z : State} {a0 : Array Value} (hw : ∀ d ∈ tables_1, d.before a0 Z = true) : (Jvm.Cond.code ({ cls := "com/example/quench/quench/LocalSearch", name := "swapped", desc := "([III)[I" } : Jvm.MethodName) prog_32_method_7_code (4 : Nat) (Option.some (Jvm.ClassFile.FieldType.array Jvm.ClassFile.FieldType.int))).before a0 Z = true := hw _ (List.mem_of_getElem? (i := 4) rfl)
theorem tw5 {Z : State} {a0 : Array Value} (hw : ∀ d ∈ tables_1, d.before a0 Z = true) : (Jvm.Cond.methodLink "com/example/quench/quench/LocalSearch" (149 : Nat) ({ cls := "[I", name := "clone", desc := "()Ljava/lang/Object;" } : Jvm.MethodName)).before a0 Z = true := hw _ (List.mem_of_getElem? (i := 5) rfl)
theorem tw6 {Z : State} {a0 : Array Value} (hw : ∀ d ∈ tables_1, d.before a0 Z = true) : (Jvm.Cond.sameMethod "[I" "java/lang/Object" "clone" "()Ljava/lang/Object;").before a0 Z = true := hw _ (List.mem_of_getElem? (i := 6) rfl)
theorem tw8 {Z : State} {a0 : Array Value} (hw : ∀ d ∈ tables_1, d.before a0 Z = true) : (Jvm.Cond.instanceMethod ({ cls := "java/lang/Object", name := "clone", desc := "()Ljava/lang/Object;" } : Jvm.MethodName)).before a0 Z = true := hw _ (List.mem_of_getElem? (i := 8) rfl)
theorem tw9 {Z : State} {a0 : Array Value} (hw : ∀ d ∈ tables_1, d.before a0 Z = true) : (Jvm.Cond.selects "[I" ({ cls := "[I", name := "clone", desc := "()Ljava/lang/Object;" } : Jvm.MethodName) ({ cls := "java/lang/Object", name := "clone", desc := "()Ljava/lang/Object;" } : Jvm.MethodName)).before a0 Z = true := hw _ (List.mem_of_getElem? (i := 9) rfl)
theorem tw10 {Z : State} {a0 : Array Value} (hw : ∀ d ∈ tables_1, d.before a0 Z = true) : (Jvm.Cond.native ({ cls := "java/lang/Object", name := "clone", desc := "()Ljava/lang/Object;" } : Jvm.MethodName)).before a0 Z = true := hw _ (List.mem_of_getElem? (i := 10) rfl)
theorem tw11 {Z : State} {a0 : Array Value} (hw : ∀ d ∈ tables_1, d.before a0 Z = true) : (Jvm.Cond.castable "[I" "java/lang/Cloneable").before a0 Z = true := hw _ (List.mem_of_getElem? (i := 11) rfl)
theorem tw12 {Z : State} {a0 : Array Value} (hw : ∀ d ∈ tables_1, d.before a0 Z = true) : (Jvm.Cond.classLink "com/example/quench/quench/LocalSearch" (150 : Nat) "[I").before a0 Z = true := hw _ (List.mem_of_getElem? (i := 12) rfl)
theorem tw14 {Z : State} {a0 : Array Value} (hw : ∀ d ∈ tables_1, d.before a0 Z = true) : (Jvm.Cond.methodLink "com/example/quench/quench/LocalSearchSwappedPinLaw" (13 : Nat) ({ cls := "com/example/quench/quench/LocalSearchSwappedPinLaw", name := "expected", desc := "([IIII)I" } : Jvm.MethodName)).before a0 Z = true := hw _ (List.mem_of_getElem? (i := 14) rfl)
theorem tw15 {Z : State} {a0 : Array Value} (hw : ∀ d ∈ tables_1, d.before a0 Z = true) : (Jvm.Cond.static ({ cls := "com/example/quench/quench/LocalSearchSwappedPinLaw", name := "expected", desc := "([IIII)I" } : Jvm.MethodName)).before a0 Z = true := hw _ (List.mem_of_getElem? (i := 15) rfl)
theorem tw16 {Z : State} {a0 : Array Value} (hw : ∀ d ∈ tables_1, d.before a0 Z = true) : (Jvm.Cond.initialized "com/example/quench/quench/LocalSearchSwappedPinLaw").before a0 Z = true := hw _ (List.mem_of_getElem? (i := 16) rfl)
theorem tw17 {Z : State} {a0 : Array Value} (hw : ∀ d ∈ tables_1, d.before a0 Z = true) : (Jvm.Cond.code ({ cls := "com/example/quench/quench/LocalSearchSwappedPinLaw", name := "expected", desc := "([IIII)I" } : Jvm.MethodName) method_2_code (4 : Nat) (Option.some Jvm.ClassFile.FieldType.int)).before a0 Z = true := hw _ (List.mem_of_getElem? (i := 17) rfl)
theorem pn0 : plainFor (⟨"com/example/quench/quench/LocalSearch", "swapped", "([III)[I"⟩ : MethodName) = true := plainFor_of_name (by first | (simp [plainName, overriddenIn]; done) | decide +kernel)
theorem d1_0 : decode prog_32_method_7_code 0 = .ok (.aload_n 0, 1) := by decide +kernel
theorem d1_1 : decode prog_32_method_7_code 1 = .ok (.invokevirtual 149, 3) := by decide +kernel
theorem d1_4 : decode prog_32_method_7_code 4 = .ok (.checkcast 150, 3) := by decide +kernel
theorem d1_7 : decode prog_32_method_7_code 7 = .ok (.astore_n 3, 1) := by decide +kernel
theorem d1_8 : decode prog_32_method_7_code 8 = .ok (.aload_n 3, 1) := by decide +kernel
theorem d1_9 : decode prog_32_method_7_code 9 = .ok (.iload_n 1, 1) := by decide +kernel
theorem d1_10 : decode prog_32_method_7_code 10 = .ok (.aload_n 0, 1) := by decide +kernel
theorem d1_11 : decode prog_32_method_7_code 11 = .ok (.iload_n 2, 1) := by decide +kernel
theorem d1_12 : decode prog_32_method_7_code 12 = .ok (.iaload, 1) := by decide +kernel
theorem d1_13 : decode prog_32_method_7_code 13 = .ok (.iastore, 1) := by decide +kernel
theorem d1_14 : decode prog_32_method_7_code 14 = .ok (.aload_n 3, 1) := by decide +kernel
theorem d1_15 : decode prog_32_method_7_code 15 = .ok (.iload_n 2, 1) := by decide +kernel
theorem d1_16 : decode prog_32_method_7_code 16 = .ok (.aload_n 0, 1) := by decide +kernel
theorem d1_17 : decode prog_32_method_7_code 17 = .ok (.iload_n 1, 1) := by decide +kernel
theorem d1_18 : decode prog_32_method_7_code 18 = .ok (.iaload, 1) := by decide +kernel
theorem d1_19 : decode prog_32_method_7_code 19 = .ok (.iastore, 1) := by decide +kernel
theorem d1_20 : decode prog_32_method_7_code 20 = .ok (.aload_n 3, 1) := by decide +kernel
theorem d1_21 : decode prog_32_method_7_code 21 = .ok (.areturn, 1) := by decide +kernel
theorem pn1 : plainFor (⟨"com/example/quench/quench/LocalSearchSwappedPinLaw", "expected", "([IIII)I"⟩ : MethodName) = true := plainFor_of_name (by first | (simp [plainName, overriddenIn]; done) | decide +kernel)
theorem d2_0 : decode method_2_code 0 = .ok (.iload_n 3, 1) := by decide +kernel
theorem d2_1 : decode method_2_code 1 = .ok (.iload_n 1, 1) := by decide +kernel
theorem d2_2 : decode method_2_code 2 = .ok (.if_icmp .ne 7, 3) := by decide +kernel
theorem d2_5 : decode method_2_code 5 = .ok (.aload_n 0, 1) := by decide +kernel
theorem d2_6 : decode method_2_code 6 = .ok (.iload_n 2, 1) := by decide +kernel
theorem d2_7 : decode method_2_code 7 = .ok (.iaload, 1) := by decide +kernel
theorem d2_8 : decode method_2_code 8 = .ok (.ireturn, 1) := by decide +kernel
theorem d2_9 : decode method_2_code 9 = .ok (.iload_n 3, 1) := by decide +kernel
theorem d2_10 : decode method_2_code 10 = .ok (.iload_n 2, 1) := by decide +kernel
theorem d2_11 : decode method_2_code 11 = .ok (.if_icmp .ne 7, 3) := by decide +kernel
theorem d2_14 : decode method_2_code 14 = .ok (.aload_n 0, 1) := by decide +kernel
theorem d2_15 : decode method_2_code 15 = .ok (.iload_n 1, 1) := by decide +kernel
theorem d2_16 : decode method_2_code 16 = .ok (.iaload, 1) := by decide +kernel
theorem d2_17 : decode method_2_code 17 = .ok (.ireturn, 1) := by decide +kernel
theorem d2_18 : decode method_2_code 18 = .ok (.aload_n 0, 1) := by decide +kernel
theorem d2_19 : decode method_2_code 19 = .ok (.iload_n 3, 1) := by decide +kernel
theorem d2_20 : decode method_2_code 20 = .ok (.iaload, 1) := by decide +kernel
theorem d2_21 : decode method_2_code 21 = .ok (.ireturn, 1) := by decide +kernel
theorem pn2 : plainFor (⟨"com/example/quench/quench/LocalSearchSwappedPinLaw", "law", "(IIIII)Z"⟩ : MethodName) = true := plainFor_of_name (by first | (simp [plainName, overriddenIn]; done) | decide +kernel)
theorem pd3 : parseMethodDescriptor "([III)[I" = some ⟨[(.array .int), .int, .int], some (.array .int)⟩ := by decide +kernel
theorem pd4 : parseMethodDescriptor "([IIII)I" = some ⟨[(.array .int), .int, .int, .int], some .int⟩ := by decide +kernel
theorem ef_rm1 (m : MethodId) (x0 : Addr) (x1 : Int32) (x2 : Int32) : entryFrame m #[(.ref x0), (.int x1), (.int x2)] 4 = mkF m 0 #[.val (.ref x0), .val (.int x1), .val (.int x2), .unset] [] := by first | (simp [entryFrame, mkF, argsToLocals, Value.category]; done) | rfl
set_option maxRecDepth 65536 in
set_option maxHeartbeats 40000000 in
theorem rm1 (l : Launch) (Z : State) (a0 : Array Value) (hw : ∀ d ∈ tables_1, d.before a0 Z = true) (ws : List Jvm.Cond) (a : Addr) (f g : Int32) (y : Int32 → Int32) (h0 : Heap) (n0 : Nat) (hz0 : n0 ≤ h0.size) (V : Fa Z h0 a .int 4 (fun i => .int (y i))) (E : Exa Z h0 a "[I") (rf0 : ¬ f < 0) (rf1 : f < 4) (rg0 : ¬ g < 0) (rg1 : g < 4) :
    Met l Z (⟨"com/example/quench/quench/LocalSearch", "swapped", "([III)[I"⟩ : MethodName) prog_32_method_7_code 4 (some (.array .int)) ws ({ frames := 1, cells := 1, slots := 4, locals := 14 } : Room) #[(.ref a), (.int f), (.int g)] h0 (fun v h L => ∃ b : Addr, v = some (.ref b) ∧ Fr n0 L ∧ Keep h0 h [] ∧ h0.size ≤ b ∧ Exa Z h b "[I" ∧ Fa Z h b .int 4 (fun i => .int (fnup (fnup y f (y g)) g (y f) i))) := by
  refine Met.intro pn0 ?_
  intro pr ev s m below meth c T0 X0 hx hZ hown hby hml hret hlk hnm e0
  refine Go.cast (ef_rm1 m a f g) ?_
  have N0 := Fr.nil n0
  have hz := hz0
  have K0 : Keep h0 h0 [] := Keep.refl h0 _
  refine Go.of (mkF m 1 #[.val (.ref a), .val (.int f), .val (.int g), .unset] [(.ref a)]) (fun t k => XS.aloadN X0.here hx rfl (hb hby d1_0) rfl rfl k) ?_
  refine Go.clone X0 hx hZ hown (tw5 hw) (tw6 hw) (tw10 hw) (tw8 hw) (tw9 hw) (tw11 hw) e0 V E (g := (mkF m 1 #[.val (.ref a), .val (.int f), .val (.int g), .unset] [(.ref a)])) rfl (by rw [hml]; rfl) rfl (hb hby d1_1) (by decide) (W := 0) (cap := 4) (by show 2 * 0 + _ ≤ _; exact Nat.le_of_eq rfl) (by decide) (by decide) (by decide) (by decide) ?_
  rintro T1 h1 b1 g1 X1 e1 E1 V1 Q1
  have ne_a_b1 : a ≠ b1 := Nat.ne_of_lt (Nat.lt_of_lt_of_le E.lt (Nat.le_of_eq g1.symm))
  have gb_b1 : n0 ≤ b1 := Nat.le_trans hz (Nat.le_of_eq g1.symm)
  have sz_b1 : h0.size ≤ b1 := Nat.le_trans K0.1 (Nat.le_of_eq g1.symm)
  replace E := E.ext E1
  replace V := V.ext E1
  replace hz := Nat.le_trans hz E1.1
  replace K0 := K0.ext E1
  show Go pr ev below _ T1 (mkF m 4 #[.val (.ref a), .val (.int f), .val (.int g), .unset] [(.ref b1)])
  obtain ⟨T2, X2, e2, st2⟩ := castY X1 hx hZ hown (tw12 hw) e1 (Ins.self Q1) (g := (mkF m 4 #[.val (.ref a), .val (.int f), .val (.int g), .unset] [(.ref b1)])) rfl rfl (hb hby d1_4)
  refine Go.of (mkF m 7 #[.val (.ref a), .val (.int f), .val (.int g), .unset] [(.ref b1)]) (st2) ?_
  refine Go.of (mkF m 8 #[.val (.ref a), .val (.int f), .val (.int g), .val (.ref b1)] []) (fun t k => XS.astoreN X2.here hx rfl (hb hby d1_7) rfl rfl (l' := #[.val (.ref a), .val (.int f), .val (.int g), .val (.ref b1)]) rfl k) ?_
  refine Go.of (mkF m 9 #[.val (.ref a), .val (.int f), .val (.int g), .val (.ref b1)] [(.ref b1)]) (fun t k => XS.aloadN X2.here hx rfl (hb hby d1_8) rfl rfl k) ?_
  refine Go.of (mkF m 10 #[.val (.ref a), .val (.int f), .val (.int g), .val (.ref b1)] [(.int f), (.ref b1)]) (fun t k => XS.iloadN X2.here hx rfl (hb hby d1_9) rfl k) ?_
  refine Go.of (mkF m 11 #[.val (.ref a), .val (.int f), .val (.int g), .val (.ref b1)] [(.ref a), (.int f), (.ref b1)]) (fun t k => XS.aloadN X2.here hx rfl (hb hby d1_10) rfl rfl k) ?_
  refine Go.of (mkF m 12 #[.val (.ref a), .val (.int f), .val (.int g), .val (.ref b1)] [(.int g), (.ref a), (.int f), (.ref b1)]) (fun t k => XS.iloadN X2.here hx rfl (hb hby d1_11) rfl k) ?_
  refine Go.iaload X2 hx hZ e2 V rg0 rg1 (g := (mkF m 12 #[.val (.ref a), .val (.int f), .val (.int g), .val (.ref b1)] [(.int g), (.ref a), (.int f), (.ref b1)])) rfl rfl (hb hby d1_12) ?_
  show Go pr ev below _ T2 (mkF m 13 #[.val (.ref a), .val (.int f), .val (.int g), .val (.ref b1)] [(.int (y g)), (.int f), (.ref b1)])
  refine Go.iastore X2 hx hZ e2 V1 rf0 rf1 (g := (mkF m 13 #[.val (.ref a), .val (.int f), .val (.int g), .val (.ref b1)] [(.int (y g)), (.int f), (.ref b1)])) rfl rfl (hb hby d1_13) ?_
  rintro T3 h3 X3 e3 W3 V3
  replace E := E.wr W3
  replace Q1 := Q1.wr W3
  replace V := V.other W3 ne_a_b1
  replace hz := Nat.le_trans hz (Nat.le_of_eq W3.size.symm)
  replace K0 := K0.wr W3 (Or.inr sz_b1)
  replace V1 := V3
  have N3 := Fr.snoc X3 N0 gb_b1
  show Go pr ev below _ T3 (mkF m 14 #[.val (.ref a), .val (.int f), .val (.int g), .val (.ref b1)] [])
  refine Go.of (mkF m 15 #[.val (.ref a), .val (.int f), .val (.int g), .val (.ref b1)] [(.ref b1)]) (fun t k => XS.aloadN X3.here hx rfl (hb hby d1_14) rfl rfl k) ?_
  refine Go.of (mkF m 16 #[.val (.ref a), .val (.int f), .val (.int g), .val (.ref b1)] [(.int g), (.ref b1)]) (fun t k => XS.iloadN X3.here hx rfl (hb hby d1_15) rfl k) ?_
  refine Go.of (mkF m 17 #[.val (.ref a), .val (.int f), .val (.int g), .val (.ref b1)] [(.ref a), (.int g), (.ref b1)]) (fun t k => XS.aloadN X3.here hx rfl (hb hby d1_16) rfl rfl k) ?_
  refine Go.of (mkF m 18 #[.val (.ref a), .val (.int f), .val (.int g), .val (.ref b1)] [(.int f), (.ref a), (.int g), (.ref b1)]) (fun t k => XS.iloadN X3.here hx rfl (hb hby d1_17) rfl k) ?_
  refine Go.iaload X3 hx hZ e3 V rf0 rf1 (g := (mkF m 18 #[.val (.ref a), .val (.int f), .val (.int g), .val (.ref b1)] [(.int f), (.ref a), (.int g), (.ref b1)])) rfl rfl (hb hby d1_18) ?_
  show Go pr ev below _ T3 (mkF m 19 #[.val (.ref a), .val (.int f), .val (.int g), .val (.ref b1)] [(.int (y f)), (.int g), (.ref b1)])
  refine Go.iastore X3 hx hZ e3 V1 rg0 rg1 (g := (mkF m 19 #[.val (.ref a), .val (.int f), .val (.int g), .val (.ref b1)] [(.int (y f)), (.int g), (.ref b1)])) rfl rfl (hb hby d1_19) ?_
  rintro T4 h4 X4 e4 W4 V4
  replace E := E.wr W4
  replace Q1 := Q1.wr W4
  replace V := V.other W4 ne_a_b1
  replace hz := Nat.le_trans hz (Nat.le_of_eq W4.size.symm)
  replace K0 := K0.wr W4 (Or.inr sz_b1)
  replace V1 := V4
  have N4 := Fr.snoc X4 N3 gb_b1
  show Go pr ev below _ T4 (mkF m 20 #[.val (.ref a), .val (.int f), .val (.int g), .val (.ref b1)] [])
  refine Go.of (mkF m 21 #[.val (.ref a), .val (.int f), .val (.int g), .val (.ref b1)] [(.ref b1)]) (fun t k => XS.aloadN X4.here hx rfl (hb hby d1_20) rfl rfl k) ?_
  exact Go.retW X4 hx (t := (.array .int)) hret hlk rfl (Or.inr (Or.inr (Or.inr (Or.inr ⟨rfl, rfl, rfl⟩)))) (hb hby d1_21) (by decide) (by decide) (by rw [e4]; exact ⟨_, rfl, N4, K0, sz_b1, Q1, V1⟩)
theorem ef_rm2 (m : MethodId) (x0 : Addr) (x1 : Int32) (x2 : Int32) (x3 : Int32) : entryFrame m #[(.ref x0), (.int x1), (.int x2), (.int x3)] 4 = mkF m 0 #[.val (.ref x0), .val (.int x1), .val (.int x2), .val (.int x3)] [] := by first | (simp [entryFrame, mkF, argsToLocals, Value.category]; done) | rfl
set_option maxRecDepth 65536 in
set_option maxHeartbeats 40000000 in
theorem rm2 (l : Launch) (Z : State) (a0 : Array Value) (hw : ∀ d ∈ tables_1, d.before a0 Z = true) (ws : List Jvm.Cond) (a : Addr) (f g i : Int32) (y : Int32 → Int32) (h0 : Heap) (V : Fa Z h0 a .int 4 (fun i => .int (y i))) (rf0 : ¬ f < 0) (rf1 : f < 4) (rg0 : ¬ g < 0) (rg1 : g < 4) (i0 : ¬ i < 0) (i1 : i < 4) :
    Met l Z (⟨"com/example/quench/quench/LocalSearchSwappedPinLaw", "expected", "([IIII)I"⟩ : MethodName) method_2_code 4 (some .int) ws ({ frames := 0, cells := 0, slots := 0, locals := 0 } : Room) #[(.ref a), (.int f), (.int g), (.int i)] h0 (fun v h L => v = some (.int (own_exp y f g i)) ∧ L = [] ∧ h = h0) := by
  refine Met.intro pn1 ?_
  intro pr ev s m below meth c T0 X0 hx hZ hown hby hml hret hlk hnm e0
  refine Go.cast (ef_rm2 m a f g i) ?_
  refine Go.of (mkF m 1 #[.val (.ref a), .val (.int f), .val (.int g), .val (.int i)] [(.int i)]) (fun t k => XS.iloadN X0.here hx rfl (hb hby d2_0) rfl k) ?_
  refine Go.of (mkF m 2 #[.val (.ref a), .val (.int f), .val (.int g), .val (.int i)] [(.int f), (.int i)]) (fun t k => XS.iloadN X0.here hx rfl (hb hby d2_1) rfl k) ?_
  by_cases hc2 : i = f
  ·
    refine Go.of (mkF m 5 #[.val (.ref a), .val (.int f), .val (.int g), .val (.int i)] []) (fun t k => XS.icmpNo X0.here hx rfl (hb hby d2_2) rfl (teq hc2).2 k) ?_
    refine Go.of (mkF m 6 #[.val (.ref a), .val (.int f), .val (.int g), .val (.int i)] [(.ref a)]) (fun t k => XS.aloadN X0.here hx rfl (hb hby d2_5) rfl rfl k) ?_
    refine Go.of (mkF m 7 #[.val (.ref a), .val (.int f), .val (.int g), .val (.int i)] [(.int g), (.ref a)]) (fun t k => XS.iloadN X0.here hx rfl (hb hby d2_6) rfl k) ?_
    refine Go.iaload X0 hx hZ e0 V rg0 rg1 (g := (mkF m 7 #[.val (.ref a), .val (.int f), .val (.int g), .val (.int i)] [(.int g), (.ref a)])) rfl rfl (hb hby d2_7) ?_
    show Go pr ev below _ T0 (mkF m 8 #[.val (.ref a), .val (.int f), .val (.int g), .val (.int i)] [(.int (y g))])
    exact Go.retW X0 hx (t := .int) hret hlk rfl (Or.inl ⟨rfl, by simp, _, rfl⟩) (hb hby d2_8) (by decide) (by decide) ⟨by rw [own_e1 hc2], rfl, e0⟩
  ·
    refine Go.of (mkF m 9 #[.val (.ref a), .val (.int f), .val (.int g), .val (.int i)] []) (fun t k => XS.icmpYes X0.here hx rfl (pc0 := 2) (pc' := 9) rfl (hb hby d2_2) rfl (feq hc2).2 (by decide) (by decide) k) ?_
    refine Go.of (mkF m 10 #[.val (.ref a), .val (.int f), .val (.int g), .val (.int i)] [(.int i)]) (fun t k => XS.iloadN X0.here hx rfl (hb hby d2_9) rfl k) ?_
    refine Go.of (mkF m 11 #[.val (.ref a), .val (.int f), .val (.int g), .val (.int i)] [(.int g), (.int i)]) (fun t k => XS.iloadN X0.here hx rfl (hb hby d2_10) rfl k) ?_
    by_cases hc11 : i = g
    ·
      refine Go.of (mkF m 14 #[.val (.ref a), .val (.int f), .val (.int g), .val (.int i)] []) (fun t k => XS.icmpNo X0.here hx rfl (hb hby d2_11) rfl (teq hc11).2 k) ?_
      refine Go.of (mkF m 15 #[.val (.ref a), .val (.int f), .val (.int g), .val (.int i)] [(.ref a)]) (fun t k => XS.aloadN X0.here hx rfl (hb hby d2_14) rfl rfl k) ?_
      refine Go.of (mkF m 16 #[.val (.ref a), .val (.int f), .val (.int g), .val (.int i)] [(.int f), (.ref a)]) (fun t k => XS.iloadN X0.here hx rfl (hb hby d2_15) rfl k) ?_
      refine Go.iaload X0 hx hZ e0 V rf0 rf1 (g := (mkF m 16 #[.val (.ref a), .val (.int f), .val (.int g), .val (.int i)] [(.int f), (.ref a)])) rfl rfl (hb hby d2_16) ?_
      show Go pr ev below _ T0 (mkF m 17 #[.val (.ref a), .val (.int f), .val (.int g), .val (.int i)] [(.int (y f))])
      exact Go.retW X0 hx (t := .int) hret hlk rfl (Or.inl ⟨rfl, by simp, _, rfl⟩) (hb hby d2_17) (by decide) (by decide) ⟨by rw [own_e2 hc2 hc11], rfl, e0⟩
    ·
      refine Go.of (mkF m 18 #[.val (.ref a), .val (.int f), .val (.int g), .val (.int i)] []) (fun t k => XS.icmpYes X0.here hx rfl (pc0 := 11) (pc' := 18) rfl (hb hby d2_11) rfl (feq hc11).2 (by decide) (by decide) k) ?_
      refine Go.of (mkF m 19 #[.val (.ref a), .val (.int f), .val (.int g), .val (.int i)] [(.ref a)]) (fun t k => XS.aloadN X0.here hx rfl (hb hby d2_18) rfl rfl k) ?_
      refine Go.of (mkF m 20 #[.val (.ref a), .val (.int f), .val (.int g), .val (.int i)] [(.int i), (.ref a)]) (fun t k => XS.iloadN X0.here hx rfl (hb hby d2_19) rfl k) ?_
      refine Go.iaload X0 hx hZ e0 V i0 i1 (g := (mkF m 20 #[.val (.ref a), .val (.int f), .val (.int g), .val (.int i)] [(.int i), (.ref a)])) rfl rfl (hb hby d2_20) ?_
      show Go pr ev below _ T0 (mkF m 21 #[.val (.ref a), .val (.int f), .val (.int g), .val (.int i)] [(.int (y i))])
      exact Go.retW X0 hx (t := .int) hret hlk rfl (Or.inl ⟨rfl, by simp, _, rfl⟩) (hb hby d2_21) (by decide) (by decide) ⟨by rw [own_e3 hc2 hc11], rfl, e0⟩
theorem ef_rm0 (m : MethodId) (x0 : Int32) (x1 : Int32) (x2 : Int32) (x3 : Int32) (x4 : Int32) : entryFrame m #[(.int x0), (.int x1), (.int x2), (.int x3), (.int x4)] maxLocals = mkF m 0 #[.val (.int x0), .val (.int x1), .val (.int x2), .val (.int x3), .val (.int x4), .unset, .unset, .unset, .unset, .unset, .unset, .unset] [] := by first | (simp [entryFrame, mkF, argsToLocals, Value.category, maxLocals]; done) | rfl
set_option maxRecDepth 65536 in
set_option maxHeartbeats 40000000 in
theorem rm0 (l : Launch) (Z : State) (a0 : Array Value) (hw : ∀ d ∈ tables_1, d.before a0 Z = true) (ws : List Jvm.Cond) (p0 p1 p2 p3 p4 : Int32) (h0 : Heap) (n0 : Nat) (hz0 : n0 ≤ h0.size) :
    Met l Z x code maxLocals ret ws room_1 #[(.int p0), (.int p1), (.int p2), (.int p3), (.int p4)] h0 (fun v h L => v = some (.int 1) ∧ Fr n0 L) := by
  refine Met.intro pn2 ?_
  intro pr ev s m below meth c T0 X0 hx hZ hown hby hml hret hlk hnm e0
  refine Go.cast (ef_rm0 m p0 p1 p2 p3 p4) ?_
  have N0 := Fr.nil n0
  have hz := hz0
  refine Go.of (mkF m 2 #[.val (.int p0), .val (.int p1), .val (.int p2), .val (.int p3), .val (.int p4), .unset, .unset, .unset, .unset, .unset, .unset, .unset] [(.int p4)]) (fun t k => XS.iload X0.here hx rfl (hb hby at_0) rfl k) ?_
  refine Go.of (mkF m 3 #[.val (.int p0), .val (.int p1), .val (.int p2), .val (.int p3), .val (.int p4), .unset, .unset, .unset, .unset, .unset, .unset, .unset] [(.int (3 : Int32)), (.int p4)]) (fun t k => XS.iconst X0.here hx rfl (hb hby at_2) k) ?_
  refine Go.of (mkF m 4 #[.val (.int p0), .val (.int p1), .val (.int p2), .val (.int p3), .val (.int p4), .unset, .unset, .unset, .unset, .unset, .unset, .unset] [(.int (p4 &&& (3 : Int32)))]) (fun t k => XS.iand X0.here hx rfl (hb hby at_3) rfl k) ?_
  refine Go.of (mkF m 6 #[.val (.int p0), .val (.int p1), .val (.int p2), .val (.int p3), .val (.int p4), .val (.int (p4 &&& (3 : Int32))), .unset, .unset, .unset, .unset, .unset, .unset] []) (fun t k => XS.istore X0.here hx rfl (hb hby at_4) rfl (l' := #[.val (.int p0), .val (.int p1), .val (.int p2), .val (.int p3), .val (.int p4), .val (.int (p4 &&& (3 : Int32))), .unset, .unset, .unset, .unset, .unset, .unset]) rfl k) ?_
  have hf := own_m3 p4
  generalize hfe : (p4 &&& (3 : Int32)) = f
  rw [hfe] at hf
  refine Go.of (mkF m 8 #[.val (.int p0), .val (.int p1), .val (.int p2), .val (.int p3), .val (.int p4), .val (.int f), .unset, .unset, .unset, .unset, .unset, .unset] [(.int p4)]) (fun t k => XS.iload X0.here hx rfl (hb hby at_6) rfl k) ?_
  refine Go.of (mkF m 9 #[.val (.int p0), .val (.int p1), .val (.int p2), .val (.int p3), .val (.int p4), .val (.int f), .unset, .unset, .unset, .unset, .unset, .unset] [(.int (2 : Int32)), (.int p4)]) (fun t k => XS.iconst X0.here hx rfl (hb hby at_8) k) ?_
  refine Go.of (mkF m 10 #[.val (.int p0), .val (.int p1), .val (.int p2), .val (.int p3), .val (.int p4), .val (.int f), .unset, .unset, .unset, .unset, .unset, .unset] [(.int ((p4.toUInt32 >>> ((2 : Int32) &&& 31).toUInt32).toInt32))]) (fun t k => XS.iushr X0.here hx rfl (hb hby at_9) rfl k) ?_
  refine Go.of (mkF m 11 #[.val (.int p0), .val (.int p1), .val (.int p2), .val (.int p3), .val (.int p4), .val (.int f), .unset, .unset, .unset, .unset, .unset, .unset] [(.int (3 : Int32)), (.int ((p4.toUInt32 >>> ((2 : Int32) &&& 31).toUInt32).toInt32))]) (fun t k => XS.iconst X0.here hx rfl (hb hby at_10) k) ?_
  refine Go.of (mkF m 12 #[.val (.int p0), .val (.int p1), .val (.int p2), .val (.int p3), .val (.int p4), .val (.int f), .unset, .unset, .unset, .unset, .unset, .unset] [(.int (((p4.toUInt32 >>> ((2 : Int32) &&& 31).toUInt32).toInt32) &&& (3 : Int32)))]) (fun t k => XS.iand X0.here hx rfl (hb hby at_11) rfl k) ?_
  refine Go.of (mkF m 14 #[.val (.int p0), .val (.int p1), .val (.int p2), .val (.int p3), .val (.int p4), .val (.int f), .val (.int (((p4.toUInt32 >>> ((2 : Int32) &&& 31).toUInt32).toInt32) &&& (3 : Int32))), .unset, .unset, .unset, .unset, .unset] []) (fun t k => XS.istore X0.here hx rfl (hb hby at_12) rfl (l' := #[.val (.int p0), .val (.int p1), .val (.int p2), .val (.int p3), .val (.int p4), .val (.int f), .val (.int (((p4.toUInt32 >>> ((2 : Int32) &&& 31).toUInt32).toInt32) &&& (3 : Int32))), .unset, .unset, .unset, .unset, .unset]) rfl k) ?_
  have hg := own_m3 ((p4.toUInt32 >>> ((2 : Int32) &&& 31).toUInt32).toInt32)
  generalize hge : (((p4.toUInt32 >>> ((2 : Int32) &&& 31).toUInt32).toInt32) &&& (3 : Int32)) = g
  rw [hge] at hg
  refine Go.of (mkF m 15 #[.val (.int p0), .val (.int p1), .val (.int p2), .val (.int p3), .val (.int p4), .val (.int f), .val (.int g), .unset, .unset, .unset, .unset, .unset] [(.int (4 : Int32))]) (fun t k => XS.iconst X0.here hx rfl (hb hby at_14) k) ?_
  obtain ⟨T1, h1, k1, X1, e1, E1, A1, Q1, st1⟩ := newPE X0 hx hZ (aty := .int) (tw0 hw) e0 (g := (mkF m 15 #[.val (.int p0), .val (.int p1), .val (.int p2), .val (.int p3), .val (.int p4), .val (.int f), .val (.int g), .unset, .unset, .unset, .unset, .unset] [(.int (4 : Int32))])) rfl (hb hby at_15) rfl (by decide) (cap := 4) (by decide) (by decide) (by decide) (by decide) (ad := "[I") (by decide +kernel)
  obtain ⟨b1, g1⟩ : ∃ z, z = h0.size := ⟨_, rfl⟩
  rw [← g1] at A1 Q1 st1
  have gb_b1 : n0 ≤ b1 := Nat.le_trans hz (Nat.le_of_eq g1.symm)
  replace hz := Nat.le_trans hz E1.1
  have V_b1 : Fa Z h1 b1 .int (4 : Int32) (fun i => .int ((fun _ => (0 : Int32)) i)) := Fa.new A1 (by decide)
  refine Go.of (mkF m 17 #[.val (.int p0), .val (.int p1), .val (.int p2), .val (.int p3), .val (.int p4), .val (.int f), .val (.int g), .unset, .unset, .unset, .unset, .unset] [(.ref b1)]) (st1) ?_
  refine Go.of (mkF m 18 #[.val (.int p0), .val (.int p1), .val (.int p2), .val (.int p3), .val (.int p4), .val (.int f), .val (.int g), .unset, .unset, .unset, .unset, .unset] [(.ref b1), (.ref b1)]) (fun t k => XS.dup X1.here hx rfl (hb hby at_17) rfl rfl k) ?_
  refine Go.of (mkF m 19 #[.val (.int p0), .val (.int p1), .val (.int p2), .val (.int p3), .val (.int p4), .val (.int f), .val (.int g), .unset, .unset, .unset, .unset, .unset] [(.int (0 : Int32)), (.ref b1), (.ref b1)]) (fun t k => XS.iconst X1.here hx rfl (hb hby at_18) k) ?_
  refine Go.of (mkF m 20 #[.val (.int p0), .val (.int p1), .val (.int p2), .val (.int p3), .val (.int p4), .val (.int f), .val (.int g), .unset, .unset, .unset, .unset, .unset] [(.int p0), (.int (0 : Int32)), (.ref b1), (.ref b1)]) (fun t k => XS.iloadN X1.here hx rfl (hb hby at_19) rfl k) ?_
  refine Go.iastore X1 hx hZ e1 V_b1 (by decide) (by decide) (g := (mkF m 20 #[.val (.int p0), .val (.int p1), .val (.int p2), .val (.int p3), .val (.int p4), .val (.int f), .val (.int g), .unset, .unset, .unset, .unset, .unset] [(.int p0), (.int (0 : Int32)), (.ref b1), (.ref b1)])) rfl rfl (hb hby at_20) ?_
  rintro T2 h2 X2 e2 W2 V2
  replace Q1 := Q1.wr W2
  replace hz := Nat.le_trans hz (Nat.le_of_eq W2.size.symm)
  replace V_b1 := V2
  have N2 := Fr.snoc X2 N0 gb_b1
  show Go pr ev below _ T2 (mkF m 21 #[.val (.int p0), .val (.int p1), .val (.int p2), .val (.int p3), .val (.int p4), .val (.int f), .val (.int g), .unset, .unset, .unset, .unset, .unset] [(.ref b1)])
  refine Go.of (mkF m 22 #[.val (.int p0), .val (.int p1), .val (.int p2), .val (.int p3), .val (.int p4), .val (.int f), .val (.int g), .unset, .unset, .unset, .unset, .unset] [(.ref b1), (.ref b1)]) (fun t k => XS.dup X2.here hx rfl (hb hby at_21) rfl rfl k) ?_
  refine Go.of (mkF m 23 #[.val (.int p0), .val (.int p1), .val (.int p2), .val (.int p3), .val (.int p4), .val (.int f), .val (.int g), .unset, .unset, .unset, .unset, .unset] [(.int (1 : Int32)), (.ref b1), (.ref b1)]) (fun t k => XS.iconst X2.here hx rfl (hb hby at_22) k) ?_
  refine Go.of (mkF m 24 #[.val (.int p0), .val (.int p1), .val (.int p2), .val (.int p3), .val (.int p4), .val (.int f), .val (.int g), .unset, .unset, .unset, .unset, .unset] [(.int p1), (.int (1 : Int32)), (.ref b1), (.ref b1)]) (fun t k => XS.iloadN X2.here hx rfl (hb hby at_23) rfl k) ?_
  refine Go.iastore X2 hx hZ e2 V_b1 (by decide) (by decide) (g := (mkF m 24 #[.val (.int p0), .val (.int p1), .val (.int p2), .val (.int p3), .val (.int p4), .val (.int f), .val (.int g), .unset, .unset, .unset, .unset, .unset] [(.int p1), (.int (1 : Int32)), (.ref b1), (.ref b1)])) rfl rfl (hb hby at_24) ?_
  rintro T3 h3 X3 e3 W3 V3
  replace Q1 := Q1.wr W3
  replace hz := Nat.le_trans hz (Nat.le_of_eq W3.size.symm)
  replace V_b1 := V3
  have N3 := Fr.snoc X3 N2 gb_b1
  show Go pr ev below _ T3 (mkF m 25 #[.val (.int p0), .val (.int p1), .val (.int p2), .val (.int p3), .val (.int p4), .val (.int f), .val (.int g), .unset, .unset, .unset, .unset, .unset] [(.ref b1)])
  refine Go.of (mkF m 26 #[.val (.int p0), .val (.int p1), .val (.int p2), .val (.int p3), .val (.int p4), .val (.int f), .val (.int g), .unset, .unset, .unset, .unset, .unset] [(.ref b1), (.ref b1)]) (fun t k => XS.dup X3.here hx rfl (hb hby at_25) rfl rfl k) ?_
  refine Go.of (mkF m 27 #[.val (.int p0), .val (.int p1), .val (.int p2), .val (.int p3), .val (.int p4), .val (.int f), .val (.int g), .unset, .unset, .unset, .unset, .unset] [(.int (2 : Int32)), (.ref b1), (.ref b1)]) (fun t k => XS.iconst X3.here hx rfl (hb hby at_26) k) ?_
  refine Go.of (mkF m 28 #[.val (.int p0), .val (.int p1), .val (.int p2), .val (.int p3), .val (.int p4), .val (.int f), .val (.int g), .unset, .unset, .unset, .unset, .unset] [(.int p2), (.int (2 : Int32)), (.ref b1), (.ref b1)]) (fun t k => XS.iloadN X3.here hx rfl (hb hby at_27) rfl k) ?_
  refine Go.iastore X3 hx hZ e3 V_b1 (by decide) (by decide) (g := (mkF m 28 #[.val (.int p0), .val (.int p1), .val (.int p2), .val (.int p3), .val (.int p4), .val (.int f), .val (.int g), .unset, .unset, .unset, .unset, .unset] [(.int p2), (.int (2 : Int32)), (.ref b1), (.ref b1)])) rfl rfl (hb hby at_28) ?_
  rintro T4 h4 X4 e4 W4 V4
  replace Q1 := Q1.wr W4
  replace hz := Nat.le_trans hz (Nat.le_of_eq W4.size.symm)
  replace V_b1 := V4
  have N4 := Fr.snoc X4 N3 gb_b1
  show Go pr ev below _ T4 (mkF m 29 #[.val (.int p0), .val (.int p1), .val (.int p2), .val (.int p3), .val (.int p4), .val (.int f), .val (.int g), .unset, .unset, .unset, .unset, .unset] [(.ref b1)])
  refine Go.of (mkF m 30 #[.val (.int p0), .val (.int p1), .val (.int p2), .val (.int p3), .val (.int p4), .val (.int f), .val (.int g), .unset, .unset, .unset, .unset, .unset] [(.ref b1), (.ref b1)]) (fun t k => XS.dup X4.here hx rfl (hb hby at_29) rfl rfl k) ?_
  refine Go.of (mkF m 31 #[.val (.int p0), .val (.int p1), .val (.int p2), .val (.int p3), .val (.int p4), .val (.int f), .val (.int g), .unset, .unset, .unset, .unset, .unset] [(.int (3 : Int32)), (.ref b1), (.ref b1)]) (fun t k => XS.iconst X4.here hx rfl (hb hby at_30) k) ?_
  refine Go.of (mkF m 32 #[.val (.int p0), .val (.int p1), .val (.int p2), .val (.int p3), .val (.int p4), .val (.int f), .val (.int g), .unset, .unset, .unset, .unset, .unset] [(.int p3), (.int (3 : Int32)), (.ref b1), (.ref b1)]) (fun t k => XS.iloadN X4.here hx rfl (hb hby at_31) rfl k) ?_
  refine Go.iastore X4 hx hZ e4 V_b1 (by decide) (by decide) (g := (mkF m 32 #[.val (.int p0), .val (.int p1), .val (.int p2), .val (.int p3), .val (.int p4), .val (.int f), .val (.int g), .unset, .unset, .unset, .unset, .unset] [(.int p3), (.int (3 : Int32)), (.ref b1), (.ref b1)])) rfl rfl (hb hby at_32) ?_
  rintro T5 h5 X5 e5 W5 V5
  replace Q1 := Q1.wr W5
  replace hz := Nat.le_trans hz (Nat.le_of_eq W5.size.symm)
  replace V_b1 := V5
  have N5 := Fr.snoc X5 N4 gb_b1
  show Go pr ev below _ T5 (mkF m 33 #[.val (.int p0), .val (.int p1), .val (.int p2), .val (.int p3), .val (.int p4), .val (.int f), .val (.int g), .unset, .unset, .unset, .unset, .unset] [(.ref b1)])
  refine Go.of (mkF m 35 #[.val (.int p0), .val (.int p1), .val (.int p2), .val (.int p3), .val (.int p4), .val (.int f), .val (.int g), .val (.ref b1), .unset, .unset, .unset, .unset] []) (fun t k => XS.astore X5.here hx rfl (hb hby at_33) rfl rfl (l' := #[.val (.int p0), .val (.int p1), .val (.int p2), .val (.int p3), .val (.int p4), .val (.int f), .val (.int g), .val (.ref b1), .unset, .unset, .unset, .unset]) rfl k) ?_
  refine Go.of (mkF m 36 #[.val (.int p0), .val (.int p1), .val (.int p2), .val (.int p3), .val (.int p4), .val (.int f), .val (.int g), .val (.ref b1), .unset, .unset, .unset, .unset] [(.int (4 : Int32))]) (fun t k => XS.iconst X5.here hx rfl (hb hby at_35) k) ?_
  obtain ⟨T6, h6, k6, X6, e6, E6, A6, Q6, st6⟩ := newPE X5 hx hZ (aty := .int) (tw0 hw) e5 (g := (mkF m 36 #[.val (.int p0), .val (.int p1), .val (.int p2), .val (.int p3), .val (.int p4), .val (.int f), .val (.int g), .val (.ref b1), .unset, .unset, .unset, .unset] [(.int (4 : Int32))])) rfl (hb hby at_36) rfl (by decide) (cap := 4) (by decide) (by decide) (by decide) (by decide) (ad := "[I") (by decide +kernel)
  obtain ⟨b6, g6⟩ : ∃ z, z = h5.size := ⟨_, rfl⟩
  rw [← g6] at A6 Q6 st6
  have ne_b1_b6 : b1 ≠ b6 := Nat.ne_of_lt (Nat.lt_of_lt_of_le Q1.lt (Nat.le_of_eq g6.symm))
  have gb_b6 : n0 ≤ b6 := Nat.le_trans hz (Nat.le_of_eq g6.symm)
  replace Q1 := Q1.ext E6
  replace V_b1 := V_b1.ext E6
  replace hz := Nat.le_trans hz E6.1
  have V_b6 : Fa Z h6 b6 .int (4 : Int32) (fun i => .int ((fun _ => (0 : Int32)) i)) := Fa.new A6 (by decide)
  refine Go.of (mkF m 38 #[.val (.int p0), .val (.int p1), .val (.int p2), .val (.int p3), .val (.int p4), .val (.int f), .val (.int g), .val (.ref b1), .unset, .unset, .unset, .unset] [(.ref b6)]) (st6) ?_
  refine Go.of (mkF m 39 #[.val (.int p0), .val (.int p1), .val (.int p2), .val (.int p3), .val (.int p4), .val (.int f), .val (.int g), .val (.ref b1), .unset, .unset, .unset, .unset] [(.ref b6), (.ref b6)]) (fun t k => XS.dup X6.here hx rfl (hb hby at_38) rfl rfl k) ?_
  refine Go.of (mkF m 40 #[.val (.int p0), .val (.int p1), .val (.int p2), .val (.int p3), .val (.int p4), .val (.int f), .val (.int g), .val (.ref b1), .unset, .unset, .unset, .unset] [(.int (0 : Int32)), (.ref b6), (.ref b6)]) (fun t k => XS.iconst X6.here hx rfl (hb hby at_39) k) ?_
  refine Go.of (mkF m 41 #[.val (.int p0), .val (.int p1), .val (.int p2), .val (.int p3), .val (.int p4), .val (.int f), .val (.int g), .val (.ref b1), .unset, .unset, .unset, .unset] [(.int p0), (.int (0 : Int32)), (.ref b6), (.ref b6)]) (fun t k => XS.iloadN X6.here hx rfl (hb hby at_40) rfl k) ?_
  refine Go.iastore X6 hx hZ e6 V_b6 (by decide) (by decide) (g := (mkF m 41 #[.val (.int p0), .val (.int p1), .val (.int p2), .val (.int p3), .val (.int p4), .val (.int f), .val (.int g), .val (.ref b1), .unset, .unset, .unset, .unset] [(.int p0), (.int (0 : Int32)), (.ref b6), (.ref b6)])) rfl rfl (hb hby at_41) ?_
  rintro T7 h7 X7 e7 W7 V7
  replace Q1 := Q1.wr W7
  replace Q6 := Q6.wr W7
  replace V_b1 := V_b1.other W7 ne_b1_b6
  replace hz := Nat.le_trans hz (Nat.le_of_eq W7.size.symm)
  replace V_b6 := V7
  have N7 := Fr.snoc X7 N5 gb_b6
  show Go pr ev below _ T7 (mkF m 42 #[.val (.int p0), .val (.int p1), .val (.int p2), .val (.int p3), .val (.int p4), .val (.int f), .val (.int g), .val (.ref b1), .unset, .unset, .unset, .unset] [(.ref b6)])
  refine Go.of (mkF m 43 #[.val (.int p0), .val (.int p1), .val (.int p2), .val (.int p3), .val (.int p4), .val (.int f), .val (.int g), .val (.ref b1), .unset, .unset, .unset, .unset] [(.ref b6), (.ref b6)]) (fun t k => XS.dup X7.here hx rfl (hb hby at_42) rfl rfl k) ?_
  refine Go.of (mkF m 44 #[.val (.int p0), .val (.int p1), .val (.int p2), .val (.int p3), .val (.int p4), .val (.int f), .val (.int g), .val (.ref b1), .unset, .unset, .unset, .unset] [(.int (1 : Int32)), (.ref b6), (.ref b6)]) (fun t k => XS.iconst X7.here hx rfl (hb hby at_43) k) ?_
  refine Go.of (mkF m 45 #[.val (.int p0), .val (.int p1), .val (.int p2), .val (.int p3), .val (.int p4), .val (.int f), .val (.int g), .val (.ref b1), .unset, .unset, .unset, .unset] [(.int p1), (.int (1 : Int32)), (.ref b6), (.ref b6)]) (fun t k => XS.iloadN X7.here hx rfl (hb hby at_44) rfl k) ?_
  refine Go.iastore X7 hx hZ e7 V_b6 (by decide) (by decide) (g := (mkF m 45 #[.val (.int p0), .val (.int p1), .val (.int p2), .val (.int p3), .val (.int p4), .val (.int f), .val (.int g), .val (.ref b1), .unset, .unset, .unset, .unset] [(.int p1), (.int (1 : Int32)), (.ref b6), (.ref b6)])) rfl rfl (hb hby at_45) ?_
  rintro T8 h8 X8 e8 W8 V8
  replace Q1 := Q1.wr W8
  replace Q6 := Q6.wr W8
  replace V_b1 := V_b1.other W8 ne_b1_b6
  replace hz := Nat.le_trans hz (Nat.le_of_eq W8.size.symm)
  replace V_b6 := V8
  have N8 := Fr.snoc X8 N7 gb_b6
  show Go pr ev below _ T8 (mkF m 46 #[.val (.int p0), .val (.int p1), .val (.int p2), .val (.int p3), .val (.int p4), .val (.int f), .val (.int g), .val (.ref b1), .unset, .unset, .unset, .unset] [(.ref b6)])
  refine Go.of (mkF m 47 #[.val (.int p0), .val (.int p1), .val (.int p2), .val (.int p3), .val (.int p4), .val (.int f), .val (.int g), .val (.ref b1), .unset, .unset, .unset, .unset] [(.ref b6), (.ref b6)]) (fun t k => XS.dup X8.here hx rfl (hb hby at_46) rfl rfl k) ?_
  refine Go.of (mkF m 48 #[.val (.int p0), .val (.int p1), .val (.int p2), .val (.int p3), .val (.int p4), .val (.int f), .val (.int g), .val (.ref b1), .unset, .unset, .unset, .unset] [(.int (2 : Int32)), (.ref b6), (.ref b6)]) (fun t k => XS.iconst X8.here hx rfl (hb hby at_47) k) ?_
  refine Go.of (mkF m 49 #[.val (.int p0), .val (.int p1), .val (.int p2), .val (.int p3), .val (.int p4), .val (.int f), .val (.int g), .val (.ref b1), .unset, .unset, .unset, .unset] [(.int p2), (.int (2 : Int32)), (.ref b6), (.ref b6)]) (fun t k => XS.iloadN X8.here hx rfl (hb hby at_48) rfl k) ?_
  refine Go.iastore X8 hx hZ e8 V_b6 (by decide) (by decide) (g := (mkF m 49 #[.val (.int p0), .val (.int p1), .val (.int p2), .val (.int p3), .val (.int p4), .val (.int f), .val (.int g), .val (.ref b1), .unset, .unset, .unset, .unset] [(.int p2), (.int (2 : Int32)), (.ref b6), (.ref b6)])) rfl rfl (hb hby at_49) ?_
  rintro T9 h9 X9 e9 W9 V9
  replace Q1 := Q1.wr W9
  replace Q6 := Q6.wr W9
  replace V_b1 := V_b1.other W9 ne_b1_b6
  replace hz := Nat.le_trans hz (Nat.le_of_eq W9.size.symm)
  replace V_b6 := V9
  have N9 := Fr.snoc X9 N8 gb_b6
  show Go pr ev below _ T9 (mkF m 50 #[.val (.int p0), .val (.int p1), .val (.int p2), .val (.int p3), .val (.int p4), .val (.int f), .val (.int g), .val (.ref b1), .unset, .unset, .unset, .unset] [(.ref b6)])
  refine Go.of (mkF m 51 #[.val (.int p0), .val (.int p1), .val (.int p2), .val (.int p3), .val (.int p4), .val (.int f), .val (.int g), .val (.ref b1), .unset, .unset, .unset, .unset] [(.ref b6), (.ref b6)]) (fun t k => XS.dup X9.here hx rfl (hb hby at_50) rfl rfl k) ?_
  refine Go.of (mkF m 52 #[.val (.int p0), .val (.int p1), .val (.int p2), .val (.int p3), .val (.int p4), .val (.int f), .val (.int g), .val (.ref b1), .unset, .unset, .unset, .unset] [(.int (3 : Int32)), (.ref b6), (.ref b6)]) (fun t k => XS.iconst X9.here hx rfl (hb hby at_51) k) ?_
  refine Go.of (mkF m 53 #[.val (.int p0), .val (.int p1), .val (.int p2), .val (.int p3), .val (.int p4), .val (.int f), .val (.int g), .val (.ref b1), .unset, .unset, .unset, .unset] [(.int p3), (.int (3 : Int32)), (.ref b6), (.ref b6)]) (fun t k => XS.iloadN X9.here hx rfl (hb hby at_52) rfl k) ?_
  refine Go.iastore X9 hx hZ e9 V_b6 (by decide) (by decide) (g := (mkF m 53 #[.val (.int p0), .val (.int p1), .val (.int p2), .val (.int p3), .val (.int p4), .val (.int f), .val (.int g), .val (.ref b1), .unset, .unset, .unset, .unset] [(.int p3), (.int (3 : Int32)), (.ref b6), (.ref b6)])) rfl rfl (hb hby at_53) ?_
  rintro T10 h10 X10 e10 W10 V10
  replace Q1 := Q1.wr W10
  replace Q6 := Q6.wr W10
  replace V_b1 := V_b1.other W10 ne_b1_b6
  replace hz := Nat.le_trans hz (Nat.le_of_eq W10.size.symm)
  replace V_b6 := V10
  have N10 := Fr.snoc X10 N9 gb_b6
  show Go pr ev below _ T10 (mkF m 54 #[.val (.int p0), .val (.int p1), .val (.int p2), .val (.int p3), .val (.int p4), .val (.int f), .val (.int g), .val (.ref b1), .unset, .unset, .unset, .unset] [(.ref b6)])
  refine Go.of (mkF m 56 #[.val (.int p0), .val (.int p1), .val (.int p2), .val (.int p3), .val (.int p4), .val (.int f), .val (.int g), .val (.ref b1), .val (.ref b6), .unset, .unset, .unset] []) (fun t k => XS.astore X10.here hx rfl (hb hby at_54) rfl rfl (l' := #[.val (.int p0), .val (.int p1), .val (.int p2), .val (.int p3), .val (.int p4), .val (.int f), .val (.int g), .val (.ref b1), .val (.ref b6), .unset, .unset, .unset]) rfl k) ?_
  refine Go.of (mkF m 58 #[.val (.int p0), .val (.int p1), .val (.int p2), .val (.int p3), .val (.int p4), .val (.int f), .val (.int g), .val (.ref b1), .val (.ref b6), .unset, .unset, .unset] [(.ref b6)]) (fun t k => XS.aload X10.here hx rfl (hb hby at_56) rfl rfl k) ?_
  refine Go.of (mkF m 60 #[.val (.int p0), .val (.int p1), .val (.int p2), .val (.int p3), .val (.int p4), .val (.int f), .val (.int g), .val (.ref b1), .val (.ref b6), .unset, .unset, .unset] [(.int f), (.ref b6)]) (fun t k => XS.iload X10.here hx rfl (hb hby at_58) rfl k) ?_
  refine Go.of (mkF m 62 #[.val (.int p0), .val (.int p1), .val (.int p2), .val (.int p3), .val (.int p4), .val (.int f), .val (.int g), .val (.ref b1), .val (.ref b6), .unset, .unset, .unset] [(.int g), (.int f), (.ref b6)]) (fun t k => XS.iload X10.here hx rfl (hb hby at_60) rfl k) ?_
  refine Go.callS X10 hx hZ (y := (⟨"com/example/quench/quench/LocalSearch", "swapped", "([III)[I"⟩ : MethodName)) (argsL := [(.ref b6), (.int f), (.int g)]) (rest := []) hown (tw1 hw) (tw2 hw) (tw3 hw) (tw4 hw) (by decide) e10 (rm1 l Z a0 hw [] b6 f g (fnup (fnup (fnup (fnup (fun _ => (0 : Int32)) (0 : Int32) p0) (1 : Int32) p1) (2 : Int32) p2) (3 : Int32) p3) h10 n0 hz V_b6 Q6 hf.1 hf.2 hg.1 hg.2) (g := (mkF m 62 #[.val (.int p0), .val (.int p1), .val (.int p2), .val (.int p3), .val (.int p4), .val (.int f), .val (.int g), .val (.ref b1), .val (.ref b6), .unset, .unset, .unset] [(.int g), (.int f), (.ref b6)])) rfl (by rw [hml]; rfl) (lenOf pd3 rfl) rfl (W := 0) (by show 2 * 0 + _ ≤ _; exact Nat.le_of_eq rfl) (hb hby at_62) (by decide) (by decide) (by decide) (by decide) ?_
  rintro T11 L11 v11 X11 ⟨bq11, rfl, NL11, K11, sb11, Eb11, Vb11⟩
  have N11 := Fr.app N10 NL11
  have ne_b1_bq11 : b1 ≠ bq11 := Nat.ne_of_lt (Nat.lt_of_lt_of_le Q1.lt sb11)
  have ne_b6_bq11 : b6 ≠ bq11 := Nat.ne_of_lt (Nat.lt_of_lt_of_le Q6.lt sb11)
  have gb_bq11 : n0 ≤ bq11 := Nat.le_trans hz sb11
  replace Q1 := Q1.keep K11
  replace Q6 := Q6.keep K11
  replace V_b1 := V_b1.keep K11 nin0
  replace V_b6 := V_b6.keep K11 nin0
  replace hz := Nat.le_trans hz K11.1
  show Go pr ev below _ T11 (mkF m 65 #[.val (.int p0), .val (.int p1), .val (.int p2), .val (.int p3), .val (.int p4), .val (.int f), .val (.int g), .val (.ref b1), .val (.ref b6), .unset, .unset, .unset] [(.ref bq11)])
  refine Go.of (mkF m 67 #[.val (.int p0), .val (.int p1), .val (.int p2), .val (.int p3), .val (.int p4), .val (.int f), .val (.int g), .val (.ref b1), .val (.ref b6), .val (.ref bq11), .unset, .unset] []) (fun t k => XS.astore X11.here hx rfl (hb hby at_65) rfl rfl (l' := #[.val (.int p0), .val (.int p1), .val (.int p2), .val (.int p3), .val (.int p4), .val (.int f), .val (.int g), .val (.ref b1), .val (.ref b6), .val (.ref bq11), .unset, .unset]) rfl k) ?_
  refine Go.of (mkF m 69 #[.val (.int p0), .val (.int p1), .val (.int p2), .val (.int p3), .val (.int p4), .val (.int f), .val (.int g), .val (.ref b1), .val (.ref b6), .val (.ref bq11), .unset, .unset] [(.ref bq11)]) (fun t k => XS.aload X11.here hx rfl (hb hby at_67) rfl rfl k) ?_
  refine Go.of (mkF m 72 #[.val (.int p0), .val (.int p1), .val (.int p2), .val (.int p3), .val (.int p4), .val (.int f), .val (.int g), .val (.ref b1), .val (.ref b6), .val (.ref bq11), .unset, .unset] []) (fun t k => XS.ifnullNo X11.here hx rfl (hb hby at_69) rfl k) ?_
  refine Go.of (mkF m 74 #[.val (.int p0), .val (.int p1), .val (.int p2), .val (.int p3), .val (.int p4), .val (.int f), .val (.int g), .val (.ref b1), .val (.ref b6), .val (.ref bq11), .unset, .unset] [(.ref bq11)]) (fun t k => XS.aload X11.here hx rfl (hb hby at_72) rfl rfl k) ?_
  refine Go.of (mkF m 76 #[.val (.int p0), .val (.int p1), .val (.int p2), .val (.int p3), .val (.int p4), .val (.int f), .val (.int g), .val (.ref b1), .val (.ref b6), .val (.ref bq11), .unset, .unset] [(.ref b6), (.ref bq11)]) (fun t k => XS.aload X11.here hx rfl (hb hby at_74) rfl rfl k) ?_
  refine Go.of (mkF m 79 #[.val (.int p0), .val (.int p1), .val (.int p2), .val (.int p3), .val (.int p4), .val (.int f), .val (.int g), .val (.ref b1), .val (.ref b6), .val (.ref bq11), .unset, .unset] []) (fun t k => Jvm.RoadKit.acmp (g := (mkF m 76 #[.val (.int p0), .val (.int p1), .val (.int p2), .val (.int p3), .val (.int p4), .val (.int f), .val (.int g), .val (.ref b1), .val (.ref b6), .val (.ref bq11), .unset, .unset] [(.ref b6), (.ref bq11)])) X11 hx rfl (x := (.ref bq11)) (y := (.ref b6)) rfl rfl (pc0 := 76) (pc' := 79) (same := false) rfl (hb hby at_76) rfl (decide_eq_false fun q => (Ne.symm ne_b6_bq11) (Value.ref.inj q)) (by decide) (by decide) k) ?_
  refine Go.of (mkF m 81 #[.val (.int p0), .val (.int p1), .val (.int p2), .val (.int p3), .val (.int p4), .val (.int f), .val (.int g), .val (.ref b1), .val (.ref b6), .val (.ref bq11), .unset, .unset] [(.ref bq11)]) (fun t k => XS.aload X11.here hx rfl (hb hby at_79) rfl rfl k) ?_
  refine Go.arraylength X11 hx hZ rfl Vb11 (g := (mkF m 81 #[.val (.int p0), .val (.int p1), .val (.int p2), .val (.int p3), .val (.int p4), .val (.int f), .val (.int g), .val (.ref b1), .val (.ref b6), .val (.ref bq11), .unset, .unset] [(.ref bq11)])) rfl rfl (hb hby at_81) ?_
  show Go pr ev below _ T11 (mkF m 82 #[.val (.int p0), .val (.int p1), .val (.int p2), .val (.int p3), .val (.int p4), .val (.int f), .val (.int g), .val (.ref b1), .val (.ref b6), .val (.ref bq11), .unset, .unset] [(.int (4 : Int32))])
  refine Go.of (mkF m 83 #[.val (.int p0), .val (.int p1), .val (.int p2), .val (.int p3), .val (.int p4), .val (.int f), .val (.int g), .val (.ref b1), .val (.ref b6), .val (.ref bq11), .unset, .unset] [(.int (4 : Int32)), (.int (4 : Int32))]) (fun t k => XS.iconst X11.here hx rfl (hb hby at_82) k) ?_
  refine Go.of (mkF m 88 #[.val (.int p0), .val (.int p1), .val (.int p2), .val (.int p3), .val (.int p4), .val (.int f), .val (.int g), .val (.ref b1), .val (.ref b6), .val (.ref bq11), .unset, .unset] []) (fun t k => XS.icmpYes X11.here hx rfl (pc0 := 83) (pc' := 88) rfl (hb hby at_83) rfl (teq (by decide)).1 (by decide) (by decide) k) ?_
  refine Go.of (mkF m 90 #[.val (.int p0), .val (.int p1), .val (.int p2), .val (.int p3), .val (.int p4), .val (.int f), .val (.int g), .val (.ref b1), .val (.ref b6), .val (.ref bq11), .unset, .unset] [(.ref b6)]) (fun t k => XS.aload X11.here hx rfl (hb hby at_88) rfl rfl k) ?_
  refine Go.of (mkF m 91 #[.val (.int p0), .val (.int p1), .val (.int p2), .val (.int p3), .val (.int p4), .val (.int f), .val (.int g), .val (.ref b1), .val (.ref b6), .val (.ref bq11), .unset, .unset] [(.int (0 : Int32)), (.ref b6)]) (fun t k => XS.iconst X11.here hx rfl (hb hby at_90) k) ?_
  refine Go.iaload X11 hx hZ rfl V_b6 (by decide) (by decide) (g := (mkF m 91 #[.val (.int p0), .val (.int p1), .val (.int p2), .val (.int p3), .val (.int p4), .val (.int f), .val (.int g), .val (.ref b1), .val (.ref b6), .val (.ref bq11), .unset, .unset] [(.int (0 : Int32)), (.ref b6)])) rfl rfl (hb hby at_91) ?_
  show Go pr ev below _ T11 (mkF m 92 #[.val (.int p0), .val (.int p1), .val (.int p2), .val (.int p3), .val (.int p4), .val (.int f), .val (.int g), .val (.ref b1), .val (.ref b6), .val (.ref bq11), .unset, .unset] [(.int ((fnup (fnup (fnup (fnup (fun _ => (0 : Int32)) (0 : Int32) p0) (1 : Int32) p1) (2 : Int32) p2) (3 : Int32) p3) (0 : Int32)))])
  rw [show ((fnup (fnup (fnup (fnup (fun _ => (0 : Int32)) (0 : Int32) p0) (1 : Int32) p1) (2 : Int32) p2) (3 : Int32) p3) (0 : Int32)) = p0 from by simp [fnup]]
  show Go pr ev below _ T11 (mkF m 92 #[.val (.int p0), .val (.int p1), .val (.int p2), .val (.int p3), .val (.int p4), .val (.int f), .val (.int g), .val (.ref b1), .val (.ref b6), .val (.ref bq11), .unset, .unset] [(.int p0)])
  refine Go.of (mkF m 93 #[.val (.int p0), .val (.int p1), .val (.int p2), .val (.int p3), .val (.int p4), .val (.int f), .val (.int g), .val (.ref b1), .val (.ref b6), .val (.ref bq11), .unset, .unset] [(.int p0), (.int p0)]) (fun t k => XS.iloadN X11.here hx rfl (hb hby at_92) rfl k) ?_
  refine Go.of (mkF m 96 #[.val (.int p0), .val (.int p1), .val (.int p2), .val (.int p3), .val (.int p4), .val (.int f), .val (.int g), .val (.ref b1), .val (.ref b6), .val (.ref bq11), .unset, .unset] []) (fun t k => XS.icmpNo X11.here hx rfl (hb hby at_93) rfl (teq rfl).2 k) ?_
  refine Go.of (mkF m 98 #[.val (.int p0), .val (.int p1), .val (.int p2), .val (.int p3), .val (.int p4), .val (.int f), .val (.int g), .val (.ref b1), .val (.ref b6), .val (.ref bq11), .unset, .unset] [(.ref b6)]) (fun t k => XS.aload X11.here hx rfl (hb hby at_96) rfl rfl k) ?_
  refine Go.of (mkF m 99 #[.val (.int p0), .val (.int p1), .val (.int p2), .val (.int p3), .val (.int p4), .val (.int f), .val (.int g), .val (.ref b1), .val (.ref b6), .val (.ref bq11), .unset, .unset] [(.int (1 : Int32)), (.ref b6)]) (fun t k => XS.iconst X11.here hx rfl (hb hby at_98) k) ?_
  refine Go.iaload X11 hx hZ rfl V_b6 (by decide) (by decide) (g := (mkF m 99 #[.val (.int p0), .val (.int p1), .val (.int p2), .val (.int p3), .val (.int p4), .val (.int f), .val (.int g), .val (.ref b1), .val (.ref b6), .val (.ref bq11), .unset, .unset] [(.int (1 : Int32)), (.ref b6)])) rfl rfl (hb hby at_99) ?_
  show Go pr ev below _ T11 (mkF m 100 #[.val (.int p0), .val (.int p1), .val (.int p2), .val (.int p3), .val (.int p4), .val (.int f), .val (.int g), .val (.ref b1), .val (.ref b6), .val (.ref bq11), .unset, .unset] [(.int ((fnup (fnup (fnup (fnup (fun _ => (0 : Int32)) (0 : Int32) p0) (1 : Int32) p1) (2 : Int32) p2) (3 : Int32) p3) (1 : Int32)))])
  rw [show ((fnup (fnup (fnup (fnup (fun _ => (0 : Int32)) (0 : Int32) p0) (1 : Int32) p1) (2 : Int32) p2) (3 : Int32) p3) (1 : Int32)) = p1 from by simp [fnup]]
  show Go pr ev below _ T11 (mkF m 100 #[.val (.int p0), .val (.int p1), .val (.int p2), .val (.int p3), .val (.int p4), .val (.int f), .val (.int g), .val (.ref b1), .val (.ref b6), .val (.ref bq11), .unset, .unset] [(.int p1)])
  refine Go.of (mkF m 101 #[.val (.int p0), .val (.int p1), .val (.int p2), .val (.int p3), .val (.int p4), .val (.int f), .val (.int g), .val (.ref b1), .val (.ref b6), .val (.ref bq11), .unset, .unset] [(.int p1), (.int p1)]) (fun t k => XS.iloadN X11.here hx rfl (hb hby at_100) rfl k) ?_
  refine Go.of (mkF m 104 #[.val (.int p0), .val (.int p1), .val (.int p2), .val (.int p3), .val (.int p4), .val (.int f), .val (.int g), .val (.ref b1), .val (.ref b6), .val (.ref bq11), .unset, .unset] []) (fun t k => XS.icmpNo X11.here hx rfl (hb hby at_101) rfl (teq rfl).2 k) ?_
  refine Go.of (mkF m 106 #[.val (.int p0), .val (.int p1), .val (.int p2), .val (.int p3), .val (.int p4), .val (.int f), .val (.int g), .val (.ref b1), .val (.ref b6), .val (.ref bq11), .unset, .unset] [(.ref b6)]) (fun t k => XS.aload X11.here hx rfl (hb hby at_104) rfl rfl k) ?_
  refine Go.of (mkF m 107 #[.val (.int p0), .val (.int p1), .val (.int p2), .val (.int p3), .val (.int p4), .val (.int f), .val (.int g), .val (.ref b1), .val (.ref b6), .val (.ref bq11), .unset, .unset] [(.int (2 : Int32)), (.ref b6)]) (fun t k => XS.iconst X11.here hx rfl (hb hby at_106) k) ?_
  refine Go.iaload X11 hx hZ rfl V_b6 (by decide) (by decide) (g := (mkF m 107 #[.val (.int p0), .val (.int p1), .val (.int p2), .val (.int p3), .val (.int p4), .val (.int f), .val (.int g), .val (.ref b1), .val (.ref b6), .val (.ref bq11), .unset, .unset] [(.int (2 : Int32)), (.ref b6)])) rfl rfl (hb hby at_107) ?_
  show Go pr ev below _ T11 (mkF m 108 #[.val (.int p0), .val (.int p1), .val (.int p2), .val (.int p3), .val (.int p4), .val (.int f), .val (.int g), .val (.ref b1), .val (.ref b6), .val (.ref bq11), .unset, .unset] [(.int ((fnup (fnup (fnup (fnup (fun _ => (0 : Int32)) (0 : Int32) p0) (1 : Int32) p1) (2 : Int32) p2) (3 : Int32) p3) (2 : Int32)))])
  rw [show ((fnup (fnup (fnup (fnup (fun _ => (0 : Int32)) (0 : Int32) p0) (1 : Int32) p1) (2 : Int32) p2) (3 : Int32) p3) (2 : Int32)) = p2 from by simp [fnup]]
  show Go pr ev below _ T11 (mkF m 108 #[.val (.int p0), .val (.int p1), .val (.int p2), .val (.int p3), .val (.int p4), .val (.int f), .val (.int g), .val (.ref b1), .val (.ref b6), .val (.ref bq11), .unset, .unset] [(.int p2)])
  refine Go.of (mkF m 109 #[.val (.int p0), .val (.int p1), .val (.int p2), .val (.int p3), .val (.int p4), .val (.int f), .val (.int g), .val (.ref b1), .val (.ref b6), .val (.ref bq11), .unset, .unset] [(.int p2), (.int p2)]) (fun t k => XS.iloadN X11.here hx rfl (hb hby at_108) rfl k) ?_
  refine Go.of (mkF m 112 #[.val (.int p0), .val (.int p1), .val (.int p2), .val (.int p3), .val (.int p4), .val (.int f), .val (.int g), .val (.ref b1), .val (.ref b6), .val (.ref bq11), .unset, .unset] []) (fun t k => XS.icmpNo X11.here hx rfl (hb hby at_109) rfl (teq rfl).2 k) ?_
  refine Go.of (mkF m 114 #[.val (.int p0), .val (.int p1), .val (.int p2), .val (.int p3), .val (.int p4), .val (.int f), .val (.int g), .val (.ref b1), .val (.ref b6), .val (.ref bq11), .unset, .unset] [(.ref b6)]) (fun t k => XS.aload X11.here hx rfl (hb hby at_112) rfl rfl k) ?_
  refine Go.of (mkF m 115 #[.val (.int p0), .val (.int p1), .val (.int p2), .val (.int p3), .val (.int p4), .val (.int f), .val (.int g), .val (.ref b1), .val (.ref b6), .val (.ref bq11), .unset, .unset] [(.int (3 : Int32)), (.ref b6)]) (fun t k => XS.iconst X11.here hx rfl (hb hby at_114) k) ?_
  refine Go.iaload X11 hx hZ rfl V_b6 (by decide) (by decide) (g := (mkF m 115 #[.val (.int p0), .val (.int p1), .val (.int p2), .val (.int p3), .val (.int p4), .val (.int f), .val (.int g), .val (.ref b1), .val (.ref b6), .val (.ref bq11), .unset, .unset] [(.int (3 : Int32)), (.ref b6)])) rfl rfl (hb hby at_115) ?_
  show Go pr ev below _ T11 (mkF m 116 #[.val (.int p0), .val (.int p1), .val (.int p2), .val (.int p3), .val (.int p4), .val (.int f), .val (.int g), .val (.ref b1), .val (.ref b6), .val (.ref bq11), .unset, .unset] [(.int ((fnup (fnup (fnup (fnup (fun _ => (0 : Int32)) (0 : Int32) p0) (1 : Int32) p1) (2 : Int32) p2) (3 : Int32) p3) (3 : Int32)))])
  rw [show ((fnup (fnup (fnup (fnup (fun _ => (0 : Int32)) (0 : Int32) p0) (1 : Int32) p1) (2 : Int32) p2) (3 : Int32) p3) (3 : Int32)) = p3 from by simp [fnup]]
  show Go pr ev below _ T11 (mkF m 116 #[.val (.int p0), .val (.int p1), .val (.int p2), .val (.int p3), .val (.int p4), .val (.int f), .val (.int g), .val (.ref b1), .val (.ref b6), .val (.ref bq11), .unset, .unset] [(.int p3)])
  refine Go.of (mkF m 117 #[.val (.int p0), .val (.int p1), .val (.int p2), .val (.int p3), .val (.int p4), .val (.int f), .val (.int g), .val (.ref b1), .val (.ref b6), .val (.ref bq11), .unset, .unset] [(.int p3), (.int p3)]) (fun t k => XS.iloadN X11.here hx rfl (hb hby at_116) rfl k) ?_
  refine Go.of (mkF m 120 #[.val (.int p0), .val (.int p1), .val (.int p2), .val (.int p3), .val (.int p4), .val (.int f), .val (.int g), .val (.ref b1), .val (.ref b6), .val (.ref bq11), .unset, .unset] []) (fun t k => XS.icmpNo X11.here hx rfl (hb hby at_117) rfl (teq rfl).2 k) ?_
  refine Go.of (mkF m 121 #[.val (.int p0), .val (.int p1), .val (.int p2), .val (.int p3), .val (.int p4), .val (.int f), .val (.int g), .val (.ref b1), .val (.ref b6), .val (.ref bq11), .unset, .unset] [(.int (1 : Int32))]) (fun t k => XS.iconst X11.here hx rfl (hb hby at_120) k) ?_
  refine Go.of (mkF m 125 #[.val (.int p0), .val (.int p1), .val (.int p2), .val (.int p3), .val (.int p4), .val (.int f), .val (.int g), .val (.ref b1), .val (.ref b6), .val (.ref bq11), .unset, .unset] [(.int (1 : Int32))]) (fun t k => XS.goto X11.here hx rfl (pc0 := 121) (pc' := 125) rfl (hb hby at_121) (by decide) (by decide) k) ?_
  refine Go.of (mkF m 127 #[.val (.int p0), .val (.int p1), .val (.int p2), .val (.int p3), .val (.int p4), .val (.int f), .val (.int g), .val (.ref b1), .val (.ref b6), .val (.ref bq11), .val (.int (1 : Int32)), .unset] []) (fun t k => XS.istore X11.here hx rfl (hb hby at_125) rfl (l' := #[.val (.int p0), .val (.int p1), .val (.int p2), .val (.int p3), .val (.int p4), .val (.int f), .val (.int g), .val (.ref b1), .val (.ref b6), .val (.ref bq11), .val (.int (1 : Int32)), .unset]) rfl k) ?_
  refine Go.of (mkF m 129 #[.val (.int p0), .val (.int p1), .val (.int p2), .val (.int p3), .val (.int p4), .val (.int f), .val (.int g), .val (.ref b1), .val (.ref b6), .val (.ref bq11), .val (.int (1 : Int32)), .unset] [(.ref bq11)]) (fun t k => XS.aload X11.here hx rfl (hb hby at_127) rfl rfl k) ?_
  refine Go.of (mkF m 130 #[.val (.int p0), .val (.int p1), .val (.int p2), .val (.int p3), .val (.int p4), .val (.int f), .val (.int g), .val (.ref b1), .val (.ref b6), .val (.ref bq11), .val (.int (1 : Int32)), .unset] [(.int (0 : Int32)), (.ref bq11)]) (fun t k => XS.iconst X11.here hx rfl (hb hby at_129) k) ?_
  refine Go.iaload X11 hx hZ rfl Vb11 (by decide) (by decide) (g := (mkF m 130 #[.val (.int p0), .val (.int p1), .val (.int p2), .val (.int p3), .val (.int p4), .val (.int f), .val (.int g), .val (.ref b1), .val (.ref b6), .val (.ref bq11), .val (.int (1 : Int32)), .unset] [(.int (0 : Int32)), (.ref bq11)])) rfl rfl (hb hby at_130) ?_
  show Go pr ev below _ T11 (mkF m 131 #[.val (.int p0), .val (.int p1), .val (.int p2), .val (.int p3), .val (.int p4), .val (.int f), .val (.int g), .val (.ref b1), .val (.ref b6), .val (.ref bq11), .val (.int (1 : Int32)), .unset] [(.int ((fnup (fnup (fnup (fnup (fnup (fnup (fun _ => (0 : Int32)) (0 : Int32) p0) (1 : Int32) p1) (2 : Int32) p2) (3 : Int32) p3) f ((fnup (fnup (fnup (fnup (fun _ => (0 : Int32)) (0 : Int32) p0) (1 : Int32) p1) (2 : Int32) p2) (3 : Int32) p3) g)) g ((fnup (fnup (fnup (fnup (fun _ => (0 : Int32)) (0 : Int32) p0) (1 : Int32) p1) (2 : Int32) p2) (3 : Int32) p3) f)) (0 : Int32)))])
  refine Go.of (mkF m 133 #[.val (.int p0), .val (.int p1), .val (.int p2), .val (.int p3), .val (.int p4), .val (.int f), .val (.int g), .val (.ref b1), .val (.ref b6), .val (.ref bq11), .val (.int (1 : Int32)), .unset] [(.ref b1), (.int ((fnup (fnup (fnup (fnup (fnup (fnup (fun _ => (0 : Int32)) (0 : Int32) p0) (1 : Int32) p1) (2 : Int32) p2) (3 : Int32) p3) f ((fnup (fnup (fnup (fnup (fun _ => (0 : Int32)) (0 : Int32) p0) (1 : Int32) p1) (2 : Int32) p2) (3 : Int32) p3) g)) g ((fnup (fnup (fnup (fnup (fun _ => (0 : Int32)) (0 : Int32) p0) (1 : Int32) p1) (2 : Int32) p2) (3 : Int32) p3) f)) (0 : Int32)))]) (fun t k => XS.aload X11.here hx rfl (hb hby at_131) rfl rfl k) ?_
  refine Go.of (mkF m 135 #[.val (.int p0), .val (.int p1), .val (.int p2), .val (.int p3), .val (.int p4), .val (.int f), .val (.int g), .val (.ref b1), .val (.ref b6), .val (.ref bq11), .val (.int (1 : Int32)), .unset] [(.int f), (.ref b1), (.int ((fnup (fnup (fnup (fnup (fnup (fnup (fun _ => (0 : Int32)) (0 : Int32) p0) (1 : Int32) p1) (2 : Int32) p2) (3 : Int32) p3) f ((fnup (fnup (fnup (fnup (fun _ => (0 : Int32)) (0 : Int32) p0) (1 : Int32) p1) (2 : Int32) p2) (3 : Int32) p3) g)) g ((fnup (fnup (fnup (fnup (fun _ => (0 : Int32)) (0 : Int32) p0) (1 : Int32) p1) (2 : Int32) p2) (3 : Int32) p3) f)) (0 : Int32)))]) (fun t k => XS.iload X11.here hx rfl (hb hby at_133) rfl k) ?_
  refine Go.of (mkF m 137 #[.val (.int p0), .val (.int p1), .val (.int p2), .val (.int p3), .val (.int p4), .val (.int f), .val (.int g), .val (.ref b1), .val (.ref b6), .val (.ref bq11), .val (.int (1 : Int32)), .unset] [(.int g), (.int f), (.ref b1), (.int ((fnup (fnup (fnup (fnup (fnup (fnup (fun _ => (0 : Int32)) (0 : Int32) p0) (1 : Int32) p1) (2 : Int32) p2) (3 : Int32) p3) f ((fnup (fnup (fnup (fnup (fun _ => (0 : Int32)) (0 : Int32) p0) (1 : Int32) p1) (2 : Int32) p2) (3 : Int32) p3) g)) g ((fnup (fnup (fnup (fnup (fun _ => (0 : Int32)) (0 : Int32) p0) (1 : Int32) p1) (2 : Int32) p2) (3 : Int32) p3) f)) (0 : Int32)))]) (fun t k => XS.iload X11.here hx rfl (hb hby at_135) rfl k) ?_
  refine Go.of (mkF m 138 #[.val (.int p0), .val (.int p1), .val (.int p2), .val (.int p3), .val (.int p4), .val (.int f), .val (.int g), .val (.ref b1), .val (.ref b6), .val (.ref bq11), .val (.int (1 : Int32)), .unset] [(.int (0 : Int32)), (.int g), (.int f), (.ref b1), (.int ((fnup (fnup (fnup (fnup (fnup (fnup (fun _ => (0 : Int32)) (0 : Int32) p0) (1 : Int32) p1) (2 : Int32) p2) (3 : Int32) p3) f ((fnup (fnup (fnup (fnup (fun _ => (0 : Int32)) (0 : Int32) p0) (1 : Int32) p1) (2 : Int32) p2) (3 : Int32) p3) g)) g ((fnup (fnup (fnup (fnup (fun _ => (0 : Int32)) (0 : Int32) p0) (1 : Int32) p1) (2 : Int32) p2) (3 : Int32) p3) f)) (0 : Int32)))]) (fun t k => XS.iconst X11.here hx rfl (hb hby at_137) k) ?_
  refine Go.callS X11 hx hZ (y := (⟨"com/example/quench/quench/LocalSearchSwappedPinLaw", "expected", "([IIII)I"⟩ : MethodName)) (argsL := [(.ref b1), (.int f), (.int g), (.int (0 : Int32))]) (rest := [(.int ((fnup (fnup (fnup (fnup (fnup (fnup (fun _ => (0 : Int32)) (0 : Int32) p0) (1 : Int32) p1) (2 : Int32) p2) (3 : Int32) p3) f ((fnup (fnup (fnup (fnup (fun _ => (0 : Int32)) (0 : Int32) p0) (1 : Int32) p1) (2 : Int32) p2) (3 : Int32) p3) g)) g ((fnup (fnup (fnup (fnup (fun _ => (0 : Int32)) (0 : Int32) p0) (1 : Int32) p1) (2 : Int32) p2) (3 : Int32) p3) f)) (0 : Int32)))]) hown (tw14 hw) (tw15 hw) (tw16 hw) (tw17 hw) (by decide) rfl (rm2 l Z a0 hw [] b1 f g (0 : Int32) (fnup (fnup (fnup (fnup (fun _ => (0 : Int32)) (0 : Int32) p0) (1 : Int32) p1) (2 : Int32) p2) (3 : Int32) p3) T11.heap V_b1 hf.1 hf.2 hg.1 hg.2 (by decide) (by decide)) (g := (mkF m 138 #[.val (.int p0), .val (.int p1), .val (.int p2), .val (.int p3), .val (.int p4), .val (.int f), .val (.int g), .val (.ref b1), .val (.ref b6), .val (.ref bq11), .val (.int (1 : Int32)), .unset] [(.int (0 : Int32)), (.int g), (.int f), (.ref b1), (.int ((fnup (fnup (fnup (fnup (fnup (fnup (fun _ => (0 : Int32)) (0 : Int32) p0) (1 : Int32) p1) (2 : Int32) p2) (3 : Int32) p3) f ((fnup (fnup (fnup (fnup (fun _ => (0 : Int32)) (0 : Int32) p0) (1 : Int32) p1) (2 : Int32) p2) (3 : Int32) p3) g)) g ((fnup (fnup (fnup (fnup (fun _ => (0 : Int32)) (0 : Int32) p0) (1 : Int32) p1) (2 : Int32) p2) (3 : Int32) p3) f)) (0 : Int32)))])) rfl (by rw [hml]; rfl) (lenOf pd4 rfl) rfl (W := 1) (by show 2 * 0 + _ ≤ _; exact Nat.le_of_eq rfl) (hb hby at_138) (by decide) (by decide) (by decide) (by decide) ?_
  rintro T12 L12 v12 X12 ⟨rfl, rfl, hh12⟩
  have N12 := Fr.app N11 (Fr.nil n0)
  show Go pr ev below _ T12 (mkF m 141 #[.val (.int p0), .val (.int p1), .val (.int p2), .val (.int p3), .val (.int p4), .val (.int f), .val (.int g), .val (.ref b1), .val (.ref b6), .val (.ref bq11), .val (.int (1 : Int32)), .unset] [(.int (own_exp (fnup (fnup (fnup (fnup (fun _ => (0 : Int32)) (0 : Int32) p0) (1 : Int32) p1) (2 : Int32) p2) (3 : Int32) p3) f g (0 : Int32))), (.int ((fnup (fnup (fnup (fnup (fnup (fnup (fun _ => (0 : Int32)) (0 : Int32) p0) (1 : Int32) p1) (2 : Int32) p2) (3 : Int32) p3) f ((fnup (fnup (fnup (fnup (fun _ => (0 : Int32)) (0 : Int32) p0) (1 : Int32) p1) (2 : Int32) p2) (3 : Int32) p3) g)) g ((fnup (fnup (fnup (fnup (fun _ => (0 : Int32)) (0 : Int32) p0) (1 : Int32) p1) (2 : Int32) p2) (3 : Int32) p3) f)) (0 : Int32)))])
  refine Go.of (mkF m 144 #[.val (.int p0), .val (.int p1), .val (.int p2), .val (.int p3), .val (.int p4), .val (.int f), .val (.int g), .val (.ref b1), .val (.ref b6), .val (.ref bq11), .val (.int (1 : Int32)), .unset] []) (fun t k => XS.icmpNo X12.here hx rfl (hb hby at_141) rfl (teq (own_eq (fnup (fnup (fnup (fnup (fun _ => (0 : Int32)) (0 : Int32) p0) (1 : Int32) p1) (2 : Int32) p2) (3 : Int32) p3) f g (0 : Int32))).2 k) ?_
  refine Go.of (mkF m 146 #[.val (.int p0), .val (.int p1), .val (.int p2), .val (.int p3), .val (.int p4), .val (.int f), .val (.int g), .val (.ref b1), .val (.ref b6), .val (.ref bq11), .val (.int (1 : Int32)), .unset] [(.ref bq11)]) (fun t k => XS.aload X12.here hx rfl (hb hby at_144) rfl rfl k) ?_
  refine Go.of (mkF m 147 #[.val (.int p0), .val (.int p1), .val (.int p2), .val (.int p3), .val (.int p4), .val (.int f), .val (.int g), .val (.ref b1), .val (.ref b6), .val (.ref bq11), .val (.int (1 : Int32)), .unset] [(.int (1 : Int32)), (.ref bq11)]) (fun t k => XS.iconst X12.here hx rfl (hb hby at_146) k) ?_
  refine Go.iaload X12 hx hZ hh12 Vb11 (by decide) (by decide) (g := (mkF m 147 #[.val (.int p0), .val (.int p1), .val (.int p2), .val (.int p3), .val (.int p4), .val (.int f), .val (.int g), .val (.ref b1), .val (.ref b6), .val (.ref bq11), .val (.int (1 : Int32)), .unset] [(.int (1 : Int32)), (.ref bq11)])) rfl rfl (hb hby at_147) ?_
  show Go pr ev below _ T12 (mkF m 148 #[.val (.int p0), .val (.int p1), .val (.int p2), .val (.int p3), .val (.int p4), .val (.int f), .val (.int g), .val (.ref b1), .val (.ref b6), .val (.ref bq11), .val (.int (1 : Int32)), .unset] [(.int ((fnup (fnup (fnup (fnup (fnup (fnup (fun _ => (0 : Int32)) (0 : Int32) p0) (1 : Int32) p1) (2 : Int32) p2) (3 : Int32) p3) f ((fnup (fnup (fnup (fnup (fun _ => (0 : Int32)) (0 : Int32) p0) (1 : Int32) p1) (2 : Int32) p2) (3 : Int32) p3) g)) g ((fnup (fnup (fnup (fnup (fun _ => (0 : Int32)) (0 : Int32) p0) (1 : Int32) p1) (2 : Int32) p2) (3 : Int32) p3) f)) (1 : Int32)))])
  refine Go.of (mkF m 150 #[.val (.int p0), .val (.int p1), .val (.int p2), .val (.int p3), .val (.int p4), .val (.int f), .val (.int g), .val (.ref b1), .val (.ref b6), .val (.ref bq11), .val (.int (1 : Int32)), .unset] [(.ref b1), (.int ((fnup (fnup (fnup (fnup (fnup (fnup (fun _ => (0 : Int32)) (0 : Int32) p0) (1 : Int32) p1) (2 : Int32) p2) (3 : Int32) p3) f ((fnup (fnup (fnup (fnup (fun _ => (0 : Int32)) (0 : Int32) p0) (1 : Int32) p1) (2 : Int32) p2) (3 : Int32) p3) g)) g ((fnup (fnup (fnup (fnup (fun _ => (0 : Int32)) (0 : Int32) p0) (1 : Int32) p1) (2 : Int32) p2) (3 : Int32) p3) f)) (1 : Int32)))]) (fun t k => XS.aload X12.here hx rfl (hb hby at_148) rfl rfl k) ?_
  refine Go.of (mkF m 152 #[.val (.int p0), .val (.int p1), .val (.int p2), .val (.int p3), .val (.int p4), .val (.int f), .val (.int g), .val (.ref b1), .val (.ref b6), .val (.ref bq11), .val (.int (1 : Int32)), .unset] [(.int f), (.ref b1), (.int ((fnup (fnup (fnup (fnup (fnup (fnup (fun _ => (0 : Int32)) (0 : Int32) p0) (1 : Int32) p1) (2 : Int32) p2) (3 : Int32) p3) f ((fnup (fnup (fnup (fnup (fun _ => (0 : Int32)) (0 : Int32) p0) (1 : Int32) p1) (2 : Int32) p2) (3 : Int32) p3) g)) g ((fnup (fnup (fnup (fnup (fun _ => (0 : Int32)) (0 : Int32) p0) (1 : Int32) p1) (2 : Int32) p2) (3 : Int32) p3) f)) (1 : Int32)))]) (fun t k => XS.iload X12.here hx rfl (hb hby at_150) rfl k) ?_
  refine Go.of (mkF m 154 #[.val (.int p0), .val (.int p1), .val (.int p2), .val (.int p3), .val (.int p4), .val (.int f), .val (.int g), .val (.ref b1), .val (.ref b6), .val (.ref bq11), .val (.int (1 : Int32)), .unset] [(.int g), (.int f), (.ref b1), (.int ((fnup (fnup (fnup (fnup (fnup (fnup (fun _ => (0 : Int32)) (0 : Int32) p0) (1 : Int32) p1) (2 : Int32) p2) (3 : Int32) p3) f ((fnup (fnup (fnup (fnup (fun _ => (0 : Int32)) (0 : Int32) p0) (1 : Int32) p1) (2 : Int32) p2) (3 : Int32) p3) g)) g ((fnup (fnup (fnup (fnup (fun _ => (0 : Int32)) (0 : Int32) p0) (1 : Int32) p1) (2 : Int32) p2) (3 : Int32) p3) f)) (1 : Int32)))]) (fun t k => XS.iload X12.here hx rfl (hb hby at_152) rfl k) ?_
  refine Go.of (mkF m 155 #[.val (.int p0), .val (.int p1), .val (.int p2), .val (.int p3), .val (.int p4), .val (.int f), .val (.int g), .val (.ref b1), .val (.ref b6), .val (.ref bq11), .val (.int (1 : Int32)), .unset] [(.int (1 : Int32)), (.int g), (.int f), (.ref b1), (.int ((fnup (fnup (fnup (fnup (fnup (fnup (fun _ => (0 : Int32)) (0 : Int32) p0) (1 : Int32) p1) (2 : Int32) p2) (3 : Int32) p3) f ((fnup (fnup (fnup (fnup (fun _ => (0 : Int32)) (0 : Int32) p0) (1 : Int32) p1) (2 : Int32) p2) (3 : Int32) p3) g)) g ((fnup (fnup (fnup (fnup (fun _ => (0 : Int32)) (0 : Int32) p0) (1 : Int32) p1) (2 : Int32) p2) (3 : Int32) p3) f)) (1 : Int32)))]) (fun t k => XS.iconst X12.here hx rfl (hb hby at_154) k) ?_
  refine Go.callS X12 hx hZ (y := (⟨"com/example/quench/quench/LocalSearchSwappedPinLaw", "expected", "([IIII)I"⟩ : MethodName)) (argsL := [(.ref b1), (.int f), (.int g), (.int (1 : Int32))]) (rest := [(.int ((fnup (fnup (fnup (fnup (fnup (fnup (fun _ => (0 : Int32)) (0 : Int32) p0) (1 : Int32) p1) (2 : Int32) p2) (3 : Int32) p3) f ((fnup (fnup (fnup (fnup (fun _ => (0 : Int32)) (0 : Int32) p0) (1 : Int32) p1) (2 : Int32) p2) (3 : Int32) p3) g)) g ((fnup (fnup (fnup (fnup (fun _ => (0 : Int32)) (0 : Int32) p0) (1 : Int32) p1) (2 : Int32) p2) (3 : Int32) p3) f)) (1 : Int32)))]) hown (tw14 hw) (tw15 hw) (tw16 hw) (tw17 hw) (by decide) hh12 (rm2 l Z a0 hw [] b1 f g (1 : Int32) (fnup (fnup (fnup (fnup (fun _ => (0 : Int32)) (0 : Int32) p0) (1 : Int32) p1) (2 : Int32) p2) (3 : Int32) p3) T11.heap V_b1 hf.1 hf.2 hg.1 hg.2 (by decide) (by decide)) (g := (mkF m 155 #[.val (.int p0), .val (.int p1), .val (.int p2), .val (.int p3), .val (.int p4), .val (.int f), .val (.int g), .val (.ref b1), .val (.ref b6), .val (.ref bq11), .val (.int (1 : Int32)), .unset] [(.int (1 : Int32)), (.int g), (.int f), (.ref b1), (.int ((fnup (fnup (fnup (fnup (fnup (fnup (fun _ => (0 : Int32)) (0 : Int32) p0) (1 : Int32) p1) (2 : Int32) p2) (3 : Int32) p3) f ((fnup (fnup (fnup (fnup (fun _ => (0 : Int32)) (0 : Int32) p0) (1 : Int32) p1) (2 : Int32) p2) (3 : Int32) p3) g)) g ((fnup (fnup (fnup (fnup (fun _ => (0 : Int32)) (0 : Int32) p0) (1 : Int32) p1) (2 : Int32) p2) (3 : Int32) p3) f)) (1 : Int32)))])) rfl (by rw [hml]; rfl) (lenOf pd4 rfl) rfl (W := 1) (by show 2 * 0 + _ ≤ _; exact Nat.le_of_eq rfl) (hb hby at_155) (by decide) (by decide) (by decide) (by decide) ?_
  rintro T13 L13 v13 X13 ⟨rfl, rfl, hh13⟩
  have N13 := Fr.app N12 (Fr.nil n0)
  show Go pr ev below _ T13 (mkF m 158 #[.val (.int p0), .val (.int p1), .val (.int p2), .val (.int p3), .val (.int p4), .val (.int f), .val (.int g), .val (.ref b1), .val (.ref b6), .val (.ref bq11), .val (.int (1 : Int32)), .unset] [(.int (own_exp (fnup (fnup (fnup (fnup (fun _ => (0 : Int32)) (0 : Int32) p0) (1 : Int32) p1) (2 : Int32) p2) (3 : Int32) p3) f g (1 : Int32))), (.int ((fnup (fnup (fnup (fnup (fnup (fnup (fun _ => (0 : Int32)) (0 : Int32) p0) (1 : Int32) p1) (2 : Int32) p2) (3 : Int32) p3) f ((fnup (fnup (fnup (fnup (fun _ => (0 : Int32)) (0 : Int32) p0) (1 : Int32) p1) (2 : Int32) p2) (3 : Int32) p3) g)) g ((fnup (fnup (fnup (fnup (fun _ => (0 : Int32)) (0 : Int32) p0) (1 : Int32) p1) (2 : Int32) p2) (3 : Int32) p3) f)) (1 : Int32)))])
  refine Go.of (mkF m 161 #[.val (.int p0), .val (.int p1), .val (.int p2), .val (.int p3), .val (.int p4), .val (.int f), .val (.int g), .val (.ref b1), .val (.ref b6), .val (.ref bq11), .val (.int (1 : Int32)), .unset] []) (fun t k => XS.icmpNo X13.here hx rfl (hb hby at_158) rfl (teq (own_eq (fnup (fnup (fnup (fnup (fun _ => (0 : Int32)) (0 : Int32) p0) (1 : Int32) p1) (2 : Int32) p2) (3 : Int32) p3) f g (1 : Int32))).2 k) ?_
  refine Go.of (mkF m 163 #[.val (.int p0), .val (.int p1), .val (.int p2), .val (.int p3), .val (.int p4), .val (.int f), .val (.int g), .val (.ref b1), .val (.ref b6), .val (.ref bq11), .val (.int (1 : Int32)), .unset] [(.ref bq11)]) (fun t k => XS.aload X13.here hx rfl (hb hby at_161) rfl rfl k) ?_
  refine Go.of (mkF m 164 #[.val (.int p0), .val (.int p1), .val (.int p2), .val (.int p3), .val (.int p4), .val (.int f), .val (.int g), .val (.ref b1), .val (.ref b6), .val (.ref bq11), .val (.int (1 : Int32)), .unset] [(.int (2 : Int32)), (.ref bq11)]) (fun t k => XS.iconst X13.here hx rfl (hb hby at_163) k) ?_
  refine Go.iaload X13 hx hZ hh13 Vb11 (by decide) (by decide) (g := (mkF m 164 #[.val (.int p0), .val (.int p1), .val (.int p2), .val (.int p3), .val (.int p4), .val (.int f), .val (.int g), .val (.ref b1), .val (.ref b6), .val (.ref bq11), .val (.int (1 : Int32)), .unset] [(.int (2 : Int32)), (.ref bq11)])) rfl rfl (hb hby at_164) ?_
  show Go pr ev below _ T13 (mkF m 165 #[.val (.int p0), .val (.int p1), .val (.int p2), .val (.int p3), .val (.int p4), .val (.int f), .val (.int g), .val (.ref b1), .val (.ref b6), .val (.ref bq11), .val (.int (1 : Int32)), .unset] [(.int ((fnup (fnup (fnup (fnup (fnup (fnup (fun _ => (0 : Int32)) (0 : Int32) p0) (1 : Int32) p1) (2 : Int32) p2) (3 : Int32) p3) f ((fnup (fnup (fnup (fnup (fun _ => (0 : Int32)) (0 : Int32) p0) (1 : Int32) p1) (2 : Int32) p2) (3 : Int32) p3) g)) g ((fnup (fnup (fnup (fnup (fun _ => (0 : Int32)) (0 : Int32) p0) (1 : Int32) p1) (2 : Int32) p2) (3 : Int32) p3) f)) (2 : Int32)))])
  refine Go.of (mkF m 167 #[.val (.int p0), .val (.int p1), .val (.int p2), .val (.int p3), .val (.int p4), .val (.int f), .val (.int g), .val (.ref b1), .val (.ref b6), .val (.ref bq11), .val (.int (1 : Int32)), .unset] [(.ref b1), (.int ((fnup (fnup (fnup (fnup (fnup (fnup (fun _ => (0 : Int32)) (0 : Int32) p0) (1 : Int32) p1) (2 : Int32) p2) (3 : Int32) p3) f ((fnup (fnup (fnup (fnup (fun _ => (0 : Int32)) (0 : Int32) p0) (1 : Int32) p1) (2 : Int32) p2) (3 : Int32) p3) g)) g ((fnup (fnup (fnup (fnup (fun _ => (0 : Int32)) (0 : Int32) p0) (1 : Int32) p1) (2 : Int32) p2) (3 : Int32) p3) f)) (2 : Int32)))]) (fun t k => XS.aload X13.here hx rfl (hb hby at_165) rfl rfl k) ?_
  refine Go.of (mkF m 169 #[.val (.int p0), .val (.int p1), .val (.int p2), .val (.int p3), .val (.int p4), .val (.int f), .val (.int g), .val (.ref b1), .val (.ref b6), .val (.ref bq11), .val (.int (1 : Int32)), .unset] [(.int f), (.ref b1), (.int ((fnup (fnup (fnup (fnup (fnup (fnup (fun _ => (0 : Int32)) (0 : Int32) p0) (1 : Int32) p1) (2 : Int32) p2) (3 : Int32) p3) f ((fnup (fnup (fnup (fnup (fun _ => (0 : Int32)) (0 : Int32) p0) (1 : Int32) p1) (2 : Int32) p2) (3 : Int32) p3) g)) g ((fnup (fnup (fnup (fnup (fun _ => (0 : Int32)) (0 : Int32) p0) (1 : Int32) p1) (2 : Int32) p2) (3 : Int32) p3) f)) (2 : Int32)))]) (fun t k => XS.iload X13.here hx rfl (hb hby at_167) rfl k) ?_
  refine Go.of (mkF m 171 #[.val (.int p0), .val (.int p1), .val (.int p2), .val (.int p3), .val (.int p4), .val (.int f), .val (.int g), .val (.ref b1), .val (.ref b6), .val (.ref bq11), .val (.int (1 : Int32)), .unset] [(.int g), (.int f), (.ref b1), (.int ((fnup (fnup (fnup (fnup (fnup (fnup (fun _ => (0 : Int32)) (0 : Int32) p0) (1 : Int32) p1) (2 : Int32) p2) (3 : Int32) p3) f ((fnup (fnup (fnup (fnup (fun _ => (0 : Int32)) (0 : Int32) p0) (1 : Int32) p1) (2 : Int32) p2) (3 : Int32) p3) g)) g ((fnup (fnup (fnup (fnup (fun _ => (0 : Int32)) (0 : Int32) p0) (1 : Int32) p1) (2 : Int32) p2) (3 : Int32) p3) f)) (2 : Int32)))]) (fun t k => XS.iload X13.here hx rfl (hb hby at_169) rfl k) ?_
  refine Go.of (mkF m 172 #[.val (.int p0), .val (.int p1), .val (.int p2), .val (.int p3), .val (.int p4), .val (.int f), .val (.int g), .val (.ref b1), .val (.ref b6), .val (.ref bq11), .val (.int (1 : Int32)), .unset] [(.int (2 : Int32)), (.int g), (.int f), (.ref b1), (.int ((fnup (fnup (fnup (fnup (fnup (fnup (fun _ => (0 : Int32)) (0 : Int32) p0) (1 : Int32) p1) (2 : Int32) p2) (3 : Int32) p3) f ((fnup (fnup (fnup (fnup (fun _ => (0 : Int32)) (0 : Int32) p0) (1 : Int32) p1) (2 : Int32) p2) (3 : Int32) p3) g)) g ((fnup (fnup (fnup (fnup (fun _ => (0 : Int32)) (0 : Int32) p0) (1 : Int32) p1) (2 : Int32) p2) (3 : Int32) p3) f)) (2 : Int32)))]) (fun t k => XS.iconst X13.here hx rfl (hb hby at_171) k) ?_
  refine Go.callS X13 hx hZ (y := (⟨"com/example/quench/quench/LocalSearchSwappedPinLaw", "expected", "([IIII)I"⟩ : MethodName)) (argsL := [(.ref b1), (.int f), (.int g), (.int (2 : Int32))]) (rest := [(.int ((fnup (fnup (fnup (fnup (fnup (fnup (fun _ => (0 : Int32)) (0 : Int32) p0) (1 : Int32) p1) (2 : Int32) p2) (3 : Int32) p3) f ((fnup (fnup (fnup (fnup (fun _ => (0 : Int32)) (0 : Int32) p0) (1 : Int32) p1) (2 : Int32) p2) (3 : Int32) p3) g)) g ((fnup (fnup (fnup (fnup (fun _ => (0 : Int32)) (0 : Int32) p0) (1 : Int32) p1) (2 : Int32) p2) (3 : Int32) p3) f)) (2 : Int32)))]) hown (tw14 hw) (tw15 hw) (tw16 hw) (tw17 hw) (by decide) hh13 (rm2 l Z a0 hw [] b1 f g (2 : Int32) (fnup (fnup (fnup (fnup (fun _ => (0 : Int32)) (0 : Int32) p0) (1 : Int32) p1) (2 : Int32) p2) (3 : Int32) p3) T11.heap V_b1 hf.1 hf.2 hg.1 hg.2 (by decide) (by decide)) (g := (mkF m 172 #[.val (.int p0), .val (.int p1), .val (.int p2), .val (.int p3), .val (.int p4), .val (.int f), .val (.int g), .val (.ref b1), .val (.ref b6), .val (.ref bq11), .val (.int (1 : Int32)), .unset] [(.int (2 : Int32)), (.int g), (.int f), (.ref b1), (.int ((fnup (fnup (fnup (fnup (fnup (fnup (fun _ => (0 : Int32)) (0 : Int32) p0) (1 : Int32) p1) (2 : Int32) p2) (3 : Int32) p3) f ((fnup (fnup (fnup (fnup (fun _ => (0 : Int32)) (0 : Int32) p0) (1 : Int32) p1) (2 : Int32) p2) (3 : Int32) p3) g)) g ((fnup (fnup (fnup (fnup (fun _ => (0 : Int32)) (0 : Int32) p0) (1 : Int32) p1) (2 : Int32) p2) (3 : Int32) p3) f)) (2 : Int32)))])) rfl (by rw [hml]; rfl) (lenOf pd4 rfl) rfl (W := 1) (by show 2 * 0 + _ ≤ _; exact Nat.le_of_eq rfl) (hb hby at_172) (by decide) (by decide) (by decide) (by decide) ?_
  rintro T14 L14 v14 X14 ⟨rfl, rfl, hh14⟩
  have N14 := Fr.app N13 (Fr.nil n0)
  show Go pr ev below _ T14 (mkF m 175 #[.val (.int p0), .val (.int p1), .val (.int p2), .val (.int p3), .val (.int p4), .val (.int f), .val (.int g), .val (.ref b1), .val (.ref b6), .val (.ref bq11), .val (.int (1 : Int32)), .unset] [(.int (own_exp (fnup (fnup (fnup (fnup (fun _ => (0 : Int32)) (0 : Int32) p0) (1 : Int32) p1) (2 : Int32) p2) (3 : Int32) p3) f g (2 : Int32))), (.int ((fnup (fnup (fnup (fnup (fnup (fnup (fun _ => (0 : Int32)) (0 : Int32) p0) (1 : Int32) p1) (2 : Int32) p2) (3 : Int32) p3) f ((fnup (fnup (fnup (fnup (fun _ => (0 : Int32)) (0 : Int32) p0) (1 : Int32) p1) (2 : Int32) p2) (3 : Int32) p3) g)) g ((fnup (fnup (fnup (fnup (fun _ => (0 : Int32)) (0 : Int32) p0) (1 : Int32) p1) (2 : Int32) p2) (3 : Int32) p3) f)) (2 : Int32)))])
  refine Go.of (mkF m 178 #[.val (.int p0), .val (.int p1), .val (.int p2), .val (.int p3), .val (.int p4), .val (.int f), .val (.int g), .val (.ref b1), .val (.ref b6), .val (.ref bq11), .val (.int (1 : Int32)), .unset] []) (fun t k => XS.icmpNo X14.here hx rfl (hb hby at_175) rfl (teq (own_eq (fnup (fnup (fnup (fnup (fun _ => (0 : Int32)) (0 : Int32) p0) (1 : Int32) p1) (2 : Int32) p2) (3 : Int32) p3) f g (2 : Int32))).2 k) ?_
  refine Go.of (mkF m 180 #[.val (.int p0), .val (.int p1), .val (.int p2), .val (.int p3), .val (.int p4), .val (.int f), .val (.int g), .val (.ref b1), .val (.ref b6), .val (.ref bq11), .val (.int (1 : Int32)), .unset] [(.ref bq11)]) (fun t k => XS.aload X14.here hx rfl (hb hby at_178) rfl rfl k) ?_
  refine Go.of (mkF m 181 #[.val (.int p0), .val (.int p1), .val (.int p2), .val (.int p3), .val (.int p4), .val (.int f), .val (.int g), .val (.ref b1), .val (.ref b6), .val (.ref bq11), .val (.int (1 : Int32)), .unset] [(.int (3 : Int32)), (.ref bq11)]) (fun t k => XS.iconst X14.here hx rfl (hb hby at_180) k) ?_
  refine Go.iaload X14 hx hZ hh14 Vb11 (by decide) (by decide) (g := (mkF m 181 #[.val (.int p0), .val (.int p1), .val (.int p2), .val (.int p3), .val (.int p4), .val (.int f), .val (.int g), .val (.ref b1), .val (.ref b6), .val (.ref bq11), .val (.int (1 : Int32)), .unset] [(.int (3 : Int32)), (.ref bq11)])) rfl rfl (hb hby at_181) ?_
  show Go pr ev below _ T14 (mkF m 182 #[.val (.int p0), .val (.int p1), .val (.int p2), .val (.int p3), .val (.int p4), .val (.int f), .val (.int g), .val (.ref b1), .val (.ref b6), .val (.ref bq11), .val (.int (1 : Int32)), .unset] [(.int ((fnup (fnup (fnup (fnup (fnup (fnup (fun _ => (0 : Int32)) (0 : Int32) p0) (1 : Int32) p1) (2 : Int32) p2) (3 : Int32) p3) f ((fnup (fnup (fnup (fnup (fun _ => (0 : Int32)) (0 : Int32) p0) (1 : Int32) p1) (2 : Int32) p2) (3 : Int32) p3) g)) g ((fnup (fnup (fnup (fnup (fun _ => (0 : Int32)) (0 : Int32) p0) (1 : Int32) p1) (2 : Int32) p2) (3 : Int32) p3) f)) (3 : Int32)))])
  refine Go.of (mkF m 184 #[.val (.int p0), .val (.int p1), .val (.int p2), .val (.int p3), .val (.int p4), .val (.int f), .val (.int g), .val (.ref b1), .val (.ref b6), .val (.ref bq11), .val (.int (1 : Int32)), .unset] [(.ref b1), (.int ((fnup (fnup (fnup (fnup (fnup (fnup (fun _ => (0 : Int32)) (0 : Int32) p0) (1 : Int32) p1) (2 : Int32) p2) (3 : Int32) p3) f ((fnup (fnup (fnup (fnup (fun _ => (0 : Int32)) (0 : Int32) p0) (1 : Int32) p1) (2 : Int32) p2) (3 : Int32) p3) g)) g ((fnup (fnup (fnup (fnup (fun _ => (0 : Int32)) (0 : Int32) p0) (1 : Int32) p1) (2 : Int32) p2) (3 : Int32) p3) f)) (3 : Int32)))]) (fun t k => XS.aload X14.here hx rfl (hb hby at_182) rfl rfl k) ?_
  refine Go.of (mkF m 186 #[.val (.int p0), .val (.int p1), .val (.int p2), .val (.int p3), .val (.int p4), .val (.int f), .val (.int g), .val (.ref b1), .val (.ref b6), .val (.ref bq11), .val (.int (1 : Int32)), .unset] [(.int f), (.ref b1), (.int ((fnup (fnup (fnup (fnup (fnup (fnup (fun _ => (0 : Int32)) (0 : Int32) p0) (1 : Int32) p1) (2 : Int32) p2) (3 : Int32) p3) f ((fnup (fnup (fnup (fnup (fun _ => (0 : Int32)) (0 : Int32) p0) (1 : Int32) p1) (2 : Int32) p2) (3 : Int32) p3) g)) g ((fnup (fnup (fnup (fnup (fun _ => (0 : Int32)) (0 : Int32) p0) (1 : Int32) p1) (2 : Int32) p2) (3 : Int32) p3) f)) (3 : Int32)))]) (fun t k => XS.iload X14.here hx rfl (hb hby at_184) rfl k) ?_
  refine Go.of (mkF m 188 #[.val (.int p0), .val (.int p1), .val (.int p2), .val (.int p3), .val (.int p4), .val (.int f), .val (.int g), .val (.ref b1), .val (.ref b6), .val (.ref bq11), .val (.int (1 : Int32)), .unset] [(.int g), (.int f), (.ref b1), (.int ((fnup (fnup (fnup (fnup (fnup (fnup (fun _ => (0 : Int32)) (0 : Int32) p0) (1 : Int32) p1) (2 : Int32) p2) (3 : Int32) p3) f ((fnup (fnup (fnup (fnup (fun _ => (0 : Int32)) (0 : Int32) p0) (1 : Int32) p1) (2 : Int32) p2) (3 : Int32) p3) g)) g ((fnup (fnup (fnup (fnup (fun _ => (0 : Int32)) (0 : Int32) p0) (1 : Int32) p1) (2 : Int32) p2) (3 : Int32) p3) f)) (3 : Int32)))]) (fun t k => XS.iload X14.here hx rfl (hb hby at_186) rfl k) ?_
  refine Go.of (mkF m 189 #[.val (.int p0), .val (.int p1), .val (.int p2), .val (.int p3), .val (.int p4), .val (.int f), .val (.int g), .val (.ref b1), .val (.ref b6), .val (.ref bq11), .val (.int (1 : Int32)), .unset] [(.int (3 : Int32)), (.int g), (.int f), (.ref b1), (.int ((fnup (fnup (fnup (fnup (fnup (fnup (fun _ => (0 : Int32)) (0 : Int32) p0) (1 : Int32) p1) (2 : Int32) p2) (3 : Int32) p3) f ((fnup (fnup (fnup (fnup (fun _ => (0 : Int32)) (0 : Int32) p0) (1 : Int32) p1) (2 : Int32) p2) (3 : Int32) p3) g)) g ((fnup (fnup (fnup (fnup (fun _ => (0 : Int32)) (0 : Int32) p0) (1 : Int32) p1) (2 : Int32) p2) (3 : Int32) p3) f)) (3 : Int32)))]) (fun t k => XS.iconst X14.here hx rfl (hb hby at_188) k) ?_
  refine Go.callS X14 hx hZ (y := (⟨"com/example/quench/quench/LocalSearchSwappedPinLaw", "expected", "([IIII)I"⟩ : MethodName)) (argsL := [(.ref b1), (.int f), (.int g), (.int (3 : Int32))]) (rest := [(.int ((fnup (fnup (fnup (fnup (fnup (fnup (fun _ => (0 : Int32)) (0 : Int32) p0) (1 : Int32) p1) (2 : Int32) p2) (3 : Int32) p3) f ((fnup (fnup (fnup (fnup (fun _ => (0 : Int32)) (0 : Int32) p0) (1 : Int32) p1) (2 : Int32) p2) (3 : Int32) p3) g)) g ((fnup (fnup (fnup (fnup (fun _ => (0 : Int32)) (0 : Int32) p0) (1 : Int32) p1) (2 : Int32) p2) (3 : Int32) p3) f)) (3 : Int32)))]) hown (tw14 hw) (tw15 hw) (tw16 hw) (tw17 hw) (by decide) hh14 (rm2 l Z a0 hw [] b1 f g (3 : Int32) (fnup (fnup (fnup (fnup (fun _ => (0 : Int32)) (0 : Int32) p0) (1 : Int32) p1) (2 : Int32) p2) (3 : Int32) p3) T11.heap V_b1 hf.1 hf.2 hg.1 hg.2 (by decide) (by decide)) (g := (mkF m 189 #[.val (.int p0), .val (.int p1), .val (.int p2), .val (.int p3), .val (.int p4), .val (.int f), .val (.int g), .val (.ref b1), .val (.ref b6), .val (.ref bq11), .val (.int (1 : Int32)), .unset] [(.int (3 : Int32)), (.int g), (.int f), (.ref b1), (.int ((fnup (fnup (fnup (fnup (fnup (fnup (fun _ => (0 : Int32)) (0 : Int32) p0) (1 : Int32) p1) (2 : Int32) p2) (3 : Int32) p3) f ((fnup (fnup (fnup (fnup (fun _ => (0 : Int32)) (0 : Int32) p0) (1 : Int32) p1) (2 : Int32) p2) (3 : Int32) p3) g)) g ((fnup (fnup (fnup (fnup (fun _ => (0 : Int32)) (0 : Int32) p0) (1 : Int32) p1) (2 : Int32) p2) (3 : Int32) p3) f)) (3 : Int32)))])) rfl (by rw [hml]; rfl) (lenOf pd4 rfl) rfl (W := 1) (by show 2 * 0 + _ ≤ _; exact Nat.le_of_eq rfl) (hb hby at_189) (by decide) (by decide) (by decide) (by decide) ?_
  rintro T15 L15 v15 X15 ⟨rfl, rfl, hh15⟩
  have N15 := Fr.app N14 (Fr.nil n0)
  show Go pr ev below _ T15 (mkF m 192 #[.val (.int p0), .val (.int p1), .val (.int p2), .val (.int p3), .val (.int p4), .val (.int f), .val (.int g), .val (.ref b1), .val (.ref b6), .val (.ref bq11), .val (.int (1 : Int32)), .unset] [(.int (own_exp (fnup (fnup (fnup (fnup (fun _ => (0 : Int32)) (0 : Int32) p0) (1 : Int32) p1) (2 : Int32) p2) (3 : Int32) p3) f g (3 : Int32))), (.int ((fnup (fnup (fnup (fnup (fnup (fnup (fun _ => (0 : Int32)) (0 : Int32) p0) (1 : Int32) p1) (2 : Int32) p2) (3 : Int32) p3) f ((fnup (fnup (fnup (fnup (fun _ => (0 : Int32)) (0 : Int32) p0) (1 : Int32) p1) (2 : Int32) p2) (3 : Int32) p3) g)) g ((fnup (fnup (fnup (fnup (fun _ => (0 : Int32)) (0 : Int32) p0) (1 : Int32) p1) (2 : Int32) p2) (3 : Int32) p3) f)) (3 : Int32)))])
  refine Go.of (mkF m 195 #[.val (.int p0), .val (.int p1), .val (.int p2), .val (.int p3), .val (.int p4), .val (.int f), .val (.int g), .val (.ref b1), .val (.ref b6), .val (.ref bq11), .val (.int (1 : Int32)), .unset] []) (fun t k => XS.icmpNo X15.here hx rfl (hb hby at_192) rfl (teq (own_eq (fnup (fnup (fnup (fnup (fun _ => (0 : Int32)) (0 : Int32) p0) (1 : Int32) p1) (2 : Int32) p2) (3 : Int32) p3) f g (3 : Int32))).2 k) ?_
  refine Go.of (mkF m 196 #[.val (.int p0), .val (.int p1), .val (.int p2), .val (.int p3), .val (.int p4), .val (.int f), .val (.int g), .val (.ref b1), .val (.ref b6), .val (.ref bq11), .val (.int (1 : Int32)), .unset] [(.int (1 : Int32))]) (fun t k => XS.iconst X15.here hx rfl (hb hby at_195) k) ?_
  refine Go.of (mkF m 200 #[.val (.int p0), .val (.int p1), .val (.int p2), .val (.int p3), .val (.int p4), .val (.int f), .val (.int g), .val (.ref b1), .val (.ref b6), .val (.ref bq11), .val (.int (1 : Int32)), .unset] [(.int (1 : Int32))]) (fun t k => XS.goto X15.here hx rfl (pc0 := 196) (pc' := 200) rfl (hb hby at_196) (by decide) (by decide) k) ?_
  refine Go.of (mkF m 202 #[.val (.int p0), .val (.int p1), .val (.int p2), .val (.int p3), .val (.int p4), .val (.int f), .val (.int g), .val (.ref b1), .val (.ref b6), .val (.ref bq11), .val (.int (1 : Int32)), .val (.int (1 : Int32))] []) (fun t k => XS.istore X15.here hx rfl (hb hby at_200) rfl (l' := #[.val (.int p0), .val (.int p1), .val (.int p2), .val (.int p3), .val (.int p4), .val (.int f), .val (.int g), .val (.ref b1), .val (.ref b6), .val (.ref bq11), .val (.int (1 : Int32)), .val (.int (1 : Int32))]) rfl k) ?_
  refine Go.of (mkF m 204 #[.val (.int p0), .val (.int p1), .val (.int p2), .val (.int p3), .val (.int p4), .val (.int f), .val (.int g), .val (.ref b1), .val (.ref b6), .val (.ref bq11), .val (.int (1 : Int32)), .val (.int (1 : Int32))] [(.int (1 : Int32))]) (fun t k => XS.iload X15.here hx rfl (hb hby at_202) rfl k) ?_
  refine Go.of (mkF m 207 #[.val (.int p0), .val (.int p1), .val (.int p2), .val (.int p3), .val (.int p4), .val (.int f), .val (.int g), .val (.ref b1), .val (.ref b6), .val (.ref bq11), .val (.int (1 : Int32)), .val (.int (1 : Int32))] []) (fun t k => XS.ifNo X15.here hx rfl (hb hby at_204) rfl ((if0 _ _).trans (feq (by decide)).1) k) ?_
  refine Go.of (mkF m 209 #[.val (.int p0), .val (.int p1), .val (.int p2), .val (.int p3), .val (.int p4), .val (.int f), .val (.int g), .val (.ref b1), .val (.ref b6), .val (.ref bq11), .val (.int (1 : Int32)), .val (.int (1 : Int32))] [(.int (1 : Int32))]) (fun t k => XS.iload X15.here hx rfl (hb hby at_207) rfl k) ?_
  refine Go.of (mkF m 212 #[.val (.int p0), .val (.int p1), .val (.int p2), .val (.int p3), .val (.int p4), .val (.int f), .val (.int g), .val (.ref b1), .val (.ref b6), .val (.ref bq11), .val (.int (1 : Int32)), .val (.int (1 : Int32))] []) (fun t k => XS.ifNo X15.here hx rfl (hb hby at_209) rfl ((if0 _ _).trans (feq (by decide)).1) k) ?_
  refine Go.of (mkF m 213 #[.val (.int p0), .val (.int p1), .val (.int p2), .val (.int p3), .val (.int p4), .val (.int f), .val (.int g), .val (.ref b1), .val (.ref b6), .val (.ref bq11), .val (.int (1 : Int32)), .val (.int (1 : Int32))] [(.int (1 : Int32))]) (fun t k => XS.iconst X15.here hx rfl (hb hby at_212) k) ?_
  refine Go.of (mkF m 217 #[.val (.int p0), .val (.int p1), .val (.int p2), .val (.int p3), .val (.int p4), .val (.int f), .val (.int g), .val (.ref b1), .val (.ref b6), .val (.ref bq11), .val (.int (1 : Int32)), .val (.int (1 : Int32))] [(.int (1 : Int32))]) (fun t k => XS.goto X15.here hx rfl (pc0 := 213) (pc' := 217) rfl (hb hby at_213) (by decide) (by decide) k) ?_
  exact Go.retW X15 hx (t := .boolean) hret hlk rfl (Or.inl ⟨rfl, by simp, _, rfl⟩) (hb hby at_217) (by decide) (by decide) ⟨rfl, N15⟩
set_option maxRecDepth 65536 in
set_option maxHeartbeats 40000000 in
theorem comes_1 {Post : Tables → Env → Array Value → State → Outcome → State → Prop} (hpost : ∀ tb e args s v u, (limb_1_1.after args s (.returned v) u = true ∧ limb_1_2.after args s (.returned v) u = true ∧ True) → FrameEnd s (.returned v) u (Jvm.fieldLocs frame_1_writes args s ++ Jvm.arrayLocs frame_1_arrays args s ++ Jvm.staticLocs frame_1_statics s) 16 128 → Post tb e args s (.returned v) u) :
    ArmFor flags0 classFile x code maxLocals ret World_1 tables_1 room_1 Calls_1 rest_1 Pre_1 Post := by
  intro l hfl _ _ p e ha hc hk s m args below hf hA hF happ hP
  obtain ⟨hcalls, hrest, hpre⟩ := hP
  obtain ⟨-, -, -, hnamed, -, -, -, hat⟩ := (Spec.applies_iff hf).mp happ
  obtain ⟨hg, hn⟩ := and_e (Cond.before_iff.mp (show (Jvm.Cond.and given_1 narrow_1).before args s = true from hpre))
  obtain ⟨gc, gr⟩ := and_e hg
  obtain ⟨gi0, gr⟩ := and_e gr
  obtain ⟨gi1, gr⟩ := and_e gr
  obtain ⟨gi2, gr⟩ := and_e gr
  obtain ⟨gi3, gr⟩ := and_e gr
  have gi4 := gr
  obtain ⟨w0, w1, w2, w3, w4, rfl⟩ : ∃ w0 w1 w2 w3 w4 : Value, args = #[w0, w1, w2, w3, w4] := by
    have hs : args.size = 5 := by simpa [Cond.value, given_1] using gc
    obtain ⟨L⟩ := args
    match L, hs with
    | [w0, w1, w2, w3, w4], _ => exact ⟨w0, w1, w2, w3, w4, rfl⟩
  have hw := fun d (hd : d ∈ tables_1) => atoms_spec (ws := Jvm.Cond.code x code maxLocals ret :: tables_1) hat d (List.mem_cons_of_mem _ hd)
  have hfit : Fit s := fun {y c} hc i hi => by
    obtain ⟨ha, rfl⟩ := Array.getElem?_eq_some_iff.mp hc
    have q := List.all_eq_true.mp ((Array.all_eq_true_iff_forall_mem.mp hF) _ (Array.getElem_mem ha)) i (List.mem_range.mpr hi)
    simpa [Array.getElem?_eq_getElem hi] using q
  obtain ⟨i0, ei0⟩ := is_v gi0
  obtain rfl : w0 = (.int i0) := Option.some.inj ei0
  obtain ⟨i1, ei1⟩ := is_v gi1
  obtain rfl : w1 = (.int i1) := Option.some.inj ei1
  obtain ⟨i2, ei2⟩ := is_v gi2
  obtain rfl : w2 = (.int i2) := Option.some.inj ei2
  obtain ⟨i3, ei3⟩ := is_v gi3
  obtain rfl : w3 = (.int i3) := Option.some.inj ei3
  obtain ⟨i4, ei4⟩ := is_v gi4
  obtain rfl : w4 = (.int i4) := Option.some.inj ei4
  obtain ⟨n, o, h1, h2, h3, _, L, rfl, ⟨rfl, N⟩, hq⟩ := rm0 l s _ hw tables_1 i0 i1 i2 i3 i4 s.heap s.heap.size (Nat.le_refl _) p e ha hc hk s m _ below hf ((Spec.applies_iff_loose hf).mp happ).1 ⟨rfl, State.Warmed39.refl s, rfl⟩ trivial
  refine ⟨n, _, h1, h2, h3, hpost _ _ _ _ _ _ ⟨Cond.after_iff.mpr rfl, Cond.after_iff.mpr (eq_i res_at (Term.int_eval (1)) rfl), trivial⟩ ⟨hq.1, hq.2.1, (hq.2.2.sift fun y hy => Or.inr (N y hy)).mono (by decide) (by decide)⟩⟩
theorem main_1_1 : Claimed_1_1 := comes_1 fun _ _ _ _ _ _ h hF => ⟨h.1, hF⟩
theorem main_1_2 : Claimed_1_2 := comes_1 fun _ _ _ _ _ _ h hF => ⟨h.2.1, hF⟩
end Jvm.Pilot.@@N@@
namespace Jvm.Pilot.@@N@@
open Jvm Jvm.ClassFile Sem Op Lib Jvm.Free Jvm.Stand Jvm.Pilot.@@N@@.Jvm.D
/-! MADE BY PROGRAM (witnessworld.py) out of the Statement's table words and the real class files: 9 classes; the members and pool entries that the words name. The judged class is class 1, her method 2. -/
namespace start1
open Jvm.ClassFile
def u (s : String) : CpInfo := .utf8 (stringToUtf16 s)
/-- a pool by its gaps: so many unusable entries, then the entry; so many at the end -/
def gap : Nat → List CpInfo → List CpInfo
  | 0, r => r
  | n + 1, r => .unusable :: gap n r
def poolList (es : List (Nat × CpInfo)) (last : Nat) : List CpInfo := es.foldr (fun e r => gap e.1 (e.2 :: r)) (gap last [])
def pool (es : List (Nat × CpInfo)) (last : Nat) : Array CpInfo := ⟨poolList es last⟩
def fileOf (pool : Array CpInfo) (this : Nat) (attrs : Array Attribute := #[]) (ms : Array MethodInfo := #[]) (fl : Nat := 33) (sup : Nat := 0) (ifs : Array Nat := #[]) (fds : Array FieldInfo := #[]) : ClassFile where
  minorVersion := 0
  majorVersion := 65
  constantPool := pool
  accessFlags := fl
  thisClass := this
  superClass := sup
  interfaces := ifs
  fields := fds
  methods := ms
  attributes := attrs
def plain (name : String) (sup : Option ClassId) : Class where
  name := name
  kind := .ordinary
  loader := none
  accessFlags := 33
  super := sup
  interfaces := #[]
  cf := none
  fields := #[]
  methods := #[]
  instanceTypes := #[]
  staticTypes := #[]
  resolved := #[]
  callSites := []
  init := .initialized
  statics := none
  mirror := none

def pool0 : Array CpInfo := pool [(5, u "<init>"), (0, u "()V"), (1, .class_ 10), (1, u "java/lang/Object"), (85, u "clone"), (0, u "()Ljava/lang/Object;")] 26

def k0m0 : Method := { name := "<init>", desc := "()V", sig := { parameters := [], returnType := none }, accessFlags := 1, code := none }
def k0m1 : Method := { name := "clone", desc := "()Ljava/lang/Object;", sig := { parameters := [], returnType := some (.object "java/lang/Object") }, accessFlags := 260, code := none }
/-- java/lang/Object -/
def k0 : Class := { plain "java/lang/Object" none with
  accessFlags := 33
  interfaces := #[]
  cf := some (fileOf pool0 8 #[] #[{ accessFlags := 1, nameIndex := 5, descriptorIndex := 6, attributes := #[] }, { accessFlags := 260, nameIndex := 96, descriptorIndex := 97, attributes := #[] }] 33 0 #[] #[])
  fields := #[]
  methods := #[k0m0, k0m1]
  instanceTypes := #[]
  staticTypes := #[]
  resolved := Array.replicate 124 none
  statics := none }

def pool1 : Array CpInfo := pool [(2, .class_ 4), (1, u "java/lang/Object"), (0, u "<init>"), (0, u "()V"), (0, .methodref 8 9), (0, .class_ 10), (0, .nameAndType 11 12), (0, u "com/example/quench/quench/LocalSearch"), (0, u "swapped"), (0, u "([III)[I"), (0, .methodref 14 15), (0, .class_ 16), (0, .nameAndType 17 18), (0, u "com/example/quench/quench/LocalSearchSwappedPinLaw"), (0, u "expected"), (0, u "([IIII)I"), (3, u "law"), (0, u "(IIIII)Z")] 4

def k1m0 : Method := { name := "<init>", desc := "()V", sig := { parameters := [], returnType := none }, accessFlags := 2, code := none }
def k1c1 : Code := { maxStack := 2, maxLocals := 4, code := method_2_code, exceptionTable := #[], attributes := #[] }
def k1m1 : Method := { name := "expected", desc := "([IIII)I", sig := { parameters := [(.array .int), .int, .int, .int], returnType := some .int }, accessFlags := 10, code := some k1c1 }
def k1c2 : Code := { maxStack := 5, maxLocals := 12, code := code, exceptionTable := #[], attributes := #[] }
def k1m2 : Method := { name := "law", desc := "(IIIII)Z", sig := { parameters := [.int, .int, .int, .int, .int], returnType := some .boolean }, accessFlags := 9, code := some k1c2 }
/-- com/example/quench/quench/LocalSearchSwappedPinLaw -/
def k1 : Class := { plain "com/example/quench/quench/LocalSearchSwappedPinLaw" (some 0) with
  accessFlags := 49
  interfaces := #[]
  cf := some (fileOf pool1 14 #[] #[{ accessFlags := 2, nameIndex := 5, descriptorIndex := 6, attributes := #[] }, { accessFlags := 10, nameIndex := 17, descriptorIndex := 18, attributes := #[] }, { accessFlags := 9, nameIndex := 22, descriptorIndex := 23, attributes := #[] }] 49 2 #[] #[])
  fields := #[]
  methods := #[k1m0, k1m1, k1m2]
  instanceTypes := #[]
  staticTypes := #[]
  resolved := Array.replicate 28 none
  statics := none }

def pool2 : Array CpInfo := pool [(2, .class_ 4), (1, u "java/lang/Object"), (3, .class_ 10), (1, u "com/example/quench/quench/LocalSearch"), (0, u "instance"), (0, u "Lcom/example/quench/quench/Instance;"), (2, u "travel"), (0, u "Lcom/example/quench/quench/TravelTimes;"), (2, u "budget"), (0, u "Lcom/example/quench/quench/EvaluationBudget;"), (2, u "workers"), (0, u "Lcom/example/quench/quench/Workers;"), (4, u "robots"), (9, u "I"), (2, u "tasks"), (4, u "searched"), (0, u "Lcom/example/quench/quench/Solution;"), (8, u "unimproved"), (17, .class_ 76), (0, u "com/example/quench/quench/LocalSearch$TaskLists"), (43, u "()Ljava/lang/Object;"), (28, .methodref 150 151), (0, .class_ 152), (0, .nameAndType 153 120), (0, u "[I"), (0, u "clone"), (12, u "swapped"), (0, u "([III)[I"), (4, .class_ 174), (1, u "com/example/quench/quench/LocalSearch$Move"), (86, u "NEIGHBOURS_PER_TASK"), (2, u "NEIGHBOURS_PER_STEP"), (0, u "MOST_ROBOTS_CHANGED"), (1, u "PATIENCE")] 37

def k2c0 : Code := { maxStack := 4, maxLocals := 4, code := prog_32_method_7_code, exceptionTable := #[], attributes := #[] }
def k2m0 : Method := { name := "swapped", desc := "([III)[I", sig := { parameters := [(.array .int), .int, .int], returnType := some (.array .int) }, accessFlags := 8, code := some k2c0 }
/-- com/example/quench/quench/LocalSearch -/
def k2 : Class := { plain "com/example/quench/quench/LocalSearch" (some 0) with
  accessFlags := 48
  interfaces := #[]
  cf := some (fileOf pool2 8 #[.nestMembers #[75, 172]] #[{ accessFlags := 8, nameIndex := 166, descriptorIndex := 167, attributes := #[] }] 48 2 #[] #[{ accessFlags := 26, nameIndex := 261, descriptorIndex := 39, attributes := #[] }, { accessFlags := 26, nameIndex := 264, descriptorIndex := 39, attributes := #[] }, { accessFlags := 26, nameIndex := 265, descriptorIndex := 39, attributes := #[] }, { accessFlags := 26, nameIndex := 267, descriptorIndex := 39, attributes := #[] }, { accessFlags := 18, nameIndex := 11, descriptorIndex := 12, attributes := #[] }, { accessFlags := 18, nameIndex := 15, descriptorIndex := 16, attributes := #[] }, { accessFlags := 18, nameIndex := 19, descriptorIndex := 20, attributes := #[] }, { accessFlags := 18, nameIndex := 23, descriptorIndex := 24, attributes := #[] }, { accessFlags := 18, nameIndex := 29, descriptorIndex := 39, attributes := #[] }, { accessFlags := 18, nameIndex := 42, descriptorIndex := 39, attributes := #[] }, { accessFlags := 2, nameIndex := 47, descriptorIndex := 48, attributes := #[] }, { accessFlags := 2, nameIndex := 57, descriptorIndex := 39, attributes := #[] }])
  fields := #[{ name := "NEIGHBOURS_PER_TASK", type := .int, accessFlags := 26, slot := 0, constantValue := 0 }, { name := "NEIGHBOURS_PER_STEP", type := .int, accessFlags := 26, slot := 1, constantValue := 0 }, { name := "MOST_ROBOTS_CHANGED", type := .int, accessFlags := 26, slot := 2, constantValue := 0 }, { name := "PATIENCE", type := .int, accessFlags := 26, slot := 3, constantValue := 0 }, { name := "instance", type := (.object "com/example/quench/quench/Instance"), accessFlags := 18, slot := 0, constantValue := 0 }, { name := "travel", type := (.object "com/example/quench/quench/TravelTimes"), accessFlags := 18, slot := 1, constantValue := 0 }, { name := "budget", type := (.object "com/example/quench/quench/EvaluationBudget"), accessFlags := 18, slot := 2, constantValue := 0 }, { name := "workers", type := (.object "com/example/quench/quench/Workers"), accessFlags := 18, slot := 3, constantValue := 0 }, { name := "robots", type := .int, accessFlags := 18, slot := 4, constantValue := 0 }, { name := "tasks", type := .int, accessFlags := 18, slot := 5, constantValue := 0 }, { name := "searched", type := (.object "com/example/quench/quench/Solution"), accessFlags := 2, slot := 6, constantValue := 0 }, { name := "unimproved", type := .int, accessFlags := 2, slot := 7, constantValue := 0 }]
  methods := #[k2m0]
  instanceTypes := #[(.object "com/example/quench/quench/Instance"), (.object "com/example/quench/quench/TravelTimes"), (.object "com/example/quench/quench/EvaluationBudget"), (.object "com/example/quench/quench/Workers"), .int, .int, (.object "com/example/quench/quench/Solution"), .int]
  staticTypes := #[.int, .int, .int, .int]
  resolved := Array.replicate 305 none
  statics := none }

def pool3 : Array CpInfo := pool [(1, .class_ 2), (0, u "java/lang/Cloneable"), (0, .class_ 4), (0, u "java/lang/Object")] 2

/-- java/lang/Cloneable -/
def k3 : Class := { plain "java/lang/Cloneable" (some 0) with
  accessFlags := 1537
  interfaces := #[]
  cf := some (fileOf pool3 1 #[] #[] 1537 3 #[] #[])
  fields := #[]
  methods := #[]
  instanceTypes := #[]
  staticTypes := #[]
  resolved := Array.replicate 7 none
  statics := none }

def pool4 : Array CpInfo := pool [(1, u "java/io/Serializable"), (0, .class_ 1), (0, u "java/lang/Object"), (0, .class_ 3)] 3

/-- java/io/Serializable -/
def k4 : Class := { plain "java/io/Serializable" (some 0) with
  accessFlags := 1537
  interfaces := #[]
  cf := some (fileOf pool4 2 #[] #[] 1537 4 #[] #[])
  fields := #[]
  methods := #[]
  instanceTypes := #[]
  staticTypes := #[]
  resolved := Array.replicate 8 none
  statics := none }

/-- the primitive byte -/
def k5 : Class := { plain "byte" none with kind := .primitive 'B', accessFlags := 0x411 }
/-- [B -/
def k6 : Class := { plain "[B" (some 0) with kind := .array 5 .byte, interfaces := #[3, 4], accessFlags := 1041 }

/-- the primitive int -/
def k7 : Class := { plain "int" none with kind := .primitive 'I', accessFlags := 0x411 }
/-- [I -/
def k8 : Class := { plain "[I" (some 0) with kind := .array 7 .int, interfaces := #[3, 4], accessFlags := 1041 }

def heap : Heap := #[]
def classes : Array Class := #[k0, k1, k2, k3, k4, k5, k6, k7, k8]
def interned : List (Array UInt16 × Addr) := []
def slotsUsed : Nat := 0
def theMethod : MethodId := ⟨1, 2⟩
def args0 : Array Value := #[.int 5, .int 3, .int 7, .int 9, .int 6]
def aboutOver (below : List Frame) : State where
  vm := { classes := classes, interned := interned.toArray }
  heap := heap
  slotsUsed := slotsUsed
  threads := #[{ frames := .invoking theMethod args0 :: below }]
def below0 : List Frame := [.native { method := ⟨0, 0⟩, args := #[] }]
def about1 : State := aboutOver below0
def p0 : Program := .bare "" "" ""
def e0 : Env := launch0.env 0 0 0
theorem w_frames : about1.frames = Frame.invoking theMethod args0 :: below0 := rfl
set_option maxRecDepth 65536 in
theorem w_args : argsFit about1.vm theMethod args0 = true := by decide +kernel
set_option maxRecDepth 65536 in
theorem w_heap : heapFits about1 = true := by decide +kernel
set_option maxRecDepth 65536 in
theorem w_runnable : about1.curStatus? = some .runnable := by decide +kernel
set_option maxRecDepth 65536 in
theorem w_alone : about1.alone = true := by decide +kernel
set_option maxRecDepth 65536 in
theorem w_named : about1.methodNamed? x = some theMethod := by decide +kernel
set_option maxRecDepth 65536 in
theorem w_hears : about1.hears theMethod below0 = true := by decide +kernel
set_option maxRecDepth 65536 in
theorem w_ripe : about1.ripe theMethod args0 below0 = true := by decide +kernel
theorem w_running : about1.status = .running := rfl
set_option maxRecDepth 65536 in
theorem w_room : about1.hasRoom e0.platform room_1 = true :=
  launch0.hasRoom_least _ room_1 (by decide +kernel) (by decide +kernel) (by decide +kernel) (by decide +kernel) (by decide +kernel) (by decide +kernel)
theorem allAtoms_all (ts : List Jvm.Cond) (a : Array Jvm.Value) (st : Jvm.State) : (allAtoms ts).before a st = ts.all (fun c => c.before a st) := by
  induction ts with
  | nil => rfl
  | cons c t ih =>
    show (Jvm.Cond.and c (allAtoms t)).before a st = _
    rw [Jvm.Cond.before_and, ih, List.all_cons]
def words1 : List Jvm.Cond := Jvm.Cond.code x code maxLocals ret :: tables_1
/-- a 'code' word, met by the world's own term for the bytes: nothing is compared byte by byte -/
theorem code_word {y : MethodName} {bytes : ByteArray} {mx : Nat} {rt : Option FieldType} {a : Array Value} {s : State} {m : MethodId} {meth : Method} {c : Code} (h1 : s.methodNamed? y = some m) (h2 : s.vm.method? m = some meth) (h3 : meth.code = some c) (h4 : c.code = bytes)
    (h5 : (c.maxLocals == mx && c.exceptionTable.isEmpty && decide (c.maxStack ≤ mostOperands) && decide (meth.sig.returnType = rt) && !meth.locks && decide (parseMethodDescriptor y.desc = some meth.sig)) = true) : (Jvm.Cond.code y bytes mx rt).before a s = true := by
  simp only [Bool.and_eq_true, beq_iff_eq, Bool.not_eq_true', decide_eq_true_eq] at h5
  obtain ⟨⟨⟨⟨⟨g1, g2⟩, g3⟩, g4⟩, g5⟩, g6⟩ := h5
  simp [Cond.before, Cond.holds, Cond.value, h1, h2, h3, h4, g1, g2, g3, g4, g5, g6]
def isCode : Jvm.Cond → Bool
  | .code _ _ _ _ => true
  | _ => false
theorem all_split {L : List Jvm.Cond} {P : Jvm.Cond → Bool} (h1 : L.all (fun c => isCode c || P c) = true) (h2 : ∀ c ∈ L.filter isCode, P c = true) : L.all P = true := by
  refine List.all_eq_true.mpr fun c hc => ?_
  have h := List.all_eq_true.mp h1 c hc
  rcases Bool.eq_false_or_eq_true (isCode c) with hi | hi
  · exact h2 c (List.mem_filter.mpr ⟨hc, hi⟩)
  · simpa [hi] using h
set_option maxRecDepth 65536 in
theorem w_c0 : (Jvm.Cond.code x code maxLocals ret).before args0 about1 = true := code_word (m := ⟨1, 2⟩) (meth := k1m2) (c := k1c2) (by decide +kernel) rfl rfl rfl (by decide +kernel)
set_option maxRecDepth 65536 in
theorem w_c1 : (Jvm.Cond.code ({ cls := "com/example/quench/quench/LocalSearch", name := "swapped", desc := "([III)[I" } : Jvm.MethodName) prog_32_method_7_code (4 : Nat) (Option.some (Jvm.ClassFile.FieldType.array Jvm.ClassFile.FieldType.int))).before args0 about1 = true := code_word (m := ⟨2, 0⟩) (meth := k2m0) (c := k2c0) (by decide +kernel) rfl rfl rfl (by decide +kernel)
set_option maxRecDepth 65536 in
theorem w_c2 : (Jvm.Cond.code ({ cls := "com/example/quench/quench/LocalSearchSwappedPinLaw", name := "expected", desc := "([IIII)I" } : Jvm.MethodName) method_2_code (4 : Nat) (Option.some Jvm.ClassFile.FieldType.int)).before args0 about1 = true := code_word (m := ⟨1, 1⟩) (meth := k1m1) (c := k1c1) (by decide +kernel) rfl rfl rfl (by decide +kernel)
def codes1 : List Jvm.Cond := [Jvm.Cond.code x code maxLocals ret, Jvm.Cond.code ({ cls := "com/example/quench/quench/LocalSearch", name := "swapped", desc := "([III)[I" } : Jvm.MethodName) prog_32_method_7_code (4 : Nat) (Option.some (Jvm.ClassFile.FieldType.array Jvm.ClassFile.FieldType.int)), Jvm.Cond.code ({ cls := "com/example/quench/quench/LocalSearchSwappedPinLaw", name := "expected", desc := "([IIII)I" } : Jvm.MethodName) method_2_code (4 : Nat) (Option.some Jvm.ClassFile.FieldType.int)]
set_option maxRecDepth 65536 in
theorem codes_eq : words1.filter isCode = codes1 := rfl
theorem w_codes : ∀ c ∈ words1.filter isCode, c.before args0 about1 = true := by
  rw [codes_eq]
  intro c hc
  simp only [codes1, List.mem_cons, List.not_mem_nil, or_false] at hc
  rcases hc with rfl | rfl | rfl
  · exact w_c0
  · exact w_c1
  · exact w_c2
set_option maxRecDepth 65536 in
theorem w_t1 : words1.all (fun c => isCode c || c.before args0 about1) = true := by decide +kernel
theorem w_tables : (allAtoms (Jvm.Cond.code x code maxLocals ret :: tables_1)).before args0 about1 = true := by
  rw [allAtoms_all]
  show words1.all (fun c => c.before args0 about1) = true
  refine all_split ?_ w_codes
  rw [w_t1]
set_option maxRecDepth 65536 in
theorem w_case : (Jvm.Cond.and given_1 narrow_1).before args0 about1 = true := by decide +kernel
theorem w_applies : (headSpec (Jvm.Cond.code x code maxLocals ret :: tables_1) room_1).applies x e0.platform about1 = true :=
  (Spec.applies_iff w_frames).mpr ⟨w_running, w_runnable, w_alone, w_named, w_hears, w_ripe, w_room, w_tables⟩
theorem atStart : AtStart classFile x code maxLocals ret World_1 tables_1 room_1 Calls_1 rest_1 Pre_1 launch0 p0 e0 about1 theMethod args0 below0 :=
  ⟨lists_1, trivial, launch0.admits_env _ _ _, launch0.least_env, fairChoices_fair.cas, fairChoices_fair.clock, w_frames, w_args, w_heap, w_applies, trivial, trivial, w_case⟩
end start1
theorem witness_1 : WitnessClaimed_1 := ⟨start1.p0, start1.e0, start1.about1, start1.theMethod, start1.args0, start1.below0, start1.atStart⟩
end Jvm.Pilot.@@N@@
