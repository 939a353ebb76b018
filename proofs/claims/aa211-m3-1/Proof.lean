import JvmDerived
import JvmDerived.Pilot.@@N@@Statement
import JvmDerived.Pilot.@@N@@Code
set_option linter.unusedVariables false
set_option linter.unusedSimpArgs false
namespace Jvm.OwnGo
open Jvm Jvm.ClassFile Sem Op Lib Jvm.Free Jvm.Stand Jvm.LawKit Jvm.RoadKit
section Own
variable {p : Program} {l : Launch} {e : Env} {R : Room} {s : State} {m : MethodId} {args : Array Value} {below : List Frame} {meth : Method} {c : Code} {T T' : State} {locs : List Loc} {cells slots : Nat} {Z : State} {a0 : Array Value} {h : Heap} {g g' : JFrame} {P : Outcome → State → Prop}
/-- the run goes on from T with the frame g on top and comes to an end at which P holds -/
def Go (p : Program) (e : Env) (below : List Frame) (P : Outcome → State → Prop) (T : State) (g : JFrame) : Prop := ∃ t o, Steps p.tables e below (T.setTop g) t ∧ t.status = .running ∧ Ended t below o ∧ P o t
theorem Go.of (g' : JFrame) (st : ∀ t, Steps p.tables e below (T'.setTop g') t → Steps p.tables e below (T.setTop g) t) (k : Go p e below P T' g') : Go p e below P T g := by
  obtain ⟨t, o, h1, h2⟩ := k; exact ⟨t, o, st t h1, h2⟩
theorem Go.via (g' : JFrame) (st : Steps p.tables e below (T.setTop g) (T'.setTop g')) (k : Go p e below P T' g') : Go p e below P T g := by
  obtain ⟨t, o, h1, h2⟩ := k; exact ⟨t, o, st.trans h1, h2⟩
theorem Go.cast (q : g = g') (k : Go p e below P T g') : Go p e below P T g := q ▸ k
abbrev EndP (s : State) (rm : Room) (Q : Option Value → Heap → List Loc → Prop) : Outcome → State → Prop := fun o U' => ∃ v L, o = .returned v ∧ Q v U'.heap L ∧ FrameEnd s o U' L rm.cells rm.slots
def Met (l : Launch) (Z : State) (y : MethodName) (bytes : ByteArray) (maxL : Nat) (ret : Option FieldType) (ws : List Cond) (rm : Room) (as' : Array Value) (h0 : Heap) (Q : Option Value → Heap → List Loc → Prop) : Prop :=
  MetFree l y (head1 (Cond.code y bytes maxL ret :: ws) rm) (fun a U => a = as' ∧ Z.Warmed39 U.vm ∧ U.heap = h0) (fun _ _ _ _ _ => True) (fun _ U o U' => ∃ v L, o = .returned v ∧ Q v U'.heap L ∧ FrameEnd U o U' L rm.cells rm.slots)
variable {y : MethodName} {bytes : ByteArray} {maxL : Nat} {ret : Option FieldType} {ws : List Cond} {rm : Room} {as' : Array Value} {h0 : Heap} {Q : Option Value → Heap → List Loc → Prop}
theorem Met.intro (hpl : plainFor y = true)
    (body : ∀ p e s m below meth c s₁, Stand p l e rm s m as' below meth c s₁ [] 0 0 → p.tables.exec = Jvm.exec → Z.Warmed39 s.vm → s.vm.findClass y.cls = some m.cls → c.code = bytes → c.maxLocals = maxL →
      meth.sig.returnType = ret → meth.locks = false → meth.name = y.name → s₁.heap = h0 → Go p e below (EndP s rm Q) s₁ (entryFrame m as' maxL)) : Met l Z y bytes maxL ret ws rm as' h0 Q := by
  refine MetFree.of_bodySF hpl hisR ?_
  intro p e s m args below meth c s₁ Bd hml0 hP hK
  obtain ⟨rfl, hZ, hh⟩ := hP
  exact body p e s m below meth c s₁ (Stand.of_body Bd) Bd.exec hZ (findClass_of_methodNamed Bd.named) Bd.bytes hml0 Bd.returns Bd.notSynchronized (name_of_methodNamed Bd.named Bd.method).1 (by rw [← hh, Bd.state]; rfl)
theorem Met.mono {Q' : Option Value → Heap → List Loc → Prop} (h : Met l Z y bytes maxL ret ws rm as' h0 Q) (q : ∀ v h L, Q v h L → Q' v h L) : Met l Z y bytes maxL ret ws rm as' h0 Q' := by
  intro p e ha hc hk s m args below hf happ hP hK
  obtain ⟨n, o, h1, h2, h3, v, L, h4, h5, h6⟩ := h p e ha hc hk s m args below hf happ hP hK
  exact ⟨n, o, h1, h2, h3, v, L, h4, q _ _ _ h5, h6⟩
theorem Go.fin (X : Stand p l e R s m args below meth c T locs cells slots) {v : Option Value} (hv : meth.sig.returnType = none → v = none) (hlk : meth.locks = false) (hc : cells ≤ rm.cells) (hs : slots ≤ rm.slots)
    (st : ∀ fs, (∀ (f : JFrame) (acts : List Action), f.method = m → f.locked = none → f.entered = [] → (doReturn e (T.setTop f) acts v).1 = T.setFrames fs) → Steps p.tables e below (T.setTop g) (T.setFrames fs)) (hQ : Q v T.heap locs) : Go p e below (EndP s rm Q) T g := by
  obtain ⟨fs, hr, hrun, hended, hW, hsame⟩ := X.leave (v := v) hv hlk
  exact ⟨_, _, st fs hr, hrun, hended, v, locs, rfl, hQ, ⟨v, rfl⟩, hW, hsame.mono hc hs⟩
/-- a value is returned -/
theorem Go.retW (X : Stand p l e R s m args below meth c T locs cells slots) (hx : p.tables.exec = Jvm.exec) {pc : Nat} {Ls : Array Slot} {w : Value} {t : FieldType} {i : Instr} {rest : List Value} (hret : meth.sig.returnType = some t) (hlk : meth.locks = false) (hn : narrow t w = w)
    (hi : (i = .ireturn ∧ (t = .int ∨ t = .boolean ∨ t = .byte ∨ t = .char ∨ t = .short) ∧ ∃ z, w = .int z) ∨ (i = .lreturn ∧ t = .long ∧ ∃ z, w = .long z) ∨ (i = .dreturn ∧ t = .double ∧ ∃ z, w = .double z) ∨ (i = .freturn ∧ t = .float ∧ ∃ z, w = .float z) ∨ (i = .areturn ∧ t.isReference = true ∧ w.isRef = true))
    (hd : decode c.code pc = .ok (i, 1)) (hc : cells ≤ rm.cells) (hs : slots ≤ rm.slots) (hQ : Q (some w) T.heap locs) : Go p e below (EndP s rm Q) T (mkF m pc Ls (w :: rest)) :=
  Go.fin X (fun q => by rw [hret] at q; cases q) hlk hc hs (fun fs hr => retOut X hx hret hn hi hd hr) hQ
/-- nothing is returned -/
theorem Go.retV (X : Stand p l e R s m args below meth c T locs cells slots) (hx : p.tables.exec = Jvm.exec) {pc : Nat} {Ls : Array Slot} (hret : meth.sig.returnType = none) (hlk : meth.locks = false)
    (hd : decode c.code pc = .ok (.return_, 1)) (hc : cells ≤ rm.cells) (hs : slots ≤ rm.slots) (hQ : Q none T.heap locs) : Go p e below (EndP s rm Q) T (mkF m pc Ls []) :=
  Go.fin X (fun _ => rfl) hlk hc hs (fun fs hr => X.returnOut hx hret hd hr) hQ
theorem ri_int {z : Int32} {t : FieldType} (ht : t = .int ∨ t = .boolean ∨ t = .byte ∨ t = .char ∨ t = .short) : ((.ireturn : Instr) = .ireturn ∧ (t = .int ∨ t = .boolean ∨ t = .byte ∨ t = .char ∨ t = .short) ∧ ∃ z', (Value.int z) = .int z') ∨ ((.ireturn : Instr) = .lreturn ∧ t = .long ∧ ∃ z', (Value.int z) = .long z') ∨ ((.ireturn : Instr) = .dreturn ∧ t = .double ∧ ∃ z', (Value.int z) = .double z') ∨ ((.ireturn : Instr) = .freturn ∧ t = .float ∧ ∃ z', (Value.int z) = .float z') ∨ ((.ireturn : Instr) = .areturn ∧ t.isReference = true ∧ (Value.int z).isRef = true) := Or.inl ⟨rfl, ht, z, rfl⟩
/-- a static call, by the callee's contract -/
theorem Go.callS (X : Stand p l e R s m args below meth c T locs cells slots) (hx : p.tables.exec = Jvm.exec) (hZ : Z.Warmed39 s.vm) {own : String} {index W : Nat} {argsL rest : List Value} (hown : s.vm.findClass own = some m.cls)
    (w1 : (Cond.methodLink own index y).before a0 Z = true) (w2 : (Cond.static y).before a0 Z = true) (w3 : (Cond.initialized y.cls).before a0 Z = true) (w4 : (Cond.code y bytes maxL ret).before a0 Z = true)
    (hy : y.cls ≠ "java/lang/invoke/MethodHandle" ∧ y.cls ≠ "java/lang/invoke/VarHandle") (eT : T.heap = h) (hM : Met l Z y bytes maxL ret [] rm argsL.toArray h Q)
    (hg : g.method = m) (hsize : g.locals.size = c.maxLocals) (hlen : ∀ sig, parseMethodDescriptor y.desc = some sig → argsL.length = sig.parameters.length) (hs : g.stack = argsL.reverse ++ rest)
    (hW : 2 * g.monitorRoom + (rest.map fun v => v.category).sum ≤ W) (hd : decode c.code g.pc = .ok (.invokestatic index, 3)) (hf : rm.frames + 1 ≤ R.frames) (hl : W + (maxL + 11) + rm.locals ≤ R.locals) (hc : cells + rm.cells ≤ R.cells) (hsl : slots + rm.slots ≤ R.slots)
    (k : ∀ T' L v, Stand p l e R s m args below meth c T' (locs ++ L) (cells + rm.cells) (slots + rm.slots) → Q v T'.heap L → Go p e below P T' { g with pc := g.pc + 3, stack := v.toList ++ rest }) : Go p e below P T g := by
  obtain ⟨v, _, ⟨U, L, q1, q2⟩, -, X', ⟨Lc, hQ, l1, l2, l3⟩, st⟩ := Jvm.LawKit.callS X hx (y := y) hown (mvT hZ w1) (mvT hZ w2) (mvT hZ w3) (mvT hZ w4) hy (backOf (W := W) hM hZ w4 w3 hf hl) hg hsize hlen hs hW hd (fun _ _ => ⟨rfl, eT, hc, hsl⟩)
  dsimp only [Pt.U, Pt.locs, Pt.cells, Pt.slots] at X' l1 l2 l3 st hQ
  subst l1 l2 l3
  exact Go.of _ st (k _ _ _ X' hQ)
/-- a constructor, by its contract -/
theorem Go.init (X : Stand p l e R s m args below meth c T locs cells slots) (hx : p.tables.exec = Jvm.exec) (hZ : Z.Warmed39 s.vm) {own : String} {index W : Nat} {a : Addr} {argsL rest : List Value} (hown : s.vm.findClass own = some m.cls) (hy1 : y.name = "<init>")
    (w1 : (Cond.methodLink own index y).before a0 Z = true) (w2 : (Cond.instanceMethod y).before a0 Z = true) (w3 : (Cond.initialized y.cls).before a0 Z = true) (w4 : (Cond.code y bytes maxL none).before a0 Z = true)
    (hy : y.cls ≠ "java/lang/invoke/MethodHandle" ∧ y.cls ≠ "java/lang/invoke/VarHandle") (eT : T.heap = h) (hM : Met l Z y bytes maxL none [] rm (.ref a :: argsL).toArray h Q)
    (hg : g.method = m) (hsize : g.locals.size = c.maxLocals) (hlen : ∀ sig, parseMethodDescriptor y.desc = some sig → argsL.length = sig.parameters.length) (hs : g.stack = argsL.reverse ++ .ref a :: rest)
    (hW : 2 * g.monitorRoom + (rest.map fun v => v.category).sum ≤ W) (hd : decode c.code g.pc = .ok (.invokespecial index, 3)) (hf : rm.frames + 1 ≤ R.frames) (hl : W + (maxL + 11) + rm.locals ≤ R.locals) (hc : cells + rm.cells ≤ R.cells) (hsl : slots + rm.slots ≤ R.slots)
    (k : ∀ T' L v, Stand p l e R s m args below meth c T' (locs ++ L) (cells + rm.cells) (slots + rm.slots) → Q v T'.heap L → Go p e below P T' { g with pc := g.pc + 3, stack := v.toList ++ rest }) : Go p e below P T g := by
  obtain ⟨v, _, ⟨U, L, q1, q2⟩, -, X', ⟨Lc, hQ, l1, l2, l3⟩, st⟩ := X.specialBack hx (y := y) hy1 hown (mvT hZ w1) (mvT hZ w2) (mvT hZ w4) hy (backOf (W := W) hM hZ w4 w3 hf hl) hg hsize (Steps.refl _) hlen hs hW hd (fun _ _ => ⟨rfl, eT, hc, hsl⟩)
  dsimp only [Pt.U, Pt.locs, Pt.cells, Pt.slots] at X' l1 l2 l3 st hQ
  subst l1 l2 l3
  exact Go.via _ st (k _ _ _ X' hQ)
/-- an instance method, by the contract of the method that the receiver's class selects -/
theorem Go.virt (X : Stand p l e R s m args below meth c T locs cells slots) (hx : p.tables.exec = Jvm.exec) (hZ : Z.Warmed39 s.vm) {own C : String} {z : MethodName} {index W : Nat} {a : Addr} {argsL rest : List Value} (hown : s.vm.findClass own = some m.cls)
    (w1 : (Cond.methodLink own index z).before a0 Z = true) (w2 : (Cond.declares z).before a0 Z = true) (nf : NotFace s z) (w5 : (Cond.selects C z y).before a0 Z = true) (w6 : (Cond.instanceMethod y).before a0 Z = true) (w3 : (Cond.initialized y.cls).before a0 Z = true) (w4 : (Cond.code y bytes maxL ret).before a0 Z = true)
    (hy : z.cls ≠ "java/lang/invoke/MethodHandle" ∧ z.cls ≠ "java/lang/invoke/VarHandle") (eT : T.heap = h) (E : Exa Z h a C) (hM : Met l Z y bytes maxL ret [] rm (.ref a :: argsL).toArray h Q)
    (hg : g.method = m) (hsize : g.locals.size = c.maxLocals) (hlen : ∀ sig, parseMethodDescriptor z.desc = some sig → argsL.length = sig.parameters.length) (hs : g.stack = argsL.reverse ++ .ref a :: rest)
    (hW : 2 * g.monitorRoom + (rest.map fun v => v.category).sum ≤ W) (hd : decode c.code g.pc = .ok (.invokevirtual index, 3)) (hf : rm.frames + 1 ≤ R.frames) (hl : W + (maxL + 11) + rm.locals ≤ R.locals) (hc : cells + rm.cells ≤ R.cells) (hsl : slots + rm.slots ≤ R.slots)
    (k : ∀ T' L v, Stand p l e R s m args below meth c T' (locs ++ L) (cells + rm.cells) (slots + rm.slots) → Q v T'.heap L → Go p e below P T' { g with pc := g.pc + 3, stack := v.toList ++ rest }) : Go p e below P T g := by
  obtain ⟨cq, kq, qa, qb, qc⟩ := isOf hZ eT E
  obtain ⟨v, _, ⟨U, L, q1, q2⟩, -, X', ⟨Lc, hQ, l1, l2, l3⟩, st⟩ := X.virtualBack hx (y := z) (z := y) hown (mvT hZ w1) (mvT hZ w2) nf (mvT hZ w5) (mvT hZ w6) hy (backOf (W := W) hM hZ w4 w3 hf hl) qa qc hg hsize (Steps.refl _) hlen hs hW hd (fun _ _ => ⟨rfl, eT, hc, hsl⟩)
  dsimp only [Pt.U, Pt.locs, Pt.cells, Pt.slots] at X' l1 l2 l3 st hQ
  subst l1 l2 l3
  exact Go.via _ st (k _ _ _ X' hQ)
/-- a private method (invokevirtual) -/
theorem Go.priv (X : Stand p l e R s m args below meth c T locs cells slots) (hx : p.tables.exec = Jvm.exec) (hZ : Z.Warmed39 s.vm) {own C : String} {index W : Nat} {a : Addr} {argsL rest : List Value} (hown : s.vm.findClass own = some m.cls)
    (w1 : (Cond.methodLink own index y).before a0 Z = true) (w6 : (Cond.instanceMethod y).before a0 Z = true) (w5 : (Cond.selects y.cls y y).before a0 Z = true) (w7 : (Cond.privateMethod y).before a0 Z = true) (w3 : (Cond.initialized y.cls).before a0 Z = true) (w4 : (Cond.code y bytes maxL ret).before a0 Z = true)
    (hy : y.cls ≠ "java/lang/invoke/MethodHandle" ∧ y.cls ≠ "java/lang/invoke/VarHandle") (eT : T.heap = h) (E : Exa Z h a C) (hM : Met l Z y bytes maxL ret [] rm (.ref a :: argsL).toArray h Q)
    (hg : g.method = m) (hsize : g.locals.size = c.maxLocals) (hlen : ∀ sig, parseMethodDescriptor y.desc = some sig → argsL.length = sig.parameters.length) (hs : g.stack = argsL.reverse ++ .ref a :: rest)
    (hW : 2 * g.monitorRoom + (rest.map fun v => v.category).sum ≤ W) (hd : decode c.code g.pc = .ok (.invokevirtual index, 3)) (hf : rm.frames + 1 ≤ R.frames) (hl : W + (maxL + 11) + rm.locals ≤ R.locals) (hc : cells + rm.cells ≤ R.cells) (hsl : slots + rm.slots ≤ R.slots)
    (k : ∀ T' L v, Stand p l e R s m args below meth c T' (locs ++ L) (cells + rm.cells) (slots + rm.slots) → Q v T'.heap L → Go p e below P T' { g with pc := g.pc + 3, stack := v.toList ++ rest }) : Go p e below P T g := by
  obtain ⟨cq, q, q'⟩ := E.cell
  obtain ⟨v, _, ⟨U, L, q1, q2⟩, -, X', ⟨Lc, hQ, l1, l2, l3⟩, st⟩ := X.privateBack hx (y := y) hown (mvT hZ w1) (mvT hZ w6) (mvT hZ w5) (Cond.privateMethod_at (mvP hZ w7 (args := #[]))) (mvT hZ w4) hy (backOf (W := W) hM hZ w4 w3 hf hl) hg hsize (Steps.refl _) (a := a) (by rw [eT]; exact q) q' hlen hs hW hd (fun _ _ => ⟨rfl, eT, hc, hsl⟩)
  dsimp only [Pt.U, Pt.locs, Pt.cells, Pt.slots] at X' l1 l2 l3 st hQ
  subst l1 l2 l3
  exact Go.via _ st (k _ _ _ X' hQ)
/-! arrays by a function of the place -/
def upd {α : Type} (y : Int32 → α) (j : Int32) (v : α) : Int32 → α := fun i => if i = j then v else y i
theorem upd_same {α : Type} (y : Int32 → α) (j : Int32) (v : α) : upd y j v j = v := if_pos rfl
theorem upd_ne {α : Type} {y : Int32 → α} {i j : Int32} {v : α} (h : ¬ i = j) : upd y j v i = y i := if_neg h
def Fa (Z : State) (h : Heap) (a : Addr) (ty : FieldType) (n : Int32) (y : Int32 → Value) : Prop :=
  ∃ c : Cell, Arr Z h a c ty ∧ c.slots.size = n.toNatClampNeg ∧ ¬ n < 0 ∧ ∀ j : Int32, ¬ j < 0 → j < n → c.slots[j.toNatClampNeg]? = some (y j) ∧ fits ty (y j) = true
variable {a b : Addr} {ty : FieldType} {n : Int32} {yv : Int32 → Value} {h' : Heap} {j : Int32} {v : Value} {sl : Nat} {hws : List Addr}
theorem Fa.lt (F : Fa Z h a ty n yv) : a < h.size := by obtain ⟨c, A, -⟩ := F; exact A.lt
theorem Fa.ext (F : Fa Z h a ty n yv) (E : Ext h h') : Fa Z h' a ty n yv := by obtain ⟨c, A, r⟩ := F; exact ⟨c, A.ext E, r⟩
theorem Fa.other (F : Fa Z h b ty n yv) (W : Wr h h' a sl v) (q : b ≠ a) : Fa Z h' b ty n yv := by obtain ⟨c, A, r⟩ := F; exact ⟨c, A.other W q, r⟩
theorem Fa.keep (F : Fa Z h a ty n yv) (K : Keep h h' hws) (q : a ∉ hws) : Fa Z h' a ty n yv := by obtain ⟨c, A, r⟩ := F; exact ⟨c, ⟨K.2.1 a c A.1 q, A.2⟩, r⟩
theorem Fa.new {k : ClassId} (A : Arr Z h a (newA k ty n) ty) (q : ¬ n < 0) : Fa Z h a ty n (fun _ => defaultValue ty) :=
  ⟨_, A, sz_new _ _ _, q, fun i h0 h1 => ⟨get_new (by have := inb_of (c := newA k ty n) (sz_new k ty n) ⟨h0, h1⟩; rwa [sz_new] at this), by cases ty <;> rfl⟩⟩
theorem Fa.set (F : Fa Z h a ty n yv) (W : Wr h h' a j.toNatClampNeg v) (hj : ¬ j < 0) (hv : fits ty v = true) : Fa Z h' a ty n (upd yv j v) := by
  obtain ⟨c, A, S, M, H⟩ := F
  refine ⟨c.setSlot j.toNatClampNeg v, A.same W, by rw [sz_set]; exact S, M, fun i h0 h1 => ?_⟩
  by_cases e : i = j
  · subst e; rw [upd_same]; exact ⟨get_hit (inb_of S ⟨h0, h1⟩) rfl, hv⟩
  · rw [upd_ne e, get_miss hj h0 e]; exact H i h0 h1
theorem Fa.congr {yw : Int32 → Value} (F : Fa Z h a ty n yv) (q : ∀ j, ¬ j < 0 → j < n → yw j = yv j) : Fa Z h a ty n yw := by
  obtain ⟨c, A, S, M, H⟩ := F
  exact ⟨c, A, S, M, fun j h0 h1 => by rw [q j h0 h1]; exact H j h0 h1⟩
theorem Fa.pos (F : Fa Z h a ty n yv) : ¬ n < 0 := by obtain ⟨c, A, S, M, H⟩ := F; exact M
theorem Fa.ofArv {k : ClassId} {vs : List Value} {dv : Value} (F : Arv Z h a k ty n vs dv) : Fa Z h a ty n (fun j => vs.getD j.toNatClampNeg dv) := by
  obtain ⟨c, A, q1, S, M, H, G⟩ := F
  exact ⟨c, A, S, M, fun j h0 h1 => by
    have q : j.toNatClampNeg < c.slots.size := Nat.lt_of_not_le fun z => inb_of S ⟨h0, h1⟩ (Or.inr z)
    exact ⟨H _ q, G _ q⟩⟩
theorem upd_int (y : Int32 → Int32) (j x : Int32) : upd (fun i => Value.int (y i)) j (.int x) = fun i => Value.int (upd y j x i) := by funext i; unfold upd; split <;> rfl
theorem upd_long (y : Int32 → Int64) (j : Int32) (x : Int64) : upd (fun i => Value.long (y i)) j (.long x) = fun i => Value.long (upd y j x i) := by funext i; unfold upd; split <;> rfl
theorem upd_dbl (y : Int32 → UInt64) (j : Int32) (x : UInt64) : upd (fun i => Value.double (y i)) j (.double x) = fun i => Value.double (upd y j x i) := by funext i; unfold upd; split <;> rfl
variable {rest : List Value}
theorem Go.arraylength (X : Stand p l e R s m args below meth c T locs cells slots) (hx : p.tables.exec = Jvm.exec) (hZ : Z.Warmed39 s.vm) (eT : T.heap = h) (F : Fa Z h a ty n yv) (hg : g.method = m) (hs : g.stack = .ref a :: rest) (hd : decode c.code g.pc = .ok (.arraylength, 1))
    (k : Go p e below P T { g with pc := g.pc + 1, stack := .int n :: rest }) : Go p e below P T g := by
  obtain ⟨cl, A, S, M, H⟩ := F
  refine Go.of _ (fun t k => X.arraylength hx (by rw [eT]; exact A.1) (State.isArrayOf_alike hZ.alike A.2.1) hg hs hd _ k) ?_
  rw [len_of S M]; exact k
theorem Go.iaload (X : Stand p l e R s m args below meth c T locs cells slots) (hx : p.tables.exec = Jvm.exec) (hZ : Z.Warmed39 s.vm) (eT : T.heap = h) {y : Int32 → Int32} (F : Fa Z h a .int n (fun i => .int (y i))) (h0 : ¬ j < 0) (h1 : j < n) (hg : g.method = m) (hs : g.stack = .int j :: .ref a :: rest) (hd : decode c.code g.pc = .ok (.iaload, 1))
    (k : Go p e below P T { g with pc := g.pc + 1, stack := .int (y j) :: rest }) : Go p e below P T g := by
  obtain ⟨cl, A, S, M, H⟩ := F
  exact Go.of _ (fun t k => X.iaload hx (by rw [eT]; exact A.1) (State.isArrayOf_alike hZ.alike A.2.1) A.2.2 (inb_of S ⟨h0, h1⟩) (H j h0 h1).1 hg hs hd _ k) k
theorem Go.caload (X : Stand p l e R s m args below meth c T locs cells slots) (hx : p.tables.exec = Jvm.exec) (hZ : Z.Warmed39 s.vm) (eT : T.heap = h) {y : Int32 → Int32} (F : Fa Z h a .char n (fun i => .int (y i))) (h0 : ¬ j < 0) (h1 : j < n) (hg : g.method = m) (hs : g.stack = .int j :: .ref a :: rest) (hd : decode c.code g.pc = .ok (.caload, 1))
    (k : Go p e below P T { g with pc := g.pc + 1, stack := .int (y j) :: rest }) : Go p e below P T g := by
  obtain ⟨cl, A, S, M, H⟩ := F
  exact Go.of _ (fun t k => X.caload hx (by rw [eT]; exact A.1) (State.isArrayOf_alike hZ.alike A.2.1) A.2.2 (inb_of S ⟨h0, h1⟩) (H j h0 h1).1 hg hs hd _ k) k
theorem Go.saload (X : Stand p l e R s m args below meth c T locs cells slots) (hx : p.tables.exec = Jvm.exec) (hZ : Z.Warmed39 s.vm) (eT : T.heap = h) {y : Int32 → Int32} (F : Fa Z h a .short n (fun i => .int (y i))) (h0 : ¬ j < 0) (h1 : j < n) (hg : g.method = m) (hs : g.stack = .int j :: .ref a :: rest) (hd : decode c.code g.pc = .ok (.saload, 1))
    (k : Go p e below P T { g with pc := g.pc + 1, stack := .int (y j) :: rest }) : Go p e below P T g := by
  obtain ⟨cl, A, S, M, H⟩ := F
  exact Go.of _ (fun t k => X.saload hx (by rw [eT]; exact A.1) (State.isArrayOf_alike hZ.alike A.2.1) A.2.2 (inb_of S ⟨h0, h1⟩) (H j h0 h1).1 hg hs hd _ k) k
theorem Go.baload (X : Stand p l e R s m args below meth c T locs cells slots) (hx : p.tables.exec = Jvm.exec) (hZ : Z.Warmed39 s.vm) (eT : T.heap = h) {y : Int32 → Int32} (F : Fa Z h a .byte n (fun i => .int (y i))) (h0 : ¬ j < 0) (h1 : j < n) (hg : g.method = m) (hs : g.stack = .int j :: .ref a :: rest) (hd : decode c.code g.pc = .ok (.baload, 1))
    (k : Go p e below P T { g with pc := g.pc + 1, stack := .int (y j) :: rest }) : Go p e below P T g := by
  obtain ⟨cl, A, S, M, H⟩ := F
  exact Go.of _ (fun t k => X.baloadBytes hx (by rw [eT]; exact A.1) (State.isArrayOf_alike hZ.alike A.2.1) A.2.2 (inb_of S ⟨h0, h1⟩) (H j h0 h1).1 hg hs hd _ k) k
theorem Go.zaload (X : Stand p l e R s m args below meth c T locs cells slots) (hx : p.tables.exec = Jvm.exec) (hZ : Z.Warmed39 s.vm) (eT : T.heap = h) {y : Int32 → Int32} (F : Fa Z h a .boolean n (fun i => .int (y i))) (h0 : ¬ j < 0) (h1 : j < n) (hg : g.method = m) (hs : g.stack = .int j :: .ref a :: rest) (hd : decode c.code g.pc = .ok (.baload, 1))
    (k : Go p e below P T { g with pc := g.pc + 1, stack := .int (y j) :: rest }) : Go p e below P T g := by
  obtain ⟨cl, A, S, M, H⟩ := F
  exact Go.of _ (fun t k => X.baloadBooleans hx (by rw [eT]; exact A.1) (State.isArrayOf_alike hZ.alike A.2.1) A.2.2 (inb_of S ⟨h0, h1⟩) (H j h0 h1).1 hg hs hd _ k) k
theorem Go.laload (X : Stand p l e R s m args below meth c T locs cells slots) (hx : p.tables.exec = Jvm.exec) (hZ : Z.Warmed39 s.vm) (eT : T.heap = h) {y : Int32 → Int64} (F : Fa Z h a .long n (fun i => .long (y i))) (h0 : ¬ j < 0) (h1 : j < n) (hg : g.method = m) (hs : g.stack = .int j :: .ref a :: rest) (hd : decode c.code g.pc = .ok (.laload, 1))
    (k : Go p e below P T { g with pc := g.pc + 1, stack := .long (y j) :: rest }) : Go p e below P T g := by
  obtain ⟨cl, A, S, M, H⟩ := F
  exact Go.of _ (fun t k => X.laload hx (by rw [eT]; exact A.1) (State.isArrayOf_alike hZ.alike A.2.1) A.2.2 (inb_of S ⟨h0, h1⟩) (H j h0 h1).1 hg hs hd _ k) k
theorem Go.aaload (X : Stand p l e R s m args below meth c T locs cells slots) (hx : p.tables.exec = Jvm.exec) (hZ : Z.Warmed39 s.vm) (eT : T.heap = h) (F : Fa Z h a ty n yv) (hty : ty.isReference = true) (h0 : ¬ j < 0) (h1 : j < n) (hg : g.method = m) (hs : g.stack = .int j :: .ref a :: rest) (hd : decode c.code g.pc = .ok (.aaload, 1))
    (k : Go p e below P T { g with pc := g.pc + 1, stack := yv j :: rest }) : Go p e below P T g := by
  obtain ⟨cl, A, S, M, H⟩ := F
  exact Go.of _ (fun t k => X.aaload hx (by rw [eT]; exact A.1) (State.isArrayOf_alike hZ.alike A.2.1) hty A.2.2 (inb_of S ⟨h0, h1⟩) (H j h0 h1).1 hg hs hd _ k) k
theorem Go.iastore (X : Stand p l e R s m args below meth c T locs cells slots) (hx : p.tables.exec = Jvm.exec) (hZ : Z.Warmed39 s.vm) (eT : T.heap = h) {y : Int32 → Int32} {x : Int32} (F : Fa Z h a .int n (fun i => .int (y i))) (h0 : ¬ j < 0) (h1 : j < n) (hg : g.method = m) (hs : g.stack = .int x :: .int j :: .ref a :: rest) (hd : decode c.code g.pc = .ok (.iastore, 1))
    (k : ∀ T' h', Stand p l e R s m args below meth c T' (locs ++ [⟨a, j.toNatClampNeg⟩]) cells slots → T'.heap = h' → Wr h h' a j.toNatClampNeg (.int x) → Fa Z h' a .int n (fun i => .int (upd y j x i)) → Go p e below P T' { g with pc := g.pc + 1, stack := rest }) : Go p e below P T g := by
  obtain ⟨cl, A, S, M, H⟩ := id F
  obtain ⟨T', h', X', e', W, st⟩ := stI X hx hZ eT A (inb_of S ⟨h0, h1⟩) hg hs hd
  exact Go.of _ st (k _ _ X' e' W (by have := F.set W h0 rfl; rwa [upd_int] at this))
theorem Go.castore (X : Stand p l e R s m args below meth c T locs cells slots) (hx : p.tables.exec = Jvm.exec) (hZ : Z.Warmed39 s.vm) (eT : T.heap = h) {y : Int32 → Int32} {x : Int32} (F : Fa Z h a .char n (fun i => .int (y i))) (h0 : ¬ j < 0) (h1 : j < n) (hg : g.method = m) (hs : g.stack = .int x :: .int j :: .ref a :: rest) (hd : decode c.code g.pc = .ok (.castore, 1))
    (k : ∀ T' h', Stand p l e R s m args below meth c T' (locs ++ [⟨a, j.toNatClampNeg⟩]) cells slots → T'.heap = h' → Wr h h' a j.toNatClampNeg (.int (nar .char x)) → Fa Z h' a .char n (fun i => .int (upd y j (nar .char x) i)) → Go p e below P T' { g with pc := g.pc + 1, stack := rest }) : Go p e below P T g := by
  obtain ⟨cl, A, S, M, H⟩ := id F
  obtain ⟨T', h', X', e', W, st⟩ := stC X hx hZ eT A (inb_of S ⟨h0, h1⟩) hg hs hd
  exact Go.of _ st (k _ _ X' e' W (by have := F.set W h0 (fits_nar_char _); rwa [upd_int] at this))
theorem Go.bastore (X : Stand p l e R s m args below meth c T locs cells slots) (hx : p.tables.exec = Jvm.exec) (hZ : Z.Warmed39 s.vm) (eT : T.heap = h) {y : Int32 → Int32} {x : Int32} (F : Fa Z h a .byte n (fun i => .int (y i))) (h0 : ¬ j < 0) (h1 : j < n) (hg : g.method = m) (hs : g.stack = .int x :: .int j :: .ref a :: rest) (hd : decode c.code g.pc = .ok (.bastore, 1))
    (k : ∀ T' h', Stand p l e R s m args below meth c T' (locs ++ [⟨a, j.toNatClampNeg⟩]) cells slots → T'.heap = h' → Wr h h' a j.toNatClampNeg (.int (nar .byte x)) → Fa Z h' a .byte n (fun i => .int (upd y j (nar .byte x) i)) → Go p e below P T' { g with pc := g.pc + 1, stack := rest }) : Go p e below P T g := by
  obtain ⟨cl, A, S, M, H⟩ := id F
  obtain ⟨T', h', X', e', W, st⟩ := stB X hx hZ eT A (inb_of S ⟨h0, h1⟩) hg hs hd
  exact Go.of _ st (k _ _ X' e' W (by have := F.set W h0 (fits_nar_byte _); rwa [upd_int] at this))
theorem Go.zastore (X : Stand p l e R s m args below meth c T locs cells slots) (hx : p.tables.exec = Jvm.exec) (hZ : Z.Warmed39 s.vm) (eT : T.heap = h) {y : Int32 → Int32} {x : Int32} (F : Fa Z h a .boolean n (fun i => .int (y i))) (h0 : ¬ j < 0) (h1 : j < n) (hg : g.method = m) (hs : g.stack = .int x :: .int j :: .ref a :: rest) (hd : decode c.code g.pc = .ok (.bastore, 1))
    (k : ∀ T' h', Stand p l e R s m args below meth c T' (locs ++ [⟨a, j.toNatClampNeg⟩]) cells slots → T'.heap = h' → Wr h h' a j.toNatClampNeg (.int (nar .boolean x)) → Fa Z h' a .boolean n (fun i => .int (upd y j (nar .boolean x) i)) → Go p e below P T' { g with pc := g.pc + 1, stack := rest }) : Go p e below P T g := by
  obtain ⟨cl, A, S, M, H⟩ := id F
  obtain ⟨T', h', X', e', W, st⟩ := stZ X hx hZ eT A (inb_of S ⟨h0, h1⟩) hg hs hd
  exact Go.of _ st (k _ _ X' e' W (by have := F.set W h0 (fits_nar_bool _); rwa [upd_int] at this))
theorem Go.lastore (X : Stand p l e R s m args below meth c T locs cells slots) (hx : p.tables.exec = Jvm.exec) (hZ : Z.Warmed39 s.vm) (eT : T.heap = h) {y : Int32 → Int64} {x : Int64} (F : Fa Z h a .long n (fun i => .long (y i))) (h0 : ¬ j < 0) (h1 : j < n) (hg : g.method = m) (hs : g.stack = .long x :: .int j :: .ref a :: rest) (hd : decode c.code g.pc = .ok (.lastore, 1))
    (k : ∀ T' h', Stand p l e R s m args below meth c T' (locs ++ [⟨a, j.toNatClampNeg⟩]) cells slots → T'.heap = h' → Wr h h' a j.toNatClampNeg (.long x) → Fa Z h' a .long n (fun i => .long (upd y j x i)) → Go p e below P T' { g with pc := g.pc + 1, stack := rest }) : Go p e below P T g := by
  obtain ⟨cl, A, S, M, H⟩ := id F
  obtain ⟨T', h', X', e', W, st⟩ := stJ X hx hZ eT A (inb_of S ⟨h0, h1⟩) hg hs hd
  exact Go.of _ st (k _ _ X' e' W (by have := F.set W h0 rfl; rwa [upd_long] at this))
theorem Go.aastore (X : Stand p l e R s m args below meth c T locs cells slots) (hx : p.tables.exec = Jvm.exec) (hZ : Z.Warmed39 s.vm) (eT : T.heap = h) (F : Fa Z h a ty n yv) (hty : ty.isReference = true) (hf : fits ty v = true) (O : Sto Z h a v) (h0 : ¬ j < 0) (h1 : j < n) (hg : g.method = m) (hs : g.stack = v :: .int j :: .ref a :: rest) (hd : decode c.code g.pc = .ok (.aastore, 1))
    (k : ∀ T' h', Stand p l e R s m args below meth c T' (locs ++ [⟨a, j.toNatClampNeg⟩]) cells slots → T'.heap = h' → Wr h h' a j.toNatClampNeg v → Fa Z h' a ty n (upd yv j v) → Go p e below P T' { g with pc := g.pc + 1, stack := rest }) : Go p e below P T g := by
  obtain ⟨cl, A, S, M, H⟩ := id F
  obtain ⟨T', h', X', e', W, st⟩ := stR X hx hZ eT A (inb_of S ⟨h0, h1⟩) hty O hg hs hd
  exact Go.of _ st (k _ _ X' e' W (F.set W h0 hf))
/-- the array's class is that of the arrays over C -/
def Uty (Z : State) (h : Heap) (a : Addr) (C : String) : Prop := ∃ c : Cell, h[a]? = some c ∧ Ovr Z c.cls C
theorem Uty.ext {C : String} (F : Uty Z h a C) (E : Ext h h') : Uty Z h' a C := by obtain ⟨c, A, r⟩ := F; exact ⟨c, E.2 _ _ A, r⟩
theorem Uty.wr {C : String} (F : Uty Z h b C) (W : Wr h h' a sl v) : Uty Z h' b C := by
  obtain ⟨c, A, r⟩ := F
  obtain ⟨c', e1, e2, -⟩ := wr_at W A
  exact ⟨c', e1, by rw [e2]; exact r⟩
theorem Uty.keep {C : String} (F : Uty Z h a C) (K : Keep h h' hws) : Uty Z h' a C := by
  obtain ⟨c, A, r⟩ := F
  obtain ⟨c', e1, e2, -⟩ := K.2.2 _ _ A
  exact ⟨c', e1, by rw [e2]; exact r⟩
theorem Fa.sto {C : String} (F : Fa Z h a ty n yv) (U : Uty Z h a C) (I : Ins Z h b C true) : Sto Z h a (.ref b) := by
  obtain ⟨c, A, -⟩ := F
  obtain ⟨c', A', O⟩ := U
  cases A.1.symm.trans A'
  exact Sto.of A O I
theorem nat_back {i : Nat} (hi : i < 2 ^ 31) : i.toInt32.toNatClampNeg = i ∧ ¬ i.toInt32 < 0 := by
  have e : i.toInt32.toInt = i := len_toInt hi
  refine ⟨?_, ?_⟩
  · show i.toInt32.toInt.toNat = i
    rw [e]; rfl
  · rw [Int32.lt_iff_toInt_lt, e]
    have z : (0 : Int32).toInt = 0 := by decide
    omega
theorem lt_of_nat {i : Nat} {z : Int32} (hz : ¬ z < 0) (hi : i < z.toNatClampNeg) : i.toInt32 < z ∧ i < 2 ^ 31 := by
  have q := nat_of hz
  have b := rng32 z
  have hb : i < 2 ^ 31 := by omega
  refine ⟨?_, hb⟩
  rw [Int32.lt_iff_toInt_lt, len_toInt hb]
  omega
theorem Fa.fitC {cl : Cell} (A : Arr Z h a cl ty) (S : cl.slots.size = n.toNatClampNeg) (M : ¬ n < 0) (H : ∀ j : Int32, ¬ j < 0 → j < n → cl.slots[j.toNatClampNeg]? = some (yv j) ∧ fits ty (yv j) = true) : FitC Z cl :=
  fitC_of A fun i hi w hw => by
    have q := lt_of_nat M (S ▸ hi)
    have r := nat_back q.2
    have u := H i.toInt32 r.2 q.1
    rw [r.1] at u
    cases hw.symm.trans u.1
    exact u.2
theorem Go.clone (X : Stand p l e R s m args below meth c T locs cells slots) (hx : p.tables.exec = Jvm.exec) (hZ : Z.Warmed39 s.vm) {own ad : String} {index : Nat} (hown : s.vm.findClass own = some m.cls)
    (w1 : (Cond.methodLink own index ⟨ad, "clone", "()Ljava/lang/Object;"⟩).before a0 Z = true) (w2 : (Cond.sameMethod ad "java/lang/Object" "clone" "()Ljava/lang/Object;").before a0 Z = true) (w3 : (Cond.native ⟨"java/lang/Object", "clone", "()Ljava/lang/Object;"⟩).before a0 Z = true)
    (w4 : (Cond.instanceMethod ⟨"java/lang/Object", "clone", "()Ljava/lang/Object;"⟩).before a0 Z = true) (w5 : (Cond.selects ad ⟨ad, "clone", "()Ljava/lang/Object;"⟩ ⟨"java/lang/Object", "clone", "()Ljava/lang/Object;"⟩).before a0 Z = true) (w6 : (Cond.castable ad "java/lang/Cloneable").before a0 Z = true)
    (eT : T.heap = h) (F : Fa Z h a ty n yv) (E : Exa Z h a ad) (hg : g.method = m) (hsize : g.locals.size = c.maxLocals) (hs : g.stack = .ref a :: rest) (hd : decode c.code g.pc = .ok (.invokevirtual index, 3))
    (hf : 1 ≤ R.frames) {W cap : Nat} (hW : 2 * g.monitorRoom + (rest.map fun v => v.category).sum ≤ W) (hl : W + 14 ≤ R.locals) (hcap : n.toNatClampNeg ≤ cap) (hc : cells + 1 ≤ R.cells) (hsl : slots + cap ≤ R.slots)
    (k : ∀ T' h', Stand p l e R s m args below meth c T' locs (cells + 1) (slots + cap) → T'.heap = h' → Ext h h' → Fa Z h' h.size ty n yv → Exa Z h' h.size ad → Go p e below P T' { g with pc := g.pc + 3, stack := .ref h.size :: rest }) : Go p e below P T g := by
  obtain ⟨cl, A, S, M, H⟩ := id F
  obtain ⟨T', h', X', e', ex, A', E', st⟩ := cloneA X hx hZ hown w1 w2 w3 w4 w5 w6 eT A E (Fa.fitC A S M H) hg hsize hs hd hf hW hl (by rw [S]; exact hcap) hc hsl
  exact Go.of _ st (k _ _ X' e' ex ⟨cloneOf cl, A', S, M, H⟩ E')
theorem exa_ns {C : String} (E : Exa Z h a C) : ∀ c : Cell, h[a]? = some c → c.vm.isStatics = false := fun c hc => by
  obtain ⟨c', k, h1, -, -, h4, -⟩ := E
  cases h1.symm.trans hc; exact h4
theorem Sta.keep {C nn d : String} (F : Sta Z h C nn d v) (K : Keep h h' hws) (q : ∀ x ∈ hws, ∀ c : Cell, h[x]? = some c → c.vm.isStatics = false) : Sta Z h' C nn d v := by
  obtain ⟨cf, i, k, f, st, cell, h1, h2, h3, h4, h5, h6, h7⟩ := F
  refine ⟨cf, i, k, f, st, cell, h1, h2, h3, h4, K.2.1 _ _ h5 fun z => ?_, h6, h7⟩
  rw [q _ z _ h5] at h6; cases h6
/-- an inherited instance method (the entry names it through the subclass) -/
theorem Go.virtUp (X : Stand p l e R s m args below meth c T locs cells slots) (hx : p.tables.exec = Jvm.exec) (hZ : Z.Warmed39 s.vm) {own C owner : String} {z : MethodName} {index W : Nat} {argsL : List Value} (hown : s.vm.findClass own = some m.cls)
    (w1 : (Cond.methodLink own index z).before a0 Z = true) (w2 : (Cond.sameMethod z.cls owner z.name z.desc).before a0 Z = true) (w8 : (Cond.declares ⟨owner, z.name, z.desc⟩).before a0 Z = true) (hy : owner ≠ "java/lang/invoke/MethodHandle" ∧ owner ≠ "java/lang/invoke/VarHandle") (w5 : (Cond.selects C z y).before a0 Z = true) (w6 : (Cond.instanceMethod y).before a0 Z = true) (w3 : (Cond.initialized y.cls).before a0 Z = true) (w4 : (Cond.code y bytes maxL ret).before a0 Z = true)
    (eT : T.heap = h) (E : Exa Z h a C) (hM : Met l Z y bytes maxL ret [] rm (.ref a :: argsL).toArray h Q)
    (hg : g.method = m) (hsize : g.locals.size = c.maxLocals) (hlen : ∀ sig, parseMethodDescriptor z.desc = some sig → argsL.length = sig.parameters.length) (hs : g.stack = argsL.reverse ++ .ref a :: rest)
    (hW : 2 * g.monitorRoom + (rest.map fun v => v.category).sum ≤ W) (hd : decode c.code g.pc = .ok (.invokevirtual index, 3)) (hf : rm.frames + 1 ≤ R.frames) (hl : W + (maxL + 11) + rm.locals ≤ R.locals) (hc : cells + rm.cells ≤ R.cells) (hsl : slots + rm.slots ≤ R.slots)
    (k : ∀ T' L v, Stand p l e R s m args below meth c T' (locs ++ L) (cells + rm.cells) (slots + rm.slots) → Q v T'.heap L → Go p e below P T' { g with pc := g.pc + 3, stack := v.toList ++ rest }) : Go p e below P T g := by
  obtain ⟨cq, kq, qa, qb, qc⟩ := isOf hZ eT E
  obtain ⟨v, _, ⟨U, L, q1, q2⟩, -, X', ⟨Lc, hQ, l1, l2, l3⟩, st⟩ := X.virtualBackUp hx (x := z) (y := y) hown (mvT hZ w1) (mvT hZ w2) (mvT hZ w8) hy (mvT hZ w5) (mvT hZ w6) (backOf (W := W) hM hZ w4 w3 hf hl) qa qc hg hsize (Steps.refl _) hlen hs hW hd (fun _ _ => ⟨rfl, eT, hc, hsl⟩)
  dsimp only [Pt.U, Pt.locs, Pt.cells, Pt.slots] at X' l1 l2 l3 st hQ
  subst l1 l2 l3
  exact Go.via _ st (k _ _ _ X' hQ)
/-- the two sides of a call as the pasted laws of String have them -/
abbrev BPre (R : Room) (as' : Array Value) (h : Heap) (kc ks : Nat) : Pt → Array Value → Prop := fun P a => a = as' ∧ P.U.heap = h ∧ P.cells + kc ≤ R.cells ∧ P.slots + ks ≤ R.slots
abbrev BPost (Q : Option Value → Heap → List Loc → Prop) (kc ks : Nat) : Pt → Array Value → Option Value → Pt → Prop := fun P _ v B => ∃ L, Q v B.U.heap L ∧ B.locs = P.locs ++ L ∧ B.cells = P.cells + kc ∧ B.slots = P.slots + ks
theorem Go.initB (X : Stand p l e R s m args below meth c T locs cells slots) (hx : p.tables.exec = Jvm.exec) (hZ : Z.Warmed39 s.vm) {own : String} {index W kc ks : Nat} {argsL : List Value} (hown : s.vm.findClass own = some m.cls) (hy1 : y.name = "<init>")
    (w1 : (Cond.methodLink own index y).before a0 Z = true) (w2 : (Cond.instanceMethod y).before a0 Z = true) (w4 : (Cond.code y bytes maxL none).before a0 Z = true)
    (hy : y.cls ≠ "java/lang/invoke/MethodHandle" ∧ y.cls ≠ "java/lang/invoke/VarHandle") (eT : T.heap = h) (hK : Back l R p e below s args y 3 W (BPre R (.ref a :: argsL).toArray h kc ks) (BPost Q kc ks))
    (hg : g.method = m) (hsize : g.locals.size = c.maxLocals) (hlen : ∀ sig, parseMethodDescriptor y.desc = some sig → argsL.length = sig.parameters.length) (hs : g.stack = argsL.reverse ++ .ref a :: rest)
    (hW : 2 * g.monitorRoom + (rest.map fun v => v.category).sum ≤ W) (hd : decode c.code g.pc = .ok (.invokespecial index, 3)) (hc : cells + kc ≤ R.cells) (hsl : slots + ks ≤ R.slots)
    (k : ∀ T' L v, Stand p l e R s m args below meth c T' (locs ++ L) (cells + kc) (slots + ks) → Q v T'.heap L → Go p e below P T' { g with pc := g.pc + 3, stack := v.toList ++ rest }) : Go p e below P T g := by
  obtain ⟨v, _, ⟨U, L, q1, q2⟩, -, X', ⟨Lc, hQ, l1, l2, l3⟩, st⟩ := X.specialBack hx (y := y) hy1 hown (mvT hZ w1) (mvT hZ w2) (mvT hZ w4) hy hK hg hsize (Steps.refl _) hlen hs hW hd (fun _ _ => ⟨rfl, eT, hc, hsl⟩)
  dsimp only [Pt.U, Pt.locs, Pt.cells, Pt.slots] at X' l1 l2 l3 st hQ
  subst l1 l2 l3
  exact Go.via _ st (k _ _ _ X' hQ)
theorem Go.virtB (X : Stand p l e R s m args below meth c T locs cells slots) (hx : p.tables.exec = Jvm.exec) (hZ : Z.Warmed39 s.vm) {own C : String} {z : MethodName} {index W kc ks : Nat} {argsL : List Value} (hown : s.vm.findClass own = some m.cls)
    (w1 : (Cond.methodLink own index z).before a0 Z = true) (w2 : (Cond.declares z).before a0 Z = true) (nf : NotFace s z) (w5 : (Cond.selects C z y).before a0 Z = true) (w6 : (Cond.instanceMethod y).before a0 Z = true)
    (hy : z.cls ≠ "java/lang/invoke/MethodHandle" ∧ z.cls ≠ "java/lang/invoke/VarHandle") (eT : T.heap = h) (E : Exa Z h a C) (hK : Back l R p e below s args y 3 W (BPre R (.ref a :: argsL).toArray h kc ks) (BPost Q kc ks))
    (hg : g.method = m) (hsize : g.locals.size = c.maxLocals) (hlen : ∀ sig, parseMethodDescriptor z.desc = some sig → argsL.length = sig.parameters.length) (hs : g.stack = argsL.reverse ++ .ref a :: rest)
    (hW : 2 * g.monitorRoom + (rest.map fun v => v.category).sum ≤ W) (hd : decode c.code g.pc = .ok (.invokevirtual index, 3)) (hc : cells + kc ≤ R.cells) (hsl : slots + ks ≤ R.slots)
    (k : ∀ T' L v, Stand p l e R s m args below meth c T' (locs ++ L) (cells + kc) (slots + ks) → Q v T'.heap L → Go p e below P T' { g with pc := g.pc + 3, stack := v.toList ++ rest }) : Go p e below P T g := by
  obtain ⟨cq, kq, qa, qb, qc⟩ := isOf hZ eT E
  obtain ⟨v, _, ⟨U, L, q1, q2⟩, -, X', ⟨Lc, hQ, l1, l2, l3⟩, st⟩ := X.virtualBack hx (y := z) (z := y) hown (mvT hZ w1) (mvT hZ w2) nf (mvT hZ w5) (mvT hZ w6) hy hK qa qc hg hsize (Steps.refl _) hlen hs hW hd (fun _ _ => ⟨rfl, eT, hc, hsl⟩)
  dsimp only [Pt.U, Pt.locs, Pt.cells, Pt.slots] at X' l1 l2 l3 st hQ
  subst l1 l2 l3
  exact Go.via _ st (k _ _ _ X' hQ)
theorem Fa.toArv {vs : List Value} {dv : Value} (F : Fa Z h a ty n yv) (q : ∀ i : Nat, i < n.toNatClampNeg → vs.getD i dv = yv i.toInt32) : ∃ k, Arv Z h a k ty n vs dv := by
  obtain ⟨cl, A, S, M, H⟩ := F
  refine ⟨cl.cls, cl, A, rfl, S, M, fun i hi => ?_, fun i hi => ?_⟩
  · rw [S] at hi
    have b := lt_of_nat M hi
    have r := nat_back b.2
    have u := (H _ r.2 b.1).1
    rw [r.1] at u; rw [q i hi]; exact u
  · rw [S] at hi
    have b := lt_of_nat M hi
    have r := nat_back b.2
    rw [q i hi]; exact (H _ r.2 b.1).2
end Own
end Jvm.OwnGo
namespace Jvm.Pilot.@@N@@
open Jvm Jvm.ClassFile Sem Op Lib Jvm.Free Jvm.Stand Jvm.LawKit Jvm.RoadKit Bundle Jvm.OwnGo Jvm.Pilot.@@N@@.Jvm.D

def own_lh (q : Int64) : Int32 := (q ^^^ ((q.toUInt64 >>> ((32 : Int32) &&& 0x3f).toInt64.toUInt64).toInt64)).toInt32
def own_hash (q1 q2 : Int64) : Int32 := own_lh q1 * 31 + own_lh q2
def own_eq (q1 q2 q3 q4 : Int64) : Int32 := if q1 = q3 ∧ q2 = q4 then 1 else 0
theorem own_hq {q1 q2 q3 q4 : Int64} (h : ¬ own_eq q1 q2 q3 q4 = 0) : own_hash q3 q4 = own_hash q1 q2 := by
  unfold own_eq at h
  split at h
  · rename_i h2; rw [h2.1, h2.2]
  · simp at h
theorem tw0 {Z : State} {a0 : Array Value} (hw : ∀ d ∈ tables_1, d.before a0 Z = true) : (Jvm.Cond.classLink "com/example/millrace/millrace/scheduler/RunCountsHashCodePinLaw" (7 : Nat) "com/example/millrace/millrace/scheduler/RunCounts").before a0 Z = true := hw _ (List.mem_of_getElem? (i := 0) rfl)
theorem tw1 {Z : State} {a0 : Array Value} (hw : ∀ d ∈ tables_1, d.before a0 Z = true) : (Jvm.Cond.instantiable "com/example/millrace/millrace/scheduler/RunCounts" (2 : Nat)).before a0 Z = true := hw _ (List.mem_of_getElem? (i := 1) rfl)
theorem tw2 {Z : State} {a0 : Array Value} (hw : ∀ d ∈ tables_1, d.before a0 Z = true) : (Jvm.Cond.initialized "com/example/millrace/millrace/scheduler/RunCounts").before a0 Z = true := hw _ (List.mem_of_getElem? (i := 2) rfl)
theorem tw3 {Z : State} {a0 : Array Value} (hw : ∀ d ∈ tables_1, d.before a0 Z = true) : (Jvm.Cond.methodLink "com/example/millrace/millrace/scheduler/RunCountsHashCodePinLaw" (9 : Nat) ({ cls := "com/example/millrace/millrace/scheduler/RunCounts", name := "<init>", desc := "(JJ)V" } : Jvm.MethodName)).before a0 Z = true := hw _ (List.mem_of_getElem? (i := 3) rfl)
theorem tw4 {Z : State} {a0 : Array Value} (hw : ∀ d ∈ tables_1, d.before a0 Z = true) : (Jvm.Cond.instanceMethod ({ cls := "com/example/millrace/millrace/scheduler/RunCounts", name := "<init>", desc := "(JJ)V" } : Jvm.MethodName)).before a0 Z = true := hw _ (List.mem_of_getElem? (i := 4) rfl)
theorem tw5 {Z : State} {a0 : Array Value} (hw : ∀ d ∈ tables_1, d.before a0 Z = true) : (Jvm.Cond.code ({ cls := "com/example/millrace/millrace/scheduler/RunCounts", name := "<init>", desc := "(JJ)V" } : Jvm.MethodName) prog_29_method_1_code (5 : Nat) (Option.none : Option Jvm.ClassFile.FieldType)).before a0 Z = true := hw _ (List.mem_of_getElem? (i := 5) rfl)
theorem tw6 {Z : State} {a0 : Array Value} (hw : ∀ d ∈ tables_1, d.before a0 Z = true) : (Jvm.Cond.methodLink "com/example/millrace/millrace/scheduler/RunCounts" (1 : Nat) ({ cls := "java/lang/Object", name := "<init>", desc := "()V" } : Jvm.MethodName)).before a0 Z = true := hw _ (List.mem_of_getElem? (i := 6) rfl)
theorem tw7 {Z : State} {a0 : Array Value} (hw : ∀ d ∈ tables_1, d.before a0 Z = true) : (Jvm.Cond.instanceMethod ({ cls := "java/lang/Object", name := "<init>", desc := "()V" } : Jvm.MethodName)).before a0 Z = true := hw _ (List.mem_of_getElem? (i := 7) rfl)
theorem tw8 {Z : State} {a0 : Array Value} (hw : ∀ d ∈ tables_1, d.before a0 Z = true) : (Jvm.Cond.code ({ cls := "java/lang/Object", name := "<init>", desc := "()V" } : Jvm.MethodName) object_method_1_code (1 : Nat) (Option.none : Option Jvm.ClassFile.FieldType)).before a0 Z = true := hw _ (List.mem_of_getElem? (i := 8) rfl)
theorem tw9 {Z : State} {a0 : Array Value} (hw : ∀ d ∈ tables_1, d.before a0 Z = true) : (Jvm.Cond.fieldLink "com/example/millrace/millrace/scheduler/RunCounts" (7 : Nat) "com/example/millrace/millrace/scheduler/RunCounts" "successes" "J").before a0 Z = true := hw _ (List.mem_of_getElem? (i := 9) rfl)
theorem tw10 {Z : State} {a0 : Array Value} (hw : ∀ d ∈ tables_1, d.before a0 Z = true) : (Jvm.Cond.laysFinal "com/example/millrace/millrace/scheduler/RunCounts" "com/example/millrace/millrace/scheduler/RunCounts" "successes" "J").before a0 Z = true := hw _ (List.mem_of_getElem? (i := 10) rfl)
theorem tw11 {Z : State} {a0 : Array Value} (hw : ∀ d ∈ tables_1, d.before a0 Z = true) : (Jvm.Cond.fieldLink "com/example/millrace/millrace/scheduler/RunCounts" (13 : Nat) "com/example/millrace/millrace/scheduler/RunCounts" "failures" "J").before a0 Z = true := hw _ (List.mem_of_getElem? (i := 11) rfl)
theorem tw12 {Z : State} {a0 : Array Value} (hw : ∀ d ∈ tables_1, d.before a0 Z = true) : (Jvm.Cond.laysFinal "com/example/millrace/millrace/scheduler/RunCounts" "com/example/millrace/millrace/scheduler/RunCounts" "failures" "J").before a0 Z = true := hw _ (List.mem_of_getElem? (i := 12) rfl)
theorem tw13 {Z : State} {a0 : Array Value} (hw : ∀ d ∈ tables_1, d.before a0 Z = true) : (Jvm.Cond.methodLink "com/example/millrace/millrace/scheduler/RunCountsHashCodePinLaw" (12 : Nat) ({ cls := "com/example/millrace/millrace/scheduler/RunCounts", name := "hashCode", desc := "()I" } : Jvm.MethodName)).before a0 Z = true := hw _ (List.mem_of_getElem? (i := 13) rfl)
theorem tw14 {Z : State} {a0 : Array Value} (hw : ∀ d ∈ tables_1, d.before a0 Z = true) : (Jvm.Cond.declares ({ cls := "com/example/millrace/millrace/scheduler/RunCounts", name := "hashCode", desc := "()I" } : Jvm.MethodName)).before a0 Z = true := hw _ (List.mem_of_getElem? (i := 14) rfl)
theorem tw15 {Z : State} {a0 : Array Value} (hw : ∀ d ∈ tables_1, d.before a0 Z = true) : (Jvm.Cond.instanceMethod ({ cls := "com/example/millrace/millrace/scheduler/RunCounts", name := "hashCode", desc := "()I" } : Jvm.MethodName)).before a0 Z = true := hw _ (List.mem_of_getElem? (i := 15) rfl)
theorem tw16 {Z : State} {a0 : Array Value} (hw : ∀ d ∈ tables_1, d.before a0 Z = true) : (Jvm.Cond.selects "com/example/millrace/millrace/scheduler/RunCounts" ({ cls := "com/example/millrace/millrace/scheduler/RunCounts", name := "hashCode", desc := "()I" } : Jvm.MethodName) ({ cls := "com/example/millrace/millrace/scheduler/RunCounts", name := "hashCode", desc := "()I" } : Jvm.MethodName)).before a0 Z = true := hw _ (List.mem_of_getElem? (i := 16) rfl)
theorem tw17 {Z : State} {a0 : Array Value} (hw : ∀ d ∈ tables_1, d.before a0 Z = true) : (Jvm.Cond.code ({ cls := "com/example/millrace/millrace/scheduler/RunCounts", name := "hashCode", desc := "()I" } : Jvm.MethodName) prog_29_method_5_code (1 : Nat) (Option.some Jvm.ClassFile.FieldType.int)).before a0 Z = true := hw _ (List.mem_of_getElem? (i := 17) rfl)
theorem tw18 {Z : State} {a0 : Array Value} (hw : ∀ d ∈ tables_1, d.before a0 Z = true) : (Jvm.Cond.methodLink "com/example/millrace/millrace/scheduler/RunCounts" (16 : Nat) ({ cls := "java/lang/Long", name := "hashCode", desc := "(J)I" } : Jvm.MethodName)).before a0 Z = true := hw _ (List.mem_of_getElem? (i := 18) rfl)
theorem tw19 {Z : State} {a0 : Array Value} (hw : ∀ d ∈ tables_1, d.before a0 Z = true) : (Jvm.Cond.static ({ cls := "java/lang/Long", name := "hashCode", desc := "(J)I" } : Jvm.MethodName)).before a0 Z = true := hw _ (List.mem_of_getElem? (i := 19) rfl)
theorem tw20 {Z : State} {a0 : Array Value} (hw : ∀ d ∈ tables_1, d.before a0 Z = true) : (Jvm.Cond.initialized "java/lang/Long").before a0 Z = true := hw _ (List.mem_of_getElem? (i := 20) rfl)
theorem tw21 {Z : State} {a0 : Array Value} (hw : ∀ d ∈ tables_1, d.before a0 Z = true) : (Jvm.Cond.code ({ cls := "java/lang/Long", name := "hashCode", desc := "(J)I" } : Jvm.MethodName) jdk_35_method_36_code (2 : Nat) (Option.some Jvm.ClassFile.FieldType.int)).before a0 Z = true := hw _ (List.mem_of_getElem? (i := 21) rfl)
theorem tw22 {Z : State} {a0 : Array Value} (hw : ∀ d ∈ tables_1, d.before a0 Z = true) : (Jvm.Cond.methodLink "com/example/millrace/millrace/scheduler/RunCountsHashCodePinLaw" (16 : Nat) ({ cls := "com/example/millrace/millrace/scheduler/RunCounts", name := "equals", desc := "(Ljava/lang/Object;)Z" } : Jvm.MethodName)).before a0 Z = true := hw _ (List.mem_of_getElem? (i := 22) rfl)
theorem tw23 {Z : State} {a0 : Array Value} (hw : ∀ d ∈ tables_1, d.before a0 Z = true) : (Jvm.Cond.declares ({ cls := "com/example/millrace/millrace/scheduler/RunCounts", name := "equals", desc := "(Ljava/lang/Object;)Z" } : Jvm.MethodName)).before a0 Z = true := hw _ (List.mem_of_getElem? (i := 23) rfl)
theorem tw24 {Z : State} {a0 : Array Value} (hw : ∀ d ∈ tables_1, d.before a0 Z = true) : (Jvm.Cond.instanceMethod ({ cls := "com/example/millrace/millrace/scheduler/RunCounts", name := "equals", desc := "(Ljava/lang/Object;)Z" } : Jvm.MethodName)).before a0 Z = true := hw _ (List.mem_of_getElem? (i := 24) rfl)
theorem tw25 {Z : State} {a0 : Array Value} (hw : ∀ d ∈ tables_1, d.before a0 Z = true) : (Jvm.Cond.selects "com/example/millrace/millrace/scheduler/RunCounts" ({ cls := "com/example/millrace/millrace/scheduler/RunCounts", name := "equals", desc := "(Ljava/lang/Object;)Z" } : Jvm.MethodName) ({ cls := "com/example/millrace/millrace/scheduler/RunCounts", name := "equals", desc := "(Ljava/lang/Object;)Z" } : Jvm.MethodName)).before a0 Z = true := hw _ (List.mem_of_getElem? (i := 25) rfl)
theorem tw26 {Z : State} {a0 : Array Value} (hw : ∀ d ∈ tables_1, d.before a0 Z = true) : (Jvm.Cond.code ({ cls := "com/example/millrace/millrace/scheduler/RunCounts", name := "equals", desc := "(Ljava/lang/Object;)Z" } : Jvm.MethodName) prog_29_method_4_code (2 : Nat) (Option.some Jvm.ClassFile.FieldType.boolean)).before a0 Z = true := hw _ (List.mem_of_getElem? (i := 26) rfl)
theorem tw27 {Z : State} {a0 : Array Value} (hw : ∀ d ∈ tables_1, d.before a0 Z = true) : (Jvm.Cond.classLink "com/example/millrace/millrace/scheduler/RunCounts" (8 : Nat) "com/example/millrace/millrace/scheduler/RunCounts").before a0 Z = true := hw _ (List.mem_of_getElem? (i := 27) rfl)
theorem pn0 : plainFor (⟨"com/example/millrace/millrace/scheduler/RunCounts", "<init>", "(JJ)V"⟩ : MethodName) = true := plainFor_of_name (by first | (simp [plainName, overriddenIn]; done) | decide +kernel)
theorem d1_0 : decode prog_29_method_1_code 0 = .ok (.aload_n 0, 1) := by decide +kernel
theorem d1_1 : decode prog_29_method_1_code 1 = .ok (.invokespecial 1, 3) := by decide +kernel
theorem d1_4 : decode prog_29_method_1_code 4 = .ok (.aload_n 0, 1) := by decide +kernel
theorem d1_5 : decode prog_29_method_1_code 5 = .ok (.lload_n 1, 1) := by decide +kernel
theorem d1_6 : decode prog_29_method_1_code 6 = .ok (.putfield 7, 3) := by decide +kernel
theorem d1_9 : decode prog_29_method_1_code 9 = .ok (.aload_n 0, 1) := by decide +kernel
theorem d1_10 : decode prog_29_method_1_code 10 = .ok (.lload_n 3, 1) := by decide +kernel
theorem d1_11 : decode prog_29_method_1_code 11 = .ok (.putfield 13, 3) := by decide +kernel
theorem d1_14 : decode prog_29_method_1_code 14 = .ok (.return_, 1) := by decide +kernel
theorem pn1 : plainFor (⟨"java/lang/Long", "hashCode", "(J)I"⟩ : MethodName) = true := plainFor_of_name (by first | (simp [plainName, overriddenIn]; done) | decide +kernel)
theorem d4_0 : decode jdk_35_method_36_code 0 = .ok (.lload_n 0, 1) := by decide +kernel
theorem d4_1 : decode jdk_35_method_36_code 1 = .ok (.lload_n 0, 1) := by decide +kernel
theorem d4_2 : decode jdk_35_method_36_code 2 = .ok (.bipush 32, 2) := by decide +kernel
theorem d4_4 : decode jdk_35_method_36_code 4 = .ok (.lushr, 1) := by decide +kernel
theorem d4_5 : decode jdk_35_method_36_code 5 = .ok (.lxor, 1) := by decide +kernel
theorem d4_6 : decode jdk_35_method_36_code 6 = .ok (.l2i, 1) := by decide +kernel
theorem d4_7 : decode jdk_35_method_36_code 7 = .ok (.ireturn, 1) := by decide +kernel
theorem pn2 : plainFor (⟨"com/example/millrace/millrace/scheduler/RunCounts", "hashCode", "()I"⟩ : MethodName) = true := plainFor_of_name (by first | (simp [plainName, overriddenIn]; done) | decide +kernel)
theorem d3_0 : decode prog_29_method_5_code 0 = .ok (.aload_n 0, 1) := by decide +kernel
theorem d3_1 : decode prog_29_method_5_code 1 = .ok (.getfield 7, 3) := by decide +kernel
theorem d3_4 : decode prog_29_method_5_code 4 = .ok (.invokestatic 16, 3) := by decide +kernel
theorem pd3 : parseMethodDescriptor "(J)I" = some ⟨[.long], some .int⟩ := by decide +kernel
theorem d3_7 : decode prog_29_method_5_code 7 = .ok (.bipush 31, 2) := by decide +kernel
theorem d3_9 : decode prog_29_method_5_code 9 = .ok (.imul, 1) := by decide +kernel
theorem d3_10 : decode prog_29_method_5_code 10 = .ok (.aload_n 0, 1) := by decide +kernel
theorem d3_11 : decode prog_29_method_5_code 11 = .ok (.getfield 13, 3) := by decide +kernel
theorem d3_14 : decode prog_29_method_5_code 14 = .ok (.invokestatic 16, 3) := by decide +kernel
theorem d3_17 : decode prog_29_method_5_code 17 = .ok (.iadd, 1) := by decide +kernel
theorem d3_18 : decode prog_29_method_5_code 18 = .ok (.ireturn, 1) := by decide +kernel
theorem pn4 : plainFor (⟨"com/example/millrace/millrace/scheduler/RunCounts", "equals", "(Ljava/lang/Object;)Z"⟩ : MethodName) = true := plainFor_of_name (by first | (simp [plainName, overriddenIn]; done) | decide +kernel)
theorem d5_0 : decode prog_29_method_4_code 0 = .ok (.aload_n 1, 1) := by decide +kernel
theorem d5_1 : decode prog_29_method_4_code 1 = .ok (.instanceof 8, 3) := by decide +kernel
theorem d5_4 : decode prog_29_method_4_code 4 = .ok (.ifCond .eq 37, 3) := by decide +kernel
theorem d5_7 : decode prog_29_method_4_code 7 = .ok (.aload_n 1, 1) := by decide +kernel
theorem d5_8 : decode prog_29_method_4_code 8 = .ok (.checkcast 8, 3) := by decide +kernel
theorem d5_11 : decode prog_29_method_4_code 11 = .ok (.getfield 7, 3) := by decide +kernel
theorem d5_14 : decode prog_29_method_4_code 14 = .ok (.aload_n 0, 1) := by decide +kernel
theorem d5_15 : decode prog_29_method_4_code 15 = .ok (.getfield 7, 3) := by decide +kernel
theorem d5_18 : decode prog_29_method_4_code 18 = .ok (.lcmp, 1) := by decide +kernel
theorem d5_19 : decode prog_29_method_4_code 19 = .ok (.ifCond .ne 22, 3) := by decide +kernel
theorem d5_22 : decode prog_29_method_4_code 22 = .ok (.aload_n 1, 1) := by decide +kernel
theorem d5_23 : decode prog_29_method_4_code 23 = .ok (.checkcast 8, 3) := by decide +kernel
theorem d5_26 : decode prog_29_method_4_code 26 = .ok (.getfield 13, 3) := by decide +kernel
theorem d5_29 : decode prog_29_method_4_code 29 = .ok (.aload_n 0, 1) := by decide +kernel
theorem d5_30 : decode prog_29_method_4_code 30 = .ok (.getfield 13, 3) := by decide +kernel
theorem d5_33 : decode prog_29_method_4_code 33 = .ok (.lcmp, 1) := by decide +kernel
theorem d5_34 : decode prog_29_method_4_code 34 = .ok (.ifCond .ne 7, 3) := by decide +kernel
theorem d5_37 : decode prog_29_method_4_code 37 = .ok (.iconst 1, 1) := by decide +kernel
theorem d5_38 : decode prog_29_method_4_code 38 = .ok (.goto 4, 3) := by decide +kernel
theorem d5_42 : decode prog_29_method_4_code 42 = .ok (.ireturn, 1) := by decide +kernel
theorem d5_41 : decode prog_29_method_4_code 41 = .ok (.iconst 0, 1) := by decide +kernel
theorem pn5 : plainFor (⟨"com/example/millrace/millrace/scheduler/RunCountsHashCodePinLaw", "law", "(JJJI)Z"⟩ : MethodName) = true := plainFor_of_name (by first | (simp [plainName, overriddenIn]; done) | decide +kernel)
theorem pd6 : parseMethodDescriptor "(JJ)V" = some ⟨[.long, .long], none⟩ := by decide +kernel
theorem pd7 : parseMethodDescriptor "()I" = some ⟨[], some .int⟩ := by decide +kernel
theorem pd8 : parseMethodDescriptor "(Ljava/lang/Object;)Z" = some ⟨[(.object "java/lang/Object")], some .boolean⟩ := by decide +kernel
theorem ef_rm1 (m : MethodId) (x0 : Addr) (x1 : Int64) (x2 : Int64) : entryFrame m #[(.ref x0), (.long x1), (.long x2)] 5 = mkF m 0 #[.val (.ref x0), .val (.long x1), .second, .val (.long x2), .second] [] := by first | (simp [entryFrame, mkF, argsToLocals, Value.category]; done) | rfl
set_option maxRecDepth 65536 in
set_option maxHeartbeats 40000000 in
theorem rm1 (l : Launch) (Z : State) (a0 : Array Value) (hw : ∀ d ∈ tables_1, d.before a0 Z = true) (ws : List Jvm.Cond) (a : Addr) (q1 q2 : Int64) (h0 : Heap) (n0 : Nat) (hz0 : n0 ≤ h0.size) (E : Exa Z h0 a "com/example/millrace/millrace/scheduler/RunCounts") (F1 : Fld Z h0 a "com/example/millrace/millrace/scheduler/RunCounts" "successes" "J" (.long (0 : Int64))) (F2 : Fld Z h0 a "com/example/millrace/millrace/scheduler/RunCounts" "failures" "J" (.long (0 : Int64))) (ga : n0 ≤ a) :
    Met l Z (⟨"com/example/millrace/millrace/scheduler/RunCounts", "<init>", "(JJ)V"⟩ : MethodName) prog_29_method_1_code 5 none ws ({ frames := 1, cells := 0, slots := 0, locals := 12 } : Room) #[(.ref a), (.long q1), (.long q2)] h0 (fun v h L => v = none ∧ Fr n0 L ∧ Keep h0 h [a] ∧ Fld Z h a "com/example/millrace/millrace/scheduler/RunCounts" "successes" "J" (.long q1) ∧ Fld Z h a "com/example/millrace/millrace/scheduler/RunCounts" "failures" "J" (.long q2)) := by
  refine Met.intro pn0 ?_
  intro pr ev s m below meth c T0 X0 hx hZ hown hby hml hret hlk hnm e0
  refine Go.cast (ef_rm1 m a q1 q2) ?_
  have N0 := Fr.nil n0
  have hz := hz0
  have K0 : Keep h0 h0 [a] := Keep.refl h0 _
  refine Go.of (mkF m 1 #[.val (.ref a), .val (.long q1), .second, .val (.long q2), .second] [(.ref a)]) (fun t k => XS.aloadN X0.here hx rfl (hb hby d1_0) rfl rfl k) ?_
  obtain ⟨T1, X1, e1, st1⟩ := initO X0 hx hZ hown (tw6 hw) (tw7 hw) (tw8 hw) e0 (g := (mkF m 1 #[.val (.ref a), .val (.long q1), .second, .val (.long q2), .second] [(.ref a)])) rfl (by rw [hml]; rfl) rfl (hb hby d1_1) (by decide) (W := 0) (by show 2 * 0 + _ ≤ _; exact Nat.le_of_eq rfl) (by decide)
  refine Go.of (mkF m 4 #[.val (.ref a), .val (.long q1), .second, .val (.long q2), .second] []) (st1) ?_
  refine Go.of (mkF m 5 #[.val (.ref a), .val (.long q1), .second, .val (.long q2), .second] [(.ref a)]) (fun t k => XS.aloadN X1.here hx rfl (hb hby d1_4) rfl rfl k) ?_
  refine Go.of (mkF m 6 #[.val (.ref a), .val (.long q1), .second, .val (.long q2), .second] [(.long q1), (.ref a)]) (fun t k => XS.lloadN X1.here hx rfl (hb hby d1_5) rfl k) ?_
  obtain ⟨T2, h2, X2, e2, W2, st2⟩ := putF X1 hx hZ hown (host := "") (Or.inl (tw9 hw)) Via.refl e1 F1 E (Or.inr ⟨(tw10 hw), rfl, hnm⟩) (tw1 hw) (ty := .long) (by decide) rfl rfl (g := (mkF m 6 #[.val (.ref a), .val (.long q1), .second, .val (.long q2), .second] [(.long q1), (.ref a)])) rfl rfl (hb hby d1_6)
  replace F1 := F1.same W2
  replace F2 := F2.other W2 (Or.inr (slot_ne (Or.inr (tw12 hw)) (Or.inr (tw10 hw)) (by decide) (t := .long) (t' := .long) (by decide) (by decide)))
  replace E := E.wr W2
  replace hz := Nat.le_trans hz (Nat.le_of_eq W2.size.symm)
  replace K0 := K0.wr W2 (Or.inl (by simp))
  have N2 := Fr.snoc X2 N0 ga
  refine Go.of (mkF m 9 #[.val (.ref a), .val (.long q1), .second, .val (.long q2), .second] []) (st2) ?_
  refine Go.of (mkF m 10 #[.val (.ref a), .val (.long q1), .second, .val (.long q2), .second] [(.ref a)]) (fun t k => XS.aloadN X2.here hx rfl (hb hby d1_9) rfl rfl k) ?_
  refine Go.of (mkF m 11 #[.val (.ref a), .val (.long q1), .second, .val (.long q2), .second] [(.long q2), (.ref a)]) (fun t k => XS.lloadN X2.here hx rfl (hb hby d1_10) rfl k) ?_
  obtain ⟨T3, h3, X3, e3, W3, st3⟩ := putF X2 hx hZ hown (host := "") (Or.inl (tw11 hw)) Via.refl e2 F2 E (Or.inr ⟨(tw12 hw), rfl, hnm⟩) (tw1 hw) (ty := .long) (by decide) rfl rfl (g := (mkF m 11 #[.val (.ref a), .val (.long q1), .second, .val (.long q2), .second] [(.long q2), (.ref a)])) rfl rfl (hb hby d1_11)
  replace F1 := F1.other W3 (Or.inr (slot_ne (Or.inr (tw10 hw)) (Or.inr (tw12 hw)) (by decide) (t := .long) (t' := .long) (by decide) (by decide)))
  replace F2 := F2.same W3
  replace E := E.wr W3
  replace hz := Nat.le_trans hz (Nat.le_of_eq W3.size.symm)
  replace K0 := K0.wr W3 (Or.inl (by simp))
  have N3 := Fr.snoc X3 N2 ga
  refine Go.of (mkF m 14 #[.val (.ref a), .val (.long q1), .second, .val (.long q2), .second] []) (st3) ?_
  exact Go.retV X3 hx hret hlk (hb hby d1_14) (by decide) (by decide) (by rw [e3]; exact ⟨rfl, N3, K0, F1, F2⟩)
theorem ef_rm4 (m : MethodId) (x0 : Int64) : entryFrame m #[(.long x0)] 2 = mkF m 0 #[.val (.long x0), .second] [] := by first | (simp [entryFrame, mkF, argsToLocals, Value.category]; done) | rfl
set_option maxRecDepth 65536 in
set_option maxHeartbeats 40000000 in
theorem rm4 (l : Launch) (Z : State) (a0 : Array Value) (hw : ∀ d ∈ tables_1, d.before a0 Z = true) (ws : List Jvm.Cond) (q : Int64) (h0 : Heap) :
    Met l Z (⟨"java/lang/Long", "hashCode", "(J)I"⟩ : MethodName) jdk_35_method_36_code 2 (some .int) ws ({ frames := 0, cells := 0, slots := 0, locals := 0 } : Room) #[(.long q)] h0 (fun v h L => v = some (.int (own_lh q)) ∧ L = [] ∧ h = h0) := by
  refine Met.intro pn1 ?_
  intro pr ev s m below meth c T0 X0 hx hZ hown hby hml hret hlk hnm e0
  refine Go.cast (ef_rm4 m q) ?_
  refine Go.of (mkF m 1 #[.val (.long q), .second] [(.long q)]) (fun t k => XS.lloadN X0.here hx rfl (hb hby d4_0) rfl k) ?_
  refine Go.of (mkF m 2 #[.val (.long q), .second] [(.long q), (.long q)]) (fun t k => XS.lloadN X0.here hx rfl (hb hby d4_1) rfl k) ?_
  refine Go.of (mkF m 4 #[.val (.long q), .second] [(.int (32 : Int32)), (.long q), (.long q)]) (fun t k => XS.bipush X0.here hx rfl (hb hby d4_2) k) ?_
  refine Go.of (mkF m 5 #[.val (.long q), .second] [(.long ((q.toUInt64 >>> ((32 : Int32) &&& 0x3f).toInt64.toUInt64).toInt64)), (.long q)]) (fun t k => XS.lushr X0.here hx rfl (hb hby d4_4) rfl k) ?_
  refine Go.of (mkF m 6 #[.val (.long q), .second] [(.long (q ^^^ ((q.toUInt64 >>> ((32 : Int32) &&& 0x3f).toInt64.toUInt64).toInt64)))]) (fun t k => XS.lxor X0.here hx rfl (hb hby d4_5) rfl k) ?_
  refine Go.of (mkF m 7 #[.val (.long q), .second] [(.int ((q ^^^ ((q.toUInt64 >>> ((32 : Int32) &&& 0x3f).toInt64.toUInt64).toInt64)).toInt32))]) (fun t k => XS.l2i X0.here hx rfl (hb hby d4_6) rfl k) ?_
  exact Go.retW X0 hx (t := .int) hret hlk rfl (Or.inl ⟨rfl, by simp, _, rfl⟩) (hb hby d4_7) (by decide) (by decide) ⟨rfl, rfl, e0⟩
theorem ef_rm3 (m : MethodId) (x0 : Addr) : entryFrame m #[(.ref x0)] 1 = mkF m 0 #[.val (.ref x0)] [] := by first | (simp [entryFrame, mkF, argsToLocals, Value.category]; done) | rfl
set_option maxRecDepth 65536 in
set_option maxHeartbeats 40000000 in
theorem rm3 (l : Launch) (Z : State) (a0 : Array Value) (hw : ∀ d ∈ tables_1, d.before a0 Z = true) (ws : List Jvm.Cond) (a : Addr) (q1 q2 : Int64) (h0 : Heap) (F1 : Fld Z h0 a "com/example/millrace/millrace/scheduler/RunCounts" "successes" "J" (.long q1)) (F2 : Fld Z h0 a "com/example/millrace/millrace/scheduler/RunCounts" "failures" "J" (.long q2)) :
    Met l Z (⟨"com/example/millrace/millrace/scheduler/RunCounts", "hashCode", "()I"⟩ : MethodName) prog_29_method_5_code 1 (some .int) ws ({ frames := 1, cells := 0, slots := 0, locals := 14 } : Room) #[(.ref a)] h0 (fun v h L => v = some (.int (own_hash q1 q2)) ∧ L = [] ∧ h = h0) := by
  refine Met.intro pn2 ?_
  intro pr ev s m below meth c T0 X0 hx hZ hown hby hml hret hlk hnm e0
  refine Go.cast (ef_rm3 m a) ?_
  refine Go.of (mkF m 1 #[.val (.ref a)] [(.ref a)]) (fun t k => XS.aloadN X0.here hx rfl (hb hby d3_0) rfl rfl k) ?_
  obtain ⟨T1, X1, e1, st1⟩ := getF X0 hx hZ hown (host := "") (Or.inl (tw9 hw)) Via.refl e0 F1 (g := (mkF m 1 #[.val (.ref a)] [(.ref a)])) rfl rfl (hb hby d3_1)
  refine Go.of (mkF m 4 #[.val (.ref a)] [(.long q1)]) (st1) ?_
  refine Go.callS X1 hx hZ (y := (⟨"java/lang/Long", "hashCode", "(J)I"⟩ : MethodName)) (argsL := [(.long q1)]) (rest := []) hown (tw18 hw) (tw19 hw) (tw20 hw) (tw21 hw) (by decide) e1 (rm4 l Z a0 hw [] q1 h0) (g := (mkF m 4 #[.val (.ref a)] [(.long q1)])) rfl (by rw [hml]; rfl) (lenOf pd3 rfl) rfl (W := 0) (by show 2 * 0 + _ ≤ _; exact Nat.le_of_eq rfl) (hb hby d3_4) (by decide) (by decide) (by decide) (by decide) ?_
  rintro T2 L2 v2 X2 ⟨rfl, rfl, hh2⟩
  show Go pr ev below _ T2 (mkF m 7 #[.val (.ref a)] [(.int (own_lh q1))])
  refine Go.of (mkF m 9 #[.val (.ref a)] [(.int (31 : Int32)), (.int (own_lh q1))]) (fun t k => XS.bipush X2.here hx rfl (hb hby d3_7) k) ?_
  refine Go.of (mkF m 10 #[.val (.ref a)] [(.int ((own_lh q1) * (31 : Int32)))]) (fun t k => XS.imul X2.here hx rfl (hb hby d3_9) rfl k) ?_
  refine Go.of (mkF m 11 #[.val (.ref a)] [(.ref a), (.int ((own_lh q1) * (31 : Int32)))]) (fun t k => XS.aloadN X2.here hx rfl (hb hby d3_10) rfl rfl k) ?_
  obtain ⟨T3, X3, e3, st3⟩ := getF X2 hx hZ hown (host := "") (Or.inl (tw11 hw)) Via.refl hh2 F2 (g := (mkF m 11 #[.val (.ref a)] [(.ref a), (.int ((own_lh q1) * (31 : Int32)))])) rfl rfl (hb hby d3_11)
  refine Go.of (mkF m 14 #[.val (.ref a)] [(.long q2), (.int ((own_lh q1) * (31 : Int32)))]) (st3) ?_
  refine Go.callS X3 hx hZ (y := (⟨"java/lang/Long", "hashCode", "(J)I"⟩ : MethodName)) (argsL := [(.long q2)]) (rest := [(.int ((own_lh q1) * (31 : Int32)))]) hown (tw18 hw) (tw19 hw) (tw20 hw) (tw21 hw) (by decide) e3 (rm4 l Z a0 hw [] q2 h0) (g := (mkF m 14 #[.val (.ref a)] [(.long q2), (.int ((own_lh q1) * (31 : Int32)))])) rfl (by rw [hml]; rfl) (lenOf pd3 rfl) rfl (W := 1) (by show 2 * 0 + _ ≤ _; exact Nat.le_of_eq rfl) (hb hby d3_14) (by decide) (by decide) (by decide) (by decide) ?_
  rintro T4 L4 v4 X4 ⟨rfl, rfl, hh4⟩
  show Go pr ev below _ T4 (mkF m 17 #[.val (.ref a)] [(.int (own_lh q2)), (.int ((own_lh q1) * (31 : Int32)))])
  refine Go.of (mkF m 18 #[.val (.ref a)] [(.int (((own_lh q1) * (31 : Int32)) + (own_lh q2)))]) (fun t k => XS.iadd X4.here hx rfl (hb hby d3_17) rfl k) ?_
  exact Go.retW X4 hx (t := .int) hret hlk rfl (Or.inl ⟨rfl, by simp, _, rfl⟩) (hb hby d3_18) (by decide) (by decide) ⟨rfl, by simp, hh4⟩
theorem ef_rm5 (m : MethodId) (x0 : Addr) (x1 : Addr) : entryFrame m #[(.ref x0), (.ref x1)] 2 = mkF m 0 #[.val (.ref x0), .val (.ref x1)] [] := by first | (simp [entryFrame, mkF, argsToLocals, Value.category]; done) | rfl
set_option maxRecDepth 65536 in
set_option maxHeartbeats 40000000 in
theorem rm5 (l : Launch) (Z : State) (a0 : Array Value) (hw : ∀ d ∈ tables_1, d.before a0 Z = true) (ws : List Jvm.Cond) (a b : Addr) (q1 q2 q3 q4 : Int64) (h0 : Heap) (F1 : Fld Z h0 a "com/example/millrace/millrace/scheduler/RunCounts" "successes" "J" (.long q1)) (F2 : Fld Z h0 a "com/example/millrace/millrace/scheduler/RunCounts" "failures" "J" (.long q2)) (F1b : Fld Z h0 b "com/example/millrace/millrace/scheduler/RunCounts" "successes" "J" (.long q3)) (F2b : Fld Z h0 b "com/example/millrace/millrace/scheduler/RunCounts" "failures" "J" (.long q4)) (Eb : Exa Z h0 b "com/example/millrace/millrace/scheduler/RunCounts") :
    Met l Z (⟨"com/example/millrace/millrace/scheduler/RunCounts", "equals", "(Ljava/lang/Object;)Z"⟩ : MethodName) prog_29_method_4_code 2 (some .boolean) ws ({ frames := 0, cells := 0, slots := 0, locals := 0 } : Room) #[(.ref a), (.ref b)] h0 (fun v h L => v = some (.int (own_eq q3 q4 q1 q2)) ∧ L = [] ∧ h = h0) := by
  refine Met.intro pn4 ?_
  intro pr ev s m below meth c T0 X0 hx hZ hown hby hml hret hlk hnm e0
  refine Go.cast (ef_rm5 m a b) ?_
  refine Go.of (mkF m 1 #[.val (.ref a), .val (.ref b)] [(.ref b)]) (fun t k => XS.aloadN X0.here hx rfl (hb hby d5_0) rfl rfl k) ?_
  obtain ⟨T1, X1, e1, st1⟩ := instY X0 hx hZ hown (tw27 hw) e0 (Ins.self Eb) (g := (mkF m 1 #[.val (.ref a), .val (.ref b)] [(.ref b)])) rfl rfl (hb hby d5_1)
  refine Go.of (mkF m 4 #[.val (.ref a), .val (.ref b)] [(.int (1 : Int32))]) (st1) ?_
  refine Go.of (mkF m 7 #[.val (.ref a), .val (.ref b)] []) (fun t k => XS.ifNo X1.here hx rfl (hb hby d5_4) rfl ((if0 _ _).trans (feq (by decide)).1) k) ?_
  refine Go.of (mkF m 8 #[.val (.ref a), .val (.ref b)] [(.ref b)]) (fun t k => XS.aloadN X1.here hx rfl (hb hby d5_7) rfl rfl k) ?_
  obtain ⟨T2, X2, e2, st2⟩ := castY X1 hx hZ hown (tw27 hw) e1 (Ins.self Eb) (g := (mkF m 8 #[.val (.ref a), .val (.ref b)] [(.ref b)])) rfl rfl (hb hby d5_8)
  refine Go.of (mkF m 11 #[.val (.ref a), .val (.ref b)] [(.ref b)]) (st2) ?_
  obtain ⟨T3, X3, e3, st3⟩ := getF X2 hx hZ hown (host := "") (Or.inl (tw9 hw)) Via.refl e2 F1b (g := (mkF m 11 #[.val (.ref a), .val (.ref b)] [(.ref b)])) rfl rfl (hb hby d5_11)
  refine Go.of (mkF m 14 #[.val (.ref a), .val (.ref b)] [(.long q3)]) (st3) ?_
  refine Go.of (mkF m 15 #[.val (.ref a), .val (.ref b)] [(.ref a), (.long q3)]) (fun t k => XS.aloadN X3.here hx rfl (hb hby d5_14) rfl rfl k) ?_
  obtain ⟨T4, X4, e4, st4⟩ := getF X3 hx hZ hown (host := "") (Or.inl (tw9 hw)) Via.refl e3 F1 (g := (mkF m 15 #[.val (.ref a), .val (.ref b)] [(.ref a), (.long q3)])) rfl rfl (hb hby d5_15)
  refine Go.of (mkF m 18 #[.val (.ref a), .val (.ref b)] [(.long q1), (.long q3)]) (st4) ?_
  refine Go.of (mkF m 19 #[.val (.ref a), .val (.ref b)] [(.int (lcmpW q3 q1))]) (fun t k => XS.lcmp X4.here hx rfl (hb hby d5_18) rfl k) ?_
  by_cases hc19 : q3 = q1
  ·
    refine Go.of (mkF m 22 #[.val (.ref a), .val (.ref b)] []) (fun t k => XS.ifNo X4.here hx rfl (hb hby d5_19) rfl ((if0 _ _).trans (teq ((lw_eq _ _).mpr hc19)).2) k) ?_
    refine Go.of (mkF m 23 #[.val (.ref a), .val (.ref b)] [(.ref b)]) (fun t k => XS.aloadN X4.here hx rfl (hb hby d5_22) rfl rfl k) ?_
    obtain ⟨T5, X5, e5, st5⟩ := castY X4 hx hZ hown (tw27 hw) e4 (Ins.self Eb) (g := (mkF m 23 #[.val (.ref a), .val (.ref b)] [(.ref b)])) rfl rfl (hb hby d5_23)
    refine Go.of (mkF m 26 #[.val (.ref a), .val (.ref b)] [(.ref b)]) (st5) ?_
    obtain ⟨T6, X6, e6, st6⟩ := getF X5 hx hZ hown (host := "") (Or.inl (tw11 hw)) Via.refl e5 F2b (g := (mkF m 26 #[.val (.ref a), .val (.ref b)] [(.ref b)])) rfl rfl (hb hby d5_26)
    refine Go.of (mkF m 29 #[.val (.ref a), .val (.ref b)] [(.long q4)]) (st6) ?_
    refine Go.of (mkF m 30 #[.val (.ref a), .val (.ref b)] [(.ref a), (.long q4)]) (fun t k => XS.aloadN X6.here hx rfl (hb hby d5_29) rfl rfl k) ?_
    obtain ⟨T7, X7, e7, st7⟩ := getF X6 hx hZ hown (host := "") (Or.inl (tw11 hw)) Via.refl e6 F2 (g := (mkF m 30 #[.val (.ref a), .val (.ref b)] [(.ref a), (.long q4)])) rfl rfl (hb hby d5_30)
    refine Go.of (mkF m 33 #[.val (.ref a), .val (.ref b)] [(.long q2), (.long q4)]) (st7) ?_
    refine Go.of (mkF m 34 #[.val (.ref a), .val (.ref b)] [(.int (lcmpW q4 q2))]) (fun t k => XS.lcmp X7.here hx rfl (hb hby d5_33) rfl k) ?_
    by_cases hc34 : q4 = q2
    ·
      refine Go.of (mkF m 37 #[.val (.ref a), .val (.ref b)] []) (fun t k => XS.ifNo X7.here hx rfl (hb hby d5_34) rfl ((if0 _ _).trans (teq ((lw_eq _ _).mpr hc34)).2) k) ?_
      refine Go.of (mkF m 38 #[.val (.ref a), .val (.ref b)] [(.int (1 : Int32))]) (fun t k => XS.iconst X7.here hx rfl (hb hby d5_37) k) ?_
      refine Go.of (mkF m 42 #[.val (.ref a), .val (.ref b)] [(.int (1 : Int32))]) (fun t k => XS.goto X7.here hx rfl (pc0 := 38) (pc' := 42) rfl (hb hby d5_38) (by decide) (by decide) k) ?_
      exact Go.retW X7 hx (t := .boolean) hret hlk rfl (Or.inl ⟨rfl, by simp, _, rfl⟩) (hb hby d5_42) (by decide) (by decide) ⟨by simp [own_eq, hc19, hc34], rfl, e7⟩
    ·
      refine Go.of (mkF m 41 #[.val (.ref a), .val (.ref b)] []) (fun t k => XS.ifYes X7.here hx rfl (pc0 := 34) (pc' := 41) rfl (hb hby d5_34) rfl ((if0 _ _).trans (feq (mt (lw_eq _ _).mp hc34)).2) (by decide) (by decide) k) ?_
      refine Go.of (mkF m 42 #[.val (.ref a), .val (.ref b)] [(.int (0 : Int32))]) (fun t k => XS.iconst X7.here hx rfl (hb hby d5_41) k) ?_
      exact Go.retW X7 hx (t := .boolean) hret hlk rfl (Or.inl ⟨rfl, by simp, _, rfl⟩) (hb hby d5_42) (by decide) (by decide) ⟨by simp [own_eq, hc19, hc34], rfl, e7⟩
  ·
    refine Go.of (mkF m 41 #[.val (.ref a), .val (.ref b)] []) (fun t k => XS.ifYes X4.here hx rfl (pc0 := 19) (pc' := 41) rfl (hb hby d5_19) rfl ((if0 _ _).trans (feq (mt (lw_eq _ _).mp hc19)).2) (by decide) (by decide) k) ?_
    refine Go.of (mkF m 42 #[.val (.ref a), .val (.ref b)] [(.int (0 : Int32))]) (fun t k => XS.iconst X4.here hx rfl (hb hby d5_41) k) ?_
    exact Go.retW X4 hx (t := .boolean) hret hlk rfl (Or.inl ⟨rfl, by simp, _, rfl⟩) (hb hby d5_42) (by decide) (by decide) ⟨by simp [own_eq, hc19], rfl, e4⟩
theorem ef_rm0 (m : MethodId) (x0 : Int64) (x1 : Int64) (x2 : Int64) (x3 : Int32) : entryFrame m #[(.long x0), (.long x1), (.long x2), (.int x3)] maxLocals = mkF m 0 #[.val (.long x0), .second, .val (.long x1), .second, .val (.long x2), .second, .val (.int x3), .unset, .unset, .unset, .unset, .unset, .unset, .unset, .unset, .unset, .unset] [] := by first | (simp [entryFrame, mkF, argsToLocals, Value.category, maxLocals]; done) | rfl
set_option maxRecDepth 65536 in
set_option maxHeartbeats 40000000 in
theorem rm0 (l : Launch) (Z : State) (a0 : Array Value) (hw : ∀ d ∈ tables_1, d.before a0 Z = true) (ws : List Jvm.Cond) (q1 q2 q3 : Int64) (p : Int32) (h0 : Heap) (n0 : Nat) (hz0 : n0 ≤ h0.size) :
    Met l Z x code maxLocals ret ws room_1 #[(.long q1), (.long q2), (.long q3), (.int p)] h0 (fun v h L => v = some (.int 1) ∧ Fr n0 L) := by
  refine Met.intro pn5 ?_
  intro pr ev s m below meth c T0 X0 hx hZ hown hby hml hret hlk hnm e0
  refine Go.cast (ef_rm0 m q1 q2 q3 p) ?_
  have N0 := Fr.nil n0
  have hz := hz0
  have J30 : ∀ (TJ : State) (LJ : List Loc) (q4 q5 : Int64), Stand pr l ev room_1 s m #[(.long q1), (.long q2), (.long q3), (.int p)] below meth c TJ LJ 0 0 → TJ.heap = h0 → Fr n0 LJ → Go pr ev below (EndP s room_1 (fun v h L => v = some (.int 1) ∧ Fr n0 L)) TJ (mkF m 30 #[.val (.long q1), .second, .val (.long q2), .second, .val (.long q3), .second, .val (.int p), .val (.long q4), .second, .val (.long q5), .second, .unset, .unset, .unset, .unset, .unset, .unset] []) := by
    intro TJ LJ q4 q5 XJ eJ NJ 
    obtain ⟨T1, h1, X1, e1, E1, A1, D1, -, st1⟩ := newO XJ hx hZ hown (tw0 hw) (tw1 hw) (tw2 hw) eJ (g := (mkF m 30 #[.val (.long q1), .second, .val (.long q2), .second, .val (.long q3), .second, .val (.int p), .val (.long q4), .second, .val (.long q5), .second, .unset, .unset, .unset, .unset, .unset, .unset] [])) rfl (hb hby at_30) (by decide) (by decide)
    obtain ⟨b1, g1⟩ : ∃ z, z = h0.size := ⟨_, rfl⟩
    rw [← g1] at A1 D1 st1
    have gb_b1 : n0 ≤ b1 := Nat.le_trans hz (Nat.le_of_eq g1.symm)
    replace hz := Nat.le_trans hz E1.1
    have F_b1_successes : Fld Z h1 b1 "com/example/millrace/millrace/scheduler/RunCounts" "successes" "J" (.long (0 : Int64)) := D1 (Or.inr (tw10 hw)) (ty := .long) (by decide)
    have F_b1_failures : Fld Z h1 b1 "com/example/millrace/millrace/scheduler/RunCounts" "failures" "J" (.long (0 : Int64)) := D1 (Or.inr (tw12 hw)) (ty := .long) (by decide)
    refine Go.of (mkF m 33 #[.val (.long q1), .second, .val (.long q2), .second, .val (.long q3), .second, .val (.int p), .val (.long q4), .second, .val (.long q5), .second, .unset, .unset, .unset, .unset, .unset, .unset] [(.ref b1)]) (st1) ?_
    refine Go.of (mkF m 34 #[.val (.long q1), .second, .val (.long q2), .second, .val (.long q3), .second, .val (.int p), .val (.long q4), .second, .val (.long q5), .second, .unset, .unset, .unset, .unset, .unset, .unset] [(.ref b1), (.ref b1)]) (fun t k => XS.dup X1.here hx rfl (hb hby at_33) rfl rfl k) ?_
    refine Go.of (mkF m 35 #[.val (.long q1), .second, .val (.long q2), .second, .val (.long q3), .second, .val (.int p), .val (.long q4), .second, .val (.long q5), .second, .unset, .unset, .unset, .unset, .unset, .unset] [(.long q1), (.ref b1), (.ref b1)]) (fun t k => XS.lloadN X1.here hx rfl (hb hby at_34) rfl k) ?_
    refine Go.of (mkF m 36 #[.val (.long q1), .second, .val (.long q2), .second, .val (.long q3), .second, .val (.int p), .val (.long q4), .second, .val (.long q5), .second, .unset, .unset, .unset, .unset, .unset, .unset] [(.long q2), (.long q1), (.ref b1), (.ref b1)]) (fun t k => XS.lloadN X1.here hx rfl (hb hby at_35) rfl k) ?_
    refine Go.init X1 hx hZ (y := (⟨"com/example/millrace/millrace/scheduler/RunCounts", "<init>", "(JJ)V"⟩ : MethodName)) (a := b1) (argsL := [(.long q1), (.long q2)]) (rest := [(.ref b1)]) hown rfl (tw3 hw) (tw4 hw) (tw2 hw) (tw5 hw) (by decide) e1 (rm1 l Z a0 hw [] b1 q1 q2 h1 n0 hz A1 F_b1_successes F_b1_failures gb_b1) (g := (mkF m 36 #[.val (.long q1), .second, .val (.long q2), .second, .val (.long q3), .second, .val (.int p), .val (.long q4), .second, .val (.long q5), .second, .unset, .unset, .unset, .unset, .unset, .unset] [(.long q2), (.long q1), (.ref b1), (.ref b1)])) rfl (by rw [hml]; rfl) (lenOf pd6 rfl) rfl (W := 1) (by show 2 * 0 + _ ≤ _; exact Nat.le_of_eq rfl) (hb hby at_36) (by decide) (by decide) (by decide) (by decide) ?_
    rintro T2 L2 v2 X2 ⟨rfl, NL2, K2, F1_2, F2_2⟩
    have N2 := Fr.app NJ NL2
    replace A1 := A1.keep K2
    replace hz := Nat.le_trans hz K2.1
    show Go pr ev below _ T2 (mkF m 39 #[.val (.long q1), .second, .val (.long q2), .second, .val (.long q3), .second, .val (.int p), .val (.long q4), .second, .val (.long q5), .second, .unset, .unset, .unset, .unset, .unset, .unset] [(.ref b1)])
    refine Go.of (mkF m 41 #[.val (.long q1), .second, .val (.long q2), .second, .val (.long q3), .second, .val (.int p), .val (.long q4), .second, .val (.long q5), .second, .val (.ref b1), .unset, .unset, .unset, .unset, .unset] []) (fun t k => XS.astore X2.here hx rfl (hb hby at_39) rfl rfl (l' := #[.val (.long q1), .second, .val (.long q2), .second, .val (.long q3), .second, .val (.int p), .val (.long q4), .second, .val (.long q5), .second, .val (.ref b1), .unset, .unset, .unset, .unset, .unset]) rfl k) ?_
    obtain ⟨T3, h3, X3, e3, E3, A3, D3, -, st3⟩ := newO X2 hx hZ hown (tw0 hw) (tw1 hw) (tw2 hw) rfl (g := (mkF m 41 #[.val (.long q1), .second, .val (.long q2), .second, .val (.long q3), .second, .val (.int p), .val (.long q4), .second, .val (.long q5), .second, .val (.ref b1), .unset, .unset, .unset, .unset, .unset] [])) rfl (hb hby at_41) (by decide) (by decide)
    obtain ⟨b3, g3⟩ : ∃ z, z = T2.heap.size := ⟨_, rfl⟩
    rw [← g3] at A3 D3 st3
    have ne_b1_b3 : b1 ≠ b3 := Nat.ne_of_lt (Nat.lt_of_lt_of_le A1.lt (Nat.le_of_eq g3.symm))
    have gb_b3 : n0 ≤ b3 := Nat.le_trans hz (Nat.le_of_eq g3.symm)
    replace F1_2 := F1_2.ext E3
    replace F2_2 := F2_2.ext E3
    replace A1 := A1.ext E3
    replace hz := Nat.le_trans hz E3.1
    have F_b3_successes : Fld Z h3 b3 "com/example/millrace/millrace/scheduler/RunCounts" "successes" "J" (.long (0 : Int64)) := D3 (Or.inr (tw10 hw)) (ty := .long) (by decide)
    have F_b3_failures : Fld Z h3 b3 "com/example/millrace/millrace/scheduler/RunCounts" "failures" "J" (.long (0 : Int64)) := D3 (Or.inr (tw12 hw)) (ty := .long) (by decide)
    refine Go.of (mkF m 44 #[.val (.long q1), .second, .val (.long q2), .second, .val (.long q3), .second, .val (.int p), .val (.long q4), .second, .val (.long q5), .second, .val (.ref b1), .unset, .unset, .unset, .unset, .unset] [(.ref b3)]) (st3) ?_
    refine Go.of (mkF m 45 #[.val (.long q1), .second, .val (.long q2), .second, .val (.long q3), .second, .val (.int p), .val (.long q4), .second, .val (.long q5), .second, .val (.ref b1), .unset, .unset, .unset, .unset, .unset] [(.ref b3), (.ref b3)]) (fun t k => XS.dup X3.here hx rfl (hb hby at_44) rfl rfl k) ?_
    refine Go.of (mkF m 47 #[.val (.long q1), .second, .val (.long q2), .second, .val (.long q3), .second, .val (.int p), .val (.long q4), .second, .val (.long q5), .second, .val (.ref b1), .unset, .unset, .unset, .unset, .unset] [(.long q4), (.ref b3), (.ref b3)]) (fun t k => XS.lload X3.here hx rfl (hb hby at_45) rfl k) ?_
    refine Go.of (mkF m 49 #[.val (.long q1), .second, .val (.long q2), .second, .val (.long q3), .second, .val (.int p), .val (.long q4), .second, .val (.long q5), .second, .val (.ref b1), .unset, .unset, .unset, .unset, .unset] [(.long q5), (.long q4), (.ref b3), (.ref b3)]) (fun t k => XS.lload X3.here hx rfl (hb hby at_47) rfl k) ?_
    refine Go.init X3 hx hZ (y := (⟨"com/example/millrace/millrace/scheduler/RunCounts", "<init>", "(JJ)V"⟩ : MethodName)) (a := b3) (argsL := [(.long q4), (.long q5)]) (rest := [(.ref b3)]) hown rfl (tw3 hw) (tw4 hw) (tw2 hw) (tw5 hw) (by decide) e3 (rm1 l Z a0 hw [] b3 q4 q5 h3 n0 hz A3 F_b3_successes F_b3_failures gb_b3) (g := (mkF m 49 #[.val (.long q1), .second, .val (.long q2), .second, .val (.long q3), .second, .val (.int p), .val (.long q4), .second, .val (.long q5), .second, .val (.ref b1), .unset, .unset, .unset, .unset, .unset] [(.long q5), (.long q4), (.ref b3), (.ref b3)])) rfl (by rw [hml]; rfl) (lenOf pd6 rfl) rfl (W := 1) (by show 2 * 0 + _ ≤ _; exact Nat.le_of_eq rfl) (hb hby at_49) (by decide) (by decide) (by decide) (by decide) ?_
    rintro T4 L4 v4 X4 ⟨rfl, NL4, K4, F1_4, F2_4⟩
    have N4 := Fr.app N2 NL4
    replace F1_2 := F1_2.keep K4 (ninS ne_b1_b3 nin0)
    replace F2_2 := F2_2.keep K4 (ninS ne_b1_b3 nin0)
    replace A1 := A1.keep K4
    replace A3 := A3.keep K4
    replace hz := Nat.le_trans hz K4.1
    show Go pr ev below _ T4 (mkF m 52 #[.val (.long q1), .second, .val (.long q2), .second, .val (.long q3), .second, .val (.int p), .val (.long q4), .second, .val (.long q5), .second, .val (.ref b1), .unset, .unset, .unset, .unset, .unset] [(.ref b3)])
    refine Go.of (mkF m 54 #[.val (.long q1), .second, .val (.long q2), .second, .val (.long q3), .second, .val (.int p), .val (.long q4), .second, .val (.long q5), .second, .val (.ref b1), .val (.ref b3), .unset, .unset, .unset, .unset] []) (fun t k => XS.astore X4.here hx rfl (hb hby at_52) rfl rfl (l' := #[.val (.long q1), .second, .val (.long q2), .second, .val (.long q3), .second, .val (.int p), .val (.long q4), .second, .val (.long q5), .second, .val (.ref b1), .val (.ref b3), .unset, .unset, .unset, .unset]) rfl k) ?_
    refine Go.of (mkF m 56 #[.val (.long q1), .second, .val (.long q2), .second, .val (.long q3), .second, .val (.int p), .val (.long q4), .second, .val (.long q5), .second, .val (.ref b1), .val (.ref b3), .unset, .unset, .unset, .unset] [(.ref b1)]) (fun t k => XS.aload X4.here hx rfl (hb hby at_54) rfl rfl k) ?_
    refine Go.virt X4 hx hZ (y := (⟨"com/example/millrace/millrace/scheduler/RunCounts", "hashCode", "()I"⟩ : MethodName)) (z := (⟨"com/example/millrace/millrace/scheduler/RunCounts", "hashCode", "()I"⟩ : MethodName)) (a := b1) (argsL := []) (rest := []) hown (tw13 hw) (tw14 hw) (notFace_of_selects (args := #[]) (mvT hZ (tw16 hw))) (tw16 hw) (tw15 hw) (tw2 hw) (tw17 hw) (by decide) rfl A1 (rm3 l Z a0 hw [] b1 q1 q2 T4.heap F1_2 F2_2) (g := (mkF m 56 #[.val (.long q1), .second, .val (.long q2), .second, .val (.long q3), .second, .val (.int p), .val (.long q4), .second, .val (.long q5), .second, .val (.ref b1), .val (.ref b3), .unset, .unset, .unset, .unset] [(.ref b1)])) rfl (by rw [hml]; rfl) (lenOf pd7 rfl) rfl (W := 0) (by show 2 * 0 + _ ≤ _; exact Nat.le_of_eq rfl) (hb hby at_56) (by decide) (by decide) (by decide) (by decide) ?_
    rintro T5 L5 v5 X5 ⟨rfl, rfl, hh5⟩
    have N5 := Fr.app N4 (Fr.nil n0)
    show Go pr ev below _ T5 (mkF m 59 #[.val (.long q1), .second, .val (.long q2), .second, .val (.long q3), .second, .val (.int p), .val (.long q4), .second, .val (.long q5), .second, .val (.ref b1), .val (.ref b3), .unset, .unset, .unset, .unset] [(.int (own_hash q1 q2))])
    refine Go.of (mkF m 61 #[.val (.long q1), .second, .val (.long q2), .second, .val (.long q3), .second, .val (.int p), .val (.long q4), .second, .val (.long q5), .second, .val (.ref b1), .val (.ref b3), .val (.int (own_hash q1 q2)), .unset, .unset, .unset] []) (fun t k => XS.istore X5.here hx rfl (hb hby at_59) rfl (l' := #[.val (.long q1), .second, .val (.long q2), .second, .val (.long q3), .second, .val (.int p), .val (.long q4), .second, .val (.long q5), .second, .val (.ref b1), .val (.ref b3), .val (.int (own_hash q1 q2)), .unset, .unset, .unset]) rfl k) ?_
    refine Go.of (mkF m 63 #[.val (.long q1), .second, .val (.long q2), .second, .val (.long q3), .second, .val (.int p), .val (.long q4), .second, .val (.long q5), .second, .val (.ref b1), .val (.ref b3), .val (.int (own_hash q1 q2)), .unset, .unset, .unset] [(.ref b3)]) (fun t k => XS.aload X5.here hx rfl (hb hby at_61) rfl rfl k) ?_
    refine Go.virt X5 hx hZ (y := (⟨"com/example/millrace/millrace/scheduler/RunCounts", "hashCode", "()I"⟩ : MethodName)) (z := (⟨"com/example/millrace/millrace/scheduler/RunCounts", "hashCode", "()I"⟩ : MethodName)) (a := b3) (argsL := []) (rest := []) hown (tw13 hw) (tw14 hw) (notFace_of_selects (args := #[]) (mvT hZ (tw16 hw))) (tw16 hw) (tw15 hw) (tw2 hw) (tw17 hw) (by decide) hh5 A3 (rm3 l Z a0 hw [] b3 q4 q5 T4.heap F1_4 F2_4) (g := (mkF m 63 #[.val (.long q1), .second, .val (.long q2), .second, .val (.long q3), .second, .val (.int p), .val (.long q4), .second, .val (.long q5), .second, .val (.ref b1), .val (.ref b3), .val (.int (own_hash q1 q2)), .unset, .unset, .unset] [(.ref b3)])) rfl (by rw [hml]; rfl) (lenOf pd7 rfl) rfl (W := 0) (by show 2 * 0 + _ ≤ _; exact Nat.le_of_eq rfl) (hb hby at_63) (by decide) (by decide) (by decide) (by decide) ?_
    rintro T6 L6 v6 X6 ⟨rfl, rfl, hh6⟩
    have N6 := Fr.app N5 (Fr.nil n0)
    show Go pr ev below _ T6 (mkF m 66 #[.val (.long q1), .second, .val (.long q2), .second, .val (.long q3), .second, .val (.int p), .val (.long q4), .second, .val (.long q5), .second, .val (.ref b1), .val (.ref b3), .val (.int (own_hash q1 q2)), .unset, .unset, .unset] [(.int (own_hash q4 q5))])
    refine Go.of (mkF m 68 #[.val (.long q1), .second, .val (.long q2), .second, .val (.long q3), .second, .val (.int p), .val (.long q4), .second, .val (.long q5), .second, .val (.ref b1), .val (.ref b3), .val (.int (own_hash q1 q2)), .val (.int (own_hash q4 q5)), .unset, .unset] []) (fun t k => XS.istore X6.here hx rfl (hb hby at_66) rfl (l' := #[.val (.long q1), .second, .val (.long q2), .second, .val (.long q3), .second, .val (.int p), .val (.long q4), .second, .val (.long q5), .second, .val (.ref b1), .val (.ref b3), .val (.int (own_hash q1 q2)), .val (.int (own_hash q4 q5)), .unset, .unset]) rfl k) ?_
    refine Go.of (mkF m 70 #[.val (.long q1), .second, .val (.long q2), .second, .val (.long q3), .second, .val (.int p), .val (.long q4), .second, .val (.long q5), .second, .val (.ref b1), .val (.ref b3), .val (.int (own_hash q1 q2)), .val (.int (own_hash q4 q5)), .unset, .unset] [(.int (own_hash q1 q2))]) (fun t k => XS.iload X6.here hx rfl (hb hby at_68) rfl k) ?_
    refine Go.of (mkF m 72 #[.val (.long q1), .second, .val (.long q2), .second, .val (.long q3), .second, .val (.int p), .val (.long q4), .second, .val (.long q5), .second, .val (.ref b1), .val (.ref b3), .val (.int (own_hash q1 q2)), .val (.int (own_hash q4 q5)), .unset, .unset] [(.ref b1), (.int (own_hash q1 q2))]) (fun t k => XS.aload X6.here hx rfl (hb hby at_70) rfl rfl k) ?_
    refine Go.virt X6 hx hZ (y := (⟨"com/example/millrace/millrace/scheduler/RunCounts", "hashCode", "()I"⟩ : MethodName)) (z := (⟨"com/example/millrace/millrace/scheduler/RunCounts", "hashCode", "()I"⟩ : MethodName)) (a := b1) (argsL := []) (rest := [(.int (own_hash q1 q2))]) hown (tw13 hw) (tw14 hw) (notFace_of_selects (args := #[]) (mvT hZ (tw16 hw))) (tw16 hw) (tw15 hw) (tw2 hw) (tw17 hw) (by decide) hh6 A1 (rm3 l Z a0 hw [] b1 q1 q2 T4.heap F1_2 F2_2) (g := (mkF m 72 #[.val (.long q1), .second, .val (.long q2), .second, .val (.long q3), .second, .val (.int p), .val (.long q4), .second, .val (.long q5), .second, .val (.ref b1), .val (.ref b3), .val (.int (own_hash q1 q2)), .val (.int (own_hash q4 q5)), .unset, .unset] [(.ref b1), (.int (own_hash q1 q2))])) rfl (by rw [hml]; rfl) (lenOf pd7 rfl) rfl (W := 1) (by show 2 * 0 + _ ≤ _; exact Nat.le_of_eq rfl) (hb hby at_72) (by decide) (by decide) (by decide) (by decide) ?_
    rintro T7 L7 v7 X7 ⟨rfl, rfl, hh7⟩
    have N7 := Fr.app N6 (Fr.nil n0)
    show Go pr ev below _ T7 (mkF m 75 #[.val (.long q1), .second, .val (.long q2), .second, .val (.long q3), .second, .val (.int p), .val (.long q4), .second, .val (.long q5), .second, .val (.ref b1), .val (.ref b3), .val (.int (own_hash q1 q2)), .val (.int (own_hash q4 q5)), .unset, .unset] [(.int (own_hash q1 q2)), (.int (own_hash q1 q2))])
    refine Go.of (mkF m 78 #[.val (.long q1), .second, .val (.long q2), .second, .val (.long q3), .second, .val (.int p), .val (.long q4), .second, .val (.long q5), .second, .val (.ref b1), .val (.ref b3), .val (.int (own_hash q1 q2)), .val (.int (own_hash q4 q5)), .unset, .unset] []) (fun t k => XS.icmpNo X7.here hx rfl (hb hby at_75) rfl (teq rfl).2 k) ?_
    refine Go.of (mkF m 79 #[.val (.long q1), .second, .val (.long q2), .second, .val (.long q3), .second, .val (.int p), .val (.long q4), .second, .val (.long q5), .second, .val (.ref b1), .val (.ref b3), .val (.int (own_hash q1 q2)), .val (.int (own_hash q4 q5)), .unset, .unset] [(.int (1 : Int32))]) (fun t k => XS.iconst X7.here hx rfl (hb hby at_78) k) ?_
    refine Go.of (mkF m 83 #[.val (.long q1), .second, .val (.long q2), .second, .val (.long q3), .second, .val (.int p), .val (.long q4), .second, .val (.long q5), .second, .val (.ref b1), .val (.ref b3), .val (.int (own_hash q1 q2)), .val (.int (own_hash q4 q5)), .unset, .unset] [(.int (1 : Int32))]) (fun t k => XS.goto X7.here hx rfl (pc0 := 79) (pc' := 83) rfl (hb hby at_79) (by decide) (by decide) k) ?_
    refine Go.of (mkF m 85 #[.val (.long q1), .second, .val (.long q2), .second, .val (.long q3), .second, .val (.int p), .val (.long q4), .second, .val (.long q5), .second, .val (.ref b1), .val (.ref b3), .val (.int (own_hash q1 q2)), .val (.int (own_hash q4 q5)), .val (.int (1 : Int32)), .unset] []) (fun t k => XS.istore X7.here hx rfl (hb hby at_83) rfl (l' := #[.val (.long q1), .second, .val (.long q2), .second, .val (.long q3), .second, .val (.int p), .val (.long q4), .second, .val (.long q5), .second, .val (.ref b1), .val (.ref b3), .val (.int (own_hash q1 q2)), .val (.int (own_hash q4 q5)), .val (.int (1 : Int32)), .unset]) rfl k) ?_
    refine Go.of (mkF m 87 #[.val (.long q1), .second, .val (.long q2), .second, .val (.long q3), .second, .val (.int p), .val (.long q4), .second, .val (.long q5), .second, .val (.ref b1), .val (.ref b3), .val (.int (own_hash q1 q2)), .val (.int (own_hash q4 q5)), .val (.int (1 : Int32)), .unset] [(.ref b1)]) (fun t k => XS.aload X7.here hx rfl (hb hby at_85) rfl rfl k) ?_
    refine Go.of (mkF m 89 #[.val (.long q1), .second, .val (.long q2), .second, .val (.long q3), .second, .val (.int p), .val (.long q4), .second, .val (.long q5), .second, .val (.ref b1), .val (.ref b3), .val (.int (own_hash q1 q2)), .val (.int (own_hash q4 q5)), .val (.int (1 : Int32)), .unset] [(.ref b3), (.ref b1)]) (fun t k => XS.aload X7.here hx rfl (hb hby at_87) rfl rfl k) ?_
    refine Go.virt X7 hx hZ (y := (⟨"com/example/millrace/millrace/scheduler/RunCounts", "equals", "(Ljava/lang/Object;)Z"⟩ : MethodName)) (z := (⟨"com/example/millrace/millrace/scheduler/RunCounts", "equals", "(Ljava/lang/Object;)Z"⟩ : MethodName)) (a := b1) (argsL := [(.ref b3)]) (rest := []) hown (tw22 hw) (tw23 hw) (notFace_of_selects (args := #[]) (mvT hZ (tw25 hw))) (tw25 hw) (tw24 hw) (tw2 hw) (tw26 hw) (by decide) hh7 A1 (rm5 l Z a0 hw [] b1 b3 q1 q2 q4 q5 T4.heap F1_2 F2_2 F1_4 F2_4 A3) (g := (mkF m 89 #[.val (.long q1), .second, .val (.long q2), .second, .val (.long q3), .second, .val (.int p), .val (.long q4), .second, .val (.long q5), .second, .val (.ref b1), .val (.ref b3), .val (.int (own_hash q1 q2)), .val (.int (own_hash q4 q5)), .val (.int (1 : Int32)), .unset] [(.ref b3), (.ref b1)])) rfl (by rw [hml]; rfl) (lenOf pd8 rfl) rfl (W := 0) (by show 2 * 0 + _ ≤ _; exact Nat.le_of_eq rfl) (hb hby at_89) (by decide) (by decide) (by decide) (by decide) ?_
    rintro T8 L8 v8 X8 ⟨rfl, rfl, hh8⟩
    have N8 := Fr.app N7 (Fr.nil n0)
    show Go pr ev below _ T8 (mkF m 92 #[.val (.long q1), .second, .val (.long q2), .second, .val (.long q3), .second, .val (.int p), .val (.long q4), .second, .val (.long q5), .second, .val (.ref b1), .val (.ref b3), .val (.int (own_hash q1 q2)), .val (.int (own_hash q4 q5)), .val (.int (1 : Int32)), .unset] [(.int (own_eq q4 q5 q1 q2))])
    by_cases hc92 : (own_eq q4 q5 q1 q2) = (0 : Int32)
    ·
      refine Go.of (mkF m 102 #[.val (.long q1), .second, .val (.long q2), .second, .val (.long q3), .second, .val (.int p), .val (.long q4), .second, .val (.long q5), .second, .val (.ref b1), .val (.ref b3), .val (.int (own_hash q1 q2)), .val (.int (own_hash q4 q5)), .val (.int (1 : Int32)), .unset] []) (fun t k => XS.ifYes X8.here hx rfl (pc0 := 92) (pc' := 102) rfl (hb hby at_92) rfl ((if0 _ _).trans (teq hc92).1) (by decide) (by decide) k) ?_
      refine Go.of (mkF m 103 #[.val (.long q1), .second, .val (.long q2), .second, .val (.long q3), .second, .val (.int p), .val (.long q4), .second, .val (.long q5), .second, .val (.ref b1), .val (.ref b3), .val (.int (own_hash q1 q2)), .val (.int (own_hash q4 q5)), .val (.int (1 : Int32)), .unset] [(.int (1 : Int32))]) (fun t k => XS.iconst X8.here hx rfl (hb hby at_102) k) ?_
      refine Go.of (mkF m 107 #[.val (.long q1), .second, .val (.long q2), .second, .val (.long q3), .second, .val (.int p), .val (.long q4), .second, .val (.long q5), .second, .val (.ref b1), .val (.ref b3), .val (.int (own_hash q1 q2)), .val (.int (own_hash q4 q5)), .val (.int (1 : Int32)), .unset] [(.int (1 : Int32))]) (fun t k => XS.goto X8.here hx rfl (pc0 := 103) (pc' := 107) rfl (hb hby at_103) (by decide) (by decide) k) ?_
      refine Go.of (mkF m 109 #[.val (.long q1), .second, .val (.long q2), .second, .val (.long q3), .second, .val (.int p), .val (.long q4), .second, .val (.long q5), .second, .val (.ref b1), .val (.ref b3), .val (.int (own_hash q1 q2)), .val (.int (own_hash q4 q5)), .val (.int (1 : Int32)), .val (.int (1 : Int32))] []) (fun t k => XS.istore X8.here hx rfl (hb hby at_107) rfl (l' := #[.val (.long q1), .second, .val (.long q2), .second, .val (.long q3), .second, .val (.int p), .val (.long q4), .second, .val (.long q5), .second, .val (.ref b1), .val (.ref b3), .val (.int (own_hash q1 q2)), .val (.int (own_hash q4 q5)), .val (.int (1 : Int32)), .val (.int (1 : Int32))]) rfl k) ?_
      refine Go.of (mkF m 111 #[.val (.long q1), .second, .val (.long q2), .second, .val (.long q3), .second, .val (.int p), .val (.long q4), .second, .val (.long q5), .second, .val (.ref b1), .val (.ref b3), .val (.int (own_hash q1 q2)), .val (.int (own_hash q4 q5)), .val (.int (1 : Int32)), .val (.int (1 : Int32))] [(.int (1 : Int32))]) (fun t k => XS.iload X8.here hx rfl (hb hby at_109) rfl k) ?_
      refine Go.of (mkF m 114 #[.val (.long q1), .second, .val (.long q2), .second, .val (.long q3), .second, .val (.int p), .val (.long q4), .second, .val (.long q5), .second, .val (.ref b1), .val (.ref b3), .val (.int (own_hash q1 q2)), .val (.int (own_hash q4 q5)), .val (.int (1 : Int32)), .val (.int (1 : Int32))] []) (fun t k => XS.ifNo X8.here hx rfl (hb hby at_111) rfl ((if0 _ _).trans (feq (by decide)).1) k) ?_
      refine Go.of (mkF m 116 #[.val (.long q1), .second, .val (.long q2), .second, .val (.long q3), .second, .val (.int p), .val (.long q4), .second, .val (.long q5), .second, .val (.ref b1), .val (.ref b3), .val (.int (own_hash q1 q2)), .val (.int (own_hash q4 q5)), .val (.int (1 : Int32)), .val (.int (1 : Int32))] [(.int (1 : Int32))]) (fun t k => XS.iload X8.here hx rfl (hb hby at_114) rfl k) ?_
      refine Go.of (mkF m 119 #[.val (.long q1), .second, .val (.long q2), .second, .val (.long q3), .second, .val (.int p), .val (.long q4), .second, .val (.long q5), .second, .val (.ref b1), .val (.ref b3), .val (.int (own_hash q1 q2)), .val (.int (own_hash q4 q5)), .val (.int (1 : Int32)), .val (.int (1 : Int32))] []) (fun t k => XS.ifNo X8.here hx rfl (hb hby at_116) rfl ((if0 _ _).trans (feq (by decide)).1) k) ?_
      refine Go.of (mkF m 120 #[.val (.long q1), .second, .val (.long q2), .second, .val (.long q3), .second, .val (.int p), .val (.long q4), .second, .val (.long q5), .second, .val (.ref b1), .val (.ref b3), .val (.int (own_hash q1 q2)), .val (.int (own_hash q4 q5)), .val (.int (1 : Int32)), .val (.int (1 : Int32))] [(.int (1 : Int32))]) (fun t k => XS.iconst X8.here hx rfl (hb hby at_119) k) ?_
      refine Go.of (mkF m 124 #[.val (.long q1), .second, .val (.long q2), .second, .val (.long q3), .second, .val (.int p), .val (.long q4), .second, .val (.long q5), .second, .val (.ref b1), .val (.ref b3), .val (.int (own_hash q1 q2)), .val (.int (own_hash q4 q5)), .val (.int (1 : Int32)), .val (.int (1 : Int32))] [(.int (1 : Int32))]) (fun t k => XS.goto X8.here hx rfl (pc0 := 120) (pc' := 124) rfl (hb hby at_120) (by decide) (by decide) k) ?_
      exact Go.retW X8 hx (t := .boolean) hret hlk rfl (Or.inl ⟨rfl, by simp, _, rfl⟩) (hb hby at_124) (by decide) (by decide) ⟨rfl, N8⟩
    ·
      refine Go.of (mkF m 95 #[.val (.long q1), .second, .val (.long q2), .second, .val (.long q3), .second, .val (.int p), .val (.long q4), .second, .val (.long q5), .second, .val (.ref b1), .val (.ref b3), .val (.int (own_hash q1 q2)), .val (.int (own_hash q4 q5)), .val (.int (1 : Int32)), .unset] []) (fun t k => XS.ifNo X8.here hx rfl (hb hby at_92) rfl ((if0 _ _).trans (feq hc92).1) k) ?_
      refine Go.of (mkF m 97 #[.val (.long q1), .second, .val (.long q2), .second, .val (.long q3), .second, .val (.int p), .val (.long q4), .second, .val (.long q5), .second, .val (.ref b1), .val (.ref b3), .val (.int (own_hash q1 q2)), .val (.int (own_hash q4 q5)), .val (.int (1 : Int32)), .unset] [(.int (own_hash q1 q2))]) (fun t k => XS.iload X8.here hx rfl (hb hby at_95) rfl k) ?_
      refine Go.of (mkF m 99 #[.val (.long q1), .second, .val (.long q2), .second, .val (.long q3), .second, .val (.int p), .val (.long q4), .second, .val (.long q5), .second, .val (.ref b1), .val (.ref b3), .val (.int (own_hash q1 q2)), .val (.int (own_hash q4 q5)), .val (.int (1 : Int32)), .unset] [(.int (own_hash q4 q5)), (.int (own_hash q1 q2))]) (fun t k => XS.iload X8.here hx rfl (hb hby at_97) rfl k) ?_
      refine Go.of (mkF m 102 #[.val (.long q1), .second, .val (.long q2), .second, .val (.long q3), .second, .val (.int p), .val (.long q4), .second, .val (.long q5), .second, .val (.ref b1), .val (.ref b3), .val (.int (own_hash q1 q2)), .val (.int (own_hash q4 q5)), .val (.int (1 : Int32)), .unset] []) (fun t k => XS.icmpNo X8.here hx rfl (hb hby at_99) rfl (teq (own_hq hc92)).2 k) ?_
      refine Go.of (mkF m 103 #[.val (.long q1), .second, .val (.long q2), .second, .val (.long q3), .second, .val (.int p), .val (.long q4), .second, .val (.long q5), .second, .val (.ref b1), .val (.ref b3), .val (.int (own_hash q1 q2)), .val (.int (own_hash q4 q5)), .val (.int (1 : Int32)), .unset] [(.int (1 : Int32))]) (fun t k => XS.iconst X8.here hx rfl (hb hby at_102) k) ?_
      refine Go.of (mkF m 107 #[.val (.long q1), .second, .val (.long q2), .second, .val (.long q3), .second, .val (.int p), .val (.long q4), .second, .val (.long q5), .second, .val (.ref b1), .val (.ref b3), .val (.int (own_hash q1 q2)), .val (.int (own_hash q4 q5)), .val (.int (1 : Int32)), .unset] [(.int (1 : Int32))]) (fun t k => XS.goto X8.here hx rfl (pc0 := 103) (pc' := 107) rfl (hb hby at_103) (by decide) (by decide) k) ?_
      refine Go.of (mkF m 109 #[.val (.long q1), .second, .val (.long q2), .second, .val (.long q3), .second, .val (.int p), .val (.long q4), .second, .val (.long q5), .second, .val (.ref b1), .val (.ref b3), .val (.int (own_hash q1 q2)), .val (.int (own_hash q4 q5)), .val (.int (1 : Int32)), .val (.int (1 : Int32))] []) (fun t k => XS.istore X8.here hx rfl (hb hby at_107) rfl (l' := #[.val (.long q1), .second, .val (.long q2), .second, .val (.long q3), .second, .val (.int p), .val (.long q4), .second, .val (.long q5), .second, .val (.ref b1), .val (.ref b3), .val (.int (own_hash q1 q2)), .val (.int (own_hash q4 q5)), .val (.int (1 : Int32)), .val (.int (1 : Int32))]) rfl k) ?_
      refine Go.of (mkF m 111 #[.val (.long q1), .second, .val (.long q2), .second, .val (.long q3), .second, .val (.int p), .val (.long q4), .second, .val (.long q5), .second, .val (.ref b1), .val (.ref b3), .val (.int (own_hash q1 q2)), .val (.int (own_hash q4 q5)), .val (.int (1 : Int32)), .val (.int (1 : Int32))] [(.int (1 : Int32))]) (fun t k => XS.iload X8.here hx rfl (hb hby at_109) rfl k) ?_
      refine Go.of (mkF m 114 #[.val (.long q1), .second, .val (.long q2), .second, .val (.long q3), .second, .val (.int p), .val (.long q4), .second, .val (.long q5), .second, .val (.ref b1), .val (.ref b3), .val (.int (own_hash q1 q2)), .val (.int (own_hash q4 q5)), .val (.int (1 : Int32)), .val (.int (1 : Int32))] []) (fun t k => XS.ifNo X8.here hx rfl (hb hby at_111) rfl ((if0 _ _).trans (feq (by decide)).1) k) ?_
      refine Go.of (mkF m 116 #[.val (.long q1), .second, .val (.long q2), .second, .val (.long q3), .second, .val (.int p), .val (.long q4), .second, .val (.long q5), .second, .val (.ref b1), .val (.ref b3), .val (.int (own_hash q1 q2)), .val (.int (own_hash q4 q5)), .val (.int (1 : Int32)), .val (.int (1 : Int32))] [(.int (1 : Int32))]) (fun t k => XS.iload X8.here hx rfl (hb hby at_114) rfl k) ?_
      refine Go.of (mkF m 119 #[.val (.long q1), .second, .val (.long q2), .second, .val (.long q3), .second, .val (.int p), .val (.long q4), .second, .val (.long q5), .second, .val (.ref b1), .val (.ref b3), .val (.int (own_hash q1 q2)), .val (.int (own_hash q4 q5)), .val (.int (1 : Int32)), .val (.int (1 : Int32))] []) (fun t k => XS.ifNo X8.here hx rfl (hb hby at_116) rfl ((if0 _ _).trans (feq (by decide)).1) k) ?_
      refine Go.of (mkF m 120 #[.val (.long q1), .second, .val (.long q2), .second, .val (.long q3), .second, .val (.int p), .val (.long q4), .second, .val (.long q5), .second, .val (.ref b1), .val (.ref b3), .val (.int (own_hash q1 q2)), .val (.int (own_hash q4 q5)), .val (.int (1 : Int32)), .val (.int (1 : Int32))] [(.int (1 : Int32))]) (fun t k => XS.iconst X8.here hx rfl (hb hby at_119) k) ?_
      refine Go.of (mkF m 124 #[.val (.long q1), .second, .val (.long q2), .second, .val (.long q3), .second, .val (.int p), .val (.long q4), .second, .val (.long q5), .second, .val (.ref b1), .val (.ref b3), .val (.int (own_hash q1 q2)), .val (.int (own_hash q4 q5)), .val (.int (1 : Int32)), .val (.int (1 : Int32))] [(.int (1 : Int32))]) (fun t k => XS.goto X8.here hx rfl (pc0 := 120) (pc' := 124) rfl (hb hby at_120) (by decide) (by decide) k) ?_
      exact Go.retW X8 hx (t := .boolean) hret hlk rfl (Or.inl ⟨rfl, by simp, _, rfl⟩) (hb hby at_124) (by decide) (by decide) ⟨rfl, N8⟩
  refine Go.of (mkF m 2 #[.val (.long q1), .second, .val (.long q2), .second, .val (.long q3), .second, .val (.int p), .unset, .unset, .unset, .unset, .unset, .unset, .unset, .unset, .unset, .unset] [(.int p)]) (fun t k => XS.iload X0.here hx rfl (hb hby at_0) rfl k) ?_
  refine Go.of (mkF m 3 #[.val (.long q1), .second, .val (.long q2), .second, .val (.long q3), .second, .val (.int p), .unset, .unset, .unset, .unset, .unset, .unset, .unset, .unset, .unset, .unset] [(.int (1 : Int32)), (.int p)]) (fun t k => XS.iconst X0.here hx rfl (hb hby at_2) k) ?_
  refine Go.of (mkF m 4 #[.val (.long q1), .second, .val (.long q2), .second, .val (.long q3), .second, .val (.int p), .unset, .unset, .unset, .unset, .unset, .unset, .unset, .unset, .unset, .unset] [(.int (p &&& (1 : Int32)))]) (fun t k => XS.iand X0.here hx rfl (hb hby at_3) rfl k) ?_
  by_cases hc4 : (p &&& (1 : Int32)) = (0 : Int32)
  ·
    refine Go.of (mkF m 11 #[.val (.long q1), .second, .val (.long q2), .second, .val (.long q3), .second, .val (.int p), .unset, .unset, .unset, .unset, .unset, .unset, .unset, .unset, .unset, .unset] []) (fun t k => XS.ifYes X0.here hx rfl (pc0 := 4) (pc' := 11) rfl (hb hby at_4) rfl ((if0 _ _).trans (teq hc4).1) (by decide) (by decide) k) ?_
    refine Go.of (mkF m 13 #[.val (.long q1), .second, .val (.long q2), .second, .val (.long q3), .second, .val (.int p), .unset, .unset, .unset, .unset, .unset, .unset, .unset, .unset, .unset, .unset] [(.long q3)]) (fun t k => XS.lload X0.here hx rfl (hb hby at_11) rfl k) ?_
    refine Go.of (mkF m 15 #[.val (.long q1), .second, .val (.long q2), .second, .val (.long q3), .second, .val (.int p), .val (.long q3), .second, .unset, .unset, .unset, .unset, .unset, .unset, .unset, .unset] []) (fun t k => XS.lstore X0.here hx rfl (hb hby at_13) rfl (l' := #[.val (.long q1), .second, .val (.long q2), .second, .val (.long q3), .second, .val (.int p), .val (.long q3), .second, .unset, .unset, .unset, .unset, .unset, .unset, .unset, .unset]) rfl k) ?_
    refine Go.of (mkF m 17 #[.val (.long q1), .second, .val (.long q2), .second, .val (.long q3), .second, .val (.int p), .val (.long q3), .second, .unset, .unset, .unset, .unset, .unset, .unset, .unset, .unset] [(.int p)]) (fun t k => XS.iload X0.here hx rfl (hb hby at_15) rfl k) ?_
    refine Go.of (mkF m 18 #[.val (.long q1), .second, .val (.long q2), .second, .val (.long q3), .second, .val (.int p), .val (.long q3), .second, .unset, .unset, .unset, .unset, .unset, .unset, .unset, .unset] [(.int (2 : Int32)), (.int p)]) (fun t k => XS.iconst X0.here hx rfl (hb hby at_17) k) ?_
    refine Go.of (mkF m 19 #[.val (.long q1), .second, .val (.long q2), .second, .val (.long q3), .second, .val (.int p), .val (.long q3), .second, .unset, .unset, .unset, .unset, .unset, .unset, .unset, .unset] [(.int (p &&& (2 : Int32)))]) (fun t k => XS.iand X0.here hx rfl (hb hby at_18) rfl k) ?_
    by_cases hc19 : (p &&& (2 : Int32)) = (0 : Int32)
    ·
      refine Go.of (mkF m 26 #[.val (.long q1), .second, .val (.long q2), .second, .val (.long q3), .second, .val (.int p), .val (.long q3), .second, .unset, .unset, .unset, .unset, .unset, .unset, .unset, .unset] []) (fun t k => XS.ifYes X0.here hx rfl (pc0 := 19) (pc' := 26) rfl (hb hby at_19) rfl ((if0 _ _).trans (teq hc19).1) (by decide) (by decide) k) ?_
      refine Go.of (mkF m 28 #[.val (.long q1), .second, .val (.long q2), .second, .val (.long q3), .second, .val (.int p), .val (.long q3), .second, .unset, .unset, .unset, .unset, .unset, .unset, .unset, .unset] [(.long q3)]) (fun t k => XS.lload X0.here hx rfl (hb hby at_26) rfl k) ?_
      refine Go.of (mkF m 30 #[.val (.long q1), .second, .val (.long q2), .second, .val (.long q3), .second, .val (.int p), .val (.long q3), .second, .val (.long q3), .second, .unset, .unset, .unset, .unset, .unset, .unset] []) (fun t k => XS.lstore X0.here hx rfl (hb hby at_28) rfl (l' := #[.val (.long q1), .second, .val (.long q2), .second, .val (.long q3), .second, .val (.int p), .val (.long q3), .second, .val (.long q3), .second, .unset, .unset, .unset, .unset, .unset, .unset]) rfl k) ?_
      exact J30 _ _ _ _ X0 e0 N0
    ·
      refine Go.of (mkF m 22 #[.val (.long q1), .second, .val (.long q2), .second, .val (.long q3), .second, .val (.int p), .val (.long q3), .second, .unset, .unset, .unset, .unset, .unset, .unset, .unset, .unset] []) (fun t k => XS.ifNo X0.here hx rfl (hb hby at_19) rfl ((if0 _ _).trans (feq hc19).1) k) ?_
      refine Go.of (mkF m 23 #[.val (.long q1), .second, .val (.long q2), .second, .val (.long q3), .second, .val (.int p), .val (.long q3), .second, .unset, .unset, .unset, .unset, .unset, .unset, .unset, .unset] [(.long q2)]) (fun t k => XS.lloadN X0.here hx rfl (hb hby at_22) rfl k) ?_
      refine Go.of (mkF m 28 #[.val (.long q1), .second, .val (.long q2), .second, .val (.long q3), .second, .val (.int p), .val (.long q3), .second, .unset, .unset, .unset, .unset, .unset, .unset, .unset, .unset] [(.long q2)]) (fun t k => XS.goto X0.here hx rfl (pc0 := 23) (pc' := 28) rfl (hb hby at_23) (by decide) (by decide) k) ?_
      refine Go.of (mkF m 30 #[.val (.long q1), .second, .val (.long q2), .second, .val (.long q3), .second, .val (.int p), .val (.long q3), .second, .val (.long q2), .second, .unset, .unset, .unset, .unset, .unset, .unset] []) (fun t k => XS.lstore X0.here hx rfl (hb hby at_28) rfl (l' := #[.val (.long q1), .second, .val (.long q2), .second, .val (.long q3), .second, .val (.int p), .val (.long q3), .second, .val (.long q2), .second, .unset, .unset, .unset, .unset, .unset, .unset]) rfl k) ?_
      exact J30 _ _ _ _ X0 e0 N0
  ·
    refine Go.of (mkF m 7 #[.val (.long q1), .second, .val (.long q2), .second, .val (.long q3), .second, .val (.int p), .unset, .unset, .unset, .unset, .unset, .unset, .unset, .unset, .unset, .unset] []) (fun t k => XS.ifNo X0.here hx rfl (hb hby at_4) rfl ((if0 _ _).trans (feq hc4).1) k) ?_
    refine Go.of (mkF m 8 #[.val (.long q1), .second, .val (.long q2), .second, .val (.long q3), .second, .val (.int p), .unset, .unset, .unset, .unset, .unset, .unset, .unset, .unset, .unset, .unset] [(.long q1)]) (fun t k => XS.lloadN X0.here hx rfl (hb hby at_7) rfl k) ?_
    refine Go.of (mkF m 13 #[.val (.long q1), .second, .val (.long q2), .second, .val (.long q3), .second, .val (.int p), .unset, .unset, .unset, .unset, .unset, .unset, .unset, .unset, .unset, .unset] [(.long q1)]) (fun t k => XS.goto X0.here hx rfl (pc0 := 8) (pc' := 13) rfl (hb hby at_8) (by decide) (by decide) k) ?_
    refine Go.of (mkF m 15 #[.val (.long q1), .second, .val (.long q2), .second, .val (.long q3), .second, .val (.int p), .val (.long q1), .second, .unset, .unset, .unset, .unset, .unset, .unset, .unset, .unset] []) (fun t k => XS.lstore X0.here hx rfl (hb hby at_13) rfl (l' := #[.val (.long q1), .second, .val (.long q2), .second, .val (.long q3), .second, .val (.int p), .val (.long q1), .second, .unset, .unset, .unset, .unset, .unset, .unset, .unset, .unset]) rfl k) ?_
    refine Go.of (mkF m 17 #[.val (.long q1), .second, .val (.long q2), .second, .val (.long q3), .second, .val (.int p), .val (.long q1), .second, .unset, .unset, .unset, .unset, .unset, .unset, .unset, .unset] [(.int p)]) (fun t k => XS.iload X0.here hx rfl (hb hby at_15) rfl k) ?_
    refine Go.of (mkF m 18 #[.val (.long q1), .second, .val (.long q2), .second, .val (.long q3), .second, .val (.int p), .val (.long q1), .second, .unset, .unset, .unset, .unset, .unset, .unset, .unset, .unset] [(.int (2 : Int32)), (.int p)]) (fun t k => XS.iconst X0.here hx rfl (hb hby at_17) k) ?_
    refine Go.of (mkF m 19 #[.val (.long q1), .second, .val (.long q2), .second, .val (.long q3), .second, .val (.int p), .val (.long q1), .second, .unset, .unset, .unset, .unset, .unset, .unset, .unset, .unset] [(.int (p &&& (2 : Int32)))]) (fun t k => XS.iand X0.here hx rfl (hb hby at_18) rfl k) ?_
    by_cases hc19 : (p &&& (2 : Int32)) = (0 : Int32)
    ·
      refine Go.of (mkF m 26 #[.val (.long q1), .second, .val (.long q2), .second, .val (.long q3), .second, .val (.int p), .val (.long q1), .second, .unset, .unset, .unset, .unset, .unset, .unset, .unset, .unset] []) (fun t k => XS.ifYes X0.here hx rfl (pc0 := 19) (pc' := 26) rfl (hb hby at_19) rfl ((if0 _ _).trans (teq hc19).1) (by decide) (by decide) k) ?_
      refine Go.of (mkF m 28 #[.val (.long q1), .second, .val (.long q2), .second, .val (.long q3), .second, .val (.int p), .val (.long q1), .second, .unset, .unset, .unset, .unset, .unset, .unset, .unset, .unset] [(.long q3)]) (fun t k => XS.lload X0.here hx rfl (hb hby at_26) rfl k) ?_
      refine Go.of (mkF m 30 #[.val (.long q1), .second, .val (.long q2), .second, .val (.long q3), .second, .val (.int p), .val (.long q1), .second, .val (.long q3), .second, .unset, .unset, .unset, .unset, .unset, .unset] []) (fun t k => XS.lstore X0.here hx rfl (hb hby at_28) rfl (l' := #[.val (.long q1), .second, .val (.long q2), .second, .val (.long q3), .second, .val (.int p), .val (.long q1), .second, .val (.long q3), .second, .unset, .unset, .unset, .unset, .unset, .unset]) rfl k) ?_
      exact J30 _ _ _ _ X0 e0 N0
    ·
      refine Go.of (mkF m 22 #[.val (.long q1), .second, .val (.long q2), .second, .val (.long q3), .second, .val (.int p), .val (.long q1), .second, .unset, .unset, .unset, .unset, .unset, .unset, .unset, .unset] []) (fun t k => XS.ifNo X0.here hx rfl (hb hby at_19) rfl ((if0 _ _).trans (feq hc19).1) k) ?_
      refine Go.of (mkF m 23 #[.val (.long q1), .second, .val (.long q2), .second, .val (.long q3), .second, .val (.int p), .val (.long q1), .second, .unset, .unset, .unset, .unset, .unset, .unset, .unset, .unset] [(.long q2)]) (fun t k => XS.lloadN X0.here hx rfl (hb hby at_22) rfl k) ?_
      refine Go.of (mkF m 28 #[.val (.long q1), .second, .val (.long q2), .second, .val (.long q3), .second, .val (.int p), .val (.long q1), .second, .unset, .unset, .unset, .unset, .unset, .unset, .unset, .unset] [(.long q2)]) (fun t k => XS.goto X0.here hx rfl (pc0 := 23) (pc' := 28) rfl (hb hby at_23) (by decide) (by decide) k) ?_
      refine Go.of (mkF m 30 #[.val (.long q1), .second, .val (.long q2), .second, .val (.long q3), .second, .val (.int p), .val (.long q1), .second, .val (.long q2), .second, .unset, .unset, .unset, .unset, .unset, .unset] []) (fun t k => XS.lstore X0.here hx rfl (hb hby at_28) rfl (l' := #[.val (.long q1), .second, .val (.long q2), .second, .val (.long q3), .second, .val (.int p), .val (.long q1), .second, .val (.long q2), .second, .unset, .unset, .unset, .unset, .unset, .unset]) rfl k) ?_
      exact J30 _ _ _ _ X0 e0 N0
set_option maxRecDepth 65536 in
set_option maxHeartbeats 40000000 in
theorem comes_1 {Post : Tables → Env → Array Value → State → Outcome → State → Prop} (hpost : ∀ tb e args s v u, (limb_1_1.after args s (.returned v) u = true ∧ limb_1_2.after args s (.returned v) u = true ∧ True) → FrameEnd s (.returned v) u (Jvm.fieldLocs frame_1_writes args s ++ Jvm.arrayLocs frame_1_arrays args s ++ Jvm.staticLocs frame_1_statics s) 16 128 → Post tb e args s (.returned v) u) :
    ArmFor flags0 classFile x code maxLocals ret World_1 tables_1 room_1 Calls_1 rest_1 Pre_1 Post := by
  intro l hfl _ _ p e ha hc hk s m args below hf hA hF happ hP
  obtain ⟨hcalls, hrest, hpre⟩ := hP
  obtain ⟨-, -, -, hnamed, -, -, -, hat⟩ := (Spec.applies_iff hf).mp happ
  obtain ⟨hg, hn⟩ := and_e (Cond.before_iff.mp (show (Jvm.Cond.and given_1 narrow_1).before args s = true from hpre))
  obtain ⟨gc, gr⟩ := and_e hg
  obtain ⟨gi0, gr⟩ := and_e gr
  obtain ⟨gi1, gr⟩ := and_e gr
  obtain ⟨gi2, gr⟩ := and_e gr
  have gi3 := gr
  obtain ⟨w0, w1, w2, w3, rfl⟩ : ∃ w0 w1 w2 w3 : Value, args = #[w0, w1, w2, w3] := by
    have hs : args.size = 4 := by simpa [Cond.value, given_1] using gc
    obtain ⟨L⟩ := args
    match L, hs with
    | [w0, w1, w2, w3], _ => exact ⟨w0, w1, w2, w3, rfl⟩
  have hw := fun d (hd : d ∈ tables_1) => atoms_spec (ws := Jvm.Cond.code x code maxLocals ret :: tables_1) hat d (List.mem_cons_of_mem _ hd)
  have hfit : Fit s := fun {y c} hc i hi => by
    obtain ⟨ha, rfl⟩ := Array.getElem?_eq_some_iff.mp hc
    have q := List.all_eq_true.mp ((Array.all_eq_true_iff_forall_mem.mp hF) _ (Array.getElem_mem ha)) i (List.mem_range.mpr hi)
    simpa [Array.getElem?_eq_getElem hi] using q
  obtain ⟨i0, ei0⟩ := isL_v gi0
  obtain rfl : w0 = (.long i0) := Option.some.inj ei0
  obtain ⟨i1, ei1⟩ := isL_v gi1
  obtain rfl : w1 = (.long i1) := Option.some.inj ei1
  obtain ⟨i2, ei2⟩ := isL_v gi2
  obtain rfl : w2 = (.long i2) := Option.some.inj ei2
  obtain ⟨i3, ei3⟩ := is_v gi3
  obtain rfl : w3 = (.int i3) := Option.some.inj ei3
  obtain ⟨n, o, h1, h2, h3, _, L, rfl, ⟨rfl, N⟩, hq⟩ := rm0 l s _ hw tables_1 i0 i1 i2 i3 s.heap s.heap.size (Nat.le_refl _) p e ha hc hk s m _ below hf ((Spec.applies_iff_loose hf).mp happ).1 ⟨rfl, State.Warmed39.refl s, rfl⟩ trivial
  refine ⟨n, _, h1, h2, h3, hpost _ _ _ _ _ _ ⟨Cond.after_iff.mpr rfl, Cond.after_iff.mpr (eq_i res_at (Term.int_eval (1)) rfl), trivial⟩ ⟨hq.1, hq.2.1, (hq.2.2.sift fun y hy => Or.inr (N y hy)).mono (by decide) (by decide)⟩⟩
theorem main_1_1 : Claimed_1_1 := comes_1 fun _ _ _ _ _ _ h hF => ⟨h.1, hF⟩
theorem main_1_2 : Claimed_1_2 := comes_1 fun _ _ _ _ _ _ h hF => ⟨h.2.1, hF⟩
end Jvm.Pilot.@@N@@
namespace Jvm.Pilot.@@N@@
open Jvm Jvm.ClassFile Sem Op Lib Jvm.Free Jvm.Stand Jvm.Pilot.@@N@@.Jvm.D
/-! MADE BY PROGRAM (witnessworld.py) out of the Statement's table words and the real class files: 14 classes; the members and pool entries that the words name. The judged class is class 1, her method 1. -/
namespace start1
open Jvm.ClassFile
def u (s : String) : CpInfo := .utf8 (stringToUtf16 s)
/-- a pool by its gaps: so many unusable entries, then the entry; so many at the end -/
def gap : Nat → List CpInfo → List CpInfo
  | 0, r => r
  | n + 1, r => .unusable :: gap n r
def poolList (es : List (Nat × CpInfo)) (last : Nat) : List CpInfo := es.foldr (fun e r => gap e.1 (e.2 :: r)) (gap last [])
def pool (es : List (Nat × CpInfo)) (last : Nat) : Array CpInfo := ⟨poolList es last⟩
def fileOf (pool : Array CpInfo) (this : Nat) (attrs : Array Attribute := #[]) (ms : Array MethodInfo := #[]) (fl : Nat := 33) (sup : Nat := 0) (ifs : Array Nat := #[]) (fds : Array FieldInfo := #[]) : ClassFile where
  minorVersion := 0
  majorVersion := 65
  constantPool := pool
  accessFlags := fl
  thisClass := this
  superClass := sup
  interfaces := ifs
  fields := fds
  methods := ms
  attributes := attrs
def plain (name : String) (sup : Option ClassId) : Class where
  name := name
  kind := .ordinary
  loader := none
  accessFlags := 33
  super := sup
  interfaces := #[]
  cf := none
  fields := #[]
  methods := #[]
  instanceTypes := #[]
  staticTypes := #[]
  resolved := #[]
  callSites := []
  init := .initialized
  statics := none
  mirror := none

def pool0 : Array CpInfo := pool [(5, u "<init>"), (0, u "()V"), (1, .class_ 10), (1, u "java/lang/Object")] 113

def k0c0 : Code := { maxStack := 0, maxLocals := 1, code := object_method_1_code, exceptionTable := #[], attributes := #[] }
def k0m0 : Method := { name := "<init>", desc := "()V", sig := { parameters := [], returnType := none }, accessFlags := 1, code := some k0c0 }
/-- java/lang/Object -/
def k0 : Class := { plain "java/lang/Object" none with
  accessFlags := 33
  interfaces := #[]
  cf := some (fileOf pool0 8 #[] #[{ accessFlags := 1, nameIndex := 5, descriptorIndex := 6, attributes := #[] }] 33 0 #[] #[])
  fields := #[]
  methods := #[k0m0]
  instanceTypes := #[]
  staticTypes := #[]
  resolved := Array.replicate 124 none
  statics := none }

def pool1 : Array CpInfo := pool [(2, .class_ 4), (1, u "java/lang/Object"), (0, u "<init>"), (0, u "()V"), (0, .class_ 8), (0, u "com/example/millrace/millrace/scheduler/RunCounts"), (0, .methodref 7 10), (0, .nameAndType 5 11), (0, u "(JJ)V"), (0, .methodref 7 13), (0, .nameAndType 14 15), (0, u "hashCode"), (0, u "()I"), (0, .methodref 7 17), (0, .nameAndType 18 19), (0, u "equals"), (0, u "(Ljava/lang/Object;)Z"), (0, .class_ 21), (0, u "com/example/millrace/millrace/scheduler/RunCountsHashCodePinLaw"), (2, u "law"), (0, u "(JJJI)Z")] 3

def k1m0 : Method := { name := "<init>", desc := "()V", sig := { parameters := [], returnType := none }, accessFlags := 1, code := none }
def k1c1 : Code := { maxStack := 6, maxLocals := 17, code := code, exceptionTable := #[], attributes := #[] }
def k1m1 : Method := { name := "law", desc := "(JJJI)Z", sig := { parameters := [.long, .long, .long, .int], returnType := some .boolean }, accessFlags := 9, code := some k1c1 }
/-- com/example/millrace/millrace/scheduler/RunCountsHashCodePinLaw -/
def k1 : Class := { plain "com/example/millrace/millrace/scheduler/RunCountsHashCodePinLaw" (some 0) with
  accessFlags := 49
  interfaces := #[]
  cf := some (fileOf pool1 20 #[] #[{ accessFlags := 1, nameIndex := 5, descriptorIndex := 6, attributes := #[] }, { accessFlags := 9, nameIndex := 24, descriptorIndex := 25, attributes := #[] }] 49 2 #[] #[])
  fields := #[]
  methods := #[k1m0, k1m1]
  instanceTypes := #[]
  staticTypes := #[]
  resolved := Array.replicate 29 none
  statics := none }

def pool2 : Array CpInfo := pool [(1, .methodref 2 3), (0, .class_ 4), (0, .nameAndType 5 6), (0, u "java/lang/Object"), (0, u "<init>"), (0, u "()V"), (0, .fieldref 8 9), (0, .class_ 10), (0, .nameAndType 11 12), (0, u "com/example/millrace/millrace/scheduler/RunCounts"), (0, u "successes"), (0, u "J"), (0, .fieldref 8 14), (0, .nameAndType 15 12), (0, u "failures"), (0, .methodref 17 18), (0, .class_ 19), (0, .nameAndType 20 21), (0, u "java/lang/Long"), (0, u "hashCode"), (0, u "(J)I"), (4, u "(JJ)V"), (3, u "equals"), (0, u "(Ljava/lang/Object;)Z"), (1, u "()I")] 19

def k2c0 : Code := { maxStack := 3, maxLocals := 5, code := prog_29_method_1_code, exceptionTable := #[], attributes := #[] }
def k2m0 : Method := { name := "<init>", desc := "(JJ)V", sig := { parameters := [.long, .long], returnType := none }, accessFlags := 0, code := some k2c0 }
def k2c1 : Code := { maxStack := 4, maxLocals := 2, code := prog_29_method_4_code, exceptionTable := #[], attributes := #[] }
def k2m1 : Method := { name := "equals", desc := "(Ljava/lang/Object;)Z", sig := { parameters := [(.object "java/lang/Object")], returnType := some .boolean }, accessFlags := 1, code := some k2c1 }
def k2c2 : Code := { maxStack := 3, maxLocals := 1, code := prog_29_method_5_code, exceptionTable := #[], attributes := #[] }
def k2m2 : Method := { name := "hashCode", desc := "()I", sig := { parameters := [], returnType := some .int }, accessFlags := 1, code := some k2c2 }
/-- com/example/millrace/millrace/scheduler/RunCounts -/
def k2 : Class := { plain "com/example/millrace/millrace/scheduler/RunCounts" (some 0) with
  accessFlags := 49
  interfaces := #[]
  cf := some (fileOf pool2 8 #[] #[{ accessFlags := 0, nameIndex := 5, descriptorIndex := 26, attributes := #[] }, { accessFlags := 1, nameIndex := 30, descriptorIndex := 31, attributes := #[] }, { accessFlags := 1, nameIndex := 20, descriptorIndex := 33, attributes := #[] }] 49 2 #[] #[{ accessFlags := 18, nameIndex := 11, descriptorIndex := 12, attributes := #[] }, { accessFlags := 18, nameIndex := 15, descriptorIndex := 12, attributes := #[] }])
  fields := #[{ name := "successes", type := .long, accessFlags := 18, slot := 0, constantValue := 0 }, { name := "failures", type := .long, accessFlags := 18, slot := 1, constantValue := 0 }]
  methods := #[k2m0, k2m1, k2m2]
  instanceTypes := #[.long, .long]
  staticTypes := #[]
  resolved := Array.replicate 53 none
  statics := none }

def pool3 : Array CpInfo := pool [(1, .class_ 2), (0, u "java/io/Serializable"), (0, .class_ 4), (0, u "java/lang/Object")] 2

/-- java/io/Serializable -/
def k3 : Class := { plain "java/io/Serializable" (some 0) with
  accessFlags := 1537
  interfaces := #[]
  cf := some (fileOf pool3 1 #[] #[] 1537 3 #[] #[])
  fields := #[]
  methods := #[]
  instanceTypes := #[]
  staticTypes := #[]
  resolved := Array.replicate 7 none
  statics := none }

def pool4 : Array CpInfo := pool [(2, .class_ 4), (1, u "java/lang/Object"), (0, u "<init>"), (0, u "()V"), (1, .class_ 10), (1, u "java/lang/Number"), (2, .class_ 14), (0, u "java/io/Serializable"), (0, u "serialVersionUID"), (0, u "J")] 20

def k4m0 : Method := { name := "<init>", desc := "()V", sig := { parameters := [], returnType := none }, accessFlags := 1, code := none }
/-- java/lang/Number -/
def k4 : Class := { plain "java/lang/Number" (some 0) with
  accessFlags := 1057
  interfaces := #[3]
  cf := some (fileOf pool4 8 #[] #[{ accessFlags := 1, nameIndex := 5, descriptorIndex := 6, attributes := #[] }] 1057 2 #[13] #[{ accessFlags := 26, nameIndex := 15, descriptorIndex := 16, attributes := #[] }])
  fields := #[{ name := "serialVersionUID", type := .long, accessFlags := 26, slot := 0, constantValue := 0 }]
  methods := #[k4m0]
  instanceTypes := #[]
  staticTypes := #[.long]
  resolved := Array.replicate 37 none
  statics := none }

def pool5 : Array CpInfo := pool [(1, .class_ 2), (0, u "java/lang/Comparable"), (0, .class_ 4), (0, u "java/lang/Object")] 7

/-- java/lang/Comparable -/
def k5 : Class := { plain "java/lang/Comparable" (some 0) with
  accessFlags := 1537
  interfaces := #[]
  cf := some (fileOf pool5 1 #[] #[] 1537 3 #[] #[])
  fields := #[]
  methods := #[]
  instanceTypes := #[]
  staticTypes := #[]
  resolved := Array.replicate 12 none
  statics := none }

def pool6 : Array CpInfo := pool [(1, .class_ 2), (0, u "java/lang/constant/Constable"), (0, .class_ 4), (0, u "java/lang/Object")] 6

/-- java/lang/constant/Constable -/
def k6 : Class := { plain "java/lang/constant/Constable" (some 0) with
  accessFlags := 1537
  interfaces := #[]
  cf := some (fileOf pool6 1 #[] #[] 1537 3 #[] #[])
  fields := #[]
  methods := #[]
  instanceTypes := #[]
  staticTypes := #[]
  resolved := Array.replicate 11 none
  statics := none }

def pool7 : Array CpInfo := pool [(1, .class_ 2), (0, u "java/lang/constant/ConstantDesc"), (0, .class_ 4), (0, u "java/lang/Object")] 32

/-- java/lang/constant/ConstantDesc -/
def k7 : Class := { plain "java/lang/constant/ConstantDesc" (some 0) with
  accessFlags := 1537
  interfaces := #[]
  cf := some (fileOf pool7 1 #[] #[] 1537 3 #[] #[])
  fields := #[]
  methods := #[]
  instanceTypes := #[]
  staticTypes := #[]
  resolved := Array.replicate 37 none
  statics := none }

def pool8 : Array CpInfo := pool [(1, .class_ 2), (0, u "java/lang/Long"), (98, u "(J)I"), (133, .class_ 237), (1, u "java/lang/Long$LongCache"), (33, .class_ 272), (0, u "java/lang/Number"), (2, u "value"), (0, u "J"), (2, u "hashCode"), (81, u "TYPE"), (0, u "Ljava/lang/Class;"), (0, .class_ 364), (0, u "java/lang/Comparable"), (0, .class_ 366), (0, u "java/lang/constant/Constable"), (0, .class_ 368), (0, u "java/lang/constant/ConstantDesc"), (0, u "MIN_VALUE"), (1, u "MAX_VALUE"), (4, u "SIZE"), (0, u "I"), (1, u "BYTES"), (1, u "serialVersionUID")] 142

def k8c0 : Code := { maxStack := 5, maxLocals := 2, code := jdk_35_method_36_code, exceptionTable := #[], attributes := #[] }
def k8m0 : Method := { name := "hashCode", desc := "(J)I", sig := { parameters := [.long], returnType := some .int }, accessFlags := 9, code := some k8c0 }
/-- java/lang/Long -/
def k8 : Class := { plain "java/lang/Long" (some 4) with
  accessFlags := 49
  interfaces := #[5, 6, 7]
  cf := some (fileOf pool8 1 #[.nestMembers #[235]] #[{ accessFlags := 9, nameIndex := 279, descriptorIndex := 101, attributes := #[] }] 49 271 #[363, 365, 367] #[{ accessFlags := 25, nameIndex := 369, descriptorIndex := 276, attributes := #[] }, { accessFlags := 25, nameIndex := 371, descriptorIndex := 276, attributes := #[] }, { accessFlags := 25, nameIndex := 361, descriptorIndex := 362, attributes := #[] }, { accessFlags := 18, nameIndex := 275, descriptorIndex := 276, attributes := #[] }, { accessFlags := 25, nameIndex := 376, descriptorIndex := 377, attributes := #[] }, { accessFlags := 25, nameIndex := 379, descriptorIndex := 377, attributes := #[] }, { accessFlags := 26, nameIndex := 381, descriptorIndex := 276, attributes := #[] }])
  fields := #[{ name := "MIN_VALUE", type := .long, accessFlags := 25, slot := 0, constantValue := 0 }, { name := "MAX_VALUE", type := .long, accessFlags := 25, slot := 1, constantValue := 0 }, { name := "TYPE", type := (.object "java/lang/Class"), accessFlags := 25, slot := 2, constantValue := 0 }, { name := "value", type := .long, accessFlags := 18, slot := 0, constantValue := 0 }, { name := "SIZE", type := .int, accessFlags := 25, slot := 3, constantValue := 0 }, { name := "BYTES", type := .int, accessFlags := 25, slot := 4, constantValue := 0 }, { name := "serialVersionUID", type := .long, accessFlags := 26, slot := 5, constantValue := 0 }]
  methods := #[k8m0]
  instanceTypes := #[.long]
  staticTypes := #[.long, .long, (.object "java/lang/Class"), .int, .int, .long]
  resolved := Array.replicate 524 none
  statics := none }

def pool9 : Array CpInfo := pool [(1, u "java/lang/Cloneable"), (0, .class_ 1), (0, u "java/lang/Object"), (0, .class_ 3)] 3

/-- java/lang/Cloneable -/
def k9 : Class := { plain "java/lang/Cloneable" (some 0) with
  accessFlags := 1537
  interfaces := #[]
  cf := some (fileOf pool9 2 #[] #[] 1537 4 #[] #[])
  fields := #[]
  methods := #[]
  instanceTypes := #[]
  staticTypes := #[]
  resolved := Array.replicate 8 none
  statics := none }

/-- the primitive byte -/
def k10 : Class := { plain "byte" none with kind := .primitive 'B', accessFlags := 0x411 }
/-- [B -/
def k11 : Class := { plain "[B" (some 0) with kind := .array 10 .byte, interfaces := #[9, 3], accessFlags := 1041 }

/-- the primitive int -/
def k12 : Class := { plain "int" none with kind := .primitive 'I', accessFlags := 0x411 }
/-- [I -/
def k13 : Class := { plain "[I" (some 0) with kind := .array 12 .int, interfaces := #[9, 3], accessFlags := 1041 }

def heap : Heap := #[]
def classes : Array Class := #[k0, k1, k2, k3, k4, k5, k6, k7, k8, k9, k10, k11, k12, k13]
def interned : List (Array UInt16 × Addr) := []
def slotsUsed : Nat := 0
def theMethod : MethodId := ⟨1, 1⟩
def args0 : Array Value := #[.long 5, .long 3, .long 7, .int 1]
def aboutOver (below : List Frame) : State where
  vm := { classes := classes, interned := interned.toArray }
  heap := heap
  slotsUsed := slotsUsed
  threads := #[{ frames := .invoking theMethod args0 :: below }]
def below0 : List Frame := [.native { method := ⟨0, 0⟩, args := #[] }]
def about1 : State := aboutOver below0
def p0 : Program := .bare "" "" ""
def e0 : Env := launch0.env 0 0 0
theorem w_frames : about1.frames = Frame.invoking theMethod args0 :: below0 := rfl
set_option maxRecDepth 65536 in
theorem w_args : argsFit about1.vm theMethod args0 = true := by decide +kernel
set_option maxRecDepth 65536 in
theorem w_heap : heapFits about1 = true := by decide +kernel
set_option maxRecDepth 65536 in
theorem w_runnable : about1.curStatus? = some .runnable := by decide +kernel
set_option maxRecDepth 65536 in
theorem w_alone : about1.alone = true := by decide +kernel
set_option maxRecDepth 65536 in
theorem w_named : about1.methodNamed? x = some theMethod := by decide +kernel
set_option maxRecDepth 65536 in
theorem w_hears : about1.hears theMethod below0 = true := by decide +kernel
set_option maxRecDepth 65536 in
theorem w_ripe : about1.ripe theMethod args0 below0 = true := by decide +kernel
theorem w_running : about1.status = .running := rfl
set_option maxRecDepth 65536 in
theorem w_room : about1.hasRoom e0.platform room_1 = true :=
  launch0.hasRoom_least _ room_1 (by decide +kernel) (by decide +kernel) (by decide +kernel) (by decide +kernel) (by decide +kernel) (by decide +kernel)
theorem allAtoms_all (ts : List Jvm.Cond) (a : Array Jvm.Value) (st : Jvm.State) : (allAtoms ts).before a st = ts.all (fun c => c.before a st) := by
  induction ts with
  | nil => rfl
  | cons c t ih =>
    show (Jvm.Cond.and c (allAtoms t)).before a st = _
    rw [Jvm.Cond.before_and, ih, List.all_cons]
def words1 : List Jvm.Cond := Jvm.Cond.code x code maxLocals ret :: tables_1
/-- a 'code' word, met by the world's own term for the bytes: nothing is compared byte by byte -/
theorem code_word {y : MethodName} {bytes : ByteArray} {mx : Nat} {rt : Option FieldType} {a : Array Value} {s : State} {m : MethodId} {meth : Method} {c : Code} (h1 : s.methodNamed? y = some m) (h2 : s.vm.method? m = some meth) (h3 : meth.code = some c) (h4 : c.code = bytes)
    (h5 : (c.maxLocals == mx && c.exceptionTable.isEmpty && decide (c.maxStack ≤ mostOperands) && decide (meth.sig.returnType = rt) && !meth.locks && decide (parseMethodDescriptor y.desc = some meth.sig)) = true) : (Jvm.Cond.code y bytes mx rt).before a s = true := by
  simp only [Bool.and_eq_true, beq_iff_eq, Bool.not_eq_true', decide_eq_true_eq] at h5
  obtain ⟨⟨⟨⟨⟨g1, g2⟩, g3⟩, g4⟩, g5⟩, g6⟩ := h5
  simp [Cond.before, Cond.holds, Cond.value, h1, h2, h3, h4, g1, g2, g3, g4, g5, g6]
def isCode : Jvm.Cond → Bool
  | .code _ _ _ _ => true
  | _ => false
theorem all_split {L : List Jvm.Cond} {P : Jvm.Cond → Bool} (h1 : L.all (fun c => isCode c || P c) = true) (h2 : ∀ c ∈ L.filter isCode, P c = true) : L.all P = true := by
  refine List.all_eq_true.mpr fun c hc => ?_
  have h := List.all_eq_true.mp h1 c hc
  rcases Bool.eq_false_or_eq_true (isCode c) with hi | hi
  · exact h2 c (List.mem_filter.mpr ⟨hc, hi⟩)
  · simpa [hi] using h
set_option maxRecDepth 65536 in
theorem w_c0 : (Jvm.Cond.code x code maxLocals ret).before args0 about1 = true := code_word (m := ⟨1, 1⟩) (meth := k1m1) (c := k1c1) (by decide +kernel) rfl rfl rfl (by decide +kernel)
set_option maxRecDepth 65536 in
theorem w_c1 : (Jvm.Cond.code ({ cls := "com/example/millrace/millrace/scheduler/RunCounts", name := "<init>", desc := "(JJ)V" } : Jvm.MethodName) prog_29_method_1_code (5 : Nat) (Option.none : Option Jvm.ClassFile.FieldType)).before args0 about1 = true := code_word (m := ⟨2, 0⟩) (meth := k2m0) (c := k2c0) (by decide +kernel) rfl rfl rfl (by decide +kernel)
set_option maxRecDepth 65536 in
theorem w_c2 : (Jvm.Cond.code ({ cls := "java/lang/Object", name := "<init>", desc := "()V" } : Jvm.MethodName) object_method_1_code (1 : Nat) (Option.none : Option Jvm.ClassFile.FieldType)).before args0 about1 = true := code_word (m := ⟨0, 0⟩) (meth := k0m0) (c := k0c0) (by decide +kernel) rfl rfl rfl (by decide +kernel)
set_option maxRecDepth 65536 in
theorem w_c3 : (Jvm.Cond.code ({ cls := "com/example/millrace/millrace/scheduler/RunCounts", name := "hashCode", desc := "()I" } : Jvm.MethodName) prog_29_method_5_code (1 : Nat) (Option.some Jvm.ClassFile.FieldType.int)).before args0 about1 = true := code_word (m := ⟨2, 2⟩) (meth := k2m2) (c := k2c2) (by decide +kernel) rfl rfl rfl (by decide +kernel)
set_option maxRecDepth 65536 in
theorem w_c4 : (Jvm.Cond.code ({ cls := "java/lang/Long", name := "hashCode", desc := "(J)I" } : Jvm.MethodName) jdk_35_method_36_code (2 : Nat) (Option.some Jvm.ClassFile.FieldType.int)).before args0 about1 = true := code_word (m := ⟨8, 0⟩) (meth := k8m0) (c := k8c0) (by decide +kernel) rfl rfl rfl (by decide +kernel)
set_option maxRecDepth 65536 in
theorem w_c5 : (Jvm.Cond.code ({ cls := "com/example/millrace/millrace/scheduler/RunCounts", name := "equals", desc := "(Ljava/lang/Object;)Z" } : Jvm.MethodName) prog_29_method_4_code (2 : Nat) (Option.some Jvm.ClassFile.FieldType.boolean)).before args0 about1 = true := code_word (m := ⟨2, 1⟩) (meth := k2m1) (c := k2c1) (by decide +kernel) rfl rfl rfl (by decide +kernel)
def codes1 : List Jvm.Cond := [Jvm.Cond.code x code maxLocals ret, Jvm.Cond.code ({ cls := "com/example/millrace/millrace/scheduler/RunCounts", name := "<init>", desc := "(JJ)V" } : Jvm.MethodName) prog_29_method_1_code (5 : Nat) (Option.none : Option Jvm.ClassFile.FieldType), Jvm.Cond.code ({ cls := "java/lang/Object", name := "<init>", desc := "()V" } : Jvm.MethodName) object_method_1_code (1 : Nat) (Option.none : Option Jvm.ClassFile.FieldType), Jvm.Cond.code ({ cls := "com/example/millrace/millrace/scheduler/RunCounts", name := "hashCode", desc := "()I" } : Jvm.MethodName) prog_29_method_5_code (1 : Nat) (Option.some Jvm.ClassFile.FieldType.int), Jvm.Cond.code ({ cls := "java/lang/Long", name := "hashCode", desc := "(J)I" } : Jvm.MethodName) jdk_35_method_36_code (2 : Nat) (Option.some Jvm.ClassFile.FieldType.int), Jvm.Cond.code ({ cls := "com/example/millrace/millrace/scheduler/RunCounts", name := "equals", desc := "(Ljava/lang/Object;)Z" } : Jvm.MethodName) prog_29_method_4_code (2 : Nat) (Option.some Jvm.ClassFile.FieldType.boolean)]
set_option maxRecDepth 65536 in
theorem codes_eq : words1.filter isCode = codes1 := rfl
theorem w_codes : ∀ c ∈ words1.filter isCode, c.before args0 about1 = true := by
  rw [codes_eq]
  intro c hc
  simp only [codes1, List.mem_cons, List.not_mem_nil, or_false] at hc
  rcases hc with rfl | rfl | rfl | rfl | rfl | rfl
  · exact w_c0
  · exact w_c1
  · exact w_c2
  · exact w_c3
  · exact w_c4
  · exact w_c5
set_option maxRecDepth 65536 in
theorem w_t1 : (words1.take 24).all (fun c => isCode c || c.before args0 about1) = true := by decide +kernel
set_option maxRecDepth 65536 in
theorem w_t2 : (words1.drop 24).all (fun c => isCode c || c.before args0 about1) = true := by decide +kernel
theorem w_tables : (allAtoms (Jvm.Cond.code x code maxLocals ret :: tables_1)).before args0 about1 = true := by
  rw [allAtoms_all]
  show words1.all (fun c => c.before args0 about1) = true
  refine all_split ?_ w_codes
  rw [← List.take_append_drop 24 words1, List.all_append, w_t1, w_t2]
  rfl
set_option maxRecDepth 65536 in
theorem w_case : (Jvm.Cond.and given_1 narrow_1).before args0 about1 = true := by decide +kernel
theorem w_applies : (headSpec (Jvm.Cond.code x code maxLocals ret :: tables_1) room_1).applies x e0.platform about1 = true :=
  (Spec.applies_iff w_frames).mpr ⟨w_running, w_runnable, w_alone, w_named, w_hears, w_ripe, w_room, w_tables⟩
theorem atStart : AtStart classFile x code maxLocals ret World_1 tables_1 room_1 Calls_1 rest_1 Pre_1 launch0 p0 e0 about1 theMethod args0 below0 :=
  ⟨lists_1, trivial, launch0.admits_env _ _ _, launch0.least_env, fairChoices_fair.cas, fairChoices_fair.clock, w_frames, w_args, w_heap, w_applies, trivial, trivial, w_case⟩
end start1
theorem witness_1 : WitnessClaimed_1 := ⟨start1.p0, start1.e0, start1.about1, start1.theMethod, start1.args0, start1.below0, start1.atStart⟩
end Jvm.Pilot.@@N@@
