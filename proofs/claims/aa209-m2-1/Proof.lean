import JvmDerived
import JvmDerived.Pilot.@@N@@Statement
import JvmDerived.Pilot.@@N@@Code
set_option linter.unusedVariables false
set_option linter.unusedSimpArgs false
set_option maxRecDepth 65536
set_option maxHeartbeats 40000000
@@BLOCK:HandJ.lean.txt@@
@@BLOCK:SymMore.lean.txt@@
namespace Jvm.OwnGo
open Jvm Jvm.ClassFile Sem Op Lib Jvm.Free Jvm.Stand Jvm.LawKit Jvm.RoadKit
section Own
variable {p : Program} {l : Launch} {e : Env} {R : Room} {s : State} {m : MethodId} {args : Array Value} {below : List Frame} {meth : Method} {c : Code} {T T' : State} {locs : List Loc} {cells slots : Nat} {Z : State} {a0 : Array Value} {h : Heap} {g g' : JFrame} {P : Outcome → State → Prop}
def Go (p : Program) (e : Env) (below : List Frame) (P : Outcome → State → Prop) (T : State) (g : JFrame) : Prop := ∃ t o, Steps p.tables e below (T.setTop g) t ∧ t.status = .running ∧ Ended t below o ∧ P o t
theorem Go.of (g' : JFrame) (st : ∀ t, Steps p.tables e below (T'.setTop g') t → Steps p.tables e below (T.setTop g) t) (k : Go p e below P T' g') : Go p e below P T g := by
  obtain ⟨t, o, h1, h2⟩ := k; exact ⟨t, o, st t h1, h2⟩
theorem Go.via (g' : JFrame) (st : Steps p.tables e below (T.setTop g) (T'.setTop g')) (k : Go p e below P T' g') : Go p e below P T g := by
  obtain ⟨t, o, h1, h2⟩ := k; exact ⟨t, o, st.trans h1, h2⟩
theorem Go.cast (q : g = g') (k : Go p e below P T g') : Go p e below P T g := q ▸ k
abbrev EndP (s : State) (rm : Room) (Q : Option Value → Heap → List Loc → Prop) : Outcome → State → Prop := fun o U' => ∃ v L, o = .returned v ∧ Q v U'.heap L ∧ FrameEnd s o U' L rm.cells rm.slots
def Met (l : Launch) (Z : State) (y : MethodName) (bytes : ByteArray) (maxL : Nat) (ret : Option FieldType) (ws : List Cond) (rm : Room) (as' : Array Value) (h0 : Heap) (Q : Option Value → Heap → List Loc → Prop) : Prop :=
  MetFree l y (head1 (Cond.code y bytes maxL ret :: ws) rm) (fun a U => a = as' ∧ Z.Warmed39 U.vm ∧ U.heap = h0) (fun _ _ _ _ _ => True) (fun _ U o U' => ∃ v L, o = .returned v ∧ Q v U'.heap L ∧ FrameEnd U o U' L rm.cells rm.slots)
variable {y : MethodName} {bytes : ByteArray} {maxL : Nat} {ret : Option FieldType} {ws : List Cond} {rm : Room} {as' : Array Value} {h0 : Heap} {Q : Option Value → Heap → List Loc → Prop}
theorem Met.intro (hpl : plainFor y = true)
    (body : ∀ p e s m below meth c s₁, Stand p l e rm s m as' below meth c s₁ [] 0 0 → p.tables.exec = Jvm.exec → Z.Warmed39 s.vm → s.vm.findClass y.cls = some m.cls → c.code = bytes → c.maxLocals = maxL →
      meth.sig.returnType = ret → meth.locks = false → meth.name = y.name → s₁.heap = h0 → Go p e below (EndP s rm Q) s₁ (entryFrame m as' maxL)) : Met l Z y bytes maxL ret ws rm as' h0 Q := by
  refine MetFree.of_bodySF hpl hisR ?_
  intro p e s m args below meth c s₁ Bd hml0 hP hK
  obtain ⟨rfl, hZ, hh⟩ := hP
  exact body p e s m below meth c s₁ (Stand.of_body Bd) Bd.exec hZ (findClass_of_methodNamed Bd.named) Bd.bytes hml0 Bd.returns Bd.notSynchronized (name_of_methodNamed Bd.named Bd.method).1 (by rw [← hh, Bd.state]; rfl)
theorem Met.mono {Q' : Option Value → Heap → List Loc → Prop} (h : Met l Z y bytes maxL ret ws rm as' h0 Q) (q : ∀ v h L, Q v h L → Q' v h L) : Met l Z y bytes maxL ret ws rm as' h0 Q' := by
  intro p e ha hc hk s m args below hf happ hP hK
  obtain ⟨n, o, h1, h2, h3, v, L, h4, h5, h6⟩ := h p e ha hc hk s m args below hf happ hP hK
  exact ⟨n, o, h1, h2, h3, v, L, h4, q _ _ _ h5, h6⟩
theorem Go.fin (X : Stand p l e R s m args below meth c T locs cells slots) {v : Option Value} (hv : meth.sig.returnType = none → v = none) (hlk : meth.locks = false) (hc : cells ≤ rm.cells) (hs : slots ≤ rm.slots)
    (st : ∀ fs, (∀ (f : JFrame) (acts : List Action), f.method = m → f.locked = none → f.entered = [] → (doReturn e (T.setTop f) acts v).1 = T.setFrames fs) → Steps p.tables e below (T.setTop g) (T.setFrames fs)) (hQ : Q v T.heap locs) : Go p e below (EndP s rm Q) T g := by
  obtain ⟨fs, hr, hrun, hended, hW, hsame⟩ := X.leave (v := v) hv hlk
  exact ⟨_, _, st fs hr, hrun, hended, v, locs, rfl, hQ, ⟨v, rfl⟩, hW, hsame.mono hc hs⟩
theorem Go.retW (X : Stand p l e R s m args below meth c T locs cells slots) (hx : p.tables.exec = Jvm.exec) {pc : Nat} {Ls : Array Slot} {w : Value} {t : FieldType} {i : Instr} {rest : List Value} (hret : meth.sig.returnType = some t) (hlk : meth.locks = false) (hn : narrow t w = w)
    (hi : (i = .ireturn ∧ (t = .int ∨ t = .boolean ∨ t = .byte ∨ t = .char ∨ t = .short) ∧ ∃ z, w = .int z) ∨ (i = .lreturn ∧ t = .long ∧ ∃ z, w = .long z) ∨ (i = .dreturn ∧ t = .double ∧ ∃ z, w = .double z) ∨ (i = .freturn ∧ t = .float ∧ ∃ z, w = .float z) ∨ (i = .areturn ∧ t.isReference = true ∧ w.isRef = true))
    (hd : decode c.code pc = .ok (i, 1)) (hc : cells ≤ rm.cells) (hs : slots ≤ rm.slots) (hQ : Q (some w) T.heap locs) : Go p e below (EndP s rm Q) T (mkF m pc Ls (w :: rest)) :=
  Go.fin X (fun q => by rw [hret] at q; cases q) hlk hc hs (fun fs hr => retOut X hx hret hn hi hd hr) hQ
theorem Go.retV (X : Stand p l e R s m args below meth c T locs cells slots) (hx : p.tables.exec = Jvm.exec) {pc : Nat} {Ls : Array Slot} (hret : meth.sig.returnType = none) (hlk : meth.locks = false)
    (hd : decode c.code pc = .ok (.return_, 1)) (hc : cells ≤ rm.cells) (hs : slots ≤ rm.slots) (hQ : Q none T.heap locs) : Go p e below (EndP s rm Q) T (mkF m pc Ls []) :=
  Go.fin X (fun _ => rfl) hlk hc hs (fun fs hr => X.returnOut hx hret hd hr) hQ
theorem Go.callS (X : Stand p l e R s m args below meth c T locs cells slots) (hx : p.tables.exec = Jvm.exec) (hZ : Z.Warmed39 s.vm) {own : String} {index W : Nat} {argsL rest : List Value} (hown : s.vm.findClass own = some m.cls)
    (w1 : (Cond.methodLink own index y).before a0 Z = true) (w2 : (Cond.static y).before a0 Z = true) (w3 : (Cond.initialized y.cls).before a0 Z = true) (w4 : (Cond.code y bytes maxL ret).before a0 Z = true)
    (hy : y.cls ≠ "java/lang/invoke/MethodHandle" ∧ y.cls ≠ "java/lang/invoke/VarHandle") (eT : T.heap = h) (hM : Met l Z y bytes maxL ret [] rm argsL.toArray h Q)
    (hg : g.method = m) (hsize : g.locals.size = c.maxLocals) (hlen : ∀ sig, parseMethodDescriptor y.desc = some sig → argsL.length = sig.parameters.length) (hs : g.stack = argsL.reverse ++ rest)
    (hW : 2 * g.monitorRoom + (rest.map fun v => v.category).sum ≤ W) (hd : decode c.code g.pc = .ok (.invokestatic index, 3)) (hf : rm.frames + 1 ≤ R.frames) (hl : W + (maxL + 11) + rm.locals ≤ R.locals) (hc : cells + rm.cells ≤ R.cells) (hsl : slots + rm.slots ≤ R.slots)
    (k : ∀ T' L v, Stand p l e R s m args below meth c T' (locs ++ L) (cells + rm.cells) (slots + rm.slots) → Q v T'.heap L → Go p e below P T' { g with pc := g.pc + 3, stack := v.toList ++ rest }) : Go p e below P T g := by
  obtain ⟨v, _, ⟨U, L, q1, q2⟩, -, X', ⟨Lc, hQ, l1, l2, l3⟩, st⟩ := Jvm.LawKit.callS X hx (y := y) hown (mvT hZ w1) (mvT hZ w2) (mvT hZ w3) (mvT hZ w4) hy (backOf (W := W) hM hZ w4 w3 hf hl) hg hsize hlen hs hW hd (fun _ _ => ⟨rfl, eT, hc, hsl⟩)
  dsimp only [Pt.U, Pt.locs, Pt.cells, Pt.slots] at X' l1 l2 l3 st hQ
  subst l1 l2 l3
  exact Go.of _ st (k _ _ _ X' hQ)
theorem Go.init (X : Stand p l e R s m args below meth c T locs cells slots) (hx : p.tables.exec = Jvm.exec) (hZ : Z.Warmed39 s.vm) {own : String} {index W : Nat} {a : Addr} {argsL rest : List Value} (hown : s.vm.findClass own = some m.cls) (hy1 : y.name = "<init>")
    (w1 : (Cond.methodLink own index y).before a0 Z = true) (w2 : (Cond.instanceMethod y).before a0 Z = true) (w3 : (Cond.initialized y.cls).before a0 Z = true) (w4 : (Cond.code y bytes maxL none).before a0 Z = true)
    (hy : y.cls ≠ "java/lang/invoke/MethodHandle" ∧ y.cls ≠ "java/lang/invoke/VarHandle") (eT : T.heap = h) (hM : Met l Z y bytes maxL none [] rm (.ref a :: argsL).toArray h Q)
    (hg : g.method = m) (hsize : g.locals.size = c.maxLocals) (hlen : ∀ sig, parseMethodDescriptor y.desc = some sig → argsL.length = sig.parameters.length) (hs : g.stack = argsL.reverse ++ .ref a :: rest)
    (hW : 2 * g.monitorRoom + (rest.map fun v => v.category).sum ≤ W) (hd : decode c.code g.pc = .ok (.invokespecial index, 3)) (hf : rm.frames + 1 ≤ R.frames) (hl : W + (maxL + 11) + rm.locals ≤ R.locals) (hc : cells + rm.cells ≤ R.cells) (hsl : slots + rm.slots ≤ R.slots)
    (k : ∀ T' L v, Stand p l e R s m args below meth c T' (locs ++ L) (cells + rm.cells) (slots + rm.slots) → Q v T'.heap L → Go p e below P T' { g with pc := g.pc + 3, stack := v.toList ++ rest }) : Go p e below P T g := by
  obtain ⟨v, _, ⟨U, L, q1, q2⟩, -, X', ⟨Lc, hQ, l1, l2, l3⟩, st⟩ := X.specialBack hx (y := y) hy1 hown (mvT hZ w1) (mvT hZ w2) (mvT hZ w4) hy (backOf (W := W) hM hZ w4 w3 hf hl) hg hsize (Steps.refl _) hlen hs hW hd (fun _ _ => ⟨rfl, eT, hc, hsl⟩)
  dsimp only [Pt.U, Pt.locs, Pt.cells, Pt.slots] at X' l1 l2 l3 st hQ
  subst l1 l2 l3
  exact Go.via _ st (k _ _ _ X' hQ)
theorem Go.virt (X : Stand p l e R s m args below meth c T locs cells slots) (hx : p.tables.exec = Jvm.exec) (hZ : Z.Warmed39 s.vm) {own C : String} {z : MethodName} {index W : Nat} {a : Addr} {argsL rest : List Value} (hown : s.vm.findClass own = some m.cls)
    (w1 : (Cond.methodLink own index z).before a0 Z = true) (w2 : (Cond.declares z).before a0 Z = true) (nf : NotFace s z) (w5 : (Cond.selects C z y).before a0 Z = true) (w6 : (Cond.instanceMethod y).before a0 Z = true) (w3 : (Cond.initialized y.cls).before a0 Z = true) (w4 : (Cond.code y bytes maxL ret).before a0 Z = true)
    (hy : z.cls ≠ "java/lang/invoke/MethodHandle" ∧ z.cls ≠ "java/lang/invoke/VarHandle") (eT : T.heap = h) (E : Exa Z h a C) (hM : Met l Z y bytes maxL ret [] rm (.ref a :: argsL).toArray h Q)
    (hg : g.method = m) (hsize : g.locals.size = c.maxLocals) (hlen : ∀ sig, parseMethodDescriptor z.desc = some sig → argsL.length = sig.parameters.length) (hs : g.stack = argsL.reverse ++ .ref a :: rest)
    (hW : 2 * g.monitorRoom + (rest.map fun v => v.category).sum ≤ W) (hd : decode c.code g.pc = .ok (.invokevirtual index, 3)) (hf : rm.frames + 1 ≤ R.frames) (hl : W + (maxL + 11) + rm.locals ≤ R.locals) (hc : cells + rm.cells ≤ R.cells) (hsl : slots + rm.slots ≤ R.slots)
    (k : ∀ T' L v, Stand p l e R s m args below meth c T' (locs ++ L) (cells + rm.cells) (slots + rm.slots) → Q v T'.heap L → Go p e below P T' { g with pc := g.pc + 3, stack := v.toList ++ rest }) : Go p e below P T g := by
  obtain ⟨cq, kq, qa, qb, qc⟩ := isOf hZ eT E
  obtain ⟨v, _, ⟨U, L, q1, q2⟩, -, X', ⟨Lc, hQ, l1, l2, l3⟩, st⟩ := X.virtualBack hx (y := z) (z := y) hown (mvT hZ w1) (mvT hZ w2) nf (mvT hZ w5) (mvT hZ w6) hy (backOf (W := W) hM hZ w4 w3 hf hl) qa qc hg hsize (Steps.refl _) hlen hs hW hd (fun _ _ => ⟨rfl, eT, hc, hsl⟩)
  dsimp only [Pt.U, Pt.locs, Pt.cells, Pt.slots] at X' l1 l2 l3 st hQ
  subst l1 l2 l3
  exact Go.via _ st (k _ _ _ X' hQ)
theorem Go.priv (X : Stand p l e R s m args below meth c T locs cells slots) (hx : p.tables.exec = Jvm.exec) (hZ : Z.Warmed39 s.vm) {own C : String} {index W : Nat} {a : Addr} {argsL rest : List Value} (hown : s.vm.findClass own = some m.cls)
    (w1 : (Cond.methodLink own index y).before a0 Z = true) (w6 : (Cond.instanceMethod y).before a0 Z = true) (w5 : (Cond.selects y.cls y y).before a0 Z = true) (w7 : (Cond.privateMethod y).before a0 Z = true) (w3 : (Cond.initialized y.cls).before a0 Z = true) (w4 : (Cond.code y bytes maxL ret).before a0 Z = true)
    (hy : y.cls ≠ "java/lang/invoke/MethodHandle" ∧ y.cls ≠ "java/lang/invoke/VarHandle") (eT : T.heap = h) (E : Exa Z h a C) (hM : Met l Z y bytes maxL ret [] rm (.ref a :: argsL).toArray h Q)
    (hg : g.method = m) (hsize : g.locals.size = c.maxLocals) (hlen : ∀ sig, parseMethodDescriptor y.desc = some sig → argsL.length = sig.parameters.length) (hs : g.stack = argsL.reverse ++ .ref a :: rest)
    (hW : 2 * g.monitorRoom + (rest.map fun v => v.category).sum ≤ W) (hd : decode c.code g.pc = .ok (.invokevirtual index, 3)) (hf : rm.frames + 1 ≤ R.frames) (hl : W + (maxL + 11) + rm.locals ≤ R.locals) (hc : cells + rm.cells ≤ R.cells) (hsl : slots + rm.slots ≤ R.slots)
    (k : ∀ T' L v, Stand p l e R s m args below meth c T' (locs ++ L) (cells + rm.cells) (slots + rm.slots) → Q v T'.heap L → Go p e below P T' { g with pc := g.pc + 3, stack := v.toList ++ rest }) : Go p e below P T g := by
  obtain ⟨cq, q, q'⟩ := E.cell
  obtain ⟨v, _, ⟨U, L, q1, q2⟩, -, X', ⟨Lc, hQ, l1, l2, l3⟩, st⟩ := X.privateBack hx (y := y) hown (mvT hZ w1) (mvT hZ w6) (mvT hZ w5) (Cond.privateMethod_at (mvP hZ w7 (args := #[]))) (mvT hZ w4) hy (backOf (W := W) hM hZ w4 w3 hf hl) hg hsize (Steps.refl _) (a := a) (by rw [eT]; exact q) q' hlen hs hW hd (fun _ _ => ⟨rfl, eT, hc, hsl⟩)
  dsimp only [Pt.U, Pt.locs, Pt.cells, Pt.slots] at X' l1 l2 l3 st hQ
  subst l1 l2 l3
  exact Go.via _ st (k _ _ _ X' hQ)
/-! arrays by a function of the place -/
def fnup {α : Type} (y : Int32 → α) (j : Int32) (v : α) : Int32 → α := fun i => if i = j then v else y i
theorem fnup_same {α : Type} (y : Int32 → α) (j : Int32) (v : α) : fnup y j v j = v := if_pos rfl
theorem fnup_ne {α : Type} {y : Int32 → α} {i j : Int32} {v : α} (h : ¬ i = j) : fnup y j v i = y i := if_neg h
def Fa (Z : State) (h : Heap) (a : Addr) (ty : FieldType) (n : Int32) (y : Int32 → Value) : Prop :=
  ∃ c : Cell, Arr Z h a c ty ∧ c.slots.size = n.toNatClampNeg ∧ ¬ n < 0 ∧ ∀ j : Int32, ¬ j < 0 → j < n → c.slots[j.toNatClampNeg]? = some (y j) ∧ fits ty (y j) = true
variable {a b : Addr} {ty : FieldType} {n : Int32} {yv : Int32 → Value} {h' : Heap} {j : Int32} {v : Value} {sl : Nat} {hws : List Addr}
theorem Fa.lt (F : Fa Z h a ty n yv) : a < h.size := by obtain ⟨c, A, -⟩ := F; exact A.lt
theorem Fa.ext (F : Fa Z h a ty n yv) (E : Ext h h') : Fa Z h' a ty n yv := by obtain ⟨c, A, r⟩ := F; exact ⟨c, A.ext E, r⟩
theorem Fa.other (F : Fa Z h b ty n yv) (W : Wr h h' a sl v) (q : b ≠ a) : Fa Z h' b ty n yv := by obtain ⟨c, A, r⟩ := F; exact ⟨c, A.other W q, r⟩
theorem Fa.keep (F : Fa Z h a ty n yv) (K : Keep h h' hws) (q : a ∉ hws) : Fa Z h' a ty n yv := by obtain ⟨c, A, r⟩ := F; exact ⟨c, ⟨K.2.1 a c A.1 q, A.2⟩, r⟩
theorem Fa.new {k : ClassId} (A : Arr Z h a (newA k ty n) ty) (q : ¬ n < 0) : Fa Z h a ty n (fun _ => defaultValue ty) :=
  ⟨_, A, sz_new _ _ _, q, fun i h0 h1 => ⟨get_new (by have := inb_of (c := newA k ty n) (sz_new k ty n) ⟨h0, h1⟩; rwa [sz_new] at this), by cases ty <;> rfl⟩⟩
theorem Fa.set (F : Fa Z h a ty n yv) (W : Wr h h' a j.toNatClampNeg v) (hj : ¬ j < 0) (hv : fits ty v = true) : Fa Z h' a ty n (fnup yv j v) := by
  obtain ⟨c, A, S, M, H⟩ := F
  refine ⟨c.setSlot j.toNatClampNeg v, A.same W, by rw [sz_set]; exact S, M, fun i h0 h1 => ?_⟩
  by_cases e : i = j
  · subst e; rw [fnup_same]; exact ⟨get_hit (inb_of S ⟨h0, h1⟩) rfl, hv⟩
  · rw [fnup_ne e, get_miss hj h0 e]; exact H i h0 h1
theorem Fa.congr {yw : Int32 → Value} (F : Fa Z h a ty n yv) (q : ∀ j, ¬ j < 0 → j < n → yw j = yv j) : Fa Z h a ty n yw := by
  obtain ⟨c, A, S, M, H⟩ := F
  exact ⟨c, A, S, M, fun j h0 h1 => by rw [q j h0 h1]; exact H j h0 h1⟩
theorem Fa.pos (F : Fa Z h a ty n yv) : ¬ n < 0 := by obtain ⟨c, A, S, M, H⟩ := F; exact M
theorem Fa.ofArv {k : ClassId} {vs : List Value} {dv : Value} (F : Arv Z h a k ty n vs dv) : Fa Z h a ty n (fun j => vs.getD j.toNatClampNeg dv) := by
  obtain ⟨c, A, q1, S, M, H, G⟩ := F
  exact ⟨c, A, S, M, fun j h0 h1 => by
    have q : j.toNatClampNeg < c.slots.size := Nat.lt_of_not_le fun z => inb_of S ⟨h0, h1⟩ (Or.inr z)
    exact ⟨H _ q, G _ q⟩⟩
theorem fnup_int (y : Int32 → Int32) (j x : Int32) : fnup (fun i => Value.int (y i)) j (.int x) = fun i => Value.int (fnup y j x i) := by funext i; unfold fnup; split <;> rfl
variable {rest : List Value}
theorem Go.arraylength (X : Stand p l e R s m args below meth c T locs cells slots) (hx : p.tables.exec = Jvm.exec) (hZ : Z.Warmed39 s.vm) (eT : T.heap = h) (F : Fa Z h a ty n yv) (hg : g.method = m) (hs : g.stack = .ref a :: rest) (hd : decode c.code g.pc = .ok (.arraylength, 1))
    (k : Go p e below P T { g with pc := g.pc + 1, stack := .int n :: rest }) : Go p e below P T g := by
  obtain ⟨cl, A, S, M, H⟩ := F
  refine Go.of _ (fun t k => X.arraylength hx (by rw [eT]; exact A.1) (State.isArrayOf_alike hZ.alike A.2.1) hg hs hd _ k) ?_
  rw [len_of S M]; exact k
theorem Go.iaload (X : Stand p l e R s m args below meth c T locs cells slots) (hx : p.tables.exec = Jvm.exec) (hZ : Z.Warmed39 s.vm) (eT : T.heap = h) {y : Int32 → Int32} (F : Fa Z h a .int n (fun i => .int (y i))) (h0 : ¬ j < 0) (h1 : j < n) (hg : g.method = m) (hs : g.stack = .int j :: .ref a :: rest) (hd : decode c.code g.pc = .ok (.iaload, 1))
    (k : Go p e below P T { g with pc := g.pc + 1, stack := .int (y j) :: rest }) : Go p e below P T g := by
  obtain ⟨cl, A, S, M, H⟩ := F
  exact Go.of _ (fun t k => X.iaload hx (by rw [eT]; exact A.1) (State.isArrayOf_alike hZ.alike A.2.1) A.2.2 (inb_of S ⟨h0, h1⟩) (H j h0 h1).1 hg hs hd _ k) k
theorem Go.baload (X : Stand p l e R s m args below meth c T locs cells slots) (hx : p.tables.exec = Jvm.exec) (hZ : Z.Warmed39 s.vm) (eT : T.heap = h) {y : Int32 → Int32} (F : Fa Z h a .byte n (fun i => .int (y i))) (h0 : ¬ j < 0) (h1 : j < n) (hg : g.method = m) (hs : g.stack = .int j :: .ref a :: rest) (hd : decode c.code g.pc = .ok (.baload, 1))
    (k : Go p e below P T { g with pc := g.pc + 1, stack := .int (y j) :: rest }) : Go p e below P T g := by
  obtain ⟨cl, A, S, M, H⟩ := F
  exact Go.of _ (fun t k => X.baloadBytes hx (by rw [eT]; exact A.1) (State.isArrayOf_alike hZ.alike A.2.1) A.2.2 (inb_of S ⟨h0, h1⟩) (H j h0 h1).1 hg hs hd _ k) k
theorem Go.zaload (X : Stand p l e R s m args below meth c T locs cells slots) (hx : p.tables.exec = Jvm.exec) (hZ : Z.Warmed39 s.vm) (eT : T.heap = h) {y : Int32 → Int32} (F : Fa Z h a .boolean n (fun i => .int (y i))) (h0 : ¬ j < 0) (h1 : j < n) (hg : g.method = m) (hs : g.stack = .int j :: .ref a :: rest) (hd : decode c.code g.pc = .ok (.baload, 1))
    (k : Go p e below P T { g with pc := g.pc + 1, stack := .int (y j) :: rest }) : Go p e below P T g := by
  obtain ⟨cl, A, S, M, H⟩ := F
  exact Go.of _ (fun t k => X.baloadBooleans hx (by rw [eT]; exact A.1) (State.isArrayOf_alike hZ.alike A.2.1) A.2.2 (inb_of S ⟨h0, h1⟩) (H j h0 h1).1 hg hs hd _ k) k
theorem Go.aaload (X : Stand p l e R s m args below meth c T locs cells slots) (hx : p.tables.exec = Jvm.exec) (hZ : Z.Warmed39 s.vm) (eT : T.heap = h) (F : Fa Z h a ty n yv) (hty : ty.isReference = true) (h0 : ¬ j < 0) (h1 : j < n) (hg : g.method = m) (hs : g.stack = .int j :: .ref a :: rest) (hd : decode c.code g.pc = .ok (.aaload, 1))
    (k : Go p e below P T { g with pc := g.pc + 1, stack := yv j :: rest }) : Go p e below P T g := by
  obtain ⟨cl, A, S, M, H⟩ := F
  exact Go.of _ (fun t k => X.aaload hx (by rw [eT]; exact A.1) (State.isArrayOf_alike hZ.alike A.2.1) hty A.2.2 (inb_of S ⟨h0, h1⟩) (H j h0 h1).1 hg hs hd _ k) k
theorem Go.iastore (X : Stand p l e R s m args below meth c T locs cells slots) (hx : p.tables.exec = Jvm.exec) (hZ : Z.Warmed39 s.vm) (eT : T.heap = h) {y : Int32 → Int32} {x : Int32} (F : Fa Z h a .int n (fun i => .int (y i))) (h0 : ¬ j < 0) (h1 : j < n) (hg : g.method = m) (hs : g.stack = .int x :: .int j :: .ref a :: rest) (hd : decode c.code g.pc = .ok (.iastore, 1))
    (k : ∀ T' h', Stand p l e R s m args below meth c T' (locs ++ [⟨a, j.toNatClampNeg⟩]) cells slots → T'.heap = h' → Wr h h' a j.toNatClampNeg (.int x) → Fa Z h' a .int n (fun i => .int (fnup y j x i)) → Go p e below P T' { g with pc := g.pc + 1, stack := rest }) : Go p e below P T g := by
  obtain ⟨cl, A, S, M, H⟩ := id F
  obtain ⟨T', h', X', e', W, st⟩ := stI X hx hZ eT A (inb_of S ⟨h0, h1⟩) hg hs hd
  exact Go.of _ st (k _ _ X' e' W (by have := F.set W h0 rfl; rwa [fnup_int] at this))
theorem Go.bastore (X : Stand p l e R s m args below meth c T locs cells slots) (hx : p.tables.exec = Jvm.exec) (hZ : Z.Warmed39 s.vm) (eT : T.heap = h) {y : Int32 → Int32} {x : Int32} (F : Fa Z h a .byte n (fun i => .int (y i))) (h0 : ¬ j < 0) (h1 : j < n) (hg : g.method = m) (hs : g.stack = .int x :: .int j :: .ref a :: rest) (hd : decode c.code g.pc = .ok (.bastore, 1))
    (k : ∀ T' h', Stand p l e R s m args below meth c T' (locs ++ [⟨a, j.toNatClampNeg⟩]) cells slots → T'.heap = h' → Wr h h' a j.toNatClampNeg (.int (nar .byte x)) → Fa Z h' a .byte n (fun i => .int (fnup y j (nar .byte x) i)) → Go p e below P T' { g with pc := g.pc + 1, stack := rest }) : Go p e below P T g := by
  obtain ⟨cl, A, S, M, H⟩ := id F
  obtain ⟨T', h', X', e', W, st⟩ := stB X hx hZ eT A (inb_of S ⟨h0, h1⟩) hg hs hd
  exact Go.of _ st (k _ _ X' e' W (by have := F.set W h0 (fits_nar_byte _); rwa [fnup_int] at this))
theorem Go.zastore (X : Stand p l e R s m args below meth c T locs cells slots) (hx : p.tables.exec = Jvm.exec) (hZ : Z.Warmed39 s.vm) (eT : T.heap = h) {y : Int32 → Int32} {x : Int32} (F : Fa Z h a .boolean n (fun i => .int (y i))) (h0 : ¬ j < 0) (h1 : j < n) (hg : g.method = m) (hs : g.stack = .int x :: .int j :: .ref a :: rest) (hd : decode c.code g.pc = .ok (.bastore, 1))
    (k : ∀ T' h', Stand p l e R s m args below meth c T' (locs ++ [⟨a, j.toNatClampNeg⟩]) cells slots → T'.heap = h' → Wr h h' a j.toNatClampNeg (.int (nar .boolean x)) → Fa Z h' a .boolean n (fun i => .int (fnup y j (nar .boolean x) i)) → Go p e below P T' { g with pc := g.pc + 1, stack := rest }) : Go p e below P T g := by
  obtain ⟨cl, A, S, M, H⟩ := id F
  obtain ⟨T', h', X', e', W, st⟩ := stZ X hx hZ eT A (inb_of S ⟨h0, h1⟩) hg hs hd
  exact Go.of _ st (k _ _ X' e' W (by have := F.set W h0 (fits_nar_bool _); rwa [fnup_int] at this))
theorem Go.aastore (X : Stand p l e R s m args below meth c T locs cells slots) (hx : p.tables.exec = Jvm.exec) (hZ : Z.Warmed39 s.vm) (eT : T.heap = h) (F : Fa Z h a ty n yv) (hty : ty.isReference = true) (hf : fits ty v = true) (O : Sto Z h a v) (h0 : ¬ j < 0) (h1 : j < n) (hg : g.method = m) (hs : g.stack = v :: .int j :: .ref a :: rest) (hd : decode c.code g.pc = .ok (.aastore, 1))
    (k : ∀ T' h', Stand p l e R s m args below meth c T' (locs ++ [⟨a, j.toNatClampNeg⟩]) cells slots → T'.heap = h' → Wr h h' a j.toNatClampNeg v → Fa Z h' a ty n (fnup yv j v) → Go p e below P T' { g with pc := g.pc + 1, stack := rest }) : Go p e below P T g := by
  obtain ⟨cl, A, S, M, H⟩ := id F
  obtain ⟨T', h', X', e', W, st⟩ := stR X hx hZ eT A (inb_of S ⟨h0, h1⟩) hty O hg hs hd
  exact Go.of _ st (k _ _ X' e' W (F.set W h0 hf))
def Uty (Z : State) (h : Heap) (a : Addr) (C : String) : Prop := ∃ c : Cell, h[a]? = some c ∧ Ovr Z c.cls C
theorem Uty.ext {C : String} (F : Uty Z h a C) (E : Ext h h') : Uty Z h' a C := by obtain ⟨c, A, r⟩ := F; exact ⟨c, E.2 _ _ A, r⟩
theorem Uty.wr {C : String} (F : Uty Z h b C) (W : Wr h h' a sl v) : Uty Z h' b C := by
  obtain ⟨c, A, r⟩ := F
  obtain ⟨c', e1, e2, -⟩ := wr_at W A
  exact ⟨c', e1, by rw [e2]; exact r⟩
theorem Uty.keep {C : String} (F : Uty Z h a C) (K : Keep h h' hws) : Uty Z h' a C := by
  obtain ⟨c, A, r⟩ := F
  obtain ⟨c', e1, e2, -⟩ := K.2.2 _ _ A
  exact ⟨c', e1, by rw [e2]; exact r⟩
theorem Fa.sto {C : String} (F : Fa Z h a ty n yv) (U : Uty Z h a C) (I : Ins Z h b C true) : Sto Z h a (.ref b) := by
  obtain ⟨c, A, -⟩ := F
  obtain ⟨c', A', O⟩ := U
  cases A.1.symm.trans A'
  exact Sto.of A O I
theorem nat_back {i : Nat} (hi : i < 2 ^ 31) : i.toInt32.toNatClampNeg = i ∧ ¬ i.toInt32 < 0 := by
  have e : i.toInt32.toInt = i := len_toInt hi
  refine ⟨?_, ?_⟩
  · show i.toInt32.toInt.toNat = i
    rw [e]; rfl
  · rw [Int32.lt_iff_toInt_lt, e]
    have z : (0 : Int32).toInt = 0 := by decide
    omega
theorem lt_of_nat {i : Nat} {z : Int32} (hz : ¬ z < 0) (hi : i < z.toNatClampNeg) : i.toInt32 < z ∧ i < 2 ^ 31 := by
  have q := nat_of hz
  have b := rng32 z
  have hb : i < 2 ^ 31 := by omega
  refine ⟨?_, hb⟩
  rw [Int32.lt_iff_toInt_lt, len_toInt hb]
  omega
theorem Fa.fitC {cl : Cell} (A : Arr Z h a cl ty) (S : cl.slots.size = n.toNatClampNeg) (M : ¬ n < 0) (H : ∀ j : Int32, ¬ j < 0 → j < n → cl.slots[j.toNatClampNeg]? = some (yv j) ∧ fits ty (yv j) = true) : FitC Z cl :=
  fitC_of A fun i hi w hw => by
    have q := lt_of_nat M (S ▸ hi)
    have r := nat_back q.2
    have u := H i.toInt32 r.2 q.1
    rw [r.1] at u
    cases hw.symm.trans u.1
    exact u.2
theorem Go.clone (X : Stand p l e R s m args below meth c T locs cells slots) (hx : p.tables.exec = Jvm.exec) (hZ : Z.Warmed39 s.vm) {own ad : String} {index : Nat} (hown : s.vm.findClass own = some m.cls)
    (w1 : (Cond.methodLink own index ⟨ad, "clone", "()Ljava/lang/Object;"⟩).before a0 Z = true) (w2 : (Cond.sameMethod ad "java/lang/Object" "clone" "()Ljava/lang/Object;").before a0 Z = true) (w3 : (Cond.native ⟨"java/lang/Object", "clone", "()Ljava/lang/Object;"⟩).before a0 Z = true)
    (w4 : (Cond.instanceMethod ⟨"java/lang/Object", "clone", "()Ljava/lang/Object;"⟩).before a0 Z = true) (w5 : (Cond.selects ad ⟨ad, "clone", "()Ljava/lang/Object;"⟩ ⟨"java/lang/Object", "clone", "()Ljava/lang/Object;"⟩).before a0 Z = true) (w6 : (Cond.castable ad "java/lang/Cloneable").before a0 Z = true)
    (eT : T.heap = h) (F : Fa Z h a ty n yv) (E : Exa Z h a ad) (hg : g.method = m) (hsize : g.locals.size = c.maxLocals) (hs : g.stack = .ref a :: rest) (hd : decode c.code g.pc = .ok (.invokevirtual index, 3))
    (hf : 1 ≤ R.frames) {W cap : Nat} (hW : 2 * g.monitorRoom + (rest.map fun v => v.category).sum ≤ W) (hl : W + 14 ≤ R.locals) (hcap : n.toNatClampNeg ≤ cap) (hc : cells + 1 ≤ R.cells) (hsl : slots + cap ≤ R.slots)
    (k : ∀ T' h' b, b = h.size → Stand p l e R s m args below meth c T' locs (cells + 1) (slots + cap) → T'.heap = h' → Ext h h' → Fa Z h' b ty n yv → Exa Z h' b ad → Go p e below P T' { g with pc := g.pc + 3, stack := .ref b :: rest }) : Go p e below P T g := by
  obtain ⟨cl, A, S, M, H⟩ := id F
  obtain ⟨T', h', X', e', ex, A', E', st⟩ := cloneA X hx hZ hown w1 w2 w3 w4 w5 w6 eT A E (Fa.fitC A S M H) hg hsize hs hd hf hW hl (by rw [S]; exact hcap) hc hsl
  exact Go.of _ st (k _ _ _ rfl X' e' ex ⟨cloneOf cl, A', S, M, H⟩ E')
theorem Sta.keep {C nn d : String} (F : Sta Z h C nn d v) (K : Keep h h' hws) (q : ∀ x ∈ hws, ∀ c : Cell, h[x]? = some c → c.vm.isStatics = false) : Sta Z h' C nn d v := by
  obtain ⟨cf, i, k, f, st, cell, h1, h2, h3, h4, h5, h6, h7⟩ := F
  refine ⟨cf, i, k, f, st, cell, h1, h2, h3, h4, K.2.1 _ _ h5 fun z => ?_, h6, h7⟩
  rw [q _ z _ h5] at h6; cases h6
abbrev BPre (R : Room) (as' : Array Value) (h : Heap) (kc ks : Nat) : Pt → Array Value → Prop := fun P a => a = as' ∧ P.U.heap = h ∧ P.cells + kc ≤ R.cells ∧ P.slots + ks ≤ R.slots
abbrev BPost (Q : Option Value → Heap → List Loc → Prop) (kc ks : Nat) : Pt → Array Value → Option Value → Pt → Prop := fun P _ v B => ∃ L, Q v B.U.heap L ∧ B.locs = P.locs ++ L ∧ B.cells = P.cells + kc ∧ B.slots = P.slots + ks
theorem Fa.toArv {vs : List Value} {dv : Value} (F : Fa Z h a ty n yv) (q : ∀ i : Nat, i < n.toNatClampNeg → vs.getD i dv = yv i.toInt32) : ∃ k, Arv Z h a k ty n vs dv := by
  obtain ⟨cl, A, S, M, H⟩ := F
  refine ⟨cl.cls, cl, A, rfl, S, M, fun i hi => ?_, fun i hi => ?_⟩
  · rw [S] at hi
    have b := lt_of_nat M hi
    have r := nat_back b.2
    have u := (H _ r.2 b.1).1
    rw [r.1] at u; rw [q i hi]; exact u
  · rw [S] at hi
    have b := lt_of_nat M hi
    have r := nat_back b.2
    rw [q i hi]; exact (H _ r.2 b.1).2
def UtA (Z : State) (h : Heap) (a : Addr) (ty : FieldType) (C : String) : Prop := ∃ c : Cell, h[a]? = some c ∧ OvrA Z c.cls ty C
theorem UtA.ext {C : String} (F : UtA Z h a ty C) (E : Ext h h') : UtA Z h' a ty C := by obtain ⟨c, A, r⟩ := F; exact ⟨c, E.2 _ _ A, r⟩
theorem UtA.wr {C : String} (F : UtA Z h b ty C) (W : Wr h h' a sl v) : UtA Z h' b ty C := by
  obtain ⟨c, A, r⟩ := F
  obtain ⟨c', e1, e2, -⟩ := wr_at W A
  exact ⟨c', e1, by rw [e2]; exact r⟩
theorem UtA.keep {C : String} (F : UtA Z h a ty C) (K : Keep h h' hws) : UtA Z h' a ty C := by
  obtain ⟨c, A, r⟩ := F
  obtain ⟨c', e1, e2, -⟩ := K.2.2 _ _ A
  exact ⟨c', e1, by rw [e2]; exact r⟩
theorem Go.face (X : Stand p l e R s m args below meth c T locs cells slots) (hx : p.tables.exec = Jvm.exec) (hZ : Z.Warmed39 s.vm) {own C : String} {z : MethodName} {index count W : Nat} {a : Addr} {argsL rest : List Value} (hown : s.vm.findClass own = some m.cls)
    (w1 : (Cond.methodLink own index z).before a0 Z = true) (w2 : (Cond.declares z).before a0 Z = true) (w7 : (Cond.interfaceMethod z.cls z.cls z.name z.desc).before args s = true) (w5 : (Cond.selects C z y).before a0 Z = true) (w6 : (Cond.instanceMethod y).before a0 Z = true)
    (w8 : (Cond.publicMethod y).before a0 Z = true) (w9 : (Cond.unhidden C z.name z.desc).before a0 Z = true) (w10 : (Cond.castable C z.cls).before a0 Z = true) (w3 : (Cond.initialized y.cls).before a0 Z = true) (w4 : (Cond.code y bytes maxL ret).before a0 Z = true)
    (hy : z.cls ≠ "java/lang/invoke/MethodHandle" ∧ z.cls ≠ "java/lang/invoke/VarHandle") (eT : T.heap = h) (E : Exa Z h a C) (hM : Met l Z y bytes maxL ret [] rm (.ref a :: argsL).toArray h Q)
    (hg : g.method = m) (hsize : g.locals.size = c.maxLocals) (hlen : ∀ sig, parseMethodDescriptor z.desc = some sig → argsL.length = sig.parameters.length) (hs : g.stack = argsL.reverse ++ .ref a :: rest)
    (hW : 2 * g.monitorRoom + (rest.map fun v => v.category).sum ≤ W) (hd : decode c.code g.pc = .ok (.invokeinterface index count, 5)) (hf : rm.frames + 1 ≤ R.frames) (hl : W + (maxL + 11) + rm.locals ≤ R.locals) (hc : cells + rm.cells ≤ R.cells) (hsl : slots + rm.slots ≤ R.slots)
    (k : ∀ T' L v, Stand p l e R s m args below meth c T' (locs ++ L) (cells + rm.cells) (slots + rm.slots) → Q v T'.heap L → Go p e below P T' { g with pc := g.pc + 5, stack := v.toList ++ rest }) : Go p e below P T g := by
  obtain ⟨cq, kq, qa, qb, qc⟩ := isOf hZ eT E
  obtain ⟨v, _, ⟨U, L, q1, q2⟩, -, X', ⟨Lc, hQ, l1, l2, l3⟩, st⟩ := X.interfaceBack hx (xi := z) (y := y) hown (mvT hZ w1) (mvT hZ w2) w7 (mvT hZ w5) (mvT hZ w6) (mvT hZ w8) (mvT hZ w9) (mvT hZ w10) hy (backOf (W := W) hM hZ w4 w3 hf hl) qa qb qc hg hsize (Steps.refl _) hlen hs hW hd (fun _ _ => ⟨rfl, eT, hc, hsl⟩)
  dsimp only [Pt.U, Pt.locs, Pt.cells, Pt.slots] at X' l1 l2 l3 st hQ
  subst l1 l2 l3
  exact Go.via _ st (k _ _ _ X' hQ)
theorem nat_of_pos {j : Int32} (q : ¬ j < 0) : j.toNatClampNeg.toInt32 = j := by
  have e := nat_of q
  have b := rng32 j
  exact Int32.toInt_inj.mp (by rw [len_toInt (by omega)]; omega)
theorem Go.copy0 (X : Stand p l e R s m args below meth c T locs cells slots) (hx : p.tables.exec = Jvm.exec) (hZ : Z.Warmed39 s.vm) {own : String} {index : Nat} {a : Addr} (hown : s.vm.findClass own = some m.cls)
    (w1 : (Cond.methodLink own index Jvm.Stand.acN).before a0 Z = true) (w2 : (Cond.native Jvm.Stand.acN).before a0 Z = true) (w3 : (Cond.static Jvm.Stand.acN).before a0 Z = true) (w4 : (Cond.initialized "java/lang/System").before a0 Z = true) (eT : T.heap = h)
    {ty : FieldType} {n sp dp : Int32} {yv : Int32 → Value} (F : Fa Z h a ty n yv) (hty : refKind ty = false) (h1 : ¬ sp < 0) (h2 : ¬ dp < 0) (h4 : sp.toNatClampNeg ≤ n.toNatClampNeg) (h5 : dp.toNatClampNeg ≤ n.toNatClampNeg)
    {n0 : Nat} (N : Fr n0 locs) (ge : n0 ≤ a) (hg : g.method = m) (hsize : g.locals.size = c.maxLocals) {rest : List Value} (hs : g.stack = .int (0 : Int32) :: .int dp :: .ref a :: .int sp :: .ref a :: rest) (hd : decode c.code g.pc = .ok (.invokestatic index, 3))
    (hf : 1 ≤ R.frames) {W : Nat} (hW : 2 * g.monitorRoom + (rest.map fun v => v.category).sum ≤ W) (hlo : W + (nativeFrameWords "java/lang/System" "arraycopy" 5 + 11) ≤ R.locals)
    (k : ∀ T' h' L, Stand p l e R s m args below meth c T' L cells slots → T'.heap = h' → Fr n0 L → Keep h h' [a] → Fa Z h' a ty n yv → Go p e below P T' { g with pc := g.pc + 3, stack := rest }) : Go p e below P T g := by
  obtain ⟨kc, A⟩ := F.toArv (vs := (List.range n.toNatClampNeg).map fun i => yv i.toInt32) (dv := .null) (fun i hi => by simp [List.getD_eq_getElem?_getD, List.getElem?_range hi])
  have z0 : (0 : Int32).toNatClampNeg = 0 := rfl
  obtain ⟨T', h', L, X', e', N', K', A', st⟩ := cpA X hx hZ hown w1 w2 w3 w4 eT (us := []) A A (Or.inl ⟨rfl, hty⟩) h1 h2 (by decide) (by rw [z0]; exact h4) (by rw [z0]; exact h5) (by rw [z0]; rfl) (by rw [z0]; simpa using h5) N ge hg hsize hs hd hf hW hlo
  refine Go.of _ st (k _ _ _ X' e' N' K' ?_)
  refine (Fa.ofArv A').congr fun j q0 q1 => ?_
  have lj : j.toNatClampNeg < n.toNatClampNeg := by
    have e1 := nat_of q0
    have e2 := nat_of F.pos
    rw [Int32.lt_iff_toInt_lt] at q1
    omega
  rw [z0, Nat.add_zero, List.append_nil, List.take_append_drop, List.getD_eq_getElem?_getD, List.getElem?_map, List.getElem?_range lj]
  simp [nat_of_pos q0]
end Own
end Jvm.OwnGo
namespace Jvm.Pilot.@@N@@
open Jvm Jvm.ClassFile Sem Op Lib Jvm.Free Jvm.Stand Jvm.LawKit Jvm.RoadKit Bundle Jvm.OwnGo Jvm.Pilot.@@N@@.Jvm.D
def TW (Z : State) (a0 : Array Value) : Prop := ∀ d ∈ tables_1, d.before a0 Z = true
theorem tm {d : Jvm.Cond} {i : Nat} (h : tables_1[i]? = some d) : d ∈ tables_1 := List.mem_of_getElem? h

def own_max (a b : Int32) : Int32 := if a < b then b else a
def own_min (a b : Int32) : Int32 := if b < a then b else a
theorem own_rng {b u : Int32} (hb : b = 0 ∨ b = 1 ∨ b = 2) (hu : u = 0 ∨ u = 1 ∨ u = 2) : ¬ b * 3 + u < 0 ∧ b * 3 + u < 9 := by
  rcases hb with rfl | rfl | rfl <;> rcases hu with rfl | rfl | rfl <;> decide
def own_V (r : Nat) (z : Value) : Prop := z = .null ∨ z = .ref r
def own_R (f u v d : Int32) (r : Nat) : Value := if f < 2 ∧ d = v then .ref r else if f = 0 ∧ d = u then .ref r else .null
def own_I (f u v d : Int32) : Int32 := if f < 2 ∧ d = v then 1 else 0
theorem own_RV (f u v d : Int32) (r : Nat) : own_V r (own_R f u v d r) := by
  unfold own_R own_V
  split
  · right; rfl
  · split
    · right; rfl
    · left; rfl
theorem own_isR {r : Nat} {z : Value} (h : own_V r z) : z.isRef = true := by rcases h with rfl | rfl <;> rfl

def own_D (k : Int32) (yc yki ymv : Int32 → Int32) (ykr : Int32 → Value) (r1 r2 q1 q2 : Value) (i1 i2 j1 j2 : Int32) : Prop :=
  (k = 0 ∧ ymv 1 = 0 ∧ ymv 2 = 0 ∧ r1 = q1 ∧ r2 = q2 ∧ i1 = j1 ∧ i2 = j2) ∨
  (k = 1 ∧ ymv 1 = 1 ∧ ymv 2 = 0 ∧ yc 0 = 1 ∧ ykr 0 = q1 ∧ yki 0 = j1 ∧ r2 = q2 ∧ i2 = j2) ∨
  (k = 1 ∧ ymv 1 = 0 ∧ ymv 2 = 1 ∧ yc 0 = 2 ∧ ykr 0 = q2 ∧ yki 0 = j2 ∧ r1 = q1 ∧ i1 = j1) ∨
  (k = 2 ∧ ymv 1 = 1 ∧ ymv 2 = 1 ∧ yc 0 = 1 ∧ yc 1 = 2 ∧ ykr 0 = q1 ∧ ykr 1 = q2 ∧ yki 0 = j1 ∧ yki 1 = j2) ∨
  (k = 2 ∧ ymv 1 = 1 ∧ ymv 2 = 1 ∧ yc 0 = 2 ∧ yc 1 = 1 ∧ ykr 0 = q2 ∧ ykr 1 = q1 ∧ yki 0 = j2 ∧ yki 1 = j1)
def own_St (Z : State) (h : Heap) (po cu kr ki rt ix mv ro : Nat) (r1 r2 q1 q2 : Value) (i1 i2 j1 j2 : Int32) : Prop :=
  ∃ (k : Int32) (yc yki yix ymv : Int32 → Int32) (ykr yrt : Int32 → Value), Exa Z h po "com/example/kiriman/kiriman/route/Positions" ∧ Fld Z h po "com/example/kiriman/kiriman/route/Positions" "movedCustomers" "[I" (.ref cu) ∧ Fld Z h po "com/example/kiriman/kiriman/route/Positions" "keptRoutes" "[Lcom/example/kiriman/kiriman/route/Route;" (.ref kr) ∧ Fld Z h po "com/example/kiriman/kiriman/route/Positions" "keptIndexes" "[I" (.ref ki) ∧ Fld Z h po "com/example/kiriman/kiriman/route/Positions" "routes" "[Lcom/example/kiriman/kiriman/route/Route;" (.ref rt) ∧ Fld Z h po "com/example/kiriman/kiriman/route/Positions" "indexes" "[I" (.ref ix) ∧ Fld Z h po "com/example/kiriman/kiriman/route/Positions" "moved" "[Z" (.ref mv) ∧ Fld Z h po "com/example/kiriman/kiriman/route/Positions" "movedCount" "I" (.int k) ∧ Fa Z h cu .int 64 (fun i => .int (yc i)) ∧ Fa Z h kr (.object "com/example/kiriman/kiriman/route/Route") 64 ykr ∧ Fa Z h ki .int 64 (fun i => .int (yki i)) ∧ Fa Z h rt (.object "com/example/kiriman/kiriman/route/Route") 3 yrt ∧ Fa Z h ix .int 3 (fun i => .int (yix i)) ∧ Fa Z h mv .boolean 3 (fun i => .int (ymv i)) ∧ Uty Z h kr "com/example/kiriman/kiriman/route/Route" ∧ Uty Z h rt "com/example/kiriman/kiriman/route/Route" ∧ Exa Z h ro "com/example/kiriman/kiriman/route/Route" ∧ yrt 1 = r1 ∧ yrt 2 = r2 ∧ yix 1 = i1 ∧ yix 2 = i2 ∧ own_D k yc yki ymv ykr r1 r2 q1 q2 i1 i2 j1 j2
theorem own_VI {r : Nat} {a b : Value} {c : Prop} [Decidable c] (ha : own_V r a) (hb : own_V r b) : own_V r (if c then a else b) := by split <;> assumption
theorem own_u (x : Int32) : 1 + (x &&& 1) = 1 ∨ 1 + (x &&& 1) = 2 := by rcases and_one x with h | h <;> rw [h] <;> decide
theorem own_f3 (x : Int32) : (x &&& 3) % 3 = 0 ∨ (x &&& 3) % 3 = 1 ∨ (x &&& 3) % 3 = 2 := by
  have e : (x &&& 3).toInt = x.toInt % (2 ^ 2 : Nat) := c_mask x 3 2 (by decide) (by decide)
  rcases (by omega : (x &&& 3).toInt = 0 ∨ (x &&& 3).toInt = 1 ∨ (x &&& 3).toInt = 2 ∨ (x &&& 3).toInt = 3) with h | h | h | h
  · have q : (x &&& 3) = 0 := Int32.toInt_inj.mp (h.trans (by decide)); rw [q]; decide
  · have q : (x &&& 3) = 1 := Int32.toInt_inj.mp (h.trans (by decide)); rw [q]; decide
  · have q : (x &&& 3) = 2 := Int32.toInt_inj.mp (h.trans (by decide)); rw [q]; decide
  · have q : (x &&& 3) = 3 := Int32.toInt_inj.mp (h.trans (by decide)); rw [q]; decide

theorem own_k3 {k : Int32} {yc yki ymv : Int32 → Int32} {ykr : Int32 → Value} {r1 r2 q1 q2 : Value} {i1 i2 j1 j2 : Int32} (hD : own_D k yc yki ymv ykr r1 r2 q1 q2 i1 i2 j1 j2) : k = 0 ∨ k = 1 ∨ k = 2 := by
  unfold own_D at hD; rcases hD with h | h | h | h | h <;> simp [h.1]
theorem own_k {k : Int32} {yc yki ymv : Int32 → Int32} {ykr : Int32 → Value} {r1 r2 q1 q2 : Value} {i1 i2 j1 j2 : Int32} (hD : own_D k yc yki ymv ykr r1 r2 q1 q2 i1 i2 j1 j2) : ¬ k < 0 ∧ k < 64 ∧ ¬ k = 64 := by
  rcases own_k3 hD with rfl | rfl | rfl <;> decide
theorem own_w {w : Int32} (h : w = 1 ∨ w = 2) : ¬ w < 0 ∧ w < 3 := by rcases h with rfl | rfl <;> decide
theorem own_vw {r : Nat} {w : Int32} {y : Int32 → Value} {r1 r2 : Value} (h : w = 1 ∨ w = 2) (h1 : y 1 = r1) (h2 : y 2 = r2) (v1 : own_V r r1) (v2 : own_V r r2) : own_V r (y w) := by
  rcases h with rfl | rfl
  · rw [h1]; exact v1
  · rw [h2]; exact v2
theorem own_fit {r : Nat} {z : Value} (h : own_V r z) : fits (.object "com/example/kiriman/kiriman/route/Route") z = true := by rcases h with rfl | rfl <;> rfl
theorem own_sto {Z : State} {h : Heap} {a r : Nat} {n : Int32} {y : Int32 → Value} {z : Value} (hv : own_V r z) (F : Fa Z h a (.object "com/example/kiriman/kiriman/route/Route") n y) (U : Uty Z h a "com/example/kiriman/kiriman/route/Route") (E : Exa Z h r "com/example/kiriman/kiriman/route/Route") : Sto Z h a z := by
  rcases hv with rfl | rfl
  · exact Or.inl rfl
  · exact Fa.sto F U (Ins.self E)
theorem own_up {α : Type} {y : Int32 → α} {d w : Int32} {z r : α} (h : y d = r) : fnup y w z d = if w = d then z else r := by
  unfold fnup
  by_cases e : w = d
  · subst e; simp
  · rw [if_neg (fun q => e q.symm), if_neg e, h]
theorem own_mvF {k : Int32} {yc yki ymv : Int32 → Int32} {ykr : Int32 → Value} {r1 r2 q1 q2 : Value} {i1 i2 j1 j2 : Int32} {yrt : Int32 → Value} {yix : Int32 → Int32} (hr1 : yrt 1 = r1) (hr2 : yrt 2 = r2) (hi1 : yix 1 = i1) (hi2 : yix 2 = i2) {w i : Int32} {z : Value} (hW : w = 1 ∨ w = 2) (hm : ymv w = 0) (hD : own_D k yc yki ymv ykr r1 r2 q1 q2 i1 i2 j1 j2) : own_D (k + 1) (fnup yc k w) (fnup yki k (yix w)) (fnup ymv w 1) (fnup ykr k (yrt w)) (if w = 1 then z else r1) (if w = 2 then z else r2) q1 q2 (if w = 1 then i else i1) (if w = 2 then i else i2) j1 j2 := by
  have n1 : (0 : Int32) + 1 = 1 := by decide
  have n2 : (1 : Int32) + 1 = 2 := by decide
  unfold own_D
  unfold own_D at hD; rcases hD with h | h | h | h | h <;> rcases hW with rfl | rfl <;> simp_all [fnup]
theorem own_mvA {k : Int32} {yc yki ymv : Int32 → Int32} {ykr : Int32 → Value} {r1 r2 q1 q2 : Value} {i1 i2 j1 j2 : Int32} {w i : Int32} {z : Value} (hW : w = 1 ∨ w = 2) (hm : ¬ ymv w = 0) (hD : own_D k yc yki ymv ykr r1 r2 q1 q2 i1 i2 j1 j2) : own_D k yc yki ymv ykr (if w = 1 then z else r1) (if w = 2 then z else r2) q1 q2 (if w = 1 then i else i1) (if w = 2 then i else i2) j1 j2 := by
  unfold own_D
  unfold own_D at hD; rcases hD with h | h | h | h | h <;> rcases hW with rfl | rfl <;> simp_all
theorem own_c0 {k : Int32} {yc yki ymv : Int32 → Int32} {ykr : Int32 → Value} {r1 r2 q1 q2 : Value} {i1 i2 j1 j2 : Int32} (hk : ¬ k = 0) (hD : own_D k yc yki ymv ykr r1 r2 q1 q2 i1 i2 j1 j2) : yc 0 = 1 ∨ yc 0 = 2 := by
  unfold own_D at hD; rcases hD with h | h | h | h | h <;> simp_all
theorem own_c1 {yc yki ymv : Int32 → Int32} {ykr : Int32 → Value} {r1 r2 q1 q2 : Value} {i1 i2 j1 j2 : Int32} (hD : own_D 2 yc yki ymv ykr r1 r2 q1 q2 i1 i2 j1 j2) : yc 1 = 1 ∨ yc 1 = 2 := by
  unfold own_D at hD; rcases hD with h | h | h | h | h <;> simp_all
theorem own_ke0 {yc yki ymv : Int32 → Int32} {ykr : Int32 → Value} {r1 r2 q1 q2 : Value} {i1 i2 j1 j2 : Int32} {yk : Int32 → Value} (hD : own_D 0 yc yki ymv ykr r1 r2 q1 q2 i1 i2 j1 j2) : own_D 0 yc yki ymv yk r1 r2 r1 r2 i1 i2 i1 i2 := by
  unfold own_D
  unfold own_D at hD; rcases hD with h | h | h | h | h <;> simp_all
theorem own_ke1 {yc yki ymv : Int32 → Int32} {ykr : Int32 → Value} {r1 r2 q1 q2 : Value} {i1 i2 j1 j2 : Int32} {yk : Int32 → Value} (hD : own_D 1 yc yki ymv ykr r1 r2 q1 q2 i1 i2 j1 j2) : own_D 0 yc yki (fnup ymv (yc 0) 0) yk r1 r2 r1 r2 i1 i2 i1 i2 := by
  unfold own_D
  unfold own_D at hD; rcases hD with h | h | h | h | h <;> simp_all [fnup]
theorem own_ke2 {yc yki ymv : Int32 → Int32} {ykr : Int32 → Value} {r1 r2 q1 q2 : Value} {i1 i2 j1 j2 : Int32} {yk : Int32 → Value} (hD : own_D 2 yc yki ymv ykr r1 r2 q1 q2 i1 i2 j1 j2) : own_D 0 yc yki (fnup (fnup ymv (yc 0) 0) (yc 1) 0) yk r1 r2 r1 r2 i1 i2 i1 i2 := by
  unfold own_D
  unfold own_D at hD; rcases hD with h | h | h | h | h <;> simp_all [fnup]
theorem own_v0 {k : Int32} {yc yki ymv : Int32 → Int32} {ykr : Int32 → Value} {r1 r2 q1 q2 : Value} {i1 i2 j1 j2 : Int32} {r : Nat} (hk : ¬ k = 0) (v1 : own_V r q1) (v2 : own_V r q2) (hD : own_D k yc yki ymv ykr r1 r2 q1 q2 i1 i2 j1 j2) : own_V r (ykr 0) := by
  unfold own_D at hD; rcases hD with h | h | h | h | h <;> simp_all
theorem own_v1 {yc yki ymv : Int32 → Int32} {ykr : Int32 → Value} {r1 r2 q1 q2 : Value} {i1 i2 j1 j2 : Int32} {r : Nat} (v1 : own_V r q1) (v2 : own_V r q2) (hD : own_D 2 yc yki ymv ykr r1 r2 q1 q2 i1 i2 j1 j2) : own_V r (ykr 1) := by
  unfold own_D at hD; rcases hD with h | h | h | h | h <;> simp_all
theorem own_un {k : Int32} {yc yki ymv : Int32 → Int32} {ykr : Int32 → Value} {r1 r2 q1 q2 : Value} {i1 i2 j1 j2 : Int32} (hD : own_D k yc yki ymv ykr r1 r2 q1 q2 i1 i2 j1 j2) : own_D k yc yki ymv ykr q1 q2 q1 q2 j1 j2 j1 j2 := by
  unfold own_D
  unfold own_D at hD; rcases hD with h | h | h | h | h <;> simp_all
theorem own_un0 {yc yki ymv : Int32 → Int32} {ykr : Int32 → Value} {r1 r2 q1 q2 : Value} {i1 i2 j1 j2 : Int32} {yrt : Int32 → Value} {yix : Int32 → Int32} (hr1 : yrt 1 = r1) (hr2 : yrt 2 = r2) (hi1 : yix 1 = i1) (hi2 : yix 2 = i2) (hD : own_D 0 yc yki ymv ykr r1 r2 q1 q2 i1 i2 j1 j2) : yrt 1 = q1 ∧ yrt 2 = q2 ∧ yix 1 = j1 ∧ yix 2 = j2 := by
  unfold own_D at hD; rcases hD with h | h | h | h | h <;> simp_all
theorem own_un1 {yc yki ymv : Int32 → Int32} {ykr : Int32 → Value} {r1 r2 q1 q2 : Value} {i1 i2 j1 j2 : Int32} {yrt : Int32 → Value} {yix : Int32 → Int32} (hr1 : yrt 1 = r1) (hr2 : yrt 2 = r2) (hi1 : yix 1 = i1) (hi2 : yix 2 = i2) (hD : own_D 1 yc yki ymv ykr r1 r2 q1 q2 i1 i2 j1 j2) : fnup yrt (yc 0) (ykr 0) 1 = q1 ∧ fnup yrt (yc 0) (ykr 0) 2 = q2 ∧ fnup yix (yc 0) (yki 0) 1 = j1 ∧ fnup yix (yc 0) (yki 0) 2 = j2 := by
  unfold own_D at hD; rcases hD with h | h | h | h | h <;> simp_all [fnup]
theorem own_un2 {yc yki ymv : Int32 → Int32} {ykr : Int32 → Value} {r1 r2 q1 q2 : Value} {i1 i2 j1 j2 : Int32} {yrt : Int32 → Value} {yix : Int32 → Int32} (hr1 : yrt 1 = r1) (hr2 : yrt 2 = r2) (hi1 : yix 1 = i1) (hi2 : yix 2 = i2) (hD : own_D 2 yc yki ymv ykr r1 r2 q1 q2 i1 i2 j1 j2) : fnup (fnup yrt (yc 0) (ykr 0)) (yc 1) (ykr 1) 1 = q1 ∧ fnup (fnup yrt (yc 0) (ykr 0)) (yc 1) (ykr 1) 2 = q2 ∧ fnup (fnup yix (yc 0) (yki 0)) (yc 1) (yki 1) 1 = j1 ∧ fnup (fnup yix (yc 0) (yki 0)) (yc 1) (yki 1) 2 = j2 := by
  unfold own_D at hD; rcases hD with h | h | h | h | h <;> simp_all [fnup]

theorem own_lt2 {k : Int32} (h : k < 1) : k < 2 := by
  rw [Int32.lt_iff_toInt_lt] at h ⊢
  have z1 : (1 : Int32).toInt = 1 := by decide
  have z2 : (2 : Int32).toInt = 2 := by decide
  omega
theorem tw0 {Z : State} {a0 : Array Value} (hw : TW Z a0) : (Jvm.Cond.classLink "com/example/kiriman/kiriman/route/PositionsKeepPinLaw" (7 : Nat) "com/example/kiriman/kiriman/route/Route").before a0 Z = true := hw _ (tm (i := 0) rfl)
theorem tw1 {Z : State} {a0 : Array Value} (hw : TW Z a0) : (Jvm.Cond.arrayOver (Jvm.ClassFile.FieldType.object "com/example/kiriman/kiriman/route/Route")).before a0 Z = true := hw _ (tm (i := 1) rfl)
theorem tw2 {Z : State} {a0 : Array Value} (hw : TW Z a0) : (Jvm.Cond.arrayClass Jvm.ClassFile.FieldType.int).before a0 Z = true := hw _ (tm (i := 2) rfl)
theorem tw3 {Z : State} {a0 : Array Value} (hw : TW Z a0) : (Jvm.Cond.classLink "com/example/kiriman/kiriman/route/PositionsKeepPinLaw" (9 : Nat) "com/example/kiriman/kiriman/route/Problem").before a0 Z = true := hw _ (tm (i := 3) rfl)
theorem tw4 {Z : State} {a0 : Array Value} (hw : TW Z a0) : (Jvm.Cond.instantiable "com/example/kiriman/kiriman/route/Problem" (9 : Nat)).before a0 Z = true := hw _ (tm (i := 4) rfl)
theorem tw5 {Z : State} {a0 : Array Value} (hw : TW Z a0) : (Jvm.Cond.initialized "com/example/kiriman/kiriman/route/Problem").before a0 Z = true := hw _ (tm (i := 5) rfl)
theorem tw6 {Z : State} {a0 : Array Value} (hw : TW Z a0) : (Jvm.Cond.methodLink "com/example/kiriman/kiriman/route/PositionsKeepPinLaw" (11 : Nat) ({ cls := "com/example/kiriman/kiriman/route/Problem", name := "<init>", desc := "(II[I[I[I)V" } : Jvm.MethodName)).before a0 Z = true := hw _ (tm (i := 6) rfl)
theorem tw7 {Z : State} {a0 : Array Value} (hw : TW Z a0) : (Jvm.Cond.instanceMethod ({ cls := "com/example/kiriman/kiriman/route/Problem", name := "<init>", desc := "(II[I[I[I)V" } : Jvm.MethodName)).before a0 Z = true := hw _ (tm (i := 7) rfl)
theorem tw8 {Z : State} {a0 : Array Value} (hw : TW Z a0) : (Jvm.Cond.code ({ cls := "com/example/kiriman/kiriman/route/Problem", name := "<init>", desc := "(II[I[I[I)V" } : Jvm.MethodName) prog_29_method_1_code (7 : Nat) (Option.none : Option Jvm.ClassFile.FieldType)).before a0 Z = true := hw _ (tm (i := 8) rfl)
theorem tw9 {Z : State} {a0 : Array Value} (hw : TW Z a0) : (Jvm.Cond.methodLink "com/example/kiriman/kiriman/route/Problem" (1 : Nat) ({ cls := "com/example/kiriman/kiriman/route/Problem", name := "oneForEachCustomer", desc := "(II)[I" } : Jvm.MethodName)).before a0 Z = true := hw _ (tm (i := 9) rfl)
theorem tw10 {Z : State} {a0 : Array Value} (hw : TW Z a0) : (Jvm.Cond.static ({ cls := "com/example/kiriman/kiriman/route/Problem", name := "oneForEachCustomer", desc := "(II)[I" } : Jvm.MethodName)).before a0 Z = true := hw _ (tm (i := 10) rfl)
theorem tw11 {Z : State} {a0 : Array Value} (hw : TW Z a0) : (Jvm.Cond.code ({ cls := "com/example/kiriman/kiriman/route/Problem", name := "oneForEachCustomer", desc := "(II)[I" } : Jvm.MethodName) prog_29_method_6_code (3 : Nat) (Option.some (Jvm.ClassFile.FieldType.array Jvm.ClassFile.FieldType.int))).before a0 Z = true := hw _ (tm (i := 11) rfl)
theorem tw12 {Z : State} {a0 : Array Value} (hw : TW Z a0) : (Jvm.Cond.methodLink "com/example/kiriman/kiriman/route/Problem" (15 : Nat) ({ cls := "java/lang/Math", name := "max", desc := "(II)I" } : Jvm.MethodName)).before a0 Z = true := hw _ (tm (i := 12) rfl)
theorem tw13 {Z : State} {a0 : Array Value} (hw : TW Z a0) : (Jvm.Cond.static ({ cls := "java/lang/Math", name := "max", desc := "(II)I" } : Jvm.MethodName)).before a0 Z = true := hw _ (tm (i := 13) rfl)
theorem tw14 {Z : State} {a0 : Array Value} (hw : TW Z a0) : (Jvm.Cond.initialized "java/lang/Math").before a0 Z = true := hw _ (tm (i := 14) rfl)
theorem tw15 {Z : State} {a0 : Array Value} (hw : TW Z a0) : (Jvm.Cond.code ({ cls := "java/lang/Math", name := "max", desc := "(II)I" } : Jvm.MethodName) jdk_29_method_65_code (2 : Nat) (Option.some Jvm.ClassFile.FieldType.int)).before a0 Z = true := hw _ (tm (i := 15) rfl)
theorem tw16 {Z : State} {a0 : Array Value} (hw : TW Z a0) : (Jvm.Cond.methodLink "com/example/kiriman/kiriman/route/Problem" (103 : Nat) ({ cls := "java/util/Arrays", name := "fill", desc := "([II)V" } : Jvm.MethodName)).before a0 Z = true := hw _ (tm (i := 16) rfl)
theorem tw17 {Z : State} {a0 : Array Value} (hw : TW Z a0) : (Jvm.Cond.static ({ cls := "java/util/Arrays", name := "fill", desc := "([II)V" } : Jvm.MethodName)).before a0 Z = true := hw _ (tm (i := 17) rfl)
theorem tw18 {Z : State} {a0 : Array Value} (hw : TW Z a0) : (Jvm.Cond.initialized "java/util/Arrays").before a0 Z = true := hw _ (tm (i := 18) rfl)
theorem tw19 {Z : State} {a0 : Array Value} (hw : TW Z a0) : (Jvm.Cond.code ({ cls := "java/util/Arrays", name := "fill", desc := "([II)V" } : Jvm.MethodName) jdk_65_method_103_code (4 : Nat) (Option.none : Option Jvm.ClassFile.FieldType)).before a0 Z = true := hw _ (tm (i := 19) rfl)
theorem tw20 {Z : State} {a0 : Array Value} (hw : TW Z a0) : (Jvm.Cond.methodLink "com/example/kiriman/kiriman/route/Problem" (7 : Nat) ({ cls := "com/example/kiriman/kiriman/route/Problem", name := "<init>", desc := "(I[I[I[I[I)V" } : Jvm.MethodName)).before a0 Z = true := hw _ (tm (i := 20) rfl)
theorem tw21 {Z : State} {a0 : Array Value} (hw : TW Z a0) : (Jvm.Cond.instanceMethod ({ cls := "com/example/kiriman/kiriman/route/Problem", name := "<init>", desc := "(I[I[I[I[I)V" } : Jvm.MethodName)).before a0 Z = true := hw _ (tm (i := 21) rfl)
theorem tw22 {Z : State} {a0 : Array Value} (hw : TW Z a0) : (Jvm.Cond.code ({ cls := "com/example/kiriman/kiriman/route/Problem", name := "<init>", desc := "(I[I[I[I[I)V" } : Jvm.MethodName) prog_29_method_2_code (10 : Nat) (Option.none : Option Jvm.ClassFile.FieldType)).before a0 Z = true := hw _ (tm (i := 22) rfl)
theorem tw23 {Z : State} {a0 : Array Value} (hw : TW Z a0) : (Jvm.Cond.methodLink "com/example/kiriman/kiriman/route/Problem" (30 : Nat) ({ cls := "com/example/kiriman/kiriman/route/Problem", name := "matrix", desc := "([I[I[I)Lcom/example/kiriman/kiriman/route/Costs;" } : Jvm.MethodName)).before a0 Z = true := hw _ (tm (i := 23) rfl)
theorem tw24 {Z : State} {a0 : Array Value} (hw : TW Z a0) : (Jvm.Cond.static ({ cls := "com/example/kiriman/kiriman/route/Problem", name := "matrix", desc := "([I[I[I)Lcom/example/kiriman/kiriman/route/Costs;" } : Jvm.MethodName)).before a0 Z = true := hw _ (tm (i := 24) rfl)
theorem tw25 {Z : State} {a0 : Array Value} (hw : TW Z a0) : (Jvm.Cond.code ({ cls := "com/example/kiriman/kiriman/route/Problem", name := "matrix", desc := "([I[I[I)Lcom/example/kiriman/kiriman/route/Costs;" } : Jvm.MethodName) prog_29_method_5_code (5 : Nat) (Option.some (Jvm.ClassFile.FieldType.object "com/example/kiriman/kiriman/route/Costs"))).before a0 Z = true := hw _ (tm (i := 25) rfl)
theorem tw26 {Z : State} {a0 : Array Value} (hw : TW Z a0) : (Jvm.Cond.classLink "com/example/kiriman/kiriman/route/Problem" (98 : Nat) "com/example/kiriman/kiriman/route/CostMatrix").before a0 Z = true := hw _ (tm (i := 26) rfl)
theorem tw27 {Z : State} {a0 : Array Value} (hw : TW Z a0) : (Jvm.Cond.instantiable "com/example/kiriman/kiriman/route/CostMatrix" (2 : Nat)).before a0 Z = true := hw _ (tm (i := 27) rfl)
theorem tw28 {Z : State} {a0 : Array Value} (hw : TW Z a0) : (Jvm.Cond.initialized "com/example/kiriman/kiriman/route/CostMatrix").before a0 Z = true := hw _ (tm (i := 28) rfl)
theorem tw29 {Z : State} {a0 : Array Value} (hw : TW Z a0) : (Jvm.Cond.methodLink "com/example/kiriman/kiriman/route/Problem" (64 : Nat) ({ cls := "[I", name := "clone", desc := "()Ljava/lang/Object;" } : Jvm.MethodName)).before a0 Z = true := hw _ (tm (i := 29) rfl)
theorem tw30 {Z : State} {a0 : Array Value} (hw : TW Z a0) : (Jvm.Cond.sameMethod "[I" "java/lang/Object" "clone" "()Ljava/lang/Object;").before a0 Z = true := hw _ (tm (i := 30) rfl)
theorem tw32 {Z : State} {a0 : Array Value} (hw : TW Z a0) : (Jvm.Cond.instanceMethod ({ cls := "java/lang/Object", name := "clone", desc := "()Ljava/lang/Object;" } : Jvm.MethodName)).before a0 Z = true := hw _ (tm (i := 32) rfl)
theorem tw33 {Z : State} {a0 : Array Value} (hw : TW Z a0) : (Jvm.Cond.selects "[I" ({ cls := "[I", name := "clone", desc := "()Ljava/lang/Object;" } : Jvm.MethodName) ({ cls := "java/lang/Object", name := "clone", desc := "()Ljava/lang/Object;" } : Jvm.MethodName)).before a0 Z = true := hw _ (tm (i := 33) rfl)
theorem tw34 {Z : State} {a0 : Array Value} (hw : TW Z a0) : (Jvm.Cond.native ({ cls := "java/lang/Object", name := "clone", desc := "()Ljava/lang/Object;" } : Jvm.MethodName)).before a0 Z = true := hw _ (tm (i := 34) rfl)
theorem tw35 {Z : State} {a0 : Array Value} (hw : TW Z a0) : (Jvm.Cond.castable "[I" "java/lang/Cloneable").before a0 Z = true := hw _ (tm (i := 35) rfl)
theorem tw36 {Z : State} {a0 : Array Value} (hw : TW Z a0) : (Jvm.Cond.classLink "com/example/kiriman/kiriman/route/Problem" (65 : Nat) "[I").before a0 Z = true := hw _ (tm (i := 36) rfl)
theorem tw38 {Z : State} {a0 : Array Value} (hw : TW Z a0) : (Jvm.Cond.methodLink "com/example/kiriman/kiriman/route/Problem" (100 : Nat) ({ cls := "com/example/kiriman/kiriman/route/CostMatrix", name := "<init>", desc := "(I[I)V" } : Jvm.MethodName)).before a0 Z = true := hw _ (tm (i := 38) rfl)
theorem tw39 {Z : State} {a0 : Array Value} (hw : TW Z a0) : (Jvm.Cond.instanceMethod ({ cls := "com/example/kiriman/kiriman/route/CostMatrix", name := "<init>", desc := "(I[I)V" } : Jvm.MethodName)).before a0 Z = true := hw _ (tm (i := 39) rfl)
theorem tw40 {Z : State} {a0 : Array Value} (hw : TW Z a0) : (Jvm.Cond.code ({ cls := "com/example/kiriman/kiriman/route/CostMatrix", name := "<init>", desc := "(I[I)V" } : Jvm.MethodName) prog_23_method_1_code (3 : Nat) (Option.none : Option Jvm.ClassFile.FieldType)).before a0 Z = true := hw _ (tm (i := 40) rfl)
theorem tw41 {Z : State} {a0 : Array Value} (hw : TW Z a0) : (Jvm.Cond.methodLink "com/example/kiriman/kiriman/route/CostMatrix" (1 : Nat) ({ cls := "java/lang/Object", name := "<init>", desc := "()V" } : Jvm.MethodName)).before a0 Z = true := hw _ (tm (i := 41) rfl)
theorem tw42 {Z : State} {a0 : Array Value} (hw : TW Z a0) : (Jvm.Cond.instanceMethod ({ cls := "java/lang/Object", name := "<init>", desc := "()V" } : Jvm.MethodName)).before a0 Z = true := hw _ (tm (i := 42) rfl)
theorem tw43 {Z : State} {a0 : Array Value} (hw : TW Z a0) : (Jvm.Cond.code ({ cls := "java/lang/Object", name := "<init>", desc := "()V" } : Jvm.MethodName) object_method_1_code (1 : Nat) (Option.none : Option Jvm.ClassFile.FieldType)).before a0 Z = true := hw _ (tm (i := 43) rfl)
theorem tw44 {Z : State} {a0 : Array Value} (hw : TW Z a0) : (Jvm.Cond.fieldLink "com/example/kiriman/kiriman/route/CostMatrix" (7 : Nat) "com/example/kiriman/kiriman/route/CostMatrix" "nodes" "I").before a0 Z = true := hw _ (tm (i := 44) rfl)
theorem tw45 {Z : State} {a0 : Array Value} (hw : TW Z a0) : (Jvm.Cond.laysFinal "com/example/kiriman/kiriman/route/CostMatrix" "com/example/kiriman/kiriman/route/CostMatrix" "nodes" "I").before a0 Z = true := hw _ (tm (i := 45) rfl)
theorem tw46 {Z : State} {a0 : Array Value} (hw : TW Z a0) : (Jvm.Cond.fieldLink "com/example/kiriman/kiriman/route/CostMatrix" (13 : Nat) "com/example/kiriman/kiriman/route/CostMatrix" "costs" "[I").before a0 Z = true := hw _ (tm (i := 46) rfl)
theorem tw47 {Z : State} {a0 : Array Value} (hw : TW Z a0) : (Jvm.Cond.laysFinal "com/example/kiriman/kiriman/route/CostMatrix" "com/example/kiriman/kiriman/route/CostMatrix" "costs" "[I").before a0 Z = true := hw _ (tm (i := 47) rfl)
theorem tw48 {Z : State} {a0 : Array Value} (hw : TW Z a0) : (Jvm.Cond.methodLink "com/example/kiriman/kiriman/route/Problem" (34 : Nat) ({ cls := "com/example/kiriman/kiriman/route/Problem", name := "<init>", desc := "(I[I[I[ILcom/example/kiriman/kiriman/route/Costs;)V" } : Jvm.MethodName)).before a0 Z = true := hw _ (tm (i := 48) rfl)
theorem tw49 {Z : State} {a0 : Array Value} (hw : TW Z a0) : (Jvm.Cond.instanceMethod ({ cls := "com/example/kiriman/kiriman/route/Problem", name := "<init>", desc := "(I[I[I[ILcom/example/kiriman/kiriman/route/Costs;)V" } : Jvm.MethodName)).before a0 Z = true := hw _ (tm (i := 49) rfl)
theorem tw50 {Z : State} {a0 : Array Value} (hw : TW Z a0) : (Jvm.Cond.code ({ cls := "com/example/kiriman/kiriman/route/Problem", name := "<init>", desc := "(I[I[I[ILcom/example/kiriman/kiriman/route/Costs;)V" } : Jvm.MethodName) prog_29_method_3_code (11 : Nat) (Option.none : Option Jvm.ClassFile.FieldType)).before a0 Z = true := hw _ (tm (i := 50) rfl)
theorem tw51 {Z : State} {a0 : Array Value} (hw : TW Z a0) : (Jvm.Cond.methodLink "com/example/kiriman/kiriman/route/Problem" (40 : Nat) ({ cls := "java/lang/Object", name := "<init>", desc := "()V" } : Jvm.MethodName)).before a0 Z = true := hw _ (tm (i := 51) rfl)
theorem tw52 {Z : State} {a0 : Array Value} (hw : TW Z a0) : (Jvm.Cond.methodLink "com/example/kiriman/kiriman/route/Problem" (45 : Nat) ({ cls := "com/example/kiriman/kiriman/route/Costs", name := "nodes", desc := "()I" } : Jvm.MethodName)).before a0 Z = true := hw _ (tm (i := 52) rfl)
theorem tw53 {Z : State} {a0 : Array Value} (hw : TW Z a0) : (Jvm.Cond.declares ({ cls := "com/example/kiriman/kiriman/route/Costs", name := "nodes", desc := "()I" } : Jvm.MethodName)).before a0 Z = true := hw _ (tm (i := 53) rfl)
theorem tw54 {Z : State} {a0 : Array Value} (hw : TW Z a0) : (Jvm.Cond.interfaceMethod "com/example/kiriman/kiriman/route/Costs" "com/example/kiriman/kiriman/route/Costs" "nodes" "()I").before a0 Z = true := hw _ (tm (i := 54) rfl)
theorem tw55 {Z : State} {a0 : Array Value} (hw : TW Z a0) : (Jvm.Cond.selects "com/example/kiriman/kiriman/route/CostMatrix" ({ cls := "com/example/kiriman/kiriman/route/Costs", name := "nodes", desc := "()I" } : Jvm.MethodName) ({ cls := "com/example/kiriman/kiriman/route/CostMatrix", name := "nodes", desc := "()I" } : Jvm.MethodName)).before a0 Z = true := hw _ (tm (i := 55) rfl)
theorem tw56 {Z : State} {a0 : Array Value} (hw : TW Z a0) : (Jvm.Cond.instanceMethod ({ cls := "com/example/kiriman/kiriman/route/CostMatrix", name := "nodes", desc := "()I" } : Jvm.MethodName)).before a0 Z = true := hw _ (tm (i := 56) rfl)
theorem tw57 {Z : State} {a0 : Array Value} (hw : TW Z a0) : (Jvm.Cond.publicMethod ({ cls := "com/example/kiriman/kiriman/route/CostMatrix", name := "nodes", desc := "()I" } : Jvm.MethodName)).before a0 Z = true := hw _ (tm (i := 57) rfl)
theorem tw58 {Z : State} {a0 : Array Value} (hw : TW Z a0) : (Jvm.Cond.unhidden "com/example/kiriman/kiriman/route/CostMatrix" "nodes" "()I").before a0 Z = true := hw _ (tm (i := 58) rfl)
theorem tw59 {Z : State} {a0 : Array Value} (hw : TW Z a0) : (Jvm.Cond.castable "com/example/kiriman/kiriman/route/CostMatrix" "com/example/kiriman/kiriman/route/Costs").before a0 Z = true := hw _ (tm (i := 59) rfl)
theorem tw60 {Z : State} {a0 : Array Value} (hw : TW Z a0) : (Jvm.Cond.code ({ cls := "com/example/kiriman/kiriman/route/CostMatrix", name := "nodes", desc := "()I" } : Jvm.MethodName) prog_23_method_2_code (1 : Nat) (Option.some Jvm.ClassFile.FieldType.int)).before a0 Z = true := hw _ (tm (i := 60) rfl)
theorem tw61 {Z : State} {a0 : Array Value} (hw : TW Z a0) : (Jvm.Cond.methodLink "com/example/kiriman/kiriman/route/Problem" (57 : Nat) ({ cls := "java/lang/Math", name := "min", desc := "(II)I" } : Jvm.MethodName)).before a0 Z = true := hw _ (tm (i := 61) rfl)
theorem tw62 {Z : State} {a0 : Array Value} (hw : TW Z a0) : (Jvm.Cond.static ({ cls := "java/lang/Math", name := "min", desc := "(II)I" } : Jvm.MethodName)).before a0 Z = true := hw _ (tm (i := 62) rfl)
theorem tw63 {Z : State} {a0 : Array Value} (hw : TW Z a0) : (Jvm.Cond.code ({ cls := "java/lang/Math", name := "min", desc := "(II)I" } : Jvm.MethodName) jdk_29_method_69_code (2 : Nat) (Option.some Jvm.ClassFile.FieldType.int)).before a0 Z = true := hw _ (tm (i := 63) rfl)
theorem tw64 {Z : State} {a0 : Array Value} (hw : TW Z a0) : (Jvm.Cond.fieldLink "com/example/kiriman/kiriman/route/Problem" (11 : Nat) "com/example/kiriman/kiriman/route/Problem" "nodes" "I").before a0 Z = true := hw _ (tm (i := 64) rfl)
theorem tw65 {Z : State} {a0 : Array Value} (hw : TW Z a0) : (Jvm.Cond.laysFinal "com/example/kiriman/kiriman/route/Problem" "com/example/kiriman/kiriman/route/Problem" "nodes" "I").before a0 Z = true := hw _ (tm (i := 65) rfl)
theorem tw66 {Z : State} {a0 : Array Value} (hw : TW Z a0) : (Jvm.Cond.fieldLink "com/example/kiriman/kiriman/route/Problem" (61 : Nat) "com/example/kiriman/kiriman/route/Problem" "depot" "I").before a0 Z = true := hw _ (tm (i := 66) rfl)
theorem tw67 {Z : State} {a0 : Array Value} (hw : TW Z a0) : (Jvm.Cond.laysFinal "com/example/kiriman/kiriman/route/Problem" "com/example/kiriman/kiriman/route/Problem" "depot" "I").before a0 Z = true := hw _ (tm (i := 67) rfl)
theorem tw68 {Z : State} {a0 : Array Value} (hw : TW Z a0) : (Jvm.Cond.fieldLink "com/example/kiriman/kiriman/route/Problem" (70 : Nat) "com/example/kiriman/kiriman/route/Problem" "capacities" "[I").before a0 Z = true := hw _ (tm (i := 68) rfl)
theorem tw69 {Z : State} {a0 : Array Value} (hw : TW Z a0) : (Jvm.Cond.laysFinal "com/example/kiriman/kiriman/route/Problem" "com/example/kiriman/kiriman/route/Problem" "capacities" "[I").before a0 Z = true := hw _ (tm (i := 69) rfl)
theorem tw70 {Z : State} {a0 : Array Value} (hw : TW Z a0) : (Jvm.Cond.fieldLink "com/example/kiriman/kiriman/route/Problem" (73 : Nat) "com/example/kiriman/kiriman/route/Problem" "deliveries" "[I").before a0 Z = true := hw _ (tm (i := 70) rfl)
theorem tw71 {Z : State} {a0 : Array Value} (hw : TW Z a0) : (Jvm.Cond.laysFinal "com/example/kiriman/kiriman/route/Problem" "com/example/kiriman/kiriman/route/Problem" "deliveries" "[I").before a0 Z = true := hw _ (tm (i := 71) rfl)
theorem tw72 {Z : State} {a0 : Array Value} (hw : TW Z a0) : (Jvm.Cond.fieldLink "com/example/kiriman/kiriman/route/Problem" (76 : Nat) "com/example/kiriman/kiriman/route/Problem" "pickups" "[I").before a0 Z = true := hw _ (tm (i := 72) rfl)
theorem tw73 {Z : State} {a0 : Array Value} (hw : TW Z a0) : (Jvm.Cond.laysFinal "com/example/kiriman/kiriman/route/Problem" "com/example/kiriman/kiriman/route/Problem" "pickups" "[I").before a0 Z = true := hw _ (tm (i := 73) rfl)
theorem tw74 {Z : State} {a0 : Array Value} (hw : TW Z a0) : (Jvm.Cond.fieldLink "com/example/kiriman/kiriman/route/Problem" (79 : Nat) "com/example/kiriman/kiriman/route/Problem" "costs" "Lcom/example/kiriman/kiriman/route/Costs;").before a0 Z = true := hw _ (tm (i := 74) rfl)
theorem tw75 {Z : State} {a0 : Array Value} (hw : TW Z a0) : (Jvm.Cond.laysFinal "com/example/kiriman/kiriman/route/Problem" "com/example/kiriman/kiriman/route/Problem" "costs" "Lcom/example/kiriman/kiriman/route/Costs;").before a0 Z = true := hw _ (tm (i := 75) rfl)
theorem tw76 {Z : State} {a0 : Array Value} (hw : TW Z a0) : (Jvm.Cond.fieldLink "com/example/kiriman/kiriman/route/Problem" (83 : Nat) "com/example/kiriman/kiriman/route/Problem" "service" "[I").before a0 Z = true := hw _ (tm (i := 76) rfl)
theorem tw77 {Z : State} {a0 : Array Value} (hw : TW Z a0) : (Jvm.Cond.laysFinal "com/example/kiriman/kiriman/route/Problem" "com/example/kiriman/kiriman/route/Problem" "service" "[I").before a0 Z = true := hw _ (tm (i := 77) rfl)
theorem tw78 {Z : State} {a0 : Array Value} (hw : TW Z a0) : (Jvm.Cond.constantLong "com/example/kiriman/kiriman/route/Problem" (88 : Nat) (9223372036854775807 : Int64)).before a0 Z = true := hw _ (tm (i := 78) rfl)
theorem tw79 {Z : State} {a0 : Array Value} (hw : TW Z a0) : (Jvm.Cond.fieldLink "com/example/kiriman/kiriman/route/Problem" (90 : Nat) "com/example/kiriman/kiriman/route/Problem" "longest" "J").before a0 Z = true := hw _ (tm (i := 79) rfl)
theorem tw80 {Z : State} {a0 : Array Value} (hw : TW Z a0) : (Jvm.Cond.laysFinal "com/example/kiriman/kiriman/route/Problem" "com/example/kiriman/kiriman/route/Problem" "longest" "J").before a0 Z = true := hw _ (tm (i := 80) rfl)
theorem tw81 {Z : State} {a0 : Array Value} (hw : TW Z a0) : (Jvm.Cond.fieldLink "com/example/kiriman/kiriman/route/Problem" (94 : Nat) "com/example/kiriman/kiriman/route/Problem" "latest" "J").before a0 Z = true := hw _ (tm (i := 81) rfl)
theorem tw82 {Z : State} {a0 : Array Value} (hw : TW Z a0) : (Jvm.Cond.laysFinal "com/example/kiriman/kiriman/route/Problem" "com/example/kiriman/kiriman/route/Problem" "latest" "J").before a0 Z = true := hw _ (tm (i := 82) rfl)
theorem tw83 {Z : State} {a0 : Array Value} (hw : TW Z a0) : (Jvm.Cond.instantiable "com/example/kiriman/kiriman/route/Route" (14 : Nat)).before a0 Z = true := hw _ (tm (i := 83) rfl)
theorem tw84 {Z : State} {a0 : Array Value} (hw : TW Z a0) : (Jvm.Cond.initialized "com/example/kiriman/kiriman/route/Route").before a0 Z = true := hw _ (tm (i := 84) rfl)
theorem tw85 {Z : State} {a0 : Array Value} (hw : TW Z a0) : (Jvm.Cond.methodLink "com/example/kiriman/kiriman/route/PositionsKeepPinLaw" (14 : Nat) ({ cls := "com/example/kiriman/kiriman/route/Route", name := "<init>", desc := "(Lcom/example/kiriman/kiriman/route/Problem;I)V" } : Jvm.MethodName)).before a0 Z = true := hw _ (tm (i := 85) rfl)
theorem tw86 {Z : State} {a0 : Array Value} (hw : TW Z a0) : (Jvm.Cond.instanceMethod ({ cls := "com/example/kiriman/kiriman/route/Route", name := "<init>", desc := "(Lcom/example/kiriman/kiriman/route/Problem;I)V" } : Jvm.MethodName)).before a0 Z = true := hw _ (tm (i := 86) rfl)
theorem tw87 {Z : State} {a0 : Array Value} (hw : TW Z a0) : (Jvm.Cond.code ({ cls := "com/example/kiriman/kiriman/route/Route", name := "<init>", desc := "(Lcom/example/kiriman/kiriman/route/Problem;I)V" } : Jvm.MethodName) prog_30_method_1_code (3 : Nat) (Option.none : Option Jvm.ClassFile.FieldType)).before a0 Z = true := hw _ (tm (i := 87) rfl)
theorem tw88 {Z : State} {a0 : Array Value} (hw : TW Z a0) : (Jvm.Cond.methodLink "com/example/kiriman/kiriman/route/Route" (1 : Nat) ({ cls := "java/lang/Object", name := "<init>", desc := "()V" } : Jvm.MethodName)).before a0 Z = true := hw _ (tm (i := 88) rfl)
theorem tw89 {Z : State} {a0 : Array Value} (hw : TW Z a0) : (Jvm.Cond.fieldLink "com/example/kiriman/kiriman/route/Route" (7 : Nat) "com/example/kiriman/kiriman/route/Route" "stale" "Z").before a0 Z = true := hw _ (tm (i := 89) rfl)
theorem tw90 {Z : State} {a0 : Array Value} (hw : TW Z a0) : (Jvm.Cond.lays "com/example/kiriman/kiriman/route/Route" "com/example/kiriman/kiriman/route/Route" "stale" "Z").before a0 Z = true := hw _ (tm (i := 90) rfl)
theorem tw91 {Z : State} {a0 : Array Value} (hw : TW Z a0) : (Jvm.Cond.fieldLink "com/example/kiriman/kiriman/route/Route" (13 : Nat) "com/example/kiriman/kiriman/route/Route" "problem" "Lcom/example/kiriman/kiriman/route/Problem;").before a0 Z = true := hw _ (tm (i := 91) rfl)
theorem tw92 {Z : State} {a0 : Array Value} (hw : TW Z a0) : (Jvm.Cond.laysFinal "com/example/kiriman/kiriman/route/Route" "com/example/kiriman/kiriman/route/Route" "problem" "Lcom/example/kiriman/kiriman/route/Problem;").before a0 Z = true := hw _ (tm (i := 92) rfl)
theorem tw93 {Z : State} {a0 : Array Value} (hw : TW Z a0) : (Jvm.Cond.fieldLink "com/example/kiriman/kiriman/route/Route" (17 : Nat) "com/example/kiriman/kiriman/route/Route" "vehicle" "I").before a0 Z = true := hw _ (tm (i := 93) rfl)
theorem tw94 {Z : State} {a0 : Array Value} (hw : TW Z a0) : (Jvm.Cond.laysFinal "com/example/kiriman/kiriman/route/Route" "com/example/kiriman/kiriman/route/Route" "vehicle" "I").before a0 Z = true := hw _ (tm (i := 94) rfl)
theorem tw95 {Z : State} {a0 : Array Value} (hw : TW Z a0) : (Jvm.Cond.fieldLink "com/example/kiriman/kiriman/route/Route" (21 : Nat) "com/example/kiriman/kiriman/route/Route" "visits" "[I").before a0 Z = true := hw _ (tm (i := 95) rfl)
theorem tw96 {Z : State} {a0 : Array Value} (hw : TW Z a0) : (Jvm.Cond.lays "com/example/kiriman/kiriman/route/Route" "com/example/kiriman/kiriman/route/Route" "visits" "[I").before a0 Z = true := hw _ (tm (i := 96) rfl)
theorem tw97 {Z : State} {a0 : Array Value} (hw : TW Z a0) : (Jvm.Cond.fieldLink "com/example/kiriman/kiriman/route/Route" (25 : Nat) "com/example/kiriman/kiriman/route/Route" "legTo" "[I").before a0 Z = true := hw _ (tm (i := 97) rfl)
theorem tw98 {Z : State} {a0 : Array Value} (hw : TW Z a0) : (Jvm.Cond.lays "com/example/kiriman/kiriman/route/Route" "com/example/kiriman/kiriman/route/Route" "legTo" "[I").before a0 Z = true := hw _ (tm (i := 98) rfl)
theorem tw99 {Z : State} {a0 : Array Value} (hw : TW Z a0) : (Jvm.Cond.methodLink "com/example/kiriman/kiriman/route/Route" (28 : Nat) ({ cls := "com/example/kiriman/kiriman/route/Problem", name := "depot", desc := "()I" } : Jvm.MethodName)).before a0 Z = true := hw _ (tm (i := 99) rfl)
theorem tw100 {Z : State} {a0 : Array Value} (hw : TW Z a0) : (Jvm.Cond.declares ({ cls := "com/example/kiriman/kiriman/route/Problem", name := "depot", desc := "()I" } : Jvm.MethodName)).before a0 Z = true := hw _ (tm (i := 100) rfl)
theorem tw101 {Z : State} {a0 : Array Value} (hw : TW Z a0) : (Jvm.Cond.instanceMethod ({ cls := "com/example/kiriman/kiriman/route/Problem", name := "depot", desc := "()I" } : Jvm.MethodName)).before a0 Z = true := hw _ (tm (i := 101) rfl)
theorem tw102 {Z : State} {a0 : Array Value} (hw : TW Z a0) : (Jvm.Cond.selects "com/example/kiriman/kiriman/route/Problem" ({ cls := "com/example/kiriman/kiriman/route/Problem", name := "depot", desc := "()I" } : Jvm.MethodName) ({ cls := "com/example/kiriman/kiriman/route/Problem", name := "depot", desc := "()I" } : Jvm.MethodName)).before a0 Z = true := hw _ (tm (i := 102) rfl)
theorem tw103 {Z : State} {a0 : Array Value} (hw : TW Z a0) : (Jvm.Cond.code ({ cls := "com/example/kiriman/kiriman/route/Problem", name := "depot", desc := "()I" } : Jvm.MethodName) prog_29_method_9_code (1 : Nat) (Option.some Jvm.ClassFile.FieldType.int)).before a0 Z = true := hw _ (tm (i := 103) rfl)
theorem tw104 {Z : State} {a0 : Array Value} (hw : TW Z a0) : (Jvm.Cond.methodLink "com/example/kiriman/kiriman/route/Route" (34 : Nat) ({ cls := "com/example/kiriman/kiriman/route/Problem", name := "cost", desc := "(II)I" } : Jvm.MethodName)).before a0 Z = true := hw _ (tm (i := 104) rfl)
theorem tw105 {Z : State} {a0 : Array Value} (hw : TW Z a0) : (Jvm.Cond.declares ({ cls := "com/example/kiriman/kiriman/route/Problem", name := "cost", desc := "(II)I" } : Jvm.MethodName)).before a0 Z = true := hw _ (tm (i := 105) rfl)
theorem tw106 {Z : State} {a0 : Array Value} (hw : TW Z a0) : (Jvm.Cond.instanceMethod ({ cls := "com/example/kiriman/kiriman/route/Problem", name := "cost", desc := "(II)I" } : Jvm.MethodName)).before a0 Z = true := hw _ (tm (i := 106) rfl)
theorem tw107 {Z : State} {a0 : Array Value} (hw : TW Z a0) : (Jvm.Cond.selects "com/example/kiriman/kiriman/route/Problem" ({ cls := "com/example/kiriman/kiriman/route/Problem", name := "cost", desc := "(II)I" } : Jvm.MethodName) ({ cls := "com/example/kiriman/kiriman/route/Problem", name := "cost", desc := "(II)I" } : Jvm.MethodName)).before a0 Z = true := hw _ (tm (i := 107) rfl)
theorem tw108 {Z : State} {a0 : Array Value} (hw : TW Z a0) : (Jvm.Cond.code ({ cls := "com/example/kiriman/kiriman/route/Problem", name := "cost", desc := "(II)I" } : Jvm.MethodName) prog_29_method_14_code (3 : Nat) (Option.some Jvm.ClassFile.FieldType.int)).before a0 Z = true := hw _ (tm (i := 108) rfl)
theorem tw109 {Z : State} {a0 : Array Value} (hw : TW Z a0) : (Jvm.Cond.methodLink "com/example/kiriman/kiriman/route/Problem" (117 : Nat) ({ cls := "com/example/kiriman/kiriman/route/Costs", name := "cost", desc := "(II)I" } : Jvm.MethodName)).before a0 Z = true := hw _ (tm (i := 109) rfl)
theorem tw110 {Z : State} {a0 : Array Value} (hw : TW Z a0) : (Jvm.Cond.declares ({ cls := "com/example/kiriman/kiriman/route/Costs", name := "cost", desc := "(II)I" } : Jvm.MethodName)).before a0 Z = true := hw _ (tm (i := 110) rfl)
theorem tw111 {Z : State} {a0 : Array Value} (hw : TW Z a0) : (Jvm.Cond.interfaceMethod "com/example/kiriman/kiriman/route/Costs" "com/example/kiriman/kiriman/route/Costs" "cost" "(II)I").before a0 Z = true := hw _ (tm (i := 111) rfl)
theorem tw112 {Z : State} {a0 : Array Value} (hw : TW Z a0) : (Jvm.Cond.selects "com/example/kiriman/kiriman/route/CostMatrix" ({ cls := "com/example/kiriman/kiriman/route/Costs", name := "cost", desc := "(II)I" } : Jvm.MethodName) ({ cls := "com/example/kiriman/kiriman/route/CostMatrix", name := "cost", desc := "(II)I" } : Jvm.MethodName)).before a0 Z = true := hw _ (tm (i := 112) rfl)
theorem tw113 {Z : State} {a0 : Array Value} (hw : TW Z a0) : (Jvm.Cond.instanceMethod ({ cls := "com/example/kiriman/kiriman/route/CostMatrix", name := "cost", desc := "(II)I" } : Jvm.MethodName)).before a0 Z = true := hw _ (tm (i := 113) rfl)
theorem tw114 {Z : State} {a0 : Array Value} (hw : TW Z a0) : (Jvm.Cond.publicMethod ({ cls := "com/example/kiriman/kiriman/route/CostMatrix", name := "cost", desc := "(II)I" } : Jvm.MethodName)).before a0 Z = true := hw _ (tm (i := 114) rfl)
theorem tw115 {Z : State} {a0 : Array Value} (hw : TW Z a0) : (Jvm.Cond.unhidden "com/example/kiriman/kiriman/route/CostMatrix" "cost" "(II)I").before a0 Z = true := hw _ (tm (i := 115) rfl)
theorem tw116 {Z : State} {a0 : Array Value} (hw : TW Z a0) : (Jvm.Cond.code ({ cls := "com/example/kiriman/kiriman/route/CostMatrix", name := "cost", desc := "(II)I" } : Jvm.MethodName) prog_23_method_3_code (3 : Nat) (Option.some Jvm.ClassFile.FieldType.int)).before a0 Z = true := hw _ (tm (i := 116) rfl)
theorem tw117 {Z : State} {a0 : Array Value} (hw : TW Z a0) : (Jvm.Cond.methodLink "com/example/kiriman/kiriman/route/PositionsKeepPinLaw" (17 : Nat) ({ cls := "com/example/kiriman/kiriman/route/Route", name := "insert", desc := "(II)V" } : Jvm.MethodName)).before a0 Z = true := hw _ (tm (i := 117) rfl)
theorem tw118 {Z : State} {a0 : Array Value} (hw : TW Z a0) : (Jvm.Cond.declares ({ cls := "com/example/kiriman/kiriman/route/Route", name := "insert", desc := "(II)V" } : Jvm.MethodName)).before a0 Z = true := hw _ (tm (i := 118) rfl)
theorem tw119 {Z : State} {a0 : Array Value} (hw : TW Z a0) : (Jvm.Cond.instanceMethod ({ cls := "com/example/kiriman/kiriman/route/Route", name := "insert", desc := "(II)V" } : Jvm.MethodName)).before a0 Z = true := hw _ (tm (i := 119) rfl)
theorem tw120 {Z : State} {a0 : Array Value} (hw : TW Z a0) : (Jvm.Cond.selects "com/example/kiriman/kiriman/route/Route" ({ cls := "com/example/kiriman/kiriman/route/Route", name := "insert", desc := "(II)V" } : Jvm.MethodName) ({ cls := "com/example/kiriman/kiriman/route/Route", name := "insert", desc := "(II)V" } : Jvm.MethodName)).before a0 Z = true := hw _ (tm (i := 120) rfl)
theorem tw121 {Z : State} {a0 : Array Value} (hw : TW Z a0) : (Jvm.Cond.code ({ cls := "com/example/kiriman/kiriman/route/Route", name := "insert", desc := "(II)V" } : Jvm.MethodName) prog_30_method_7_code (5 : Nat) (Option.none : Option Jvm.ClassFile.FieldType)).before a0 Z = true := hw _ (tm (i := 121) rfl)
theorem tw122 {Z : State} {a0 : Array Value} (hw : TW Z a0) : (Jvm.Cond.fieldLink "com/example/kiriman/kiriman/route/Route" (38 : Nat) "com/example/kiriman/kiriman/route/Route" "size" "I").before a0 Z = true := hw _ (tm (i := 122) rfl)
theorem tw123 {Z : State} {a0 : Array Value} (hw : TW Z a0) : (Jvm.Cond.lays "com/example/kiriman/kiriman/route/Route" "com/example/kiriman/kiriman/route/Route" "size" "I").before a0 Z = true := hw _ (tm (i := 123) rfl)
theorem tw124 {Z : State} {a0 : Array Value} (hw : TW Z a0) : (Jvm.Cond.methodLink "com/example/kiriman/kiriman/route/Route" (55 : Nat) ({ cls := "com/example/kiriman/kiriman/route/Route", name := "before", desc := "(I)I" } : Jvm.MethodName)).before a0 Z = true := hw _ (tm (i := 124) rfl)
theorem tw125 {Z : State} {a0 : Array Value} (hw : TW Z a0) : (Jvm.Cond.instanceMethod ({ cls := "com/example/kiriman/kiriman/route/Route", name := "before", desc := "(I)I" } : Jvm.MethodName)).before a0 Z = true := hw _ (tm (i := 125) rfl)
theorem tw126 {Z : State} {a0 : Array Value} (hw : TW Z a0) : (Jvm.Cond.privateMethod ({ cls := "com/example/kiriman/kiriman/route/Route", name := "before", desc := "(I)I" } : Jvm.MethodName)).before a0 Z = true := hw _ (tm (i := 126) rfl)
theorem tw127 {Z : State} {a0 : Array Value} (hw : TW Z a0) : (Jvm.Cond.code ({ cls := "com/example/kiriman/kiriman/route/Route", name := "before", desc := "(I)I" } : Jvm.MethodName) prog_30_method_11_code (2 : Nat) (Option.some Jvm.ClassFile.FieldType.int)).before a0 Z = true := hw _ (tm (i := 127) rfl)
theorem tw128 {Z : State} {a0 : Array Value} (hw : TW Z a0) : (Jvm.Cond.methodLink "com/example/kiriman/kiriman/route/Route" (59 : Nat) ({ cls := "com/example/kiriman/kiriman/route/Route", name := "after", desc := "(I)I" } : Jvm.MethodName)).before a0 Z = true := hw _ (tm (i := 128) rfl)
theorem tw129 {Z : State} {a0 : Array Value} (hw : TW Z a0) : (Jvm.Cond.instanceMethod ({ cls := "com/example/kiriman/kiriman/route/Route", name := "after", desc := "(I)I" } : Jvm.MethodName)).before a0 Z = true := hw _ (tm (i := 129) rfl)
theorem tw130 {Z : State} {a0 : Array Value} (hw : TW Z a0) : (Jvm.Cond.privateMethod ({ cls := "com/example/kiriman/kiriman/route/Route", name := "after", desc := "(I)I" } : Jvm.MethodName)).before a0 Z = true := hw _ (tm (i := 130) rfl)
theorem tw131 {Z : State} {a0 : Array Value} (hw : TW Z a0) : (Jvm.Cond.code ({ cls := "com/example/kiriman/kiriman/route/Route", name := "after", desc := "(I)I" } : Jvm.MethodName) prog_30_method_12_code (2 : Nat) (Option.some Jvm.ClassFile.FieldType.int)).before a0 Z = true := hw _ (tm (i := 131) rfl)
theorem tw132 {Z : State} {a0 : Array Value} (hw : TW Z a0) : (Jvm.Cond.methodLink "com/example/kiriman/kiriman/route/Route" (62 : Nat) ({ cls := "java/lang/System", name := "arraycopy", desc := "(Ljava/lang/Object;ILjava/lang/Object;II)V" } : Jvm.MethodName)).before a0 Z = true := hw _ (tm (i := 132) rfl)
theorem tw133 {Z : State} {a0 : Array Value} (hw : TW Z a0) : (Jvm.Cond.static ({ cls := "java/lang/System", name := "arraycopy", desc := "(Ljava/lang/Object;ILjava/lang/Object;II)V" } : Jvm.MethodName)).before a0 Z = true := hw _ (tm (i := 133) rfl)
theorem tw134 {Z : State} {a0 : Array Value} (hw : TW Z a0) : (Jvm.Cond.initialized "java/lang/System").before a0 Z = true := hw _ (tm (i := 134) rfl)
theorem tw135 {Z : State} {a0 : Array Value} (hw : TW Z a0) : (Jvm.Cond.native ({ cls := "java/lang/System", name := "arraycopy", desc := "(Ljava/lang/Object;ILjava/lang/Object;II)V" } : Jvm.MethodName)).before a0 Z = true := hw _ (tm (i := 135) rfl)
theorem tw136 {Z : State} {a0 : Array Value} (hw : TW Z a0) : (Jvm.Cond.classLink "com/example/kiriman/kiriman/route/PositionsKeepPinLaw" (21 : Nat) "com/example/kiriman/kiriman/route/Positions").before a0 Z = true := hw _ (tm (i := 136) rfl)
theorem tw137 {Z : State} {a0 : Array Value} (hw : TW Z a0) : (Jvm.Cond.instantiable "com/example/kiriman/kiriman/route/Positions" (7 : Nat)).before a0 Z = true := hw _ (tm (i := 137) rfl)
theorem tw138 {Z : State} {a0 : Array Value} (hw : TW Z a0) : (Jvm.Cond.initialized "com/example/kiriman/kiriman/route/Positions").before a0 Z = true := hw _ (tm (i := 138) rfl)
theorem tw139 {Z : State} {a0 : Array Value} (hw : TW Z a0) : (Jvm.Cond.methodLink "com/example/kiriman/kiriman/route/PositionsKeepPinLaw" (23 : Nat) ({ cls := "com/example/kiriman/kiriman/route/Positions", name := "<init>", desc := "(I)V" } : Jvm.MethodName)).before a0 Z = true := hw _ (tm (i := 139) rfl)
theorem tw140 {Z : State} {a0 : Array Value} (hw : TW Z a0) : (Jvm.Cond.instanceMethod ({ cls := "com/example/kiriman/kiriman/route/Positions", name := "<init>", desc := "(I)V" } : Jvm.MethodName)).before a0 Z = true := hw _ (tm (i := 140) rfl)
theorem tw141 {Z : State} {a0 : Array Value} (hw : TW Z a0) : (Jvm.Cond.code ({ cls := "com/example/kiriman/kiriman/route/Positions", name := "<init>", desc := "(I)V" } : Jvm.MethodName) prog_27_method_1_code (2 : Nat) (Option.none : Option Jvm.ClassFile.FieldType)).before a0 Z = true := hw _ (tm (i := 141) rfl)
theorem tw142 {Z : State} {a0 : Array Value} (hw : TW Z a0) : (Jvm.Cond.methodLink "com/example/kiriman/kiriman/route/Positions" (1 : Nat) ({ cls := "java/lang/Object", name := "<init>", desc := "()V" } : Jvm.MethodName)).before a0 Z = true := hw _ (tm (i := 142) rfl)
theorem tw143 {Z : State} {a0 : Array Value} (hw : TW Z a0) : (Jvm.Cond.fieldLink "com/example/kiriman/kiriman/route/Positions" (7 : Nat) "com/example/kiriman/kiriman/route/Positions" "movedCustomers" "[I").before a0 Z = true := hw _ (tm (i := 143) rfl)
theorem tw144 {Z : State} {a0 : Array Value} (hw : TW Z a0) : (Jvm.Cond.lays "com/example/kiriman/kiriman/route/Positions" "com/example/kiriman/kiriman/route/Positions" "movedCustomers" "[I").before a0 Z = true := hw _ (tm (i := 144) rfl)
theorem tw145 {Z : State} {a0 : Array Value} (hw : TW Z a0) : (Jvm.Cond.classLink "com/example/kiriman/kiriman/route/Positions" (13 : Nat) "com/example/kiriman/kiriman/route/Route").before a0 Z = true := hw _ (tm (i := 145) rfl)
theorem tw146 {Z : State} {a0 : Array Value} (hw : TW Z a0) : (Jvm.Cond.fieldLink "com/example/kiriman/kiriman/route/Positions" (15 : Nat) "com/example/kiriman/kiriman/route/Positions" "keptRoutes" "[Lcom/example/kiriman/kiriman/route/Route;").before a0 Z = true := hw _ (tm (i := 146) rfl)
theorem tw147 {Z : State} {a0 : Array Value} (hw : TW Z a0) : (Jvm.Cond.lays "com/example/kiriman/kiriman/route/Positions" "com/example/kiriman/kiriman/route/Positions" "keptRoutes" "[Lcom/example/kiriman/kiriman/route/Route;").before a0 Z = true := hw _ (tm (i := 147) rfl)
theorem tw148 {Z : State} {a0 : Array Value} (hw : TW Z a0) : (Jvm.Cond.fieldLink "com/example/kiriman/kiriman/route/Positions" (19 : Nat) "com/example/kiriman/kiriman/route/Positions" "keptIndexes" "[I").before a0 Z = true := hw _ (tm (i := 148) rfl)
theorem tw149 {Z : State} {a0 : Array Value} (hw : TW Z a0) : (Jvm.Cond.lays "com/example/kiriman/kiriman/route/Positions" "com/example/kiriman/kiriman/route/Positions" "keptIndexes" "[I").before a0 Z = true := hw _ (tm (i := 149) rfl)
theorem tw150 {Z : State} {a0 : Array Value} (hw : TW Z a0) : (Jvm.Cond.fieldLink "com/example/kiriman/kiriman/route/Positions" (22 : Nat) "com/example/kiriman/kiriman/route/Positions" "routes" "[Lcom/example/kiriman/kiriman/route/Route;").before a0 Z = true := hw _ (tm (i := 150) rfl)
theorem tw151 {Z : State} {a0 : Array Value} (hw : TW Z a0) : (Jvm.Cond.laysFinal "com/example/kiriman/kiriman/route/Positions" "com/example/kiriman/kiriman/route/Positions" "routes" "[Lcom/example/kiriman/kiriman/route/Route;").before a0 Z = true := hw _ (tm (i := 151) rfl)
theorem tw152 {Z : State} {a0 : Array Value} (hw : TW Z a0) : (Jvm.Cond.fieldLink "com/example/kiriman/kiriman/route/Positions" (25 : Nat) "com/example/kiriman/kiriman/route/Positions" "indexes" "[I").before a0 Z = true := hw _ (tm (i := 152) rfl)
theorem tw153 {Z : State} {a0 : Array Value} (hw : TW Z a0) : (Jvm.Cond.laysFinal "com/example/kiriman/kiriman/route/Positions" "com/example/kiriman/kiriman/route/Positions" "indexes" "[I").before a0 Z = true := hw _ (tm (i := 153) rfl)
theorem tw154 {Z : State} {a0 : Array Value} (hw : TW Z a0) : (Jvm.Cond.arrayClass Jvm.ClassFile.FieldType.boolean).before a0 Z = true := hw _ (tm (i := 154) rfl)
theorem tw155 {Z : State} {a0 : Array Value} (hw : TW Z a0) : (Jvm.Cond.fieldLink "com/example/kiriman/kiriman/route/Positions" (28 : Nat) "com/example/kiriman/kiriman/route/Positions" "moved" "[Z").before a0 Z = true := hw _ (tm (i := 155) rfl)
theorem tw156 {Z : State} {a0 : Array Value} (hw : TW Z a0) : (Jvm.Cond.laysFinal "com/example/kiriman/kiriman/route/Positions" "com/example/kiriman/kiriman/route/Positions" "moved" "[Z").before a0 Z = true := hw _ (tm (i := 156) rfl)
theorem tw157 {Z : State} {a0 : Array Value} (hw : TW Z a0) : (Jvm.Cond.methodLink "com/example/kiriman/kiriman/route/PositionsKeepPinLaw" (26 : Nat) ({ cls := "com/example/kiriman/kiriman/route/Positions", name := "update", desc := "(Lcom/example/kiriman/kiriman/route/Route;I)V" } : Jvm.MethodName)).before a0 Z = true := hw _ (tm (i := 157) rfl)
theorem tw158 {Z : State} {a0 : Array Value} (hw : TW Z a0) : (Jvm.Cond.declares ({ cls := "com/example/kiriman/kiriman/route/Positions", name := "update", desc := "(Lcom/example/kiriman/kiriman/route/Route;I)V" } : Jvm.MethodName)).before a0 Z = true := hw _ (tm (i := 158) rfl)
theorem tw159 {Z : State} {a0 : Array Value} (hw : TW Z a0) : (Jvm.Cond.instanceMethod ({ cls := "com/example/kiriman/kiriman/route/Positions", name := "update", desc := "(Lcom/example/kiriman/kiriman/route/Route;I)V" } : Jvm.MethodName)).before a0 Z = true := hw _ (tm (i := 159) rfl)
theorem tw160 {Z : State} {a0 : Array Value} (hw : TW Z a0) : (Jvm.Cond.selects "com/example/kiriman/kiriman/route/Positions" ({ cls := "com/example/kiriman/kiriman/route/Positions", name := "update", desc := "(Lcom/example/kiriman/kiriman/route/Route;I)V" } : Jvm.MethodName) ({ cls := "com/example/kiriman/kiriman/route/Positions", name := "update", desc := "(Lcom/example/kiriman/kiriman/route/Route;I)V" } : Jvm.MethodName)).before a0 Z = true := hw _ (tm (i := 160) rfl)
theorem tw161 {Z : State} {a0 : Array Value} (hw : TW Z a0) : (Jvm.Cond.code ({ cls := "com/example/kiriman/kiriman/route/Positions", name := "update", desc := "(Lcom/example/kiriman/kiriman/route/Route;I)V" } : Jvm.MethodName) prog_27_method_4_code (4 : Nat) (Option.none : Option Jvm.ClassFile.FieldType)).before a0 Z = true := hw _ (tm (i := 161) rfl)
theorem tw162 {Z : State} {a0 : Array Value} (hw : TW Z a0) : (Jvm.Cond.methodLink "com/example/kiriman/kiriman/route/Positions" (32 : Nat) ({ cls := "com/example/kiriman/kiriman/route/Route", name := "size", desc := "()I" } : Jvm.MethodName)).before a0 Z = true := hw _ (tm (i := 162) rfl)
theorem tw163 {Z : State} {a0 : Array Value} (hw : TW Z a0) : (Jvm.Cond.declares ({ cls := "com/example/kiriman/kiriman/route/Route", name := "size", desc := "()I" } : Jvm.MethodName)).before a0 Z = true := hw _ (tm (i := 163) rfl)
theorem tw164 {Z : State} {a0 : Array Value} (hw : TW Z a0) : (Jvm.Cond.instanceMethod ({ cls := "com/example/kiriman/kiriman/route/Route", name := "size", desc := "()I" } : Jvm.MethodName)).before a0 Z = true := hw _ (tm (i := 164) rfl)
theorem tw165 {Z : State} {a0 : Array Value} (hw : TW Z a0) : (Jvm.Cond.selects "com/example/kiriman/kiriman/route/Route" ({ cls := "com/example/kiriman/kiriman/route/Route", name := "size", desc := "()I" } : Jvm.MethodName) ({ cls := "com/example/kiriman/kiriman/route/Route", name := "size", desc := "()I" } : Jvm.MethodName)).before a0 Z = true := hw _ (tm (i := 165) rfl)
theorem tw166 {Z : State} {a0 : Array Value} (hw : TW Z a0) : (Jvm.Cond.code ({ cls := "com/example/kiriman/kiriman/route/Route", name := "size", desc := "()I" } : Jvm.MethodName) prog_30_method_5_code (1 : Nat) (Option.some Jvm.ClassFile.FieldType.int)).before a0 Z = true := hw _ (tm (i := 166) rfl)
theorem tw167 {Z : State} {a0 : Array Value} (hw : TW Z a0) : (Jvm.Cond.methodLink "com/example/kiriman/kiriman/route/Positions" (36 : Nat) ({ cls := "com/example/kiriman/kiriman/route/Route", name := "visit", desc := "(I)I" } : Jvm.MethodName)).before a0 Z = true := hw _ (tm (i := 167) rfl)
theorem tw168 {Z : State} {a0 : Array Value} (hw : TW Z a0) : (Jvm.Cond.declares ({ cls := "com/example/kiriman/kiriman/route/Route", name := "visit", desc := "(I)I" } : Jvm.MethodName)).before a0 Z = true := hw _ (tm (i := 168) rfl)
theorem tw169 {Z : State} {a0 : Array Value} (hw : TW Z a0) : (Jvm.Cond.instanceMethod ({ cls := "com/example/kiriman/kiriman/route/Route", name := "visit", desc := "(I)I" } : Jvm.MethodName)).before a0 Z = true := hw _ (tm (i := 169) rfl)
theorem tw170 {Z : State} {a0 : Array Value} (hw : TW Z a0) : (Jvm.Cond.selects "com/example/kiriman/kiriman/route/Route" ({ cls := "com/example/kiriman/kiriman/route/Route", name := "visit", desc := "(I)I" } : Jvm.MethodName) ({ cls := "com/example/kiriman/kiriman/route/Route", name := "visit", desc := "(I)I" } : Jvm.MethodName)).before a0 Z = true := hw _ (tm (i := 170) rfl)
theorem tw171 {Z : State} {a0 : Array Value} (hw : TW Z a0) : (Jvm.Cond.code ({ cls := "com/example/kiriman/kiriman/route/Route", name := "visit", desc := "(I)I" } : Jvm.MethodName) prog_30_method_6_code (2 : Nat) (Option.some Jvm.ClassFile.FieldType.int)).before a0 Z = true := hw _ (tm (i := 171) rfl)
theorem tw172 {Z : State} {a0 : Array Value} (hw : TW Z a0) : (Jvm.Cond.methodLink "com/example/kiriman/kiriman/route/Positions" (40 : Nat) ({ cls := "com/example/kiriman/kiriman/route/Positions", name := "move", desc := "(ILcom/example/kiriman/kiriman/route/Route;I)V" } : Jvm.MethodName)).before a0 Z = true := hw _ (tm (i := 172) rfl)
theorem tw173 {Z : State} {a0 : Array Value} (hw : TW Z a0) : (Jvm.Cond.instanceMethod ({ cls := "com/example/kiriman/kiriman/route/Positions", name := "move", desc := "(ILcom/example/kiriman/kiriman/route/Route;I)V" } : Jvm.MethodName)).before a0 Z = true := hw _ (tm (i := 173) rfl)
theorem tw174 {Z : State} {a0 : Array Value} (hw : TW Z a0) : (Jvm.Cond.privateMethod ({ cls := "com/example/kiriman/kiriman/route/Positions", name := "move", desc := "(ILcom/example/kiriman/kiriman/route/Route;I)V" } : Jvm.MethodName)).before a0 Z = true := hw _ (tm (i := 174) rfl)
theorem tw175 {Z : State} {a0 : Array Value} (hw : TW Z a0) : (Jvm.Cond.code ({ cls := "com/example/kiriman/kiriman/route/Positions", name := "move", desc := "(ILcom/example/kiriman/kiriman/route/Route;I)V" } : Jvm.MethodName) prog_27_method_8_code (4 : Nat) (Option.none : Option Jvm.ClassFile.FieldType)).before a0 Z = true := hw _ (tm (i := 175) rfl)
theorem tw176 {Z : State} {a0 : Array Value} (hw : TW Z a0) : (Jvm.Cond.fieldLink "com/example/kiriman/kiriman/route/Positions" (44 : Nat) "com/example/kiriman/kiriman/route/Positions" "movedCount" "I").before a0 Z = true := hw _ (tm (i := 176) rfl)
theorem tw177 {Z : State} {a0 : Array Value} (hw : TW Z a0) : (Jvm.Cond.lays "com/example/kiriman/kiriman/route/Positions" "com/example/kiriman/kiriman/route/Positions" "movedCount" "I").before a0 Z = true := hw _ (tm (i := 177) rfl)
theorem tw179 {Z : State} {a0 : Array Value} (hw : TW Z a0) : (Jvm.Cond.methodLink "com/example/kiriman/kiriman/route/PositionsKeepPinLaw" (36 : Nat) ({ cls := "com/example/kiriman/kiriman/route/Positions", name := "undo", desc := "()V" } : Jvm.MethodName)).before a0 Z = true := hw _ (tm (i := 179) rfl)
theorem tw180 {Z : State} {a0 : Array Value} (hw : TW Z a0) : (Jvm.Cond.declares ({ cls := "com/example/kiriman/kiriman/route/Positions", name := "undo", desc := "()V" } : Jvm.MethodName)).before a0 Z = true := hw _ (tm (i := 180) rfl)
theorem tw181 {Z : State} {a0 : Array Value} (hw : TW Z a0) : (Jvm.Cond.instanceMethod ({ cls := "com/example/kiriman/kiriman/route/Positions", name := "undo", desc := "()V" } : Jvm.MethodName)).before a0 Z = true := hw _ (tm (i := 181) rfl)
theorem tw182 {Z : State} {a0 : Array Value} (hw : TW Z a0) : (Jvm.Cond.selects "com/example/kiriman/kiriman/route/Positions" ({ cls := "com/example/kiriman/kiriman/route/Positions", name := "undo", desc := "()V" } : Jvm.MethodName) ({ cls := "com/example/kiriman/kiriman/route/Positions", name := "undo", desc := "()V" } : Jvm.MethodName)).before a0 Z = true := hw _ (tm (i := 182) rfl)
theorem tw183 {Z : State} {a0 : Array Value} (hw : TW Z a0) : (Jvm.Cond.code ({ cls := "com/example/kiriman/kiriman/route/Positions", name := "undo", desc := "()V" } : Jvm.MethodName) prog_27_method_7_code (2 : Nat) (Option.none : Option Jvm.ClassFile.FieldType)).before a0 Z = true := hw _ (tm (i := 183) rfl)
theorem tw184 {Z : State} {a0 : Array Value} (hw : TW Z a0) : (Jvm.Cond.methodLink "com/example/kiriman/kiriman/route/Positions" (48 : Nat) ({ cls := "com/example/kiriman/kiriman/route/Positions", name := "keep", desc := "()V" } : Jvm.MethodName)).before a0 Z = true := hw _ (tm (i := 184) rfl)
theorem tw185 {Z : State} {a0 : Array Value} (hw : TW Z a0) : (Jvm.Cond.declares ({ cls := "com/example/kiriman/kiriman/route/Positions", name := "keep", desc := "()V" } : Jvm.MethodName)).before a0 Z = true := hw _ (tm (i := 185) rfl)
theorem tw186 {Z : State} {a0 : Array Value} (hw : TW Z a0) : (Jvm.Cond.instanceMethod ({ cls := "com/example/kiriman/kiriman/route/Positions", name := "keep", desc := "()V" } : Jvm.MethodName)).before a0 Z = true := hw _ (tm (i := 186) rfl)
theorem tw187 {Z : State} {a0 : Array Value} (hw : TW Z a0) : (Jvm.Cond.selects "com/example/kiriman/kiriman/route/Positions" ({ cls := "com/example/kiriman/kiriman/route/Positions", name := "keep", desc := "()V" } : Jvm.MethodName) ({ cls := "com/example/kiriman/kiriman/route/Positions", name := "keep", desc := "()V" } : Jvm.MethodName)).before a0 Z = true := hw _ (tm (i := 187) rfl)
theorem tw188 {Z : State} {a0 : Array Value} (hw : TW Z a0) : (Jvm.Cond.code ({ cls := "com/example/kiriman/kiriman/route/Positions", name := "keep", desc := "()V" } : Jvm.MethodName) prog_27_method_6_code (2 : Nat) (Option.none : Option Jvm.ClassFile.FieldType)).before a0 Z = true := hw _ (tm (i := 188) rfl)
theorem tw189 {Z : State} {a0 : Array Value} (hw : TW Z a0) : (Jvm.Cond.methodLink "com/example/kiriman/kiriman/route/PositionsKeepPinLaw" (39 : Nat) ({ cls := "com/example/kiriman/kiriman/route/Positions", name := "route", desc := "(I)Lcom/example/kiriman/kiriman/route/Route;" } : Jvm.MethodName)).before a0 Z = true := hw _ (tm (i := 189) rfl)
theorem tw190 {Z : State} {a0 : Array Value} (hw : TW Z a0) : (Jvm.Cond.declares ({ cls := "com/example/kiriman/kiriman/route/Positions", name := "route", desc := "(I)Lcom/example/kiriman/kiriman/route/Route;" } : Jvm.MethodName)).before a0 Z = true := hw _ (tm (i := 190) rfl)
theorem tw191 {Z : State} {a0 : Array Value} (hw : TW Z a0) : (Jvm.Cond.instanceMethod ({ cls := "com/example/kiriman/kiriman/route/Positions", name := "route", desc := "(I)Lcom/example/kiriman/kiriman/route/Route;" } : Jvm.MethodName)).before a0 Z = true := hw _ (tm (i := 191) rfl)
theorem tw192 {Z : State} {a0 : Array Value} (hw : TW Z a0) : (Jvm.Cond.selects "com/example/kiriman/kiriman/route/Positions" ({ cls := "com/example/kiriman/kiriman/route/Positions", name := "route", desc := "(I)Lcom/example/kiriman/kiriman/route/Route;" } : Jvm.MethodName) ({ cls := "com/example/kiriman/kiriman/route/Positions", name := "route", desc := "(I)Lcom/example/kiriman/kiriman/route/Route;" } : Jvm.MethodName)).before a0 Z = true := hw _ (tm (i := 192) rfl)
theorem tw193 {Z : State} {a0 : Array Value} (hw : TW Z a0) : (Jvm.Cond.code ({ cls := "com/example/kiriman/kiriman/route/Positions", name := "route", desc := "(I)Lcom/example/kiriman/kiriman/route/Route;" } : Jvm.MethodName) prog_27_method_2_code (2 : Nat) (Option.some (Jvm.ClassFile.FieldType.object "com/example/kiriman/kiriman/route/Route"))).before a0 Z = true := hw _ (tm (i := 193) rfl)
theorem tw194 {Z : State} {a0 : Array Value} (hw : TW Z a0) : (Jvm.Cond.methodLink "com/example/kiriman/kiriman/route/PositionsKeepPinLaw" (43 : Nat) ({ cls := "com/example/kiriman/kiriman/route/Positions", name := "index", desc := "(I)I" } : Jvm.MethodName)).before a0 Z = true := hw _ (tm (i := 194) rfl)
theorem tw195 {Z : State} {a0 : Array Value} (hw : TW Z a0) : (Jvm.Cond.declares ({ cls := "com/example/kiriman/kiriman/route/Positions", name := "index", desc := "(I)I" } : Jvm.MethodName)).before a0 Z = true := hw _ (tm (i := 195) rfl)
theorem tw196 {Z : State} {a0 : Array Value} (hw : TW Z a0) : (Jvm.Cond.instanceMethod ({ cls := "com/example/kiriman/kiriman/route/Positions", name := "index", desc := "(I)I" } : Jvm.MethodName)).before a0 Z = true := hw _ (tm (i := 196) rfl)
theorem tw197 {Z : State} {a0 : Array Value} (hw : TW Z a0) : (Jvm.Cond.selects "com/example/kiriman/kiriman/route/Positions" ({ cls := "com/example/kiriman/kiriman/route/Positions", name := "index", desc := "(I)I" } : Jvm.MethodName) ({ cls := "com/example/kiriman/kiriman/route/Positions", name := "index", desc := "(I)I" } : Jvm.MethodName)).before a0 Z = true := hw _ (tm (i := 197) rfl)
theorem tw198 {Z : State} {a0 : Array Value} (hw : TW Z a0) : (Jvm.Cond.code ({ cls := "com/example/kiriman/kiriman/route/Positions", name := "index", desc := "(I)I" } : Jvm.MethodName) prog_27_method_3_code (2 : Nat) (Option.some Jvm.ClassFile.FieldType.int)).before a0 Z = true := hw _ (tm (i := 198) rfl)
theorem tw199 {Z : State} {a0 : Array Value} (hw : TW Z a0) : (Jvm.Cond.methodLink "com/example/kiriman/kiriman/route/PositionsKeepPinLaw" (30 : Nat) ({ cls := "com/example/kiriman/kiriman/route/Positions", name := "keep", desc := "()V" } : Jvm.MethodName)).before a0 Z = true := hw _ (tm (i := 199) rfl)
theorem tw200 {Z : State} {a0 : Array Value} (hw : TW Z a0) : (Jvm.Cond.methodLink "com/example/kiriman/kiriman/route/PositionsKeepPinLaw" (33 : Nat) ({ cls := "com/example/kiriman/kiriman/route/Positions", name := "remove", desc := "(I)V" } : Jvm.MethodName)).before a0 Z = true := hw _ (tm (i := 200) rfl)
theorem tw201 {Z : State} {a0 : Array Value} (hw : TW Z a0) : (Jvm.Cond.declares ({ cls := "com/example/kiriman/kiriman/route/Positions", name := "remove", desc := "(I)V" } : Jvm.MethodName)).before a0 Z = true := hw _ (tm (i := 201) rfl)
theorem tw202 {Z : State} {a0 : Array Value} (hw : TW Z a0) : (Jvm.Cond.instanceMethod ({ cls := "com/example/kiriman/kiriman/route/Positions", name := "remove", desc := "(I)V" } : Jvm.MethodName)).before a0 Z = true := hw _ (tm (i := 202) rfl)
theorem tw203 {Z : State} {a0 : Array Value} (hw : TW Z a0) : (Jvm.Cond.selects "com/example/kiriman/kiriman/route/Positions" ({ cls := "com/example/kiriman/kiriman/route/Positions", name := "remove", desc := "(I)V" } : Jvm.MethodName) ({ cls := "com/example/kiriman/kiriman/route/Positions", name := "remove", desc := "(I)V" } : Jvm.MethodName)).before a0 Z = true := hw _ (tm (i := 203) rfl)
theorem tw204 {Z : State} {a0 : Array Value} (hw : TW Z a0) : (Jvm.Cond.code ({ cls := "com/example/kiriman/kiriman/route/Positions", name := "remove", desc := "(I)V" } : Jvm.MethodName) prog_27_method_5_code (2 : Nat) (Option.none : Option Jvm.ClassFile.FieldType)).before a0 Z = true := hw _ (tm (i := 204) rfl)
theorem pn0 : plainFor (⟨"java/lang/Math", "min", "(II)I"⟩ : MethodName) = true := Jvm.Free.JP.mathPlain rfl (by decide +kernel)
theorem d11_0 : decode jdk_29_method_69_code 0 = .ok (.iload_n 0, 1) := by decide +kernel
theorem d11_1 : decode jdk_29_method_69_code 1 = .ok (.iload_n 1, 1) := by decide +kernel
theorem d11_2 : decode jdk_29_method_69_code 2 = .ok (.if_icmp .gt 7, 3) := by decide +kernel
theorem d11_9 : decode jdk_29_method_69_code 9 = .ok (.iload_n 1, 1) := by decide +kernel
theorem d11_10 : decode jdk_29_method_69_code 10 = .ok (.ireturn, 1) := by decide +kernel
theorem d11_5 : decode jdk_29_method_69_code 5 = .ok (.iload_n 0, 1) := by decide +kernel
theorem d11_6 : decode jdk_29_method_69_code 6 = .ok (.goto 4, 3) := by decide +kernel
theorem pn1 : plainFor (⟨"java/lang/Math", "max", "(II)I"⟩ : MethodName) = true := Jvm.Free.JP.mathPlain rfl (by decide +kernel)
theorem d3_0 : decode jdk_29_method_65_code 0 = .ok (.iload_n 0, 1) := by decide +kernel
theorem d3_1 : decode jdk_29_method_65_code 1 = .ok (.iload_n 1, 1) := by decide +kernel
theorem d3_2 : decode jdk_29_method_65_code 2 = .ok (.if_icmp .lt 7, 3) := by decide +kernel
theorem d3_9 : decode jdk_29_method_65_code 9 = .ok (.iload_n 1, 1) := by decide +kernel
theorem d3_10 : decode jdk_29_method_65_code 10 = .ok (.ireturn, 1) := by decide +kernel
theorem d3_5 : decode jdk_29_method_65_code 5 = .ok (.iload_n 0, 1) := by decide +kernel
theorem d3_6 : decode jdk_29_method_65_code 6 = .ok (.goto 4, 3) := by decide +kernel
theorem pn2 : plainFor (⟨"java/util/Arrays", "fill", "([II)V"⟩ : MethodName) = true := plainFor_of_name (by first | (simp [plainName, overriddenIn]; done) | decide +kernel)
theorem d4_0 : decode jdk_65_method_103_code 0 = .ok (.iconst 0, 1) := by decide +kernel
theorem d4_1 : decode jdk_65_method_103_code 1 = .ok (.istore_n 2, 1) := by decide +kernel
theorem d4_2 : decode jdk_65_method_103_code 2 = .ok (.aload_n 0, 1) := by decide +kernel
theorem d4_3 : decode jdk_65_method_103_code 3 = .ok (.arraylength, 1) := by decide +kernel
theorem d4_4 : decode jdk_65_method_103_code 4 = .ok (.istore_n 3, 1) := by decide +kernel
theorem d4_5 : decode jdk_65_method_103_code 5 = .ok (.iload_n 2, 1) := by decide +kernel
theorem d4_6 : decode jdk_65_method_103_code 6 = .ok (.iload_n 3, 1) := by decide +kernel
theorem d4_7 : decode jdk_65_method_103_code 7 = .ok (.if_icmp .ge 13, 3) := by decide +kernel
theorem d4_10 : decode jdk_65_method_103_code 10 = .ok (.aload_n 0, 1) := by decide +kernel
theorem d4_11 : decode jdk_65_method_103_code 11 = .ok (.iload_n 2, 1) := by decide +kernel
theorem d4_12 : decode jdk_65_method_103_code 12 = .ok (.iload_n 1, 1) := by decide +kernel
theorem d4_13 : decode jdk_65_method_103_code 13 = .ok (.iastore, 1) := by decide +kernel
theorem d4_14 : decode jdk_65_method_103_code 14 = .ok (.iinc 2 1, 3) := by decide +kernel
theorem d4_17 : decode jdk_65_method_103_code 17 = .ok (.goto (-12), 3) := by decide +kernel
theorem d4_20 : decode jdk_65_method_103_code 20 = .ok (.return_, 1) := by decide +kernel
theorem pn3 : plainFor (⟨"com/example/kiriman/kiriman/route/Problem", "oneForEachCustomer", "(II)[I"⟩ : MethodName) = true := plainFor_of_name (by first | (simp [plainName, overriddenIn]; done) | decide +kernel)
theorem d2_0 : decode prog_29_method_6_code 0 = .ok (.iload_n 0, 1) := by decide +kernel
theorem d2_1 : decode prog_29_method_6_code 1 = .ok (.ifCond .ge 17, 3) := by decide +kernel
theorem d2_18 : decode prog_29_method_6_code 18 = .ok (.iconst 0, 1) := by decide +kernel
theorem d2_19 : decode prog_29_method_6_code 19 = .ok (.iload_n 1, 1) := by decide +kernel
theorem d2_20 : decode prog_29_method_6_code 20 = .ok (.iconst 1, 1) := by decide +kernel
theorem d2_21 : decode prog_29_method_6_code 21 = .ok (.isub, 1) := by decide +kernel
theorem d2_22 : decode prog_29_method_6_code 22 = .ok (.invokestatic 15, 3) := by decide +kernel
theorem pd4 : parseMethodDescriptor "(II)I" = some ⟨[.int, .int], some .int⟩ := by decide +kernel
theorem d2_25 : decode prog_29_method_6_code 25 = .ok (.newarray .int, 2) := by decide +kernel
theorem d2_27 : decode prog_29_method_6_code 27 = .ok (.astore_n 2, 1) := by decide +kernel
theorem d2_28 : decode prog_29_method_6_code 28 = .ok (.aload_n 2, 1) := by decide +kernel
theorem d2_29 : decode prog_29_method_6_code 29 = .ok (.iload_n 0, 1) := by decide +kernel
theorem d2_30 : decode prog_29_method_6_code 30 = .ok (.invokestatic 103, 3) := by decide +kernel
theorem pd5 : parseMethodDescriptor "([II)V" = some ⟨[(.array .int), .int], none⟩ := by decide +kernel
theorem d2_33 : decode prog_29_method_6_code 33 = .ok (.aload_n 2, 1) := by decide +kernel
theorem d2_34 : decode prog_29_method_6_code 34 = .ok (.areturn, 1) := by decide +kernel
theorem pn6 : plainFor (⟨"com/example/kiriman/kiriman/route/CostMatrix", "<init>", "(I[I)V"⟩ : MethodName) = true := plainFor_of_name (by first | (simp [plainName, overriddenIn]; done) | decide +kernel)
theorem d7_0 : decode prog_23_method_1_code 0 = .ok (.aload_n 0, 1) := by decide +kernel
theorem d7_1 : decode prog_23_method_1_code 1 = .ok (.invokespecial 1, 3) := by decide +kernel
theorem d7_4 : decode prog_23_method_1_code 4 = .ok (.aload_n 0, 1) := by decide +kernel
theorem d7_5 : decode prog_23_method_1_code 5 = .ok (.iload_n 1, 1) := by decide +kernel
theorem d7_6 : decode prog_23_method_1_code 6 = .ok (.putfield 7, 3) := by decide +kernel
theorem d7_9 : decode prog_23_method_1_code 9 = .ok (.aload_n 0, 1) := by decide +kernel
theorem d7_10 : decode prog_23_method_1_code 10 = .ok (.aload_n 2, 1) := by decide +kernel
theorem d7_11 : decode prog_23_method_1_code 11 = .ok (.putfield 13, 3) := by decide +kernel
theorem d7_14 : decode prog_23_method_1_code 14 = .ok (.return_, 1) := by decide +kernel
theorem pn7 : plainFor (⟨"com/example/kiriman/kiriman/route/CostMatrix", "nodes", "()I"⟩ : MethodName) = true := plainFor_of_name (by first | (simp [plainName, overriddenIn]; done) | decide +kernel)
theorem d10_0 : decode prog_23_method_2_code 0 = .ok (.aload_n 0, 1) := by decide +kernel
theorem d10_1 : decode prog_23_method_2_code 1 = .ok (.getfield 7, 3) := by decide +kernel
theorem d10_4 : decode prog_23_method_2_code 4 = .ok (.ireturn, 1) := by decide +kernel
theorem pn8 : plainFor (⟨"com/example/kiriman/kiriman/route/CostMatrix", "cost", "(II)I"⟩ : MethodName) = true := plainFor_of_name (by first | (simp [plainName, overriddenIn]; done) | decide +kernel)
theorem d15_0 : decode prog_23_method_3_code 0 = .ok (.aload_n 0, 1) := by decide +kernel
theorem d15_1 : decode prog_23_method_3_code 1 = .ok (.getfield 13, 3) := by decide +kernel
theorem d15_4 : decode prog_23_method_3_code 4 = .ok (.iload_n 1, 1) := by decide +kernel
theorem d15_5 : decode prog_23_method_3_code 5 = .ok (.aload_n 0, 1) := by decide +kernel
theorem d15_6 : decode prog_23_method_3_code 6 = .ok (.getfield 7, 3) := by decide +kernel
theorem d15_9 : decode prog_23_method_3_code 9 = .ok (.imul, 1) := by decide +kernel
theorem d15_10 : decode prog_23_method_3_code 10 = .ok (.iload_n 2, 1) := by decide +kernel
theorem d15_11 : decode prog_23_method_3_code 11 = .ok (.iadd, 1) := by decide +kernel
theorem d15_12 : decode prog_23_method_3_code 12 = .ok (.iaload, 1) := by decide +kernel
theorem d15_13 : decode prog_23_method_3_code 13 = .ok (.ireturn, 1) := by decide +kernel
theorem pn9 : plainFor (⟨"com/example/kiriman/kiriman/route/Problem", "matrix", "([I[I[I)Lcom/example/kiriman/kiriman/route/Costs;"⟩ : MethodName) = true := plainFor_of_name (by first | (simp [plainName, overriddenIn]; done) | decide +kernel)
theorem d6_0 : decode prog_29_method_5_code 0 = .ok (.aload_n 0, 1) := by decide +kernel
theorem d6_1 : decode prog_29_method_5_code 1 = .ok (.arraylength, 1) := by decide +kernel
theorem d6_2 : decode prog_29_method_5_code 2 = .ok (.istore_n 3, 1) := by decide +kernel
theorem d6_3 : decode prog_29_method_5_code 3 = .ok (.aload_n 1, 1) := by decide +kernel
theorem d6_4 : decode prog_29_method_5_code 4 = .ok (.arraylength, 1) := by decide +kernel
theorem d6_5 : decode prog_29_method_5_code 5 = .ok (.iload_n 3, 1) := by decide +kernel
theorem d6_6 : decode prog_29_method_5_code 6 = .ok (.if_icmp .ne 15, 3) := by decide +kernel
theorem d6_9 : decode prog_29_method_5_code 9 = .ok (.aload_n 2, 1) := by decide +kernel
theorem d6_10 : decode prog_29_method_5_code 10 = .ok (.arraylength, 1) := by decide +kernel
theorem d6_11 : decode prog_29_method_5_code 11 = .ok (.i2l, 1) := by decide +kernel
theorem d6_12 : decode prog_29_method_5_code 12 = .ok (.iload_n 3, 1) := by decide +kernel
theorem d6_13 : decode prog_29_method_5_code 13 = .ok (.i2l, 1) := by decide +kernel
theorem d6_14 : decode prog_29_method_5_code 14 = .ok (.iload_n 3, 1) := by decide +kernel
theorem d6_15 : decode prog_29_method_5_code 15 = .ok (.i2l, 1) := by decide +kernel
theorem d6_16 : decode prog_29_method_5_code 16 = .ok (.lmul, 1) := by decide +kernel
theorem d6_17 : decode prog_29_method_5_code 17 = .ok (.lcmp, 1) := by decide +kernel
theorem d6_18 : decode prog_29_method_5_code 18 = .ok (.ifCond .eq 30, 3) := by decide +kernel
theorem d6_48 : decode prog_29_method_5_code 48 = .ok (.new 98, 3) := by decide +kernel
theorem d6_51 : decode prog_29_method_5_code 51 = .ok (.dup, 1) := by decide +kernel
theorem d6_52 : decode prog_29_method_5_code 52 = .ok (.iload_n 3, 1) := by decide +kernel
theorem d6_53 : decode prog_29_method_5_code 53 = .ok (.aload_n 2, 1) := by decide +kernel
theorem d6_54 : decode prog_29_method_5_code 54 = .ok (.invokevirtual 64, 3) := by decide +kernel
theorem d6_57 : decode prog_29_method_5_code 57 = .ok (.checkcast 65, 3) := by decide +kernel
theorem d6_60 : decode prog_29_method_5_code 60 = .ok (.invokespecial 100, 3) := by decide +kernel
theorem pd10 : parseMethodDescriptor "(I[I)V" = some ⟨[.int, (.array .int)], none⟩ := by decide +kernel
theorem d6_63 : decode prog_29_method_5_code 63 = .ok (.areturn, 1) := by decide +kernel
theorem pn11 : plainFor (⟨"com/example/kiriman/kiriman/route/Problem", "<init>", "(I[I[I[ILcom/example/kiriman/kiriman/route/Costs;)V"⟩ : MethodName) = true := plainFor_of_name (by first | (simp [plainName, overriddenIn]; done) | decide +kernel)
theorem d9_0 : decode prog_29_method_3_code 0 = .ok (.aload_n 0, 1) := by decide +kernel
theorem d9_1 : decode prog_29_method_3_code 1 = .ok (.invokespecial 40, 3) := by decide +kernel
theorem d9_4 : decode prog_29_method_3_code 4 = .ok (.aload_n 3, 1) := by decide +kernel
theorem d9_5 : decode prog_29_method_3_code 5 = .ok (.arraylength, 1) := by decide +kernel
theorem d9_6 : decode prog_29_method_3_code 6 = .ok (.istore 6, 2) := by decide +kernel
theorem d9_8 : decode prog_29_method_3_code 8 = .ok (.aload 4, 2) := by decide +kernel
theorem d9_10 : decode prog_29_method_3_code 10 = .ok (.arraylength, 1) := by decide +kernel
theorem d9_11 : decode prog_29_method_3_code 11 = .ok (.iload 6, 2) := by decide +kernel
theorem d9_13 : decode prog_29_method_3_code 13 = .ok (.if_icmp .ne 15, 3) := by decide +kernel
theorem d9_16 : decode prog_29_method_3_code 16 = .ok (.aload 5, 2) := by decide +kernel
theorem d9_18 : decode prog_29_method_3_code 18 = .ok (.invokeinterface 45 1, 5) := by decide +kernel
theorem pd12 : parseMethodDescriptor "()I" = some ⟨[], some .int⟩ := by decide +kernel
theorem d9_23 : decode prog_29_method_3_code 23 = .ok (.iload 6, 2) := by decide +kernel
theorem d9_25 : decode prog_29_method_3_code 25 = .ok (.if_icmp .eq 37, 3) := by decide +kernel
theorem d9_62 : decode prog_29_method_3_code 62 = .ok (.iload_n 1, 1) := by decide +kernel
theorem d9_63 : decode prog_29_method_3_code 63 = .ok (.ifCond .lt 9, 3) := by decide +kernel
theorem d9_66 : decode prog_29_method_3_code 66 = .ok (.iload_n 1, 1) := by decide +kernel
theorem d9_67 : decode prog_29_method_3_code 67 = .ok (.iload 6, 2) := by decide +kernel
theorem d9_69 : decode prog_29_method_3_code 69 = .ok (.if_icmp .lt 19, 3) := by decide +kernel
theorem d9_88 : decode prog_29_method_3_code 88 = .ok (.aload_n 2, 1) := by decide +kernel
theorem d9_89 : decode prog_29_method_3_code 89 = .ok (.astore 7, 2) := by decide +kernel
theorem d9_91 : decode prog_29_method_3_code 91 = .ok (.aload 7, 2) := by decide +kernel
theorem d9_93 : decode prog_29_method_3_code 93 = .ok (.arraylength, 1) := by decide +kernel
theorem d9_94 : decode prog_29_method_3_code 94 = .ok (.istore 8, 2) := by decide +kernel
theorem d9_96 : decode prog_29_method_3_code 96 = .ok (.iconst 0, 1) := by decide +kernel
theorem d9_97 : decode prog_29_method_3_code 97 = .ok (.istore 9, 2) := by decide +kernel
theorem d9_99 : decode prog_29_method_3_code 99 = .ok (.iload 9, 2) := by decide +kernel
theorem d9_101 : decode prog_29_method_3_code 101 = .ok (.iload 8, 2) := by decide +kernel
theorem d9_103 : decode prog_29_method_3_code 103 = .ok (.if_icmp .ge 36, 3) := by decide +kernel
theorem d9_106 : decode prog_29_method_3_code 106 = .ok (.aload 7, 2) := by decide +kernel
theorem d9_108 : decode prog_29_method_3_code 108 = .ok (.iload 9, 2) := by decide +kernel
theorem d9_110 : decode prog_29_method_3_code 110 = .ok (.iaload, 1) := by decide +kernel
theorem d9_111 : decode prog_29_method_3_code 111 = .ok (.istore 10, 2) := by decide +kernel
theorem d9_113 : decode prog_29_method_3_code 113 = .ok (.iload 10, 2) := by decide +kernel
theorem d9_115 : decode prog_29_method_3_code 115 = .ok (.ifCond .ge 18, 3) := by decide +kernel
theorem d9_133 : decode prog_29_method_3_code 133 = .ok (.iinc 9 1, 3) := by decide +kernel
theorem d9_136 : decode prog_29_method_3_code 136 = .ok (.goto (-37), 3) := by decide +kernel
theorem d9_139 : decode prog_29_method_3_code 139 = .ok (.aload_n 3, 1) := by decide +kernel
theorem d9_140 : decode prog_29_method_3_code 140 = .ok (.iload_n 1, 1) := by decide +kernel
theorem d9_141 : decode prog_29_method_3_code 141 = .ok (.iaload, 1) := by decide +kernel
theorem d9_142 : decode prog_29_method_3_code 142 = .ok (.ifCond .ne 10, 3) := by decide +kernel
theorem d9_145 : decode prog_29_method_3_code 145 = .ok (.aload 4, 2) := by decide +kernel
theorem d9_147 : decode prog_29_method_3_code 147 = .ok (.iload_n 1, 1) := by decide +kernel
theorem d9_148 : decode prog_29_method_3_code 148 = .ok (.iaload, 1) := by decide +kernel
theorem d9_149 : decode prog_29_method_3_code 149 = .ok (.ifCond .eq 17, 3) := by decide +kernel
theorem d9_166 : decode prog_29_method_3_code 166 = .ok (.iconst 0, 1) := by decide +kernel
theorem d9_167 : decode prog_29_method_3_code 167 = .ok (.istore 7, 2) := by decide +kernel
theorem d9_169 : decode prog_29_method_3_code 169 = .ok (.iload 7, 2) := by decide +kernel
theorem d9_171 : decode prog_29_method_3_code 171 = .ok (.iload 6, 2) := by decide +kernel
theorem d9_173 : decode prog_29_method_3_code 173 = .ok (.if_icmp .ge 39, 3) := by decide +kernel
theorem d9_176 : decode prog_29_method_3_code 176 = .ok (.aload_n 3, 1) := by decide +kernel
theorem d9_177 : decode prog_29_method_3_code 177 = .ok (.iload 7, 2) := by decide +kernel
theorem d9_179 : decode prog_29_method_3_code 179 = .ok (.iaload, 1) := by decide +kernel
theorem d9_180 : decode prog_29_method_3_code 180 = .ok (.aload 4, 2) := by decide +kernel
theorem d9_182 : decode prog_29_method_3_code 182 = .ok (.iload 7, 2) := by decide +kernel
theorem d9_184 : decode prog_29_method_3_code 184 = .ok (.iaload, 1) := by decide +kernel
theorem d9_185 : decode prog_29_method_3_code 185 = .ok (.invokestatic 57, 3) := by decide +kernel
theorem d9_188 : decode prog_29_method_3_code 188 = .ok (.ifCond .ge 18, 3) := by decide +kernel
theorem d9_206 : decode prog_29_method_3_code 206 = .ok (.iinc 7 1, 3) := by decide +kernel
theorem d9_209 : decode prog_29_method_3_code 209 = .ok (.goto (-40), 3) := by decide +kernel
theorem d9_212 : decode prog_29_method_3_code 212 = .ok (.aload_n 0, 1) := by decide +kernel
theorem d9_213 : decode prog_29_method_3_code 213 = .ok (.iload 6, 2) := by decide +kernel
theorem d9_215 : decode prog_29_method_3_code 215 = .ok (.putfield 11, 3) := by decide +kernel
theorem d9_218 : decode prog_29_method_3_code 218 = .ok (.aload_n 0, 1) := by decide +kernel
theorem d9_219 : decode prog_29_method_3_code 219 = .ok (.iload_n 1, 1) := by decide +kernel
theorem d9_220 : decode prog_29_method_3_code 220 = .ok (.putfield 61, 3) := by decide +kernel
theorem d9_223 : decode prog_29_method_3_code 223 = .ok (.aload_n 0, 1) := by decide +kernel
theorem d9_224 : decode prog_29_method_3_code 224 = .ok (.aload_n 2, 1) := by decide +kernel
theorem d9_225 : decode prog_29_method_3_code 225 = .ok (.invokevirtual 64, 3) := by decide +kernel
theorem d9_228 : decode prog_29_method_3_code 228 = .ok (.checkcast 65, 3) := by decide +kernel
theorem d9_231 : decode prog_29_method_3_code 231 = .ok (.putfield 70, 3) := by decide +kernel
theorem d9_234 : decode prog_29_method_3_code 234 = .ok (.aload_n 0, 1) := by decide +kernel
theorem d9_235 : decode prog_29_method_3_code 235 = .ok (.aload_n 3, 1) := by decide +kernel
theorem d9_236 : decode prog_29_method_3_code 236 = .ok (.invokevirtual 64, 3) := by decide +kernel
theorem d9_239 : decode prog_29_method_3_code 239 = .ok (.checkcast 65, 3) := by decide +kernel
theorem d9_242 : decode prog_29_method_3_code 242 = .ok (.putfield 73, 3) := by decide +kernel
theorem d9_245 : decode prog_29_method_3_code 245 = .ok (.aload_n 0, 1) := by decide +kernel
theorem d9_246 : decode prog_29_method_3_code 246 = .ok (.aload 4, 2) := by decide +kernel
theorem d9_248 : decode prog_29_method_3_code 248 = .ok (.invokevirtual 64, 3) := by decide +kernel
theorem d9_251 : decode prog_29_method_3_code 251 = .ok (.checkcast 65, 3) := by decide +kernel
theorem d9_254 : decode prog_29_method_3_code 254 = .ok (.putfield 76, 3) := by decide +kernel
theorem d9_257 : decode prog_29_method_3_code 257 = .ok (.aload_n 0, 1) := by decide +kernel
theorem d9_258 : decode prog_29_method_3_code 258 = .ok (.aload 5, 2) := by decide +kernel
theorem d9_260 : decode prog_29_method_3_code 260 = .ok (.putfield 79, 3) := by decide +kernel
theorem d9_263 : decode prog_29_method_3_code 263 = .ok (.aload_n 0, 1) := by decide +kernel
theorem d9_264 : decode prog_29_method_3_code 264 = .ok (.iload 6, 2) := by decide +kernel
theorem d9_266 : decode prog_29_method_3_code 266 = .ok (.newarray .int, 2) := by decide +kernel
theorem d9_268 : decode prog_29_method_3_code 268 = .ok (.putfield 83, 3) := by decide +kernel
theorem d9_271 : decode prog_29_method_3_code 271 = .ok (.aload_n 0, 1) := by decide +kernel
theorem d9_272 : decode prog_29_method_3_code 272 = .ok (.ldc2_w 88, 3) := by decide +kernel
theorem d9_275 : decode prog_29_method_3_code 275 = .ok (.putfield 90, 3) := by decide +kernel
theorem d9_278 : decode prog_29_method_3_code 278 = .ok (.aload_n 0, 1) := by decide +kernel
theorem d9_279 : decode prog_29_method_3_code 279 = .ok (.ldc2_w 88, 3) := by decide +kernel
theorem d9_282 : decode prog_29_method_3_code 282 = .ok (.putfield 94, 3) := by decide +kernel
theorem d9_285 : decode prog_29_method_3_code 285 = .ok (.return_, 1) := by decide +kernel
theorem pn13 : plainFor (⟨"com/example/kiriman/kiriman/route/Problem", "<init>", "(I[I[I[I[I)V"⟩ : MethodName) = true := plainFor_of_name (by first | (simp [plainName, overriddenIn]; done) | decide +kernel)
theorem d5_0 : decode prog_29_method_2_code 0 = .ok (.aload_n 0, 1) := by decide +kernel
theorem d5_1 : decode prog_29_method_2_code 1 = .ok (.iload_n 1, 1) := by decide +kernel
theorem d5_2 : decode prog_29_method_2_code 2 = .ok (.aload_n 2, 1) := by decide +kernel
theorem d5_3 : decode prog_29_method_2_code 3 = .ok (.aload_n 3, 1) := by decide +kernel
theorem d5_4 : decode prog_29_method_2_code 4 = .ok (.aload 4, 2) := by decide +kernel
theorem d5_6 : decode prog_29_method_2_code 6 = .ok (.aload_n 3, 1) := by decide +kernel
theorem d5_7 : decode prog_29_method_2_code 7 = .ok (.aload 4, 2) := by decide +kernel
theorem d5_9 : decode prog_29_method_2_code 9 = .ok (.aload 5, 2) := by decide +kernel
theorem d5_11 : decode prog_29_method_2_code 11 = .ok (.invokestatic 30, 3) := by decide +kernel
theorem pd14 : parseMethodDescriptor "([I[I[I)Lcom/example/kiriman/kiriman/route/Costs;" = some ⟨[(.array .int), (.array .int), (.array .int)], some (.object "com/example/kiriman/kiriman/route/Costs")⟩ := by decide +kernel
theorem d5_14 : decode prog_29_method_2_code 14 = .ok (.invokespecial 34, 3) := by decide +kernel
theorem pd15 : parseMethodDescriptor "(I[I[I[ILcom/example/kiriman/kiriman/route/Costs;)V" = some ⟨[.int, (.array .int), (.array .int), (.array .int), (.object "com/example/kiriman/kiriman/route/Costs")], none⟩ := by decide +kernel
theorem d5_17 : decode prog_29_method_2_code 17 = .ok (.aload 5, 2) := by decide +kernel
theorem d5_19 : decode prog_29_method_2_code 19 = .ok (.astore 6, 2) := by decide +kernel
theorem d5_21 : decode prog_29_method_2_code 21 = .ok (.aload 6, 2) := by decide +kernel
theorem d5_23 : decode prog_29_method_2_code 23 = .ok (.arraylength, 1) := by decide +kernel
theorem d5_24 : decode prog_29_method_2_code 24 = .ok (.istore 7, 2) := by decide +kernel
theorem d5_26 : decode prog_29_method_2_code 26 = .ok (.iconst 0, 1) := by decide +kernel
theorem d5_27 : decode prog_29_method_2_code 27 = .ok (.istore 8, 2) := by decide +kernel
theorem d5_29 : decode prog_29_method_2_code 29 = .ok (.iload 8, 2) := by decide +kernel
theorem d5_31 : decode prog_29_method_2_code 31 = .ok (.iload 7, 2) := by decide +kernel
theorem d5_33 : decode prog_29_method_2_code 33 = .ok (.if_icmp .ge 36, 3) := by decide +kernel
theorem d5_36 : decode prog_29_method_2_code 36 = .ok (.aload 6, 2) := by decide +kernel
theorem d5_38 : decode prog_29_method_2_code 38 = .ok (.iload 8, 2) := by decide +kernel
theorem d5_40 : decode prog_29_method_2_code 40 = .ok (.iaload, 1) := by decide +kernel
theorem d5_41 : decode prog_29_method_2_code 41 = .ok (.istore 9, 2) := by decide +kernel
theorem d5_43 : decode prog_29_method_2_code 43 = .ok (.iload 9, 2) := by decide +kernel
theorem d5_45 : decode prog_29_method_2_code 45 = .ok (.ifCond .ge 18, 3) := by decide +kernel
theorem d5_63 : decode prog_29_method_2_code 63 = .ok (.iinc 8 1, 3) := by decide +kernel
theorem d5_66 : decode prog_29_method_2_code 66 = .ok (.goto (-37), 3) := by decide +kernel
theorem d5_69 : decode prog_29_method_2_code 69 = .ok (.return_, 1) := by decide +kernel
theorem pn16 : plainFor (⟨"com/example/kiriman/kiriman/route/Problem", "<init>", "(II[I[I[I)V"⟩ : MethodName) = true := plainFor_of_name (by first | (simp [plainName, overriddenIn]; done) | decide +kernel)
theorem d1_0 : decode prog_29_method_1_code 0 = .ok (.aload_n 0, 1) := by decide +kernel
theorem d1_1 : decode prog_29_method_1_code 1 = .ok (.iload_n 1, 1) := by decide +kernel
theorem d1_2 : decode prog_29_method_1_code 2 = .ok (.iload_n 2, 1) := by decide +kernel
theorem d1_3 : decode prog_29_method_1_code 3 = .ok (.aload_n 3, 1) := by decide +kernel
theorem d1_4 : decode prog_29_method_1_code 4 = .ok (.arraylength, 1) := by decide +kernel
theorem d1_5 : decode prog_29_method_1_code 5 = .ok (.invokestatic 1, 3) := by decide +kernel
theorem pd17 : parseMethodDescriptor "(II)[I" = some ⟨[.int, .int], some (.array .int)⟩ := by decide +kernel
theorem d1_8 : decode prog_29_method_1_code 8 = .ok (.aload_n 3, 1) := by decide +kernel
theorem d1_9 : decode prog_29_method_1_code 9 = .ok (.aload 4, 2) := by decide +kernel
theorem d1_11 : decode prog_29_method_1_code 11 = .ok (.aload 5, 2) := by decide +kernel
theorem d1_13 : decode prog_29_method_1_code 13 = .ok (.invokespecial 7, 3) := by decide +kernel
theorem pd18 : parseMethodDescriptor "(I[I[I[I[I)V" = some ⟨[.int, (.array .int), (.array .int), (.array .int), (.array .int)], none⟩ := by decide +kernel
theorem d1_16 : decode prog_29_method_1_code 16 = .ok (.iconst 0, 1) := by decide +kernel
theorem d1_17 : decode prog_29_method_1_code 17 = .ok (.istore 6, 2) := by decide +kernel
theorem d1_19 : decode prog_29_method_1_code 19 = .ok (.iload 6, 2) := by decide +kernel
theorem d1_21 : decode prog_29_method_1_code 21 = .ok (.aload_n 0, 1) := by decide +kernel
theorem d1_22 : decode prog_29_method_1_code 22 = .ok (.getfield 11, 3) := by decide +kernel
theorem d1_25 : decode prog_29_method_1_code 25 = .ok (.if_icmp .ge 41, 3) := by decide +kernel
theorem d1_28 : decode prog_29_method_1_code 28 = .ok (.aload_n 3, 1) := by decide +kernel
theorem d1_29 : decode prog_29_method_1_code 29 = .ok (.iload 6, 2) := by decide +kernel
theorem d1_31 : decode prog_29_method_1_code 31 = .ok (.iaload, 1) := by decide +kernel
theorem d1_32 : decode prog_29_method_1_code 32 = .ok (.aload 4, 2) := by decide +kernel
theorem d1_34 : decode prog_29_method_1_code 34 = .ok (.iload 6, 2) := by decide +kernel
theorem d1_36 : decode prog_29_method_1_code 36 = .ok (.iaload, 1) := by decide +kernel
theorem d1_37 : decode prog_29_method_1_code 37 = .ok (.invokestatic 15, 3) := by decide +kernel
theorem d1_40 : decode prog_29_method_1_code 40 = .ok (.iload_n 2, 1) := by decide +kernel
theorem d1_41 : decode prog_29_method_1_code 41 = .ok (.if_icmp .le 19, 3) := by decide +kernel
theorem d1_60 : decode prog_29_method_1_code 60 = .ok (.iinc 6 1, 3) := by decide +kernel
theorem d1_63 : decode prog_29_method_1_code 63 = .ok (.goto (-44), 3) := by decide +kernel
theorem d1_66 : decode prog_29_method_1_code 66 = .ok (.return_, 1) := by decide +kernel
theorem pn19 : plainFor (⟨"com/example/kiriman/kiriman/route/Problem", "depot", "()I"⟩ : MethodName) = true := plainFor_of_name (by first | (simp [plainName, overriddenIn]; done) | decide +kernel)
theorem d13_0 : decode prog_29_method_9_code 0 = .ok (.aload_n 0, 1) := by decide +kernel
theorem d13_1 : decode prog_29_method_9_code 1 = .ok (.getfield 61, 3) := by decide +kernel
theorem d13_4 : decode prog_29_method_9_code 4 = .ok (.ireturn, 1) := by decide +kernel
theorem pn20 : plainFor (⟨"com/example/kiriman/kiriman/route/Problem", "cost", "(II)I"⟩ : MethodName) = true := plainFor_of_name (by first | (simp [plainName, overriddenIn]; done) | decide +kernel)
theorem d14_0 : decode prog_29_method_14_code 0 = .ok (.aload_n 0, 1) := by decide +kernel
theorem d14_1 : decode prog_29_method_14_code 1 = .ok (.getfield 79, 3) := by decide +kernel
theorem d14_4 : decode prog_29_method_14_code 4 = .ok (.iload_n 1, 1) := by decide +kernel
theorem d14_5 : decode prog_29_method_14_code 5 = .ok (.iload_n 2, 1) := by decide +kernel
theorem d14_6 : decode prog_29_method_14_code 6 = .ok (.invokeinterface 117 3, 5) := by decide +kernel
theorem d14_11 : decode prog_29_method_14_code 11 = .ok (.ireturn, 1) := by decide +kernel
theorem pn21 : plainFor (⟨"com/example/kiriman/kiriman/route/Route", "<init>", "(Lcom/example/kiriman/kiriman/route/Problem;I)V"⟩ : MethodName) = true := plainFor_of_name (by first | (simp [plainName, overriddenIn]; done) | decide +kernel)
theorem d12_0 : decode prog_30_method_1_code 0 = .ok (.aload_n 0, 1) := by decide +kernel
theorem d12_1 : decode prog_30_method_1_code 1 = .ok (.invokespecial 1, 3) := by decide +kernel
theorem d12_4 : decode prog_30_method_1_code 4 = .ok (.aload_n 0, 1) := by decide +kernel
theorem d12_5 : decode prog_30_method_1_code 5 = .ok (.iconst 1, 1) := by decide +kernel
theorem d12_6 : decode prog_30_method_1_code 6 = .ok (.putfield 7, 3) := by decide +kernel
theorem d12_9 : decode prog_30_method_1_code 9 = .ok (.aload_n 0, 1) := by decide +kernel
theorem d12_10 : decode prog_30_method_1_code 10 = .ok (.aload_n 1, 1) := by decide +kernel
theorem d12_11 : decode prog_30_method_1_code 11 = .ok (.putfield 13, 3) := by decide +kernel
theorem d12_14 : decode prog_30_method_1_code 14 = .ok (.aload_n 0, 1) := by decide +kernel
theorem d12_15 : decode prog_30_method_1_code 15 = .ok (.iload_n 2, 1) := by decide +kernel
theorem d12_16 : decode prog_30_method_1_code 16 = .ok (.putfield 17, 3) := by decide +kernel
theorem d12_19 : decode prog_30_method_1_code 19 = .ok (.aload_n 0, 1) := by decide +kernel
theorem d12_20 : decode prog_30_method_1_code 20 = .ok (.bipush 8, 2) := by decide +kernel
theorem d12_22 : decode prog_30_method_1_code 22 = .ok (.newarray .int, 2) := by decide +kernel
theorem d12_24 : decode prog_30_method_1_code 24 = .ok (.putfield 21, 3) := by decide +kernel
theorem d12_27 : decode prog_30_method_1_code 27 = .ok (.aload_n 0, 1) := by decide +kernel
theorem d12_28 : decode prog_30_method_1_code 28 = .ok (.aload_n 0, 1) := by decide +kernel
theorem d12_29 : decode prog_30_method_1_code 29 = .ok (.getfield 21, 3) := by decide +kernel
theorem d12_32 : decode prog_30_method_1_code 32 = .ok (.arraylength, 1) := by decide +kernel
theorem d12_33 : decode prog_30_method_1_code 33 = .ok (.iconst 1, 1) := by decide +kernel
theorem d12_34 : decode prog_30_method_1_code 34 = .ok (.iadd, 1) := by decide +kernel
theorem d12_35 : decode prog_30_method_1_code 35 = .ok (.newarray .int, 2) := by decide +kernel
theorem d12_37 : decode prog_30_method_1_code 37 = .ok (.putfield 25, 3) := by decide +kernel
theorem d12_40 : decode prog_30_method_1_code 40 = .ok (.aload_n 0, 1) := by decide +kernel
theorem d12_41 : decode prog_30_method_1_code 41 = .ok (.getfield 25, 3) := by decide +kernel
theorem d12_44 : decode prog_30_method_1_code 44 = .ok (.iconst 0, 1) := by decide +kernel
theorem d12_45 : decode prog_30_method_1_code 45 = .ok (.aload_n 1, 1) := by decide +kernel
theorem d12_46 : decode prog_30_method_1_code 46 = .ok (.aload_n 1, 1) := by decide +kernel
theorem d12_47 : decode prog_30_method_1_code 47 = .ok (.invokevirtual 28, 3) := by decide +kernel
theorem d12_50 : decode prog_30_method_1_code 50 = .ok (.aload_n 1, 1) := by decide +kernel
theorem d12_51 : decode prog_30_method_1_code 51 = .ok (.invokevirtual 28, 3) := by decide +kernel
theorem d12_54 : decode prog_30_method_1_code 54 = .ok (.invokevirtual 34, 3) := by decide +kernel
theorem d12_57 : decode prog_30_method_1_code 57 = .ok (.iastore, 1) := by decide +kernel
theorem d12_58 : decode prog_30_method_1_code 58 = .ok (.return_, 1) := by decide +kernel
theorem pn22 : plainFor (⟨"com/example/kiriman/kiriman/route/Route", "before", "(I)I"⟩ : MethodName) = true := plainFor_of_name (by first | (simp [plainName, overriddenIn]; done) | decide +kernel)
theorem d17_0 : decode prog_30_method_11_code 0 = .ok (.iload_n 1, 1) := by decide +kernel
theorem d17_1 : decode prog_30_method_11_code 1 = .ok (.ifCond .ne 13, 3) := by decide +kernel
theorem d17_4 : decode prog_30_method_11_code 4 = .ok (.aload_n 0, 1) := by decide +kernel
theorem d17_5 : decode prog_30_method_11_code 5 = .ok (.getfield 13, 3) := by decide +kernel
theorem d17_8 : decode prog_30_method_11_code 8 = .ok (.invokevirtual 28, 3) := by decide +kernel
theorem d17_11 : decode prog_30_method_11_code 11 = .ok (.goto 11, 3) := by decide +kernel
theorem d17_22 : decode prog_30_method_11_code 22 = .ok (.ireturn, 1) := by decide +kernel
theorem pn23 : plainFor (⟨"com/example/kiriman/kiriman/route/Route", "after", "(I)I"⟩ : MethodName) = true := plainFor_of_name (by first | (simp [plainName, overriddenIn]; done) | decide +kernel)
theorem d18_0 : decode prog_30_method_12_code 0 = .ok (.iload_n 1, 1) := by decide +kernel
theorem d18_1 : decode prog_30_method_12_code 1 = .ok (.aload_n 0, 1) := by decide +kernel
theorem d18_2 : decode prog_30_method_12_code 2 = .ok (.getfield 38, 3) := by decide +kernel
theorem d18_5 : decode prog_30_method_12_code 5 = .ok (.if_icmp .ne 13, 3) := by decide +kernel
theorem d18_8 : decode prog_30_method_12_code 8 = .ok (.aload_n 0, 1) := by decide +kernel
theorem d18_9 : decode prog_30_method_12_code 9 = .ok (.getfield 13, 3) := by decide +kernel
theorem d18_12 : decode prog_30_method_12_code 12 = .ok (.invokevirtual 28, 3) := by decide +kernel
theorem d18_15 : decode prog_30_method_12_code 15 = .ok (.goto 9, 3) := by decide +kernel
theorem d18_24 : decode prog_30_method_12_code 24 = .ok (.ireturn, 1) := by decide +kernel
theorem d17_14 : decode prog_30_method_11_code 14 = .ok (.aload_n 0, 1) := by decide +kernel
theorem d17_15 : decode prog_30_method_11_code 15 = .ok (.getfield 21, 3) := by decide +kernel
theorem d17_18 : decode prog_30_method_11_code 18 = .ok (.iload_n 1, 1) := by decide +kernel
theorem d17_19 : decode prog_30_method_11_code 19 = .ok (.iconst 1, 1) := by decide +kernel
theorem d17_20 : decode prog_30_method_11_code 20 = .ok (.isub, 1) := by decide +kernel
theorem d17_21 : decode prog_30_method_11_code 21 = .ok (.iaload, 1) := by decide +kernel
theorem pn24 : plainFor (⟨"com/example/kiriman/kiriman/route/Route", "insert", "(II)V"⟩ : MethodName) = true := plainFor_of_name (by first | (simp [plainName, overriddenIn]; done) | decide +kernel)
theorem d16_0 : decode prog_30_method_7_code 0 = .ok (.aload_n 0, 1) := by decide +kernel
theorem d16_1 : decode prog_30_method_7_code 1 = .ok (.getfield 38, 3) := by decide +kernel
theorem d16_4 : decode prog_30_method_7_code 4 = .ok (.aload_n 0, 1) := by decide +kernel
theorem d16_5 : decode prog_30_method_7_code 5 = .ok (.getfield 21, 3) := by decide +kernel
theorem d16_8 : decode prog_30_method_7_code 8 = .ok (.arraylength, 1) := by decide +kernel
theorem d16_9 : decode prog_30_method_7_code 9 = .ok (.if_icmp .ne 38, 3) := by decide +kernel
theorem d16_47 : decode prog_30_method_7_code 47 = .ok (.aload_n 0, 1) := by decide +kernel
theorem d16_48 : decode prog_30_method_7_code 48 = .ok (.iload_n 1, 1) := by decide +kernel
theorem d16_49 : decode prog_30_method_7_code 49 = .ok (.invokevirtual 55, 3) := by decide +kernel
theorem pd25 : parseMethodDescriptor "(I)I" = some ⟨[.int], some .int⟩ := by decide +kernel
theorem d16_52 : decode prog_30_method_7_code 52 = .ok (.istore_n 3, 1) := by decide +kernel
theorem d16_53 : decode prog_30_method_7_code 53 = .ok (.aload_n 0, 1) := by decide +kernel
theorem d16_54 : decode prog_30_method_7_code 54 = .ok (.iload_n 1, 1) := by decide +kernel
theorem d16_55 : decode prog_30_method_7_code 55 = .ok (.invokevirtual 59, 3) := by decide +kernel
theorem d16_58 : decode prog_30_method_7_code 58 = .ok (.istore 4, 2) := by decide +kernel
theorem d16_60 : decode prog_30_method_7_code 60 = .ok (.aload_n 0, 1) := by decide +kernel
theorem d16_61 : decode prog_30_method_7_code 61 = .ok (.getfield 25, 3) := by decide +kernel
theorem d16_64 : decode prog_30_method_7_code 64 = .ok (.iload_n 1, 1) := by decide +kernel
theorem d16_65 : decode prog_30_method_7_code 65 = .ok (.iconst 1, 1) := by decide +kernel
theorem d16_66 : decode prog_30_method_7_code 66 = .ok (.iadd, 1) := by decide +kernel
theorem d16_67 : decode prog_30_method_7_code 67 = .ok (.aload_n 0, 1) := by decide +kernel
theorem d16_68 : decode prog_30_method_7_code 68 = .ok (.getfield 25, 3) := by decide +kernel
theorem d16_71 : decode prog_30_method_7_code 71 = .ok (.iload_n 1, 1) := by decide +kernel
theorem d16_72 : decode prog_30_method_7_code 72 = .ok (.iconst 2, 1) := by decide +kernel
theorem d16_73 : decode prog_30_method_7_code 73 = .ok (.iadd, 1) := by decide +kernel
theorem d16_74 : decode prog_30_method_7_code 74 = .ok (.aload_n 0, 1) := by decide +kernel
theorem d16_75 : decode prog_30_method_7_code 75 = .ok (.getfield 38, 3) := by decide +kernel
theorem d16_78 : decode prog_30_method_7_code 78 = .ok (.iload_n 1, 1) := by decide +kernel
theorem d16_79 : decode prog_30_method_7_code 79 = .ok (.isub, 1) := by decide +kernel
theorem d16_80 : decode prog_30_method_7_code 80 = .ok (.invokestatic 62, 3) := by decide +kernel
theorem d16_83 : decode prog_30_method_7_code 83 = .ok (.aload_n 0, 1) := by decide +kernel
theorem d16_84 : decode prog_30_method_7_code 84 = .ok (.getfield 25, 3) := by decide +kernel
theorem d16_87 : decode prog_30_method_7_code 87 = .ok (.iload_n 1, 1) := by decide +kernel
theorem d16_88 : decode prog_30_method_7_code 88 = .ok (.aload_n 0, 1) := by decide +kernel
theorem d16_89 : decode prog_30_method_7_code 89 = .ok (.getfield 13, 3) := by decide +kernel
theorem d16_92 : decode prog_30_method_7_code 92 = .ok (.iload_n 3, 1) := by decide +kernel
theorem d16_93 : decode prog_30_method_7_code 93 = .ok (.iload_n 2, 1) := by decide +kernel
theorem d16_94 : decode prog_30_method_7_code 94 = .ok (.invokevirtual 34, 3) := by decide +kernel
theorem d16_97 : decode prog_30_method_7_code 97 = .ok (.iastore, 1) := by decide +kernel
theorem d16_98 : decode prog_30_method_7_code 98 = .ok (.aload_n 0, 1) := by decide +kernel
theorem d16_99 : decode prog_30_method_7_code 99 = .ok (.getfield 25, 3) := by decide +kernel
theorem d16_102 : decode prog_30_method_7_code 102 = .ok (.iload_n 1, 1) := by decide +kernel
theorem d16_103 : decode prog_30_method_7_code 103 = .ok (.iconst 1, 1) := by decide +kernel
theorem d16_104 : decode prog_30_method_7_code 104 = .ok (.iadd, 1) := by decide +kernel
theorem d16_105 : decode prog_30_method_7_code 105 = .ok (.aload_n 0, 1) := by decide +kernel
theorem d16_106 : decode prog_30_method_7_code 106 = .ok (.getfield 13, 3) := by decide +kernel
theorem d16_109 : decode prog_30_method_7_code 109 = .ok (.iload_n 2, 1) := by decide +kernel
theorem d16_110 : decode prog_30_method_7_code 110 = .ok (.iload 4, 2) := by decide +kernel
theorem d16_112 : decode prog_30_method_7_code 112 = .ok (.invokevirtual 34, 3) := by decide +kernel
theorem d16_115 : decode prog_30_method_7_code 115 = .ok (.iastore, 1) := by decide +kernel
theorem d16_116 : decode prog_30_method_7_code 116 = .ok (.aload_n 0, 1) := by decide +kernel
theorem d16_117 : decode prog_30_method_7_code 117 = .ok (.getfield 21, 3) := by decide +kernel
theorem d16_120 : decode prog_30_method_7_code 120 = .ok (.iload_n 1, 1) := by decide +kernel
theorem d16_121 : decode prog_30_method_7_code 121 = .ok (.aload_n 0, 1) := by decide +kernel
theorem d16_122 : decode prog_30_method_7_code 122 = .ok (.getfield 21, 3) := by decide +kernel
theorem d16_125 : decode prog_30_method_7_code 125 = .ok (.iload_n 1, 1) := by decide +kernel
theorem d16_126 : decode prog_30_method_7_code 126 = .ok (.iconst 1, 1) := by decide +kernel
theorem d16_127 : decode prog_30_method_7_code 127 = .ok (.iadd, 1) := by decide +kernel
theorem d16_128 : decode prog_30_method_7_code 128 = .ok (.aload_n 0, 1) := by decide +kernel
theorem d16_129 : decode prog_30_method_7_code 129 = .ok (.getfield 38, 3) := by decide +kernel
theorem d16_132 : decode prog_30_method_7_code 132 = .ok (.iload_n 1, 1) := by decide +kernel
theorem d16_133 : decode prog_30_method_7_code 133 = .ok (.isub, 1) := by decide +kernel
theorem d16_134 : decode prog_30_method_7_code 134 = .ok (.invokestatic 62, 3) := by decide +kernel
theorem d16_137 : decode prog_30_method_7_code 137 = .ok (.aload_n 0, 1) := by decide +kernel
theorem d16_138 : decode prog_30_method_7_code 138 = .ok (.getfield 21, 3) := by decide +kernel
theorem d16_141 : decode prog_30_method_7_code 141 = .ok (.iload_n 1, 1) := by decide +kernel
theorem d16_142 : decode prog_30_method_7_code 142 = .ok (.iload_n 2, 1) := by decide +kernel
theorem d16_143 : decode prog_30_method_7_code 143 = .ok (.iastore, 1) := by decide +kernel
theorem d16_144 : decode prog_30_method_7_code 144 = .ok (.aload_n 0, 1) := by decide +kernel
theorem d16_145 : decode prog_30_method_7_code 145 = .ok (.dup, 1) := by decide +kernel
theorem d16_146 : decode prog_30_method_7_code 146 = .ok (.getfield 38, 3) := by decide +kernel
theorem d16_149 : decode prog_30_method_7_code 149 = .ok (.iconst 1, 1) := by decide +kernel
theorem d16_150 : decode prog_30_method_7_code 150 = .ok (.iadd, 1) := by decide +kernel
theorem d16_151 : decode prog_30_method_7_code 151 = .ok (.putfield 38, 3) := by decide +kernel
theorem d16_154 : decode prog_30_method_7_code 154 = .ok (.aload_n 0, 1) := by decide +kernel
theorem d16_155 : decode prog_30_method_7_code 155 = .ok (.iconst 1, 1) := by decide +kernel
theorem d16_156 : decode prog_30_method_7_code 156 = .ok (.putfield 7, 3) := by decide +kernel
theorem d16_159 : decode prog_30_method_7_code 159 = .ok (.return_, 1) := by decide +kernel
theorem pn26 : plainFor (⟨"com/example/kiriman/kiriman/route/Positions", "<init>", "(I)V"⟩ : MethodName) = true := plainFor_of_name (by first | (simp [plainName, overriddenIn]; done) | decide +kernel)
theorem d19_0 : decode prog_27_method_1_code 0 = .ok (.aload_n 0, 1) := by decide +kernel
theorem d19_1 : decode prog_27_method_1_code 1 = .ok (.invokespecial 1, 3) := by decide +kernel
theorem d19_4 : decode prog_27_method_1_code 4 = .ok (.aload_n 0, 1) := by decide +kernel
theorem d19_5 : decode prog_27_method_1_code 5 = .ok (.bipush 64, 2) := by decide +kernel
theorem d19_7 : decode prog_27_method_1_code 7 = .ok (.newarray .int, 2) := by decide +kernel
theorem d19_9 : decode prog_27_method_1_code 9 = .ok (.putfield 7, 3) := by decide +kernel
theorem d19_12 : decode prog_27_method_1_code 12 = .ok (.aload_n 0, 1) := by decide +kernel
theorem d19_13 : decode prog_27_method_1_code 13 = .ok (.bipush 64, 2) := by decide +kernel
theorem d19_15 : decode prog_27_method_1_code 15 = .ok (.anewarray 13, 3) := by decide +kernel
theorem d19_18 : decode prog_27_method_1_code 18 = .ok (.putfield 15, 3) := by decide +kernel
theorem d19_21 : decode prog_27_method_1_code 21 = .ok (.aload_n 0, 1) := by decide +kernel
theorem d19_22 : decode prog_27_method_1_code 22 = .ok (.bipush 64, 2) := by decide +kernel
theorem d19_24 : decode prog_27_method_1_code 24 = .ok (.newarray .int, 2) := by decide +kernel
theorem d19_26 : decode prog_27_method_1_code 26 = .ok (.putfield 19, 3) := by decide +kernel
theorem d19_29 : decode prog_27_method_1_code 29 = .ok (.aload_n 0, 1) := by decide +kernel
theorem d19_30 : decode prog_27_method_1_code 30 = .ok (.iload_n 1, 1) := by decide +kernel
theorem d19_31 : decode prog_27_method_1_code 31 = .ok (.anewarray 13, 3) := by decide +kernel
theorem d19_34 : decode prog_27_method_1_code 34 = .ok (.putfield 22, 3) := by decide +kernel
theorem d19_37 : decode prog_27_method_1_code 37 = .ok (.aload_n 0, 1) := by decide +kernel
theorem d19_38 : decode prog_27_method_1_code 38 = .ok (.iload_n 1, 1) := by decide +kernel
theorem d19_39 : decode prog_27_method_1_code 39 = .ok (.newarray .int, 2) := by decide +kernel
theorem d19_41 : decode prog_27_method_1_code 41 = .ok (.putfield 25, 3) := by decide +kernel
theorem d19_44 : decode prog_27_method_1_code 44 = .ok (.aload_n 0, 1) := by decide +kernel
theorem d19_45 : decode prog_27_method_1_code 45 = .ok (.iload_n 1, 1) := by decide +kernel
theorem d19_46 : decode prog_27_method_1_code 46 = .ok (.newarray .boolean, 2) := by decide +kernel
theorem d19_48 : decode prog_27_method_1_code 48 = .ok (.putfield 28, 3) := by decide +kernel
theorem d19_51 : decode prog_27_method_1_code 51 = .ok (.return_, 1) := by decide +kernel
theorem pn27 : plainFor (⟨"com/example/kiriman/kiriman/route/Positions", "move", "(ILcom/example/kiriman/kiriman/route/Route;I)V"⟩ : MethodName) = true := plainFor_of_name (by first | (simp [plainName, overriddenIn]; done) | decide +kernel)
theorem d23_0 : decode prog_27_method_8_code 0 = .ok (.aload_n 0, 1) := by decide +kernel
theorem d23_1 : decode prog_27_method_8_code 1 = .ok (.getfield 28, 3) := by decide +kernel
theorem d23_4 : decode prog_27_method_8_code 4 = .ok (.iload_n 1, 1) := by decide +kernel
theorem d23_5 : decode prog_27_method_8_code 5 = .ok (.baload, 1) := by decide +kernel
theorem d23_6 : decode prog_27_method_8_code 6 = .ok (.ifCond .ne 126, 3) := by decide +kernel
theorem d23_9 : decode prog_27_method_8_code 9 = .ok (.aload_n 0, 1) := by decide +kernel
theorem d23_10 : decode prog_27_method_8_code 10 = .ok (.getfield 44, 3) := by decide +kernel
theorem d23_13 : decode prog_27_method_8_code 13 = .ok (.aload_n 0, 1) := by decide +kernel
theorem d23_14 : decode prog_27_method_8_code 14 = .ok (.getfield 7, 3) := by decide +kernel
theorem d23_17 : decode prog_27_method_8_code 17 = .ok (.arraylength, 1) := by decide +kernel
theorem d23_18 : decode prog_27_method_8_code 18 = .ok (.if_icmp .ne 57, 3) := by decide +kernel
theorem d23_75 : decode prog_27_method_8_code 75 = .ok (.aload_n 0, 1) := by decide +kernel
theorem d23_76 : decode prog_27_method_8_code 76 = .ok (.getfield 7, 3) := by decide +kernel
theorem d23_79 : decode prog_27_method_8_code 79 = .ok (.aload_n 0, 1) := by decide +kernel
theorem d23_80 : decode prog_27_method_8_code 80 = .ok (.getfield 44, 3) := by decide +kernel
theorem d23_83 : decode prog_27_method_8_code 83 = .ok (.iload_n 1, 1) := by decide +kernel
theorem d23_84 : decode prog_27_method_8_code 84 = .ok (.iastore, 1) := by decide +kernel
theorem d23_85 : decode prog_27_method_8_code 85 = .ok (.aload_n 0, 1) := by decide +kernel
theorem d23_86 : decode prog_27_method_8_code 86 = .ok (.getfield 15, 3) := by decide +kernel
theorem d23_89 : decode prog_27_method_8_code 89 = .ok (.aload_n 0, 1) := by decide +kernel
theorem d23_90 : decode prog_27_method_8_code 90 = .ok (.getfield 44, 3) := by decide +kernel
theorem d23_93 : decode prog_27_method_8_code 93 = .ok (.aload_n 0, 1) := by decide +kernel
theorem d23_94 : decode prog_27_method_8_code 94 = .ok (.getfield 22, 3) := by decide +kernel
theorem d23_97 : decode prog_27_method_8_code 97 = .ok (.iload_n 1, 1) := by decide +kernel
theorem d23_98 : decode prog_27_method_8_code 98 = .ok (.aaload, 1) := by decide +kernel
theorem d23_99 : decode prog_27_method_8_code 99 = .ok (.aastore, 1) := by decide +kernel
theorem d23_100 : decode prog_27_method_8_code 100 = .ok (.aload_n 0, 1) := by decide +kernel
theorem d23_101 : decode prog_27_method_8_code 101 = .ok (.getfield 19, 3) := by decide +kernel
theorem d23_104 : decode prog_27_method_8_code 104 = .ok (.aload_n 0, 1) := by decide +kernel
theorem d23_105 : decode prog_27_method_8_code 105 = .ok (.getfield 44, 3) := by decide +kernel
theorem d23_108 : decode prog_27_method_8_code 108 = .ok (.aload_n 0, 1) := by decide +kernel
theorem d23_109 : decode prog_27_method_8_code 109 = .ok (.getfield 25, 3) := by decide +kernel
theorem d23_112 : decode prog_27_method_8_code 112 = .ok (.iload_n 1, 1) := by decide +kernel
theorem d23_113 : decode prog_27_method_8_code 113 = .ok (.iaload, 1) := by decide +kernel
theorem d23_114 : decode prog_27_method_8_code 114 = .ok (.iastore, 1) := by decide +kernel
theorem d23_115 : decode prog_27_method_8_code 115 = .ok (.aload_n 0, 1) := by decide +kernel
theorem d23_116 : decode prog_27_method_8_code 116 = .ok (.dup, 1) := by decide +kernel
theorem d23_117 : decode prog_27_method_8_code 117 = .ok (.getfield 44, 3) := by decide +kernel
theorem d23_120 : decode prog_27_method_8_code 120 = .ok (.iconst 1, 1) := by decide +kernel
theorem d23_121 : decode prog_27_method_8_code 121 = .ok (.iadd, 1) := by decide +kernel
theorem d23_122 : decode prog_27_method_8_code 122 = .ok (.putfield 44, 3) := by decide +kernel
theorem d23_125 : decode prog_27_method_8_code 125 = .ok (.aload_n 0, 1) := by decide +kernel
theorem d23_126 : decode prog_27_method_8_code 126 = .ok (.getfield 28, 3) := by decide +kernel
theorem d23_129 : decode prog_27_method_8_code 129 = .ok (.iload_n 1, 1) := by decide +kernel
theorem d23_130 : decode prog_27_method_8_code 130 = .ok (.iconst 1, 1) := by decide +kernel
theorem d23_131 : decode prog_27_method_8_code 131 = .ok (.bastore, 1) := by decide +kernel
theorem d23_132 : decode prog_27_method_8_code 132 = .ok (.aload_n 0, 1) := by decide +kernel
theorem d23_133 : decode prog_27_method_8_code 133 = .ok (.getfield 22, 3) := by decide +kernel
theorem d23_136 : decode prog_27_method_8_code 136 = .ok (.iload_n 1, 1) := by decide +kernel
theorem d23_137 : decode prog_27_method_8_code 137 = .ok (.aload_n 2, 1) := by decide +kernel
theorem d23_138 : decode prog_27_method_8_code 138 = .ok (.aastore, 1) := by decide +kernel
theorem d23_139 : decode prog_27_method_8_code 139 = .ok (.aload_n 0, 1) := by decide +kernel
theorem d23_140 : decode prog_27_method_8_code 140 = .ok (.getfield 25, 3) := by decide +kernel
theorem d23_143 : decode prog_27_method_8_code 143 = .ok (.iload_n 1, 1) := by decide +kernel
theorem d23_144 : decode prog_27_method_8_code 144 = .ok (.iload_n 3, 1) := by decide +kernel
theorem d23_145 : decode prog_27_method_8_code 145 = .ok (.iastore, 1) := by decide +kernel
theorem d23_146 : decode prog_27_method_8_code 146 = .ok (.return_, 1) := by decide +kernel
theorem pn28 : plainFor (⟨"com/example/kiriman/kiriman/route/Positions", "keep", "()V"⟩ : MethodName) = true := plainFor_of_name (by first | (simp [plainName, overriddenIn]; done) | decide +kernel)
theorem d25_0 : decode prog_27_method_6_code 0 = .ok (.iconst 0, 1) := by decide +kernel
theorem d25_1 : decode prog_27_method_6_code 1 = .ok (.istore_n 1, 1) := by decide +kernel
theorem d25_2 : decode prog_27_method_6_code 2 = .ok (.iload_n 1, 1) := by decide +kernel
theorem d25_3 : decode prog_27_method_6_code 3 = .ok (.aload_n 0, 1) := by decide +kernel
theorem d25_4 : decode prog_27_method_6_code 4 = .ok (.getfield 44, 3) := by decide +kernel
theorem d25_7 : decode prog_27_method_6_code 7 = .ok (.if_icmp .ge 28, 3) := by decide +kernel
theorem d25_35 : decode prog_27_method_6_code 35 = .ok (.aload_n 0, 1) := by decide +kernel
theorem d25_36 : decode prog_27_method_6_code 36 = .ok (.iconst 0, 1) := by decide +kernel
theorem d25_37 : decode prog_27_method_6_code 37 = .ok (.putfield 44, 3) := by decide +kernel
theorem d25_40 : decode prog_27_method_6_code 40 = .ok (.return_, 1) := by decide +kernel
theorem d25_10 : decode prog_27_method_6_code 10 = .ok (.aload_n 0, 1) := by decide +kernel
theorem d25_11 : decode prog_27_method_6_code 11 = .ok (.getfield 28, 3) := by decide +kernel
theorem d25_14 : decode prog_27_method_6_code 14 = .ok (.aload_n 0, 1) := by decide +kernel
theorem d25_15 : decode prog_27_method_6_code 15 = .ok (.getfield 7, 3) := by decide +kernel
theorem d25_18 : decode prog_27_method_6_code 18 = .ok (.iload_n 1, 1) := by decide +kernel
theorem d25_19 : decode prog_27_method_6_code 19 = .ok (.iaload, 1) := by decide +kernel
theorem d25_20 : decode prog_27_method_6_code 20 = .ok (.iconst 0, 1) := by decide +kernel
theorem d25_21 : decode prog_27_method_6_code 21 = .ok (.bastore, 1) := by decide +kernel
theorem d25_22 : decode prog_27_method_6_code 22 = .ok (.aload_n 0, 1) := by decide +kernel
theorem d25_23 : decode prog_27_method_6_code 23 = .ok (.getfield 15, 3) := by decide +kernel
theorem d25_26 : decode prog_27_method_6_code 26 = .ok (.iload_n 1, 1) := by decide +kernel
theorem d25_27 : decode prog_27_method_6_code 27 = .ok (.aconst_null, 1) := by decide +kernel
theorem d25_28 : decode prog_27_method_6_code 28 = .ok (.aastore, 1) := by decide +kernel
theorem d25_29 : decode prog_27_method_6_code 29 = .ok (.iinc 1 1, 3) := by decide +kernel
theorem d25_32 : decode prog_27_method_6_code 32 = .ok (.goto (-30), 3) := by decide +kernel
theorem pn29 : plainFor (⟨"com/example/kiriman/kiriman/route/Positions", "undo", "()V"⟩ : MethodName) = true := plainFor_of_name (by first | (simp [plainName, overriddenIn]; done) | decide +kernel)
theorem d24_0 : decode prog_27_method_7_code 0 = .ok (.iconst 0, 1) := by decide +kernel
theorem d24_1 : decode prog_27_method_7_code 1 = .ok (.istore_n 1, 1) := by decide +kernel
theorem d24_2 : decode prog_27_method_7_code 2 = .ok (.iload_n 1, 1) := by decide +kernel
theorem d24_3 : decode prog_27_method_7_code 3 = .ok (.aload_n 0, 1) := by decide +kernel
theorem d24_4 : decode prog_27_method_7_code 4 = .ok (.getfield 44, 3) := by decide +kernel
theorem d24_7 : decode prog_27_method_7_code 7 = .ok (.if_icmp .ge 43, 3) := by decide +kernel
theorem d24_50 : decode prog_27_method_7_code 50 = .ok (.aload_n 0, 1) := by decide +kernel
theorem d24_51 : decode prog_27_method_7_code 51 = .ok (.invokevirtual 48, 3) := by decide +kernel
theorem pd30 : parseMethodDescriptor "()V" = some ⟨[], none⟩ := by decide +kernel
theorem d24_54 : decode prog_27_method_7_code 54 = .ok (.return_, 1) := by decide +kernel
theorem d24_10 : decode prog_27_method_7_code 10 = .ok (.aload_n 0, 1) := by decide +kernel
theorem d24_11 : decode prog_27_method_7_code 11 = .ok (.getfield 22, 3) := by decide +kernel
theorem d24_14 : decode prog_27_method_7_code 14 = .ok (.aload_n 0, 1) := by decide +kernel
theorem d24_15 : decode prog_27_method_7_code 15 = .ok (.getfield 7, 3) := by decide +kernel
theorem d24_18 : decode prog_27_method_7_code 18 = .ok (.iload_n 1, 1) := by decide +kernel
theorem d24_19 : decode prog_27_method_7_code 19 = .ok (.iaload, 1) := by decide +kernel
theorem d24_20 : decode prog_27_method_7_code 20 = .ok (.aload_n 0, 1) := by decide +kernel
theorem d24_21 : decode prog_27_method_7_code 21 = .ok (.getfield 15, 3) := by decide +kernel
theorem d24_24 : decode prog_27_method_7_code 24 = .ok (.iload_n 1, 1) := by decide +kernel
theorem d24_25 : decode prog_27_method_7_code 25 = .ok (.aaload, 1) := by decide +kernel
theorem d24_26 : decode prog_27_method_7_code 26 = .ok (.aastore, 1) := by decide +kernel
theorem d24_27 : decode prog_27_method_7_code 27 = .ok (.aload_n 0, 1) := by decide +kernel
theorem d24_28 : decode prog_27_method_7_code 28 = .ok (.getfield 25, 3) := by decide +kernel
theorem d24_31 : decode prog_27_method_7_code 31 = .ok (.aload_n 0, 1) := by decide +kernel
theorem d24_32 : decode prog_27_method_7_code 32 = .ok (.getfield 7, 3) := by decide +kernel
theorem d24_35 : decode prog_27_method_7_code 35 = .ok (.iload_n 1, 1) := by decide +kernel
theorem d24_36 : decode prog_27_method_7_code 36 = .ok (.iaload, 1) := by decide +kernel
theorem d24_37 : decode prog_27_method_7_code 37 = .ok (.aload_n 0, 1) := by decide +kernel
theorem d24_38 : decode prog_27_method_7_code 38 = .ok (.getfield 19, 3) := by decide +kernel
theorem d24_41 : decode prog_27_method_7_code 41 = .ok (.iload_n 1, 1) := by decide +kernel
theorem d24_42 : decode prog_27_method_7_code 42 = .ok (.iaload, 1) := by decide +kernel
theorem d24_43 : decode prog_27_method_7_code 43 = .ok (.iastore, 1) := by decide +kernel
theorem d24_44 : decode prog_27_method_7_code 44 = .ok (.iinc 1 1, 3) := by decide +kernel
theorem d24_47 : decode prog_27_method_7_code 47 = .ok (.goto (-45), 3) := by decide +kernel
theorem pn31 : plainFor (⟨"com/example/kiriman/kiriman/route/Positions", "remove", "(I)V"⟩ : MethodName) = true := plainFor_of_name (by first | (simp [plainName, overriddenIn]; done) | decide +kernel)
theorem d28_0 : decode prog_27_method_5_code 0 = .ok (.aload_n 0, 1) := by decide +kernel
theorem d28_1 : decode prog_27_method_5_code 1 = .ok (.iload_n 1, 1) := by decide +kernel
theorem d28_2 : decode prog_27_method_5_code 2 = .ok (.aconst_null, 1) := by decide +kernel
theorem d28_3 : decode prog_27_method_5_code 3 = .ok (.iconst (-1), 1) := by decide +kernel
theorem d28_4 : decode prog_27_method_5_code 4 = .ok (.invokevirtual 40, 3) := by decide +kernel
theorem pd32 : parseMethodDescriptor "(ILcom/example/kiriman/kiriman/route/Route;I)V" = some ⟨[.int, (.object "com/example/kiriman/kiriman/route/Route"), .int], none⟩ := by decide +kernel
theorem d28_7 : decode prog_27_method_5_code 7 = .ok (.return_, 1) := by decide +kernel
theorem pn33 : plainFor (⟨"com/example/kiriman/kiriman/route/Route", "size", "()I"⟩ : MethodName) = true := plainFor_of_name (by first | (simp [plainName, overriddenIn]; done) | decide +kernel)
theorem d21_0 : decode prog_30_method_5_code 0 = .ok (.aload_n 0, 1) := by decide +kernel
theorem d21_1 : decode prog_30_method_5_code 1 = .ok (.getfield 38, 3) := by decide +kernel
theorem d21_4 : decode prog_30_method_5_code 4 = .ok (.ireturn, 1) := by decide +kernel
theorem pn34 : plainFor (⟨"com/example/kiriman/kiriman/route/Route", "visit", "(I)I"⟩ : MethodName) = true := plainFor_of_name (by first | (simp [plainName, overriddenIn]; done) | decide +kernel)
theorem d22_0 : decode prog_30_method_6_code 0 = .ok (.aload_n 0, 1) := by decide +kernel
theorem d22_1 : decode prog_30_method_6_code 1 = .ok (.getfield 21, 3) := by decide +kernel
theorem d22_4 : decode prog_30_method_6_code 4 = .ok (.iload_n 1, 1) := by decide +kernel
theorem d22_5 : decode prog_30_method_6_code 5 = .ok (.iaload, 1) := by decide +kernel
theorem d22_6 : decode prog_30_method_6_code 6 = .ok (.ireturn, 1) := by decide +kernel
theorem pn35 : plainFor (⟨"com/example/kiriman/kiriman/route/Positions", "update", "(Lcom/example/kiriman/kiriman/route/Route;I)V"⟩ : MethodName) = true := plainFor_of_name (by first | (simp [plainName, overriddenIn]; done) | decide +kernel)
theorem d20_0 : decode prog_27_method_4_code 0 = .ok (.iload_n 2, 1) := by decide +kernel
theorem d20_1 : decode prog_27_method_4_code 1 = .ok (.istore_n 3, 1) := by decide +kernel
theorem d20_2 : decode prog_27_method_4_code 2 = .ok (.iload_n 3, 1) := by decide +kernel
theorem d20_3 : decode prog_27_method_4_code 3 = .ok (.aload_n 1, 1) := by decide +kernel
theorem d20_4 : decode prog_27_method_4_code 4 = .ok (.invokevirtual 32, 3) := by decide +kernel
theorem d20_7 : decode prog_27_method_4_code 7 = .ok (.if_icmp .ge 20, 3) := by decide +kernel
theorem d20_10 : decode prog_27_method_4_code 10 = .ok (.aload_n 0, 1) := by decide +kernel
theorem d20_11 : decode prog_27_method_4_code 11 = .ok (.aload_n 1, 1) := by decide +kernel
theorem d20_12 : decode prog_27_method_4_code 12 = .ok (.iload_n 3, 1) := by decide +kernel
theorem d20_13 : decode prog_27_method_4_code 13 = .ok (.invokevirtual 36, 3) := by decide +kernel
theorem d20_16 : decode prog_27_method_4_code 16 = .ok (.aload_n 1, 1) := by decide +kernel
theorem d20_17 : decode prog_27_method_4_code 17 = .ok (.iload_n 3, 1) := by decide +kernel
theorem d20_18 : decode prog_27_method_4_code 18 = .ok (.invokevirtual 40, 3) := by decide +kernel
theorem d20_21 : decode prog_27_method_4_code 21 = .ok (.iinc 3 1, 3) := by decide +kernel
theorem d20_24 : decode prog_27_method_4_code 24 = .ok (.goto (-22), 3) := by decide +kernel
theorem d20_27 : decode prog_27_method_4_code 27 = .ok (.return_, 1) := by decide +kernel
theorem pn36 : plainFor (⟨"com/example/kiriman/kiriman/route/Positions", "route", "(I)Lcom/example/kiriman/kiriman/route/Route;"⟩ : MethodName) = true := plainFor_of_name (by first | (simp [plainName, overriddenIn]; done) | decide +kernel)
theorem d26_0 : decode prog_27_method_2_code 0 = .ok (.aload_n 0, 1) := by decide +kernel
theorem d26_1 : decode prog_27_method_2_code 1 = .ok (.getfield 22, 3) := by decide +kernel
theorem d26_4 : decode prog_27_method_2_code 4 = .ok (.iload_n 1, 1) := by decide +kernel
theorem d26_5 : decode prog_27_method_2_code 5 = .ok (.aaload, 1) := by decide +kernel
theorem d26_6 : decode prog_27_method_2_code 6 = .ok (.areturn, 1) := by decide +kernel
theorem pn37 : plainFor (⟨"com/example/kiriman/kiriman/route/Positions", "index", "(I)I"⟩ : MethodName) = true := plainFor_of_name (by first | (simp [plainName, overriddenIn]; done) | decide +kernel)
theorem d27_0 : decode prog_27_method_3_code 0 = .ok (.aload_n 0, 1) := by decide +kernel
theorem d27_1 : decode prog_27_method_3_code 1 = .ok (.getfield 25, 3) := by decide +kernel
theorem d27_4 : decode prog_27_method_3_code 4 = .ok (.iload_n 1, 1) := by decide +kernel
theorem d27_5 : decode prog_27_method_3_code 5 = .ok (.iaload, 1) := by decide +kernel
theorem d27_6 : decode prog_27_method_3_code 6 = .ok (.ireturn, 1) := by decide +kernel
theorem pn38 : plainFor (⟨"com/example/kiriman/kiriman/route/PositionsKeepPinLaw", "law", "(I)Z"⟩ : MethodName) = true := plainFor_of_name (by first | (simp [plainName, overriddenIn]; done) | decide +kernel)
theorem pd39 : parseMethodDescriptor "(II[I[I[I)V" = some ⟨[.int, .int, (.array .int), (.array .int), (.array .int)], none⟩ := by decide +kernel
theorem pd40 : parseMethodDescriptor "(Lcom/example/kiriman/kiriman/route/Problem;I)V" = some ⟨[(.object "com/example/kiriman/kiriman/route/Problem"), .int], none⟩ := by decide +kernel
theorem pd41 : parseMethodDescriptor "(II)V" = some ⟨[.int, .int], none⟩ := by decide +kernel
theorem pd42 : parseMethodDescriptor "(I)V" = some ⟨[.int], none⟩ := by decide +kernel
theorem pd43 : parseMethodDescriptor "(Lcom/example/kiriman/kiriman/route/Route;I)V" = some ⟨[(.object "com/example/kiriman/kiriman/route/Route"), .int], none⟩ := by decide +kernel
theorem pd44 : parseMethodDescriptor "(I)Lcom/example/kiriman/kiriman/route/Route;" = some ⟨[.int], some (.object "com/example/kiriman/kiriman/route/Route")⟩ := by decide +kernel
theorem ef_rmN (m : MethodId) (x0 : Int32) (x1 : Int32) : entryFrame m #[(.int x0), (.int x1)] 2 = mkF m 0 #[.val (.int x0), .val (.int x1)] [] := by first | (simp [entryFrame, mkF, argsToLocals, Value.category]; done) | rfl
theorem rmN (l : Launch) (Z : State) (a0 : Array Value) (hw : ∀ d ∈ tables_1, d.before a0 Z = true) (ws : List Jvm.Cond) (p q : Int32) (h0 : Heap) :
    Met l Z (⟨"java/lang/Math", "min", "(II)I"⟩ : MethodName) jdk_29_method_69_code 2 (some .int) ws ({ frames := 0, cells := 0, slots := 0, locals := 0 } : Room) #[(.int p), (.int q)] h0 (fun v h L => v = some (.int (own_min p q)) ∧ L = [] ∧ h = h0) := by
 refine Met.intro pn0 ?_
 intro pr ev s m below meth c T0 X0 hx hZ hown hby hml hret hlk hnm e0
 refine Go.cast (ef_rmN m p q) ?_
 refine Go.of (mkF m 1 #[.val (.int p), .val (.int q)] [(.int p)]) (fun _ q => XS.iloadN X0.here hx rfl (hb hby d11_0) rfl q) ?_
 refine Go.of (mkF m 2 #[.val (.int p), .val (.int q)] [(.int q), (.int p)]) (fun _ q => XS.iloadN X0.here hx rfl (hb hby d11_1) rfl q) ?_
 by_cases hc2 : q < p
 ·
  refine Go.of (mkF m 9 #[.val (.int p), .val (.int q)] []) (fun _ q => XS.icmpYes X0.here hx rfl (pc0 := 2) (pc' := 9) rfl (hb hby d11_2) rfl (tlt hc2).2.2.1 (by decide) (by decide) q) ?_
  refine Go.of (mkF m 10 #[.val (.int p), .val (.int q)] [(.int q)]) (fun _ q => XS.iloadN X0.here hx rfl (hb hby d11_9) rfl q) ?_
  exact Go.retW X0 hx (t := .int) hret hlk rfl (Or.inl ⟨rfl, by simp, _, rfl⟩) (hb hby d11_10) (by decide) (by decide) ⟨by simp [own_min, hc2], rfl, e0⟩
 ·
  refine Go.of (mkF m 5 #[.val (.int p), .val (.int q)] []) (fun _ q => XS.icmpNo X0.here hx rfl (hb hby d11_2) rfl (flt hc2).2.2.1 q) ?_
  refine Go.of (mkF m 6 #[.val (.int p), .val (.int q)] [(.int p)]) (fun _ q => XS.iloadN X0.here hx rfl (hb hby d11_5) rfl q) ?_
  refine Go.of (mkF m 10 #[.val (.int p), .val (.int q)] [(.int p)]) (fun _ q => XS.goto X0.here hx rfl (pc0 := 6) (pc' := 10) rfl (hb hby d11_6) (by decide) (by decide) q) ?_
  exact Go.retW X0 hx (t := .int) hret hlk rfl (Or.inl ⟨rfl, by simp, _, rfl⟩) (hb hby d11_10) (by decide) (by decide) ⟨by simp [own_min, hc2], rfl, e0⟩
theorem ef_rmX (m : MethodId) (x0 : Int32) (x1 : Int32) : entryFrame m #[(.int x0), (.int x1)] 2 = mkF m 0 #[.val (.int x0), .val (.int x1)] [] := by first | (simp [entryFrame, mkF, argsToLocals, Value.category]; done) | rfl
theorem rmX (l : Launch) (Z : State) (a0 : Array Value) (hw : ∀ d ∈ tables_1, d.before a0 Z = true) (ws : List Jvm.Cond) (p q : Int32) (h0 : Heap) :
    Met l Z (⟨"java/lang/Math", "max", "(II)I"⟩ : MethodName) jdk_29_method_65_code 2 (some .int) ws ({ frames := 0, cells := 0, slots := 0, locals := 0 } : Room) #[(.int p), (.int q)] h0 (fun v h L => v = some (.int (own_max p q)) ∧ L = [] ∧ h = h0) := by
 refine Met.intro pn1 ?_
 intro pr ev s m below meth c T0 X0 hx hZ hown hby hml hret hlk hnm e0
 refine Go.cast (ef_rmX m p q) ?_
 refine Go.of (mkF m 1 #[.val (.int p), .val (.int q)] [(.int p)]) (fun _ q => XS.iloadN X0.here hx rfl (hb hby d3_0) rfl q) ?_
 refine Go.of (mkF m 2 #[.val (.int p), .val (.int q)] [(.int q), (.int p)]) (fun _ q => XS.iloadN X0.here hx rfl (hb hby d3_1) rfl q) ?_
 by_cases hc2 : p < q
 ·
  refine Go.of (mkF m 9 #[.val (.int p), .val (.int q)] []) (fun _ q => XS.icmpYes X0.here hx rfl (pc0 := 2) (pc' := 9) rfl (hb hby d3_2) rfl (tlt hc2).1 (by decide) (by decide) q) ?_
  refine Go.of (mkF m 10 #[.val (.int p), .val (.int q)] [(.int q)]) (fun _ q => XS.iloadN X0.here hx rfl (hb hby d3_9) rfl q) ?_
  exact Go.retW X0 hx (t := .int) hret hlk rfl (Or.inl ⟨rfl, by simp, _, rfl⟩) (hb hby d3_10) (by decide) (by decide) ⟨by simp [own_max, hc2], rfl, e0⟩
 ·
  refine Go.of (mkF m 5 #[.val (.int p), .val (.int q)] []) (fun _ q => XS.icmpNo X0.here hx rfl (hb hby d3_2) rfl (flt hc2).1 q) ?_
  refine Go.of (mkF m 6 #[.val (.int p), .val (.int q)] [(.int p)]) (fun _ q => XS.iloadN X0.here hx rfl (hb hby d3_5) rfl q) ?_
  refine Go.of (mkF m 10 #[.val (.int p), .val (.int q)] [(.int p)]) (fun _ q => XS.goto X0.here hx rfl (pc0 := 6) (pc' := 10) rfl (hb hby d3_6) (by decide) (by decide) q) ?_
  exact Go.retW X0 hx (t := .int) hret hlk rfl (Or.inl ⟨rfl, by simp, _, rfl⟩) (hb hby d3_10) (by decide) (by decide) ⟨by simp [own_max, hc2], rfl, e0⟩
theorem ef_rmFill (m : MethodId) (x0 : Addr) (x1 : Int32) : entryFrame m #[(.ref x0), (.int x1)] 4 = mkF m 0 #[.val (.ref x0), .val (.int x1), .unset, .unset] [] := by first | (simp [entryFrame, mkF, argsToLocals, Value.category]; done) | rfl
theorem rmFill (l : Launch) (Z : State) (a0 : Array Value) (hw : ∀ d ∈ tables_1, d.before a0 Z = true) (ws : List Jvm.Cond) (d : Nat) (h0 : Heap) (n0 : Nat) (hz0 : n0 ≤ h0.size) (gd : n0 ≤ d) (V : Fa Z h0 d .int 2 (fun i => .int ((fun _ => (0 : Int32)) i))) :
    Met l Z (⟨"java/util/Arrays", "fill", "([II)V"⟩ : MethodName) jdk_65_method_103_code 4 none ws ({ frames := 0, cells := 0, slots := 0, locals := 0 } : Room) #[(.ref d), (.int 0)] h0 (fun v h L => v = none ∧ Fr n0 L ∧ Keep h0 h [d] ∧ Fa Z h d .int 2 (fun i => .int ((fun _ => (0 : Int32)) i))) := by
 refine Met.intro pn2 ?_
 intro pr ev s m below meth c T0 X0 hx hZ hown hby hml hret hlk hnm e0
 refine Go.cast (ef_rmFill m d (0 : Int32)) ?_
 have N0 := Fr.nil n0
 have hz := hz0
 have K0 : Keep h0 h0 [d] := Keep.refl h0 _
 refine Go.of (mkF m 1 #[.val (.ref d), .val (.int 0), .unset, .unset] [(.int 0)]) (fun _ q => XS.iconst X0.here hx rfl (hb hby d4_0) q) ?_
 refine Go.of (mkF m 2 #[.val (.ref d), .val (.int 0), .val (.int 0), .unset] []) (fun _ q => XS.istoreN X0.here hx rfl (hb hby d4_1) rfl (l' := #[.val (.ref d), .val (.int 0), .val (.int 0), .unset]) rfl q) ?_
 refine Go.of (mkF m 3 #[.val (.ref d), .val (.int 0), .val (.int 0), .unset] [(.ref d)]) (fun _ q => XS.aloadN X0.here hx rfl (hb hby d4_2) rfl rfl q) ?_
 refine Go.arraylength X0 hx hZ e0 V (g := (mkF m 3 #[.val (.ref d), .val (.int 0), .val (.int 0), .unset] [(.ref d)])) rfl rfl (hb hby d4_3) ?_
 show Go pr ev below _ T0 (mkF m 4 #[.val (.ref d), .val (.int 0), .val (.int 0), .unset] [(.int 2)])
 refine Go.of (mkF m 5 #[.val (.ref d), .val (.int 0), .val (.int 0), .val (.int 2)] []) (fun _ q => XS.istoreN X0.here hx rfl (hb hby d4_4) rfl (l' := #[.val (.ref d), .val (.int 0), .val (.int 0), .val (.int 2)]) rfl q) ?_
 refine Go.of (mkF m 6 #[.val (.ref d), .val (.int 0), .val (.int 0), .val (.int 2)] [(.int 0)]) (fun _ q => XS.iloadN X0.here hx rfl (hb hby d4_5) rfl q) ?_
 refine Go.of (mkF m 7 #[.val (.ref d), .val (.int 0), .val (.int 0), .val (.int 2)] [(.int 2), (.int 0)]) (fun _ q => XS.iloadN X0.here hx rfl (hb hby d4_6) rfl q) ?_
 refine Go.of (mkF m 10 #[.val (.ref d), .val (.int 0), .val (.int 0), .val (.int 2)] []) (fun _ q => XS.icmpNo X0.here hx rfl (hb hby d4_7) rfl (tlt (by decide)).2.1 q) ?_
 refine Go.of (mkF m 11 #[.val (.ref d), .val (.int 0), .val (.int 0), .val (.int 2)] [(.ref d)]) (fun _ q => XS.aloadN X0.here hx rfl (hb hby d4_10) rfl rfl q) ?_
 refine Go.of (mkF m 12 #[.val (.ref d), .val (.int 0), .val (.int 0), .val (.int 2)] [(.int 0), (.ref d)]) (fun _ q => XS.iloadN X0.here hx rfl (hb hby d4_11) rfl q) ?_
 refine Go.of (mkF m 13 #[.val (.ref d), .val (.int 0), .val (.int 0), .val (.int 2)] [(.int 0), (.int 0), (.ref d)]) (fun _ q => XS.iloadN X0.here hx rfl (hb hby d4_12) rfl q) ?_
 refine Go.iastore X0 hx hZ e0 V (by decide) (by decide) (g := (mkF m 13 #[.val (.ref d), .val (.int 0), .val (.int 0), .val (.int 2)] [(.int 0), (.int 0), (.ref d)])) rfl rfl (hb hby d4_13) ?_
 rintro T1 h1 X1 e1 W1 V1
 replace hz := Nat.le_trans hz (Nat.le_of_eq W1.size.symm)
 replace K0 := K0.wr W1 (Or.inl (by simp))
 replace V := V1
 have N1 := Fr.snoc X1 N0 gd
 show Go pr ev below _ T1 (mkF m 14 #[.val (.ref d), .val (.int 0), .val (.int 0), .val (.int 2)] [])
 refine Go.of (mkF m 17 #[.val (.ref d), .val (.int 0), .val (.int ((0 : Int32) + (1 : Int32))), .val (.int 2)] []) (fun _ q => XS.iinc X1.here hx rfl (hb hby d4_14) rfl (l' := #[.val (.ref d), .val (.int 0), .val (.int ((0 : Int32) + (1 : Int32))), .val (.int 2)]) rfl q) ?_
 rw [show ((0 : Int32) + (1 : Int32)) = (1 : Int32) from by decide]
 refine Go.of (mkF m 5 #[.val (.ref d), .val (.int 0), .val (.int 1), .val (.int 2)] []) (fun _ q => XS.goto X1.here hx rfl (pc0 := 17) (pc' := 5) rfl (hb hby d4_17) (by decide) (by decide) q) ?_
 refine Go.of (mkF m 6 #[.val (.ref d), .val (.int 0), .val (.int 1), .val (.int 2)] [(.int 1)]) (fun _ q => XS.iloadN X1.here hx rfl (hb hby d4_5) rfl q) ?_
 refine Go.of (mkF m 7 #[.val (.ref d), .val (.int 0), .val (.int 1), .val (.int 2)] [(.int 2), (.int 1)]) (fun _ q => XS.iloadN X1.here hx rfl (hb hby d4_6) rfl q) ?_
 refine Go.of (mkF m 10 #[.val (.ref d), .val (.int 0), .val (.int 1), .val (.int 2)] []) (fun _ q => XS.icmpNo X1.here hx rfl (hb hby d4_7) rfl (tlt (by decide)).2.1 q) ?_
 refine Go.of (mkF m 11 #[.val (.ref d), .val (.int 0), .val (.int 1), .val (.int 2)] [(.ref d)]) (fun _ q => XS.aloadN X1.here hx rfl (hb hby d4_10) rfl rfl q) ?_
 refine Go.of (mkF m 12 #[.val (.ref d), .val (.int 0), .val (.int 1), .val (.int 2)] [(.int 1), (.ref d)]) (fun _ q => XS.iloadN X1.here hx rfl (hb hby d4_11) rfl q) ?_
 refine Go.of (mkF m 13 #[.val (.ref d), .val (.int 0), .val (.int 1), .val (.int 2)] [(.int 0), (.int 1), (.ref d)]) (fun _ q => XS.iloadN X1.here hx rfl (hb hby d4_12) rfl q) ?_
 refine Go.iastore X1 hx hZ e1 V (by decide) (by decide) (g := (mkF m 13 #[.val (.ref d), .val (.int 0), .val (.int 1), .val (.int 2)] [(.int 0), (.int 1), (.ref d)])) rfl rfl (hb hby d4_13) ?_
 rintro T2 h2 X2 e2 W2 V2
 replace hz := Nat.le_trans hz (Nat.le_of_eq W2.size.symm)
 replace K0 := K0.wr W2 (Or.inl (by simp))
 replace V := V2
 have N2 := Fr.snoc X2 N1 gd
 show Go pr ev below _ T2 (mkF m 14 #[.val (.ref d), .val (.int 0), .val (.int 1), .val (.int 2)] [])
 refine Go.of (mkF m 17 #[.val (.ref d), .val (.int 0), .val (.int ((1 : Int32) + (1 : Int32))), .val (.int 2)] []) (fun _ q => XS.iinc X2.here hx rfl (hb hby d4_14) rfl (l' := #[.val (.ref d), .val (.int 0), .val (.int ((1 : Int32) + (1 : Int32))), .val (.int 2)]) rfl q) ?_
 rw [show ((1 : Int32) + (1 : Int32)) = (2 : Int32) from by decide]
 refine Go.of (mkF m 5 #[.val (.ref d), .val (.int 0), .val (.int 2), .val (.int 2)] []) (fun _ q => XS.goto X2.here hx rfl (pc0 := 17) (pc' := 5) rfl (hb hby d4_17) (by decide) (by decide) q) ?_
 refine Go.of (mkF m 6 #[.val (.ref d), .val (.int 0), .val (.int 2), .val (.int 2)] [(.int 2)]) (fun _ q => XS.iloadN X2.here hx rfl (hb hby d4_5) rfl q) ?_
 refine Go.of (mkF m 7 #[.val (.ref d), .val (.int 0), .val (.int 2), .val (.int 2)] [(.int 2), (.int 2)]) (fun _ q => XS.iloadN X2.here hx rfl (hb hby d4_6) rfl q) ?_
 refine Go.of (mkF m 20 #[.val (.ref d), .val (.int 0), .val (.int 2), .val (.int 2)] []) (fun _ q => XS.icmpYes X2.here hx rfl (pc0 := 7) (pc' := 20) rfl (hb hby d4_7) rfl (flt (by decide)).2.1 (by decide) (by decide) q) ?_
 exact Go.retV X2 hx hret hlk (hb hby d4_20) (by decide) (by decide) (by rw [e2]; exact ⟨rfl, N2, K0, V.congr fun j q0 q1 => by simp [fnup]⟩)
theorem ef_rmOne (m : MethodId) (x0 : Int32) (x1 : Int32) : entryFrame m #[(.int x0), (.int x1)] 3 = mkF m 0 #[.val (.int x0), .val (.int x1), .unset] [] := by first | (simp [entryFrame, mkF, argsToLocals, Value.category]; done) | rfl
theorem rmOne (l : Launch) (Z : State) (a0 : Array Value) (hw : ∀ d ∈ tables_1, d.before a0 Z = true) (ws : List Jvm.Cond) (h0 : Heap) (n0 : Nat) (hz0 : n0 ≤ h0.size) :
    Met l Z (⟨"com/example/kiriman/kiriman/route/Problem", "oneForEachCustomer", "(II)[I"⟩ : MethodName) prog_29_method_6_code 3 (some (.array .int)) ws ({ frames := 1, cells := 1, slots := 2, locals := 15 } : Room) #[(.int 0), (.int 3)] h0 (fun v h L => ∃ t : Nat, v = some (.ref t) ∧ Fr n0 L ∧ Keep h0 h [] ∧ h0.size ≤ t ∧ Fa Z h t .int 2 (fun i => .int ((fun _ => (0 : Int32)) i)) ∧ Exa Z h t "[I") := by
 refine Met.intro pn3 ?_
 intro pr ev s m below meth c T0 X0 hx hZ hown hby hml hret hlk hnm e0
 refine Go.cast (ef_rmOne m (0 : Int32) (3 : Int32)) ?_
 have N0 := Fr.nil n0
 have hz := hz0
 have K0 : Keep h0 h0 [] := Keep.refl h0 _
 refine Go.of (mkF m 1 #[.val (.int 0), .val (.int 3), .unset] [(.int 0)]) (fun _ q => XS.iloadN X0.here hx rfl (hb hby d2_0) rfl q) ?_
 refine Go.of (mkF m 18 #[.val (.int 0), .val (.int 3), .unset] []) (fun _ q => XS.ifYes X0.here hx rfl (pc0 := 1) (pc' := 18) rfl (hb hby d2_1) rfl ((if0 _ _).trans (flt (by decide)).2.1) (by decide) (by decide) q) ?_
 refine Go.of (mkF m 19 #[.val (.int 0), .val (.int 3), .unset] [(.int 0)]) (fun _ q => XS.iconst X0.here hx rfl (hb hby d2_18) q) ?_
 refine Go.of (mkF m 20 #[.val (.int 0), .val (.int 3), .unset] [(.int 3), (.int 0)]) (fun _ q => XS.iloadN X0.here hx rfl (hb hby d2_19) rfl q) ?_
 refine Go.of (mkF m 21 #[.val (.int 0), .val (.int 3), .unset] [(.int 1), (.int 3), (.int 0)]) (fun _ q => XS.iconst X0.here hx rfl (hb hby d2_20) q) ?_
 refine Go.of (mkF m 22 #[.val (.int 0), .val (.int 3), .unset] [(.int ((3 : Int32) - (1 : Int32))), (.int 0)]) (fun _ q => XS.isub X0.here hx rfl (hb hby d2_21) rfl q) ?_
 rw [show ((3 : Int32) - (1 : Int32)) = (2 : Int32) from by decide]
 refine Go.callS X0 hx hZ (y := (⟨"java/lang/Math", "max", "(II)I"⟩ : MethodName)) (argsL := [(.int 0), (.int 2)]) (rest := []) hown (tw12 hw) (tw13 hw) (tw14 hw) (tw15 hw) (by decide) e0 (rmX l Z a0 hw [] (0 : Int32) (2 : Int32) h0) (g := (mkF m 22 #[.val (.int 0), .val (.int 3), .unset] [(.int 2), (.int 0)])) rfl (by rw [hml]; rfl) (lenOf pd4 rfl) rfl (W := 0) (by show 2 * 0 + _ ≤ _; exact Nat.le_of_eq rfl) (hb hby d2_22) (by decide) (by decide) (by decide) (by decide) ?_
 rintro T1 L1 v1 X1 ⟨rfl, rfl, hh1⟩
 have N1 := Fr.app N0 (Fr.nil n0)
 show Go pr ev below _ T1 (mkF m 25 #[.val (.int 0), .val (.int 3), .unset] [(.int (own_max (0 : Int32) (2 : Int32)))])
 rw [show (own_max (0 : Int32) (2 : Int32)) = (2 : Int32) from by decide]
 obtain ⟨T2, h2, k2, X2, e2, E2, A2, Q2, st2⟩ := newPE X1 hx hZ (aty := .int) (tw2 hw) hh1 (g := (mkF m 25 #[.val (.int 0), .val (.int 3), .unset] [(.int 2)])) rfl (hb hby d2_25) rfl (by decide) (cap := 2) (by decide) (by decide) (by decide) (by decide) (ad := "[I") (by decide +kernel)
 obtain ⟨b2, g2⟩ : ∃ z, z = h0.size := ⟨_, rfl⟩
 rw [← g2] at A2 Q2 st2
 have gb_b2 : n0 ≤ b2 := Nat.le_trans hz (Nat.le_of_eq g2.symm)
 have sz_b2 : h0.size ≤ b2 := Nat.le_trans K0.1 (Nat.le_of_eq g2.symm)
 replace hz := Nat.le_trans hz E2.1
 replace K0 := K0.ext E2
 have V_b2 : Fa Z h2 b2 .int (2 : Int32) (fun i => .int ((fun _ => (0 : Int32)) i)) := Fa.new A2 (by decide)
 refine Go.of (mkF m 27 #[.val (.int 0), .val (.int 3), .unset] [(.ref b2)]) (st2) ?_
 refine Go.of (mkF m 28 #[.val (.int 0), .val (.int 3), .val (.ref b2)] []) (fun _ q => XS.astoreN X2.here hx rfl (hb hby d2_27) rfl rfl (l' := #[.val (.int 0), .val (.int 3), .val (.ref b2)]) rfl q) ?_
 refine Go.of (mkF m 29 #[.val (.int 0), .val (.int 3), .val (.ref b2)] [(.ref b2)]) (fun _ q => XS.aloadN X2.here hx rfl (hb hby d2_28) rfl rfl q) ?_
 refine Go.of (mkF m 30 #[.val (.int 0), .val (.int 3), .val (.ref b2)] [(.int 0), (.ref b2)]) (fun _ q => XS.iloadN X2.here hx rfl (hb hby d2_29) rfl q) ?_
 refine Go.callS X2 hx hZ (y := (⟨"java/util/Arrays", "fill", "([II)V"⟩ : MethodName)) (argsL := [(.ref b2), (.int 0)]) (rest := []) hown (tw16 hw) (tw17 hw) (tw18 hw) (tw19 hw) (by decide) e2 (rmFill l Z a0 hw [] b2 h2 n0 hz gb_b2 V_b2) (g := (mkF m 30 #[.val (.int 0), .val (.int 3), .val (.ref b2)] [(.int 0), (.ref b2)])) rfl (by rw [hml]; rfl) (lenOf pd5 rfl) rfl (W := 0) (by show 2 * 0 + _ ≤ _; exact Nat.le_of_eq rfl) (hb hby d2_30) (by decide) (by decide) (by decide) (by decide) ?_
 rintro T3 L3 v3 X3 ⟨rfl, NL3, K3, VF3⟩
 have N3 := Fr.app N1 NL3
 replace Q2 := Q2.keep K3
 replace hz := Nat.le_trans hz K3.1
 replace K0 := K0.trans K3 (((allS (Or.inr sz_b2) all0)))
 show Go pr ev below _ T3 (mkF m 33 #[.val (.int 0), .val (.int 3), .val (.ref b2)] [])
 refine Go.of (mkF m 34 #[.val (.int 0), .val (.int 3), .val (.ref b2)] [(.ref b2)]) (fun _ q => XS.aloadN X3.here hx rfl (hb hby d2_33) rfl rfl q) ?_
 exact Go.retW X3 hx (t := (.array .int)) hret hlk rfl (Or.inr (Or.inr (Or.inr (Or.inr ⟨rfl, rfl, rfl⟩)))) (hb hby d2_34) (by decide) (by decide) ⟨b2, rfl, N3, K0, sz_b2, VF3, Q2⟩
theorem ef_rmCI (m : MethodId) (x0 : Addr) (x1 : Int32) (x2 : Addr) : entryFrame m #[(.ref x0), (.int x1), (.ref x2)] 3 = mkF m 0 #[.val (.ref x0), .val (.int x1), .val (.ref x2)] [] := by first | (simp [entryFrame, mkF, argsToLocals, Value.category]; done) | rfl
theorem rmCI (l : Launch) (Z : State) (a0 : Array Value) (hw : ∀ d ∈ tables_1, d.before a0 Z = true) (ws : List Jvm.Cond) (a d : Nat) (h0 : Heap) (n0 : Nat) (hz0 : n0 ≤ h0.size) (E : Exa Z h0 a "com/example/kiriman/kiriman/route/CostMatrix") (ga : n0 ≤ a) (Fa1 : Fld Z h0 a "com/example/kiriman/kiriman/route/CostMatrix" "nodes" "I" (.int (0 : Int32))) (Fa2 : Fld Z h0 a "com/example/kiriman/kiriman/route/CostMatrix" "costs" "[I" .null) :
    Met l Z (⟨"com/example/kiriman/kiriman/route/CostMatrix", "<init>", "(I[I)V"⟩ : MethodName) prog_23_method_1_code 3 none ws ({ frames := 1, cells := 0, slots := 0, locals := 12 } : Room) #[(.ref a), (.int 3), (.ref d)] h0 (fun v h L => v = none ∧ Fr n0 L ∧ Keep h0 h [a] ∧ Fld Z h a "com/example/kiriman/kiriman/route/CostMatrix" "nodes" "I" (.int (3 : Int32)) ∧ Fld Z h a "com/example/kiriman/kiriman/route/CostMatrix" "costs" "[I" (.ref d)) := by
 refine Met.intro pn6 ?_
 intro pr ev s m below meth c T0 X0 hx hZ hown hby hml hret hlk hnm e0
 refine Go.cast (ef_rmCI m a (3 : Int32) d) ?_
 have N0 := Fr.nil n0
 have hz := hz0
 have K0 : Keep h0 h0 [a] := Keep.refl h0 _
 refine Go.of (mkF m 1 #[.val (.ref a), .val (.int 3), .val (.ref d)] [(.ref a)]) (fun _ q => XS.aloadN X0.here hx rfl (hb hby d7_0) rfl rfl q) ?_
 obtain ⟨T1, X1, e1, st1⟩ := initO X0 hx hZ hown (tw41 hw) (tw42 hw) (tw43 hw) e0 (g := (mkF m 1 #[.val (.ref a), .val (.int 3), .val (.ref d)] [(.ref a)])) rfl (by rw [hml]; rfl) rfl (hb hby d7_1) (by decide) (W := 0) (by show 2 * 0 + _ ≤ _; exact Nat.le_of_eq rfl) (by decide)
 refine Go.of (mkF m 4 #[.val (.ref a), .val (.int 3), .val (.ref d)] []) (st1) ?_
 refine Go.of (mkF m 5 #[.val (.ref a), .val (.int 3), .val (.ref d)] [(.ref a)]) (fun _ q => XS.aloadN X1.here hx rfl (hb hby d7_4) rfl rfl q) ?_
 refine Go.of (mkF m 6 #[.val (.ref a), .val (.int 3), .val (.ref d)] [(.int 3), (.ref a)]) (fun _ q => XS.iloadN X1.here hx rfl (hb hby d7_5) rfl q) ?_
 obtain ⟨T2, h2, X2, e2, W2, st2⟩ := putF X1 hx hZ hown (host := "") (Or.inl (tw44 hw)) Via.refl e1 Fa1 E (Or.inr ⟨(tw45 hw), rfl, hnm⟩) (tw27 hw) (ty := .int) (by decide) rfl rfl (g := (mkF m 6 #[.val (.ref a), .val (.int 3), .val (.ref d)] [(.int 3), (.ref a)])) rfl rfl (hb hby d7_6)
 replace Fa1 := Fa1.same W2
 replace Fa2 := Fa2.other W2 (Or.inr (slot_ne (Or.inr (tw47 hw)) (Or.inr (tw45 hw)) (by decide) (t := (.array .int)) (t' := .int) (by decide) (by decide)))
 replace E := E.wr W2
 replace hz := Nat.le_trans hz (Nat.le_of_eq W2.size.symm)
 replace K0 := K0.wr W2 (Or.inl (by simp))
 have N2 := Fr.snoc X2 N0 ga
 refine Go.of (mkF m 9 #[.val (.ref a), .val (.int 3), .val (.ref d)] []) (st2) ?_
 refine Go.of (mkF m 10 #[.val (.ref a), .val (.int 3), .val (.ref d)] [(.ref a)]) (fun _ q => XS.aloadN X2.here hx rfl (hb hby d7_9) rfl rfl q) ?_
 refine Go.of (mkF m 11 #[.val (.ref a), .val (.int 3), .val (.ref d)] [(.ref d), (.ref a)]) (fun _ q => XS.aloadN X2.here hx rfl (hb hby d7_10) rfl rfl q) ?_
 obtain ⟨T3, h3, X3, e3, W3, st3⟩ := putF X2 hx hZ hown (host := "") (Or.inl (tw46 hw)) Via.refl e2 Fa2 E (Or.inr ⟨(tw47 hw), rfl, hnm⟩) (tw27 hw) (ty := (.array .int)) (by decide) rfl rfl (g := (mkF m 11 #[.val (.ref a), .val (.int 3), .val (.ref d)] [(.ref d), (.ref a)])) rfl rfl (hb hby d7_11)
 replace Fa1 := Fa1.other W3 (Or.inr (slot_ne (Or.inr (tw45 hw)) (Or.inr (tw47 hw)) (by decide) (t := .int) (t' := (.array .int)) (by decide) (by decide)))
 replace Fa2 := Fa2.same W3
 replace E := E.wr W3
 replace hz := Nat.le_trans hz (Nat.le_of_eq W3.size.symm)
 replace K0 := K0.wr W3 (Or.inl (by simp))
 have N3 := Fr.snoc X3 N2 ga
 refine Go.of (mkF m 14 #[.val (.ref a), .val (.int 3), .val (.ref d)] []) (st3) ?_
 exact Go.retV X3 hx hret hlk (hb hby d7_14) (by decide) (by decide) (by rw [e3]; exact ⟨rfl, N3, K0, Fa1, Fa2⟩)
theorem ef_rmCN (m : MethodId) (x0 : Addr) : entryFrame m #[(.ref x0)] 1 = mkF m 0 #[.val (.ref x0)] [] := by first | (simp [entryFrame, mkF, argsToLocals, Value.category]; done) | rfl
theorem rmCN (l : Launch) (Z : State) (a0 : Array Value) (hw : ∀ d ∈ tables_1, d.before a0 Z = true) (ws : List Jvm.Cond) (a : Nat) (h0 : Heap) (Fa1 : Fld Z h0 a "com/example/kiriman/kiriman/route/CostMatrix" "nodes" "I" (.int (3 : Int32))) :
    Met l Z (⟨"com/example/kiriman/kiriman/route/CostMatrix", "nodes", "()I"⟩ : MethodName) prog_23_method_2_code 1 (some .int) ws ({ frames := 0, cells := 0, slots := 0, locals := 0 } : Room) #[(.ref a)] h0 (fun v h L => v = some (.int 3) ∧ L = [] ∧ h = h0) := by
 refine Met.intro pn7 ?_
 intro pr ev s m below meth c T0 X0 hx hZ hown hby hml hret hlk hnm e0
 refine Go.cast (ef_rmCN m a) ?_
 refine Go.of (mkF m 1 #[.val (.ref a)] [(.ref a)]) (fun _ q => XS.aloadN X0.here hx rfl (hb hby d10_0) rfl rfl q) ?_
 obtain ⟨T1, X1, e1, st1⟩ := getF X0 hx hZ hown (host := "") (Or.inl (tw44 hw)) Via.refl e0 Fa1 (g := (mkF m 1 #[.val (.ref a)] [(.ref a)])) rfl rfl (hb hby d10_1)
 refine Go.of (mkF m 4 #[.val (.ref a)] [(.int 3)]) (st1) ?_
 exact Go.retW X1 hx (t := .int) hret hlk rfl (Or.inl ⟨rfl, by simp, _, rfl⟩) (hb hby d10_4) (by decide) (by decide) ⟨rfl, rfl, e1⟩
theorem ef_rmCC (m : MethodId) (x0 : Addr) (x1 : Int32) (x2 : Int32) : entryFrame m #[(.ref x0), (.int x1), (.int x2)] 3 = mkF m 0 #[.val (.ref x0), .val (.int x1), .val (.int x2)] [] := by first | (simp [entryFrame, mkF, argsToLocals, Value.category]; done) | rfl
theorem rmCC (l : Launch) (Z : State) (a0 : Array Value) (hw : ∀ d ∈ tables_1, d.before a0 Z = true) (ws : List Jvm.Cond) (a d : Nat) (f t : Int32) (h0 : Heap) (Fa1 : Fld Z h0 a "com/example/kiriman/kiriman/route/CostMatrix" "nodes" "I" (.int (3 : Int32))) (Fa2 : Fld Z h0 a "com/example/kiriman/kiriman/route/CostMatrix" "costs" "[I" (.ref d)) (V : Fa Z h0 d .int 9 (fun i => .int ((fun _ => (0 : Int32)) i))) (hr : ¬ f * 3 + t < 0 ∧ f * 3 + t < 9) :
    Met l Z (⟨"com/example/kiriman/kiriman/route/CostMatrix", "cost", "(II)I"⟩ : MethodName) prog_23_method_3_code 3 (some .int) ws ({ frames := 0, cells := 0, slots := 0, locals := 0 } : Room) #[(.ref a), (.int f), (.int t)] h0 (fun v h L => v = some (.int 0) ∧ L = [] ∧ h = h0) := by
 refine Met.intro pn8 ?_
 intro pr ev s m below meth c T0 X0 hx hZ hown hby hml hret hlk hnm e0
 refine Go.cast (ef_rmCC m a f t) ?_
 refine Go.of (mkF m 1 #[.val (.ref a), .val (.int f), .val (.int t)] [(.ref a)]) (fun _ q => XS.aloadN X0.here hx rfl (hb hby d15_0) rfl rfl q) ?_
 obtain ⟨T1, X1, e1, st1⟩ := getF X0 hx hZ hown (host := "") (Or.inl (tw46 hw)) Via.refl e0 Fa2 (g := (mkF m 1 #[.val (.ref a), .val (.int f), .val (.int t)] [(.ref a)])) rfl rfl (hb hby d15_1)
 refine Go.of (mkF m 4 #[.val (.ref a), .val (.int f), .val (.int t)] [(.ref d)]) (st1) ?_
 refine Go.of (mkF m 5 #[.val (.ref a), .val (.int f), .val (.int t)] [(.int f), (.ref d)]) (fun _ q => XS.iloadN X1.here hx rfl (hb hby d15_4) rfl q) ?_
 refine Go.of (mkF m 6 #[.val (.ref a), .val (.int f), .val (.int t)] [(.ref a), (.int f), (.ref d)]) (fun _ q => XS.aloadN X1.here hx rfl (hb hby d15_5) rfl rfl q) ?_
 obtain ⟨T2, X2, e2, st2⟩ := getF X1 hx hZ hown (host := "") (Or.inl (tw44 hw)) Via.refl e1 Fa1 (g := (mkF m 6 #[.val (.ref a), .val (.int f), .val (.int t)] [(.ref a), (.int f), (.ref d)])) rfl rfl (hb hby d15_6)
 refine Go.of (mkF m 9 #[.val (.ref a), .val (.int f), .val (.int t)] [(.int 3), (.int f), (.ref d)]) (st2) ?_
 refine Go.of (mkF m 10 #[.val (.ref a), .val (.int f), .val (.int t)] [(.int (f * (3 : Int32))), (.ref d)]) (fun _ q => XS.imul X2.here hx rfl (hb hby d15_9) rfl q) ?_
 refine Go.of (mkF m 11 #[.val (.ref a), .val (.int f), .val (.int t)] [(.int t), (.int (f * (3 : Int32))), (.ref d)]) (fun _ q => XS.iloadN X2.here hx rfl (hb hby d15_10) rfl q) ?_
 refine Go.of (mkF m 12 #[.val (.ref a), .val (.int f), .val (.int t)] [(.int ((f * (3 : Int32)) + t)), (.ref d)]) (fun _ q => XS.iadd X2.here hx rfl (hb hby d15_11) rfl q) ?_
 refine Go.iaload X2 hx hZ e2 V hr.1 hr.2 (g := (mkF m 12 #[.val (.ref a), .val (.int f), .val (.int t)] [(.int ((f * (3 : Int32)) + t)), (.ref d)])) rfl rfl (hb hby d15_12) ?_
 show Go pr ev below _ T2 (mkF m 13 #[.val (.ref a), .val (.int f), .val (.int t)] [(.int ((fun _ => (0 : Int32)) ((f * (3 : Int32)) + t)))])
 exact Go.retW X2 hx (t := .int) hret hlk rfl (Or.inl ⟨rfl, by simp, _, rfl⟩) (hb hby d15_13) (by decide) (by decide) ⟨rfl, rfl, e2⟩
theorem ef_rmMx (m : MethodId) (x0 : Addr) (x1 : Addr) (x2 : Addr) : entryFrame m #[(.ref x0), (.ref x1), (.ref x2)] 5 = mkF m 0 #[.val (.ref x0), .val (.ref x1), .val (.ref x2), .unset, .unset] [] := by first | (simp [entryFrame, mkF, argsToLocals, Value.category]; done) | rfl
theorem rmMx (l : Launch) (Z : State) (a0 : Array Value) (hw : ∀ d ∈ tables_1, d.before a0 Z = true) (ws : List Jvm.Cond) (d p c9 : Nat) (h0 : Heap) (n0 : Nat) (hz0 : n0 ≤ h0.size) (Vdd : Fa Z h0 d .int 3 (fun i => .int ((fun _ => (0 : Int32)) i))) (Vpp : Fa Z h0 p .int 3 (fun i => .int ((fun _ => (0 : Int32)) i))) (Vcc : Fa Z h0 c9 .int 9 (fun i => .int ((fun _ => (0 : Int32)) i))) (Ec : Exa Z h0 c9 "[I") :
    Met l Z (⟨"com/example/kiriman/kiriman/route/Problem", "matrix", "([I[I[I)Lcom/example/kiriman/kiriman/route/Costs;"⟩ : MethodName) prog_29_method_5_code 5 (some (.object "com/example/kiriman/kiriman/route/Costs")) ws ({ frames := 2, cells := 2, slots := 11, locals := 27 } : Room) #[(.ref d), (.ref p), (.ref c9)] h0 (fun v h L => ∃ t tc : Nat, v = some (.ref t) ∧ Fr n0 L ∧ Keep h0 h [] ∧ h0.size ≤ t ∧ t < tc ∧ Exa Z h t "com/example/kiriman/kiriman/route/CostMatrix" ∧ Fld Z h t "com/example/kiriman/kiriman/route/CostMatrix" "nodes" "I" (.int (3 : Int32)) ∧ Fld Z h t "com/example/kiriman/kiriman/route/CostMatrix" "costs" "[I" (.ref tc) ∧ Fa Z h tc .int 9 (fun i => .int ((fun _ => (0 : Int32)) i))) := by
 refine Met.intro pn9 ?_
 intro pr ev s m below meth c T0 X0 hx hZ hown hby hml hret hlk hnm e0
 refine Go.cast (ef_rmMx m d p c9) ?_
 have N0 := Fr.nil n0
 have hz := hz0
 have K0 : Keep h0 h0 [] := Keep.refl h0 _
 refine Go.of (mkF m 1 #[.val (.ref d), .val (.ref p), .val (.ref c9), .unset, .unset] [(.ref d)]) (fun _ q => XS.aloadN X0.here hx rfl (hb hby d6_0) rfl rfl q) ?_
 refine Go.arraylength X0 hx hZ e0 Vdd (g := (mkF m 1 #[.val (.ref d), .val (.ref p), .val (.ref c9), .unset, .unset] [(.ref d)])) rfl rfl (hb hby d6_1) ?_
 show Go pr ev below _ T0 (mkF m 2 #[.val (.ref d), .val (.ref p), .val (.ref c9), .unset, .unset] [(.int 3)])
 refine Go.of (mkF m 3 #[.val (.ref d), .val (.ref p), .val (.ref c9), .val (.int 3), .unset] []) (fun _ q => XS.istoreN X0.here hx rfl (hb hby d6_2) rfl (l' := #[.val (.ref d), .val (.ref p), .val (.ref c9), .val (.int 3), .unset]) rfl q) ?_
 refine Go.of (mkF m 4 #[.val (.ref d), .val (.ref p), .val (.ref c9), .val (.int 3), .unset] [(.ref p)]) (fun _ q => XS.aloadN X0.here hx rfl (hb hby d6_3) rfl rfl q) ?_
 refine Go.arraylength X0 hx hZ e0 Vpp (g := (mkF m 4 #[.val (.ref d), .val (.ref p), .val (.ref c9), .val (.int 3), .unset] [(.ref p)])) rfl rfl (hb hby d6_4) ?_
 show Go pr ev below _ T0 (mkF m 5 #[.val (.ref d), .val (.ref p), .val (.ref c9), .val (.int 3), .unset] [(.int 3)])
 refine Go.of (mkF m 6 #[.val (.ref d), .val (.ref p), .val (.ref c9), .val (.int 3), .unset] [(.int 3), (.int 3)]) (fun _ q => XS.iloadN X0.here hx rfl (hb hby d6_5) rfl q) ?_
 refine Go.of (mkF m 9 #[.val (.ref d), .val (.ref p), .val (.ref c9), .val (.int 3), .unset] []) (fun _ q => XS.icmpNo X0.here hx rfl (hb hby d6_6) rfl (teq (by decide)).2 q) ?_
 refine Go.of (mkF m 10 #[.val (.ref d), .val (.ref p), .val (.ref c9), .val (.int 3), .unset] [(.ref c9)]) (fun _ q => XS.aloadN X0.here hx rfl (hb hby d6_9) rfl rfl q) ?_
 refine Go.arraylength X0 hx hZ e0 Vcc (g := (mkF m 10 #[.val (.ref d), .val (.ref p), .val (.ref c9), .val (.int 3), .unset] [(.ref c9)])) rfl rfl (hb hby d6_10) ?_
 show Go pr ev below _ T0 (mkF m 11 #[.val (.ref d), .val (.ref p), .val (.ref c9), .val (.int 3), .unset] [(.int 9)])
 refine Go.of (mkF m 12 #[.val (.ref d), .val (.ref p), .val (.ref c9), .val (.int 3), .unset] [(.long ((9 : Int32).toInt64))]) (fun _ q => XS.i2l X0.here hx rfl (hb hby d6_11) rfl q) ?_
 refine Go.of (mkF m 13 #[.val (.ref d), .val (.ref p), .val (.ref c9), .val (.int 3), .unset] [(.int 3), (.long ((9 : Int32).toInt64))]) (fun _ q => XS.iloadN X0.here hx rfl (hb hby d6_12) rfl q) ?_
 refine Go.of (mkF m 14 #[.val (.ref d), .val (.ref p), .val (.ref c9), .val (.int 3), .unset] [(.long ((3 : Int32).toInt64)), (.long ((9 : Int32).toInt64))]) (fun _ q => XS.i2l X0.here hx rfl (hb hby d6_13) rfl q) ?_
 refine Go.of (mkF m 15 #[.val (.ref d), .val (.ref p), .val (.ref c9), .val (.int 3), .unset] [(.int 3), (.long ((3 : Int32).toInt64)), (.long ((9 : Int32).toInt64))]) (fun _ q => XS.iloadN X0.here hx rfl (hb hby d6_14) rfl q) ?_
 refine Go.of (mkF m 16 #[.val (.ref d), .val (.ref p), .val (.ref c9), .val (.int 3), .unset] [(.long ((3 : Int32).toInt64)), (.long ((3 : Int32).toInt64)), (.long ((9 : Int32).toInt64))]) (fun _ q => XS.i2l X0.here hx rfl (hb hby d6_15) rfl q) ?_
 refine Go.of (mkF m 17 #[.val (.ref d), .val (.ref p), .val (.ref c9), .val (.int 3), .unset] [(.long (((3 : Int32).toInt64) * ((3 : Int32).toInt64))), (.long ((9 : Int32).toInt64))]) (fun _ q => XS.lmul X0.here hx rfl (hb hby d6_16) rfl q) ?_
 refine Go.of (mkF m 18 #[.val (.ref d), .val (.ref p), .val (.ref c9), .val (.int 3), .unset] [(.int (lcmpW ((9 : Int32).toInt64) (((3 : Int32).toInt64) * ((3 : Int32).toInt64))))]) (fun _ q => XS.lcmp X0.here hx rfl (hb hby d6_17) rfl q) ?_
 refine Go.of (mkF m 48 #[.val (.ref d), .val (.ref p), .val (.ref c9), .val (.int 3), .unset] []) (fun _ q => XS.ifYes X0.here hx rfl (pc0 := 18) (pc' := 48) rfl (hb hby d6_18) rfl ((if0 _ _).trans (teq ((lw_eq _ _).mpr (by decide))).1) (by decide) (by decide) q) ?_
 obtain ⟨T1, h1, X1, e1, E1, A1, D1, -, st1⟩ := newO X0 hx hZ hown (tw26 hw) (tw27 hw) (tw28 hw) e0 (g := (mkF m 48 #[.val (.ref d), .val (.ref p), .val (.ref c9), .val (.int 3), .unset] [])) rfl (hb hby d6_48) (by decide) (by decide)
 obtain ⟨b1, g1⟩ : ∃ z, z = h0.size := ⟨_, rfl⟩
 rw [← g1] at A1 D1 st1
 have ne_c9_b1 : c9 ≠ b1 := Nat.ne_of_lt (Nat.lt_of_lt_of_le Ec.lt (Nat.le_of_eq g1.symm))
 have ne_d_b1 : d ≠ b1 := Nat.ne_of_lt (Nat.lt_of_lt_of_le Vdd.lt (Nat.le_of_eq g1.symm))
 have ne_p_b1 : p ≠ b1 := Nat.ne_of_lt (Nat.lt_of_lt_of_le Vpp.lt (Nat.le_of_eq g1.symm))
 have gb_b1 : n0 ≤ b1 := Nat.le_trans hz (Nat.le_of_eq g1.symm)
 have sz_b1 : h0.size ≤ b1 := Nat.le_trans K0.1 (Nat.le_of_eq g1.symm)
 replace Ec := Ec.ext E1
 replace Vdd := Vdd.ext E1
 replace Vpp := Vpp.ext E1
 replace Vcc := Vcc.ext E1
 replace hz := Nat.le_trans hz E1.1
 replace K0 := K0.ext E1
 have F_b1_nodes : Fld Z h1 b1 "com/example/kiriman/kiriman/route/CostMatrix" "nodes" "I" (.int 0) := D1 (Or.inr (tw45 hw)) (ty := .int) (by decide)
 have F_b1_costs : Fld Z h1 b1 "com/example/kiriman/kiriman/route/CostMatrix" "costs" "[I" .null := D1 (Or.inr (tw47 hw)) (ty := (.array .int)) (by decide)
 refine Go.of (mkF m 51 #[.val (.ref d), .val (.ref p), .val (.ref c9), .val (.int 3), .unset] [(.ref b1)]) (st1) ?_
 refine Go.of (mkF m 52 #[.val (.ref d), .val (.ref p), .val (.ref c9), .val (.int 3), .unset] [(.ref b1), (.ref b1)]) (fun _ q => XS.dup X1.here hx rfl (hb hby d6_51) rfl rfl q) ?_
 refine Go.of (mkF m 53 #[.val (.ref d), .val (.ref p), .val (.ref c9), .val (.int 3), .unset] [(.int 3), (.ref b1), (.ref b1)]) (fun _ q => XS.iloadN X1.here hx rfl (hb hby d6_52) rfl q) ?_
 refine Go.of (mkF m 54 #[.val (.ref d), .val (.ref p), .val (.ref c9), .val (.int 3), .unset] [(.ref c9), (.int 3), (.ref b1), (.ref b1)]) (fun _ q => XS.aloadN X1.here hx rfl (hb hby d6_53) rfl rfl q) ?_
 have hlo1 := A1.lt
 refine Go.clone X1 hx hZ hown (tw29 hw) (tw30 hw) (tw34 hw) (tw32 hw) (tw33 hw) (tw35 hw) e1 Vcc Ec (g := (mkF m 54 #[.val (.ref d), .val (.ref p), .val (.ref c9), .val (.int 3), .unset] [(.ref c9), (.int 3), (.ref b1), (.ref b1)])) rfl (by rw [hml]; rfl) rfl (hb hby d6_54) (by decide) (W := 3) (cap := 9) (by show 2 * 0 + _ ≤ _; exact Nat.le_of_eq rfl) (by decide) (by decide) (by decide) (by decide) ?_
 rintro T2 h2 b2 g2 X2 e2 E2 V2 Q2
 have ne_c9_b2 : c9 ≠ b2 := Nat.ne_of_lt (Nat.lt_of_lt_of_le Ec.lt (Nat.le_of_eq g2.symm))
 have ne_b1_b2 : b1 ≠ b2 := Nat.ne_of_lt (Nat.lt_of_lt_of_le A1.lt (Nat.le_of_eq g2.symm))
 have ne_d_b2 : d ≠ b2 := Nat.ne_of_lt (Nat.lt_of_lt_of_le Vdd.lt (Nat.le_of_eq g2.symm))
 have ne_p_b2 : p ≠ b2 := Nat.ne_of_lt (Nat.lt_of_lt_of_le Vpp.lt (Nat.le_of_eq g2.symm))
 have gb_b2 : n0 ≤ b2 := Nat.le_trans hz (Nat.le_of_eq g2.symm)
 have sz_b2 : h0.size ≤ b2 := Nat.le_trans K0.1 (Nat.le_of_eq g2.symm)
 replace F_b1_nodes := F_b1_nodes.ext E2
 replace F_b1_costs := F_b1_costs.ext E2
 replace Ec := Ec.ext E2
 replace A1 := A1.ext E2
 replace Vdd := Vdd.ext E2
 replace Vpp := Vpp.ext E2
 replace Vcc := Vcc.ext E2
 replace hz := Nat.le_trans hz E2.1
 replace K0 := K0.ext E2
 show Go pr ev below _ T2 (mkF m 57 #[.val (.ref d), .val (.ref p), .val (.ref c9), .val (.int 3), .unset] [(.ref b2), (.int 3), (.ref b1), (.ref b1)])
 obtain ⟨T3, X3, e3, st3⟩ := castY X2 hx hZ hown (tw36 hw) e2 (Ins.self Q2) (g := (mkF m 57 #[.val (.ref d), .val (.ref p), .val (.ref c9), .val (.int 3), .unset] [(.ref b2), (.int 3), (.ref b1), (.ref b1)])) rfl rfl (hb hby d6_57)
 refine Go.of (mkF m 60 #[.val (.ref d), .val (.ref p), .val (.ref c9), .val (.int 3), .unset] [(.ref b2), (.int 3), (.ref b1), (.ref b1)]) (st3) ?_
 refine Go.init X3 hx hZ (y := (⟨"com/example/kiriman/kiriman/route/CostMatrix", "<init>", "(I[I)V"⟩ : MethodName)) (a := b1) (argsL := [(.int 3), (.ref b2)]) (rest := [(.ref b1)]) hown rfl (tw38 hw) (tw39 hw) (tw28 hw) (tw40 hw) (by decide) e3 (rmCI l Z a0 hw [] b1 b2 h2 n0 hz A1 gb_b1 F_b1_nodes F_b1_costs) (g := (mkF m 60 #[.val (.ref d), .val (.ref p), .val (.ref c9), .val (.int 3), .unset] [(.ref b2), (.int 3), (.ref b1), (.ref b1)])) rfl (by rw [hml]; rfl) (lenOf pd10 rfl) rfl (W := 1) (by show 2 * 0 + _ ≤ _; exact Nat.le_of_eq rfl) (hb hby d6_60) (by decide) (by decide) (by decide) (by decide) ?_
 rintro T4 L4 v4 X4 ⟨rfl, NL4, K4, G1, G2⟩
 have N4 := Fr.app N0 NL4
 replace Ec := Ec.keep K4
 replace A1 := A1.keep K4
 replace Q2 := Q2.keep K4
 replace Vdd := Vdd.keep K4 (ninS ne_d_b1 nin0)
 replace Vpp := Vpp.keep K4 (ninS ne_p_b1 nin0)
 replace Vcc := Vcc.keep K4 (ninS ne_c9_b1 nin0)
 replace V2 := V2.keep K4 (ninS (Ne.symm ne_b1_b2) nin0)
 replace hz := Nat.le_trans hz K4.1
 replace K0 := K0.trans K4 (((allS (Or.inr sz_b1) all0)))
 show Go pr ev below _ T4 (mkF m 63 #[.val (.ref d), .val (.ref p), .val (.ref c9), .val (.int 3), .unset] [(.ref b1)])
 have lto : b1 < b2 := Nat.lt_of_lt_of_le hlo1 (Nat.le_of_eq g2.symm)
 exact Go.retW X4 hx (t := (.object "com/example/kiriman/kiriman/route/Costs")) hret hlk rfl (Or.inr (Or.inr (Or.inr (Or.inr ⟨rfl, rfl, rfl⟩)))) (hb hby d6_63) (by decide) (by decide) ⟨b1, b2, rfl, N4, K0, sz_b1, lto, A1, G1, G2, V2⟩
theorem ef_rmP3 (m : MethodId) (x0 : Addr) (x1 : Int32) (x2 : Addr) (x3 : Addr) (x4 : Addr) (x5 : Addr) : entryFrame m #[(.ref x0), (.int x1), (.ref x2), (.ref x3), (.ref x4), (.ref x5)] 11 = mkF m 0 #[.val (.ref x0), .val (.int x1), .val (.ref x2), .val (.ref x3), .val (.ref x4), .val (.ref x5), .unset, .unset, .unset, .unset, .unset] [] := by first | (simp [entryFrame, mkF, argsToLocals, Value.category]; done) | rfl
theorem rmP3 (l : Launch) (Z : State) (a0 : Array Value) (hw : ∀ d ∈ tables_1, d.before a0 Z = true) (ws : List Jvm.Cond) (a cp d p t : Nat) (h0 : Heap) (n0 : Nat) (hz0 : n0 ≤ h0.size) (E : Exa Z h0 a "com/example/kiriman/kiriman/route/Problem") (ga : n0 ≤ a) (Pnodes : Fld Z h0 a "com/example/kiriman/kiriman/route/Problem" "nodes" "I" (.int (0 : Int32))) (Pdepot : Fld Z h0 a "com/example/kiriman/kiriman/route/Problem" "depot" "I" (.int (0 : Int32))) (Pcapacities : Fld Z h0 a "com/example/kiriman/kiriman/route/Problem" "capacities" "[I" .null) (Pdeliveries : Fld Z h0 a "com/example/kiriman/kiriman/route/Problem" "deliveries" "[I" .null) (Ppickups : Fld Z h0 a "com/example/kiriman/kiriman/route/Problem" "pickups" "[I" .null) (Pcosts : Fld Z h0 a "com/example/kiriman/kiriman/route/Problem" "costs" "Lcom/example/kiriman/kiriman/route/Costs;" .null) (Pservice : Fld Z h0 a "com/example/kiriman/kiriman/route/Problem" "service" "[I" .null) (Plongest : Fld Z h0 a "com/example/kiriman/kiriman/route/Problem" "longest" "J" (.long (0 : Int64))) (Platest : Fld Z h0 a "com/example/kiriman/kiriman/route/Problem" "latest" "J" (.long (0 : Int64))) (Vca : Fa Z h0 cp .int 2 (fun i => .int ((fun _ => (0 : Int32)) i))) (Eca : Exa Z h0 cp "[I") (Vdd : Fa Z h0 d .int 3 (fun i => .int ((fun _ => (0 : Int32)) i))) (Edd : Exa Z h0 d "[I") (Vpp : Fa Z h0 p .int 3 (fun i => .int ((fun _ => (0 : Int32)) i))) (Epp : Exa Z h0 p "[I") (Et : Exa Z h0 t "com/example/kiriman/kiriman/route/CostMatrix") (Ft : Fld Z h0 t "com/example/kiriman/kiriman/route/CostMatrix" "nodes" "I" (.int (3 : Int32))) (n1 : cp ≠ a) (n2 : d ≠ a) (n3 : p ≠ a) (n4 : t ≠ a) :
    Met l Z (⟨"com/example/kiriman/kiriman/route/Problem", "<init>", "(I[I[I[ILcom/example/kiriman/kiriman/route/Costs;)V"⟩ : MethodName) prog_29_method_3_code 11 none ws ({ frames := 1, cells := 4, slots := 11, locals := 15 } : Room) #[(.ref a), (.int 0), (.ref cp), (.ref d), (.ref p), (.ref t)] h0 (fun v h L => v = none ∧ Fr n0 L ∧ Keep h0 h [a] ∧ Fld Z h a "com/example/kiriman/kiriman/route/Problem" "nodes" "I" (.int (3 : Int32)) ∧ Fld Z h a "com/example/kiriman/kiriman/route/Problem" "depot" "I" (.int (0 : Int32)) ∧ Fld Z h a "com/example/kiriman/kiriman/route/Problem" "costs" "Lcom/example/kiriman/kiriman/route/Costs;" (.ref t)) := by
 refine Met.intro pn11 ?_
 intro pr ev s m below meth c T0 X0 hx hZ hown hby hml hret hlk hnm e0
 refine Go.cast (ef_rmP3 m a (0 : Int32) cp d p t) ?_
 have N0 := Fr.nil n0
 have hz := hz0
 have K0 : Keep h0 h0 [a] := Keep.refl h0 _
 refine Go.of (mkF m 1 #[.val (.ref a), .val (.int 0), .val (.ref cp), .val (.ref d), .val (.ref p), .val (.ref t), .unset, .unset, .unset, .unset, .unset] [(.ref a)]) (fun _ q => XS.aloadN X0.here hx rfl (hb hby d9_0) rfl rfl q) ?_
 obtain ⟨T1, X1, e1, st1⟩ := initO X0 hx hZ hown (tw51 hw) (tw42 hw) (tw43 hw) e0 (g := (mkF m 1 #[.val (.ref a), .val (.int 0), .val (.ref cp), .val (.ref d), .val (.ref p), .val (.ref t), .unset, .unset, .unset, .unset, .unset] [(.ref a)])) rfl (by rw [hml]; rfl) rfl (hb hby d9_1) (by decide) (W := 0) (by show 2 * 0 + _ ≤ _; exact Nat.le_of_eq rfl) (by decide)
 refine Go.of (mkF m 4 #[.val (.ref a), .val (.int 0), .val (.ref cp), .val (.ref d), .val (.ref p), .val (.ref t), .unset, .unset, .unset, .unset, .unset] []) (st1) ?_
 refine Go.of (mkF m 5 #[.val (.ref a), .val (.int 0), .val (.ref cp), .val (.ref d), .val (.ref p), .val (.ref t), .unset, .unset, .unset, .unset, .unset] [(.ref d)]) (fun _ q => XS.aloadN X1.here hx rfl (hb hby d9_4) rfl rfl q) ?_
 refine Go.arraylength X1 hx hZ e1 Vdd (g := (mkF m 5 #[.val (.ref a), .val (.int 0), .val (.ref cp), .val (.ref d), .val (.ref p), .val (.ref t), .unset, .unset, .unset, .unset, .unset] [(.ref d)])) rfl rfl (hb hby d9_5) ?_
 show Go pr ev below _ T1 (mkF m 6 #[.val (.ref a), .val (.int 0), .val (.ref cp), .val (.ref d), .val (.ref p), .val (.ref t), .unset, .unset, .unset, .unset, .unset] [(.int 3)])
 refine Go.of (mkF m 8 #[.val (.ref a), .val (.int 0), .val (.ref cp), .val (.ref d), .val (.ref p), .val (.ref t), .val (.int 3), .unset, .unset, .unset, .unset] []) (fun _ q => XS.istore X1.here hx rfl (hb hby d9_6) rfl (l' := #[.val (.ref a), .val (.int 0), .val (.ref cp), .val (.ref d), .val (.ref p), .val (.ref t), .val (.int 3), .unset, .unset, .unset, .unset]) rfl q) ?_
 refine Go.of (mkF m 10 #[.val (.ref a), .val (.int 0), .val (.ref cp), .val (.ref d), .val (.ref p), .val (.ref t), .val (.int 3), .unset, .unset, .unset, .unset] [(.ref p)]) (fun _ q => XS.aload X1.here hx rfl (hb hby d9_8) rfl rfl q) ?_
 refine Go.arraylength X1 hx hZ e1 Vpp (g := (mkF m 10 #[.val (.ref a), .val (.int 0), .val (.ref cp), .val (.ref d), .val (.ref p), .val (.ref t), .val (.int 3), .unset, .unset, .unset, .unset] [(.ref p)])) rfl rfl (hb hby d9_10) ?_
 show Go pr ev below _ T1 (mkF m 11 #[.val (.ref a), .val (.int 0), .val (.ref cp), .val (.ref d), .val (.ref p), .val (.ref t), .val (.int 3), .unset, .unset, .unset, .unset] [(.int 3)])
 refine Go.of (mkF m 13 #[.val (.ref a), .val (.int 0), .val (.ref cp), .val (.ref d), .val (.ref p), .val (.ref t), .val (.int 3), .unset, .unset, .unset, .unset] [(.int 3), (.int 3)]) (fun _ q => XS.iload X1.here hx rfl (hb hby d9_11) rfl q) ?_
 refine Go.of (mkF m 16 #[.val (.ref a), .val (.int 0), .val (.ref cp), .val (.ref d), .val (.ref p), .val (.ref t), .val (.int 3), .unset, .unset, .unset, .unset] []) (fun _ q => XS.icmpNo X1.here hx rfl (hb hby d9_13) rfl (teq (by decide)).2 q) ?_
 refine Go.of (mkF m 18 #[.val (.ref a), .val (.int 0), .val (.ref cp), .val (.ref d), .val (.ref p), .val (.ref t), .val (.int 3), .unset, .unset, .unset, .unset] [(.ref t)]) (fun _ q => XS.aload X1.here hx rfl (hb hby d9_16) rfl rfl q) ?_
 refine Go.face X1 hx hZ (y := (⟨"com/example/kiriman/kiriman/route/CostMatrix", "nodes", "()I"⟩ : MethodName)) (z := (⟨"com/example/kiriman/kiriman/route/Costs", "nodes", "()I"⟩ : MethodName)) (a := t) (argsL := []) (rest := []) hown (tw52 hw) (tw53 hw) (mvT hZ (tw54 hw)) (tw55 hw) (tw56 hw) (tw57 hw) (tw58 hw) (tw59 hw) (tw28 hw) (tw60 hw) (by decide) e1 Et (rmCN l Z a0 hw [] t h0 Ft) (g := (mkF m 18 #[.val (.ref a), .val (.int 0), .val (.ref cp), .val (.ref d), .val (.ref p), .val (.ref t), .val (.int 3), .unset, .unset, .unset, .unset] [(.ref t)])) rfl (by rw [hml]; rfl) (lenOf pd12 rfl) rfl (W := 0) (by show 2 * 0 + _ ≤ _; exact Nat.le_of_eq rfl) (hb hby d9_18) (by decide) (by decide) (by decide) (by decide) ?_
 rintro T2 L2 v2 X2 ⟨rfl, rfl, hh2⟩
 have N2 := Fr.app N0 (Fr.nil n0)
 show Go pr ev below _ T2 (mkF m 23 #[.val (.ref a), .val (.int 0), .val (.ref cp), .val (.ref d), .val (.ref p), .val (.ref t), .val (.int 3), .unset, .unset, .unset, .unset] [(.int 3)])
 refine Go.of (mkF m 25 #[.val (.ref a), .val (.int 0), .val (.ref cp), .val (.ref d), .val (.ref p), .val (.ref t), .val (.int 3), .unset, .unset, .unset, .unset] [(.int 3), (.int 3)]) (fun _ q => XS.iload X2.here hx rfl (hb hby d9_23) rfl q) ?_
 refine Go.of (mkF m 62 #[.val (.ref a), .val (.int 0), .val (.ref cp), .val (.ref d), .val (.ref p), .val (.ref t), .val (.int 3), .unset, .unset, .unset, .unset] []) (fun _ q => XS.icmpYes X2.here hx rfl (pc0 := 25) (pc' := 62) rfl (hb hby d9_25) rfl (teq (by decide)).1 (by decide) (by decide) q) ?_
 refine Go.of (mkF m 63 #[.val (.ref a), .val (.int 0), .val (.ref cp), .val (.ref d), .val (.ref p), .val (.ref t), .val (.int 3), .unset, .unset, .unset, .unset] [(.int 0)]) (fun _ q => XS.iloadN X2.here hx rfl (hb hby d9_62) rfl q) ?_
 refine Go.of (mkF m 66 #[.val (.ref a), .val (.int 0), .val (.ref cp), .val (.ref d), .val (.ref p), .val (.ref t), .val (.int 3), .unset, .unset, .unset, .unset] []) (fun _ q => XS.ifNo X2.here hx rfl (hb hby d9_63) rfl ((if0 _ _).trans (flt (by decide)).1) q) ?_
 refine Go.of (mkF m 67 #[.val (.ref a), .val (.int 0), .val (.ref cp), .val (.ref d), .val (.ref p), .val (.ref t), .val (.int 3), .unset, .unset, .unset, .unset] [(.int 0)]) (fun _ q => XS.iloadN X2.here hx rfl (hb hby d9_66) rfl q) ?_
 refine Go.of (mkF m 69 #[.val (.ref a), .val (.int 0), .val (.ref cp), .val (.ref d), .val (.ref p), .val (.ref t), .val (.int 3), .unset, .unset, .unset, .unset] [(.int 3), (.int 0)]) (fun _ q => XS.iload X2.here hx rfl (hb hby d9_67) rfl q) ?_
 refine Go.of (mkF m 88 #[.val (.ref a), .val (.int 0), .val (.ref cp), .val (.ref d), .val (.ref p), .val (.ref t), .val (.int 3), .unset, .unset, .unset, .unset] []) (fun _ q => XS.icmpYes X2.here hx rfl (pc0 := 69) (pc' := 88) rfl (hb hby d9_69) rfl (tlt (by decide)).1 (by decide) (by decide) q) ?_
 refine Go.of (mkF m 89 #[.val (.ref a), .val (.int 0), .val (.ref cp), .val (.ref d), .val (.ref p), .val (.ref t), .val (.int 3), .unset, .unset, .unset, .unset] [(.ref cp)]) (fun _ q => XS.aloadN X2.here hx rfl (hb hby d9_88) rfl rfl q) ?_
 refine Go.of (mkF m 91 #[.val (.ref a), .val (.int 0), .val (.ref cp), .val (.ref d), .val (.ref p), .val (.ref t), .val (.int 3), .val (.ref cp), .unset, .unset, .unset] []) (fun _ q => XS.astore X2.here hx rfl (hb hby d9_89) rfl rfl (l' := #[.val (.ref a), .val (.int 0), .val (.ref cp), .val (.ref d), .val (.ref p), .val (.ref t), .val (.int 3), .val (.ref cp), .unset, .unset, .unset]) rfl q) ?_
 refine Go.of (mkF m 93 #[.val (.ref a), .val (.int 0), .val (.ref cp), .val (.ref d), .val (.ref p), .val (.ref t), .val (.int 3), .val (.ref cp), .unset, .unset, .unset] [(.ref cp)]) (fun _ q => XS.aload X2.here hx rfl (hb hby d9_91) rfl rfl q) ?_
 refine Go.arraylength X2 hx hZ hh2 Vca (g := (mkF m 93 #[.val (.ref a), .val (.int 0), .val (.ref cp), .val (.ref d), .val (.ref p), .val (.ref t), .val (.int 3), .val (.ref cp), .unset, .unset, .unset] [(.ref cp)])) rfl rfl (hb hby d9_93) ?_
 show Go pr ev below _ T2 (mkF m 94 #[.val (.ref a), .val (.int 0), .val (.ref cp), .val (.ref d), .val (.ref p), .val (.ref t), .val (.int 3), .val (.ref cp), .unset, .unset, .unset] [(.int 2)])
 refine Go.of (mkF m 96 #[.val (.ref a), .val (.int 0), .val (.ref cp), .val (.ref d), .val (.ref p), .val (.ref t), .val (.int 3), .val (.ref cp), .val (.int 2), .unset, .unset] []) (fun _ q => XS.istore X2.here hx rfl (hb hby d9_94) rfl (l' := #[.val (.ref a), .val (.int 0), .val (.ref cp), .val (.ref d), .val (.ref p), .val (.ref t), .val (.int 3), .val (.ref cp), .val (.int 2), .unset, .unset]) rfl q) ?_
 refine Go.of (mkF m 97 #[.val (.ref a), .val (.int 0), .val (.ref cp), .val (.ref d), .val (.ref p), .val (.ref t), .val (.int 3), .val (.ref cp), .val (.int 2), .unset, .unset] [(.int 0)]) (fun _ q => XS.iconst X2.here hx rfl (hb hby d9_96) q) ?_
 refine Go.of (mkF m 99 #[.val (.ref a), .val (.int 0), .val (.ref cp), .val (.ref d), .val (.ref p), .val (.ref t), .val (.int 3), .val (.ref cp), .val (.int 2), .val (.int 0), .unset] []) (fun _ q => XS.istore X2.here hx rfl (hb hby d9_97) rfl (l' := #[.val (.ref a), .val (.int 0), .val (.ref cp), .val (.ref d), .val (.ref p), .val (.ref t), .val (.int 3), .val (.ref cp), .val (.int 2), .val (.int 0), .unset]) rfl q) ?_
 refine Go.of (mkF m 101 #[.val (.ref a), .val (.int 0), .val (.ref cp), .val (.ref d), .val (.ref p), .val (.ref t), .val (.int 3), .val (.ref cp), .val (.int 2), .val (.int 0), .unset] [(.int 0)]) (fun _ q => XS.iload X2.here hx rfl (hb hby d9_99) rfl q) ?_
 refine Go.of (mkF m 103 #[.val (.ref a), .val (.int 0), .val (.ref cp), .val (.ref d), .val (.ref p), .val (.ref t), .val (.int 3), .val (.ref cp), .val (.int 2), .val (.int 0), .unset] [(.int 2), (.int 0)]) (fun _ q => XS.iload X2.here hx rfl (hb hby d9_101) rfl q) ?_
 refine Go.of (mkF m 106 #[.val (.ref a), .val (.int 0), .val (.ref cp), .val (.ref d), .val (.ref p), .val (.ref t), .val (.int 3), .val (.ref cp), .val (.int 2), .val (.int 0), .unset] []) (fun _ q => XS.icmpNo X2.here hx rfl (hb hby d9_103) rfl (tlt (by decide)).2.1 q) ?_
 refine Go.of (mkF m 108 #[.val (.ref a), .val (.int 0), .val (.ref cp), .val (.ref d), .val (.ref p), .val (.ref t), .val (.int 3), .val (.ref cp), .val (.int 2), .val (.int 0), .unset] [(.ref cp)]) (fun _ q => XS.aload X2.here hx rfl (hb hby d9_106) rfl rfl q) ?_
 refine Go.of (mkF m 110 #[.val (.ref a), .val (.int 0), .val (.ref cp), .val (.ref d), .val (.ref p), .val (.ref t), .val (.int 3), .val (.ref cp), .val (.int 2), .val (.int 0), .unset] [(.int 0), (.ref cp)]) (fun _ q => XS.iload X2.here hx rfl (hb hby d9_108) rfl q) ?_
 refine Go.iaload X2 hx hZ hh2 Vca (by decide) (by decide) (g := (mkF m 110 #[.val (.ref a), .val (.int 0), .val (.ref cp), .val (.ref d), .val (.ref p), .val (.ref t), .val (.int 3), .val (.ref cp), .val (.int 2), .val (.int 0), .unset] [(.int 0), (.ref cp)])) rfl rfl (hb hby d9_110) ?_
 show Go pr ev below _ T2 (mkF m 111 #[.val (.ref a), .val (.int 0), .val (.ref cp), .val (.ref d), .val (.ref p), .val (.ref t), .val (.int 3), .val (.ref cp), .val (.int 2), .val (.int 0), .unset] [(.int ((fun _ => (0 : Int32)) (0 : Int32)))])
 rw [show ((fun _ => (0 : Int32)) (0 : Int32)) = (0 : Int32) from by rfl]
 refine Go.of (mkF m 113 #[.val (.ref a), .val (.int 0), .val (.ref cp), .val (.ref d), .val (.ref p), .val (.ref t), .val (.int 3), .val (.ref cp), .val (.int 2), .val (.int 0), .val (.int 0)] []) (fun _ q => XS.istore X2.here hx rfl (hb hby d9_111) rfl (l' := #[.val (.ref a), .val (.int 0), .val (.ref cp), .val (.ref d), .val (.ref p), .val (.ref t), .val (.int 3), .val (.ref cp), .val (.int 2), .val (.int 0), .val (.int 0)]) rfl q) ?_
 refine Go.of (mkF m 115 #[.val (.ref a), .val (.int 0), .val (.ref cp), .val (.ref d), .val (.ref p), .val (.ref t), .val (.int 3), .val (.ref cp), .val (.int 2), .val (.int 0), .val (.int 0)] [(.int 0)]) (fun _ q => XS.iload X2.here hx rfl (hb hby d9_113) rfl q) ?_
 refine Go.of (mkF m 133 #[.val (.ref a), .val (.int 0), .val (.ref cp), .val (.ref d), .val (.ref p), .val (.ref t), .val (.int 3), .val (.ref cp), .val (.int 2), .val (.int 0), .val (.int 0)] []) (fun _ q => XS.ifYes X2.here hx rfl (pc0 := 115) (pc' := 133) rfl (hb hby d9_115) rfl ((if0 _ _).trans (flt (by decide)).2.1) (by decide) (by decide) q) ?_
 refine Go.of (mkF m 136 #[.val (.ref a), .val (.int 0), .val (.ref cp), .val (.ref d), .val (.ref p), .val (.ref t), .val (.int 3), .val (.ref cp), .val (.int 2), .val (.int ((0 : Int32) + (1 : Int32))), .val (.int 0)] []) (fun _ q => XS.iinc X2.here hx rfl (hb hby d9_133) rfl (l' := #[.val (.ref a), .val (.int 0), .val (.ref cp), .val (.ref d), .val (.ref p), .val (.ref t), .val (.int 3), .val (.ref cp), .val (.int 2), .val (.int ((0 : Int32) + (1 : Int32))), .val (.int 0)]) rfl q) ?_
 rw [show ((0 : Int32) + (1 : Int32)) = (1 : Int32) from by decide]
 refine Go.of (mkF m 99 #[.val (.ref a), .val (.int 0), .val (.ref cp), .val (.ref d), .val (.ref p), .val (.ref t), .val (.int 3), .val (.ref cp), .val (.int 2), .val (.int 1), .val (.int 0)] []) (fun _ q => XS.goto X2.here hx rfl (pc0 := 136) (pc' := 99) rfl (hb hby d9_136) (by decide) (by decide) q) ?_
 refine Go.of (mkF m 101 #[.val (.ref a), .val (.int 0), .val (.ref cp), .val (.ref d), .val (.ref p), .val (.ref t), .val (.int 3), .val (.ref cp), .val (.int 2), .val (.int 1), .val (.int 0)] [(.int 1)]) (fun _ q => XS.iload X2.here hx rfl (hb hby d9_99) rfl q) ?_
 refine Go.of (mkF m 103 #[.val (.ref a), .val (.int 0), .val (.ref cp), .val (.ref d), .val (.ref p), .val (.ref t), .val (.int 3), .val (.ref cp), .val (.int 2), .val (.int 1), .val (.int 0)] [(.int 2), (.int 1)]) (fun _ q => XS.iload X2.here hx rfl (hb hby d9_101) rfl q) ?_
 refine Go.of (mkF m 106 #[.val (.ref a), .val (.int 0), .val (.ref cp), .val (.ref d), .val (.ref p), .val (.ref t), .val (.int 3), .val (.ref cp), .val (.int 2), .val (.int 1), .val (.int 0)] []) (fun _ q => XS.icmpNo X2.here hx rfl (hb hby d9_103) rfl (tlt (by decide)).2.1 q) ?_
 refine Go.of (mkF m 108 #[.val (.ref a), .val (.int 0), .val (.ref cp), .val (.ref d), .val (.ref p), .val (.ref t), .val (.int 3), .val (.ref cp), .val (.int 2), .val (.int 1), .val (.int 0)] [(.ref cp)]) (fun _ q => XS.aload X2.here hx rfl (hb hby d9_106) rfl rfl q) ?_
 refine Go.of (mkF m 110 #[.val (.ref a), .val (.int 0), .val (.ref cp), .val (.ref d), .val (.ref p), .val (.ref t), .val (.int 3), .val (.ref cp), .val (.int 2), .val (.int 1), .val (.int 0)] [(.int 1), (.ref cp)]) (fun _ q => XS.iload X2.here hx rfl (hb hby d9_108) rfl q) ?_
 refine Go.iaload X2 hx hZ hh2 Vca (by decide) (by decide) (g := (mkF m 110 #[.val (.ref a), .val (.int 0), .val (.ref cp), .val (.ref d), .val (.ref p), .val (.ref t), .val (.int 3), .val (.ref cp), .val (.int 2), .val (.int 1), .val (.int 0)] [(.int 1), (.ref cp)])) rfl rfl (hb hby d9_110) ?_
 show Go pr ev below _ T2 (mkF m 111 #[.val (.ref a), .val (.int 0), .val (.ref cp), .val (.ref d), .val (.ref p), .val (.ref t), .val (.int 3), .val (.ref cp), .val (.int 2), .val (.int 1), .val (.int 0)] [(.int ((fun _ => (0 : Int32)) (1 : Int32)))])
 rw [show ((fun _ => (0 : Int32)) (1 : Int32)) = (0 : Int32) from by rfl]
 refine Go.of (mkF m 113 #[.val (.ref a), .val (.int 0), .val (.ref cp), .val (.ref d), .val (.ref p), .val (.ref t), .val (.int 3), .val (.ref cp), .val (.int 2), .val (.int 1), .val (.int 0)] []) (fun _ q => XS.istore X2.here hx rfl (hb hby d9_111) rfl (l' := #[.val (.ref a), .val (.int 0), .val (.ref cp), .val (.ref d), .val (.ref p), .val (.ref t), .val (.int 3), .val (.ref cp), .val (.int 2), .val (.int 1), .val (.int 0)]) rfl q) ?_
 refine Go.of (mkF m 115 #[.val (.ref a), .val (.int 0), .val (.ref cp), .val (.ref d), .val (.ref p), .val (.ref t), .val (.int 3), .val (.ref cp), .val (.int 2), .val (.int 1), .val (.int 0)] [(.int 0)]) (fun _ q => XS.iload X2.here hx rfl (hb hby d9_113) rfl q) ?_
 refine Go.of (mkF m 133 #[.val (.ref a), .val (.int 0), .val (.ref cp), .val (.ref d), .val (.ref p), .val (.ref t), .val (.int 3), .val (.ref cp), .val (.int 2), .val (.int 1), .val (.int 0)] []) (fun _ q => XS.ifYes X2.here hx rfl (pc0 := 115) (pc' := 133) rfl (hb hby d9_115) rfl ((if0 _ _).trans (flt (by decide)).2.1) (by decide) (by decide) q) ?_
 refine Go.of (mkF m 136 #[.val (.ref a), .val (.int 0), .val (.ref cp), .val (.ref d), .val (.ref p), .val (.ref t), .val (.int 3), .val (.ref cp), .val (.int 2), .val (.int ((1 : Int32) + (1 : Int32))), .val (.int 0)] []) (fun _ q => XS.iinc X2.here hx rfl (hb hby d9_133) rfl (l' := #[.val (.ref a), .val (.int 0), .val (.ref cp), .val (.ref d), .val (.ref p), .val (.ref t), .val (.int 3), .val (.ref cp), .val (.int 2), .val (.int ((1 : Int32) + (1 : Int32))), .val (.int 0)]) rfl q) ?_
 rw [show ((1 : Int32) + (1 : Int32)) = (2 : Int32) from by decide]
 refine Go.of (mkF m 99 #[.val (.ref a), .val (.int 0), .val (.ref cp), .val (.ref d), .val (.ref p), .val (.ref t), .val (.int 3), .val (.ref cp), .val (.int 2), .val (.int 2), .val (.int 0)] []) (fun _ q => XS.goto X2.here hx rfl (pc0 := 136) (pc' := 99) rfl (hb hby d9_136) (by decide) (by decide) q) ?_
 refine Go.of (mkF m 101 #[.val (.ref a), .val (.int 0), .val (.ref cp), .val (.ref d), .val (.ref p), .val (.ref t), .val (.int 3), .val (.ref cp), .val (.int 2), .val (.int 2), .val (.int 0)] [(.int 2)]) (fun _ q => XS.iload X2.here hx rfl (hb hby d9_99) rfl q) ?_
 refine Go.of (mkF m 103 #[.val (.ref a), .val (.int 0), .val (.ref cp), .val (.ref d), .val (.ref p), .val (.ref t), .val (.int 3), .val (.ref cp), .val (.int 2), .val (.int 2), .val (.int 0)] [(.int 2), (.int 2)]) (fun _ q => XS.iload X2.here hx rfl (hb hby d9_101) rfl q) ?_
 refine Go.of (mkF m 139 #[.val (.ref a), .val (.int 0), .val (.ref cp), .val (.ref d), .val (.ref p), .val (.ref t), .val (.int 3), .val (.ref cp), .val (.int 2), .val (.int 2), .val (.int 0)] []) (fun _ q => XS.icmpYes X2.here hx rfl (pc0 := 103) (pc' := 139) rfl (hb hby d9_103) rfl (flt (by decide)).2.1 (by decide) (by decide) q) ?_
 refine Go.of (mkF m 140 #[.val (.ref a), .val (.int 0), .val (.ref cp), .val (.ref d), .val (.ref p), .val (.ref t), .val (.int 3), .val (.ref cp), .val (.int 2), .val (.int 2), .val (.int 0)] [(.ref d)]) (fun _ q => XS.aloadN X2.here hx rfl (hb hby d9_139) rfl rfl q) ?_
 refine Go.of (mkF m 141 #[.val (.ref a), .val (.int 0), .val (.ref cp), .val (.ref d), .val (.ref p), .val (.ref t), .val (.int 3), .val (.ref cp), .val (.int 2), .val (.int 2), .val (.int 0)] [(.int 0), (.ref d)]) (fun _ q => XS.iloadN X2.here hx rfl (hb hby d9_140) rfl q) ?_
 refine Go.iaload X2 hx hZ hh2 Vdd (by decide) (by decide) (g := (mkF m 141 #[.val (.ref a), .val (.int 0), .val (.ref cp), .val (.ref d), .val (.ref p), .val (.ref t), .val (.int 3), .val (.ref cp), .val (.int 2), .val (.int 2), .val (.int 0)] [(.int 0), (.ref d)])) rfl rfl (hb hby d9_141) ?_
 show Go pr ev below _ T2 (mkF m 142 #[.val (.ref a), .val (.int 0), .val (.ref cp), .val (.ref d), .val (.ref p), .val (.ref t), .val (.int 3), .val (.ref cp), .val (.int 2), .val (.int 2), .val (.int 0)] [(.int ((fun _ => (0 : Int32)) (0 : Int32)))])
 rw [show ((fun _ => (0 : Int32)) (0 : Int32)) = (0 : Int32) from by rfl]
 refine Go.of (mkF m 145 #[.val (.ref a), .val (.int 0), .val (.ref cp), .val (.ref d), .val (.ref p), .val (.ref t), .val (.int 3), .val (.ref cp), .val (.int 2), .val (.int 2), .val (.int 0)] []) (fun _ q => XS.ifNo X2.here hx rfl (hb hby d9_142) rfl ((if0 _ _).trans (teq (by decide)).2) q) ?_
 refine Go.of (mkF m 147 #[.val (.ref a), .val (.int 0), .val (.ref cp), .val (.ref d), .val (.ref p), .val (.ref t), .val (.int 3), .val (.ref cp), .val (.int 2), .val (.int 2), .val (.int 0)] [(.ref p)]) (fun _ q => XS.aload X2.here hx rfl (hb hby d9_145) rfl rfl q) ?_
 refine Go.of (mkF m 148 #[.val (.ref a), .val (.int 0), .val (.ref cp), .val (.ref d), .val (.ref p), .val (.ref t), .val (.int 3), .val (.ref cp), .val (.int 2), .val (.int 2), .val (.int 0)] [(.int 0), (.ref p)]) (fun _ q => XS.iloadN X2.here hx rfl (hb hby d9_147) rfl q) ?_
 refine Go.iaload X2 hx hZ hh2 Vpp (by decide) (by decide) (g := (mkF m 148 #[.val (.ref a), .val (.int 0), .val (.ref cp), .val (.ref d), .val (.ref p), .val (.ref t), .val (.int 3), .val (.ref cp), .val (.int 2), .val (.int 2), .val (.int 0)] [(.int 0), (.ref p)])) rfl rfl (hb hby d9_148) ?_
 show Go pr ev below _ T2 (mkF m 149 #[.val (.ref a), .val (.int 0), .val (.ref cp), .val (.ref d), .val (.ref p), .val (.ref t), .val (.int 3), .val (.ref cp), .val (.int 2), .val (.int 2), .val (.int 0)] [(.int ((fun _ => (0 : Int32)) (0 : Int32)))])
 rw [show ((fun _ => (0 : Int32)) (0 : Int32)) = (0 : Int32) from by rfl]
 refine Go.of (mkF m 166 #[.val (.ref a), .val (.int 0), .val (.ref cp), .val (.ref d), .val (.ref p), .val (.ref t), .val (.int 3), .val (.ref cp), .val (.int 2), .val (.int 2), .val (.int 0)] []) (fun _ q => XS.ifYes X2.here hx rfl (pc0 := 149) (pc' := 166) rfl (hb hby d9_149) rfl ((if0 _ _).trans (teq (by decide)).1) (by decide) (by decide) q) ?_
 refine Go.of (mkF m 167 #[.val (.ref a), .val (.int 0), .val (.ref cp), .val (.ref d), .val (.ref p), .val (.ref t), .val (.int 3), .val (.ref cp), .val (.int 2), .val (.int 2), .val (.int 0)] [(.int 0)]) (fun _ q => XS.iconst X2.here hx rfl (hb hby d9_166) q) ?_
 refine Go.of (mkF m 169 #[.val (.ref a), .val (.int 0), .val (.ref cp), .val (.ref d), .val (.ref p), .val (.ref t), .val (.int 3), .val (.int 0), .val (.int 2), .val (.int 2), .val (.int 0)] []) (fun _ q => XS.istore X2.here hx rfl (hb hby d9_167) rfl (l' := #[.val (.ref a), .val (.int 0), .val (.ref cp), .val (.ref d), .val (.ref p), .val (.ref t), .val (.int 3), .val (.int 0), .val (.int 2), .val (.int 2), .val (.int 0)]) rfl q) ?_
 refine Go.of (mkF m 171 #[.val (.ref a), .val (.int 0), .val (.ref cp), .val (.ref d), .val (.ref p), .val (.ref t), .val (.int 3), .val (.int 0), .val (.int 2), .val (.int 2), .val (.int 0)] [(.int 0)]) (fun _ q => XS.iload X2.here hx rfl (hb hby d9_169) rfl q) ?_
 refine Go.of (mkF m 173 #[.val (.ref a), .val (.int 0), .val (.ref cp), .val (.ref d), .val (.ref p), .val (.ref t), .val (.int 3), .val (.int 0), .val (.int 2), .val (.int 2), .val (.int 0)] [(.int 3), (.int 0)]) (fun _ q => XS.iload X2.here hx rfl (hb hby d9_171) rfl q) ?_
 refine Go.of (mkF m 176 #[.val (.ref a), .val (.int 0), .val (.ref cp), .val (.ref d), .val (.ref p), .val (.ref t), .val (.int 3), .val (.int 0), .val (.int 2), .val (.int 2), .val (.int 0)] []) (fun _ q => XS.icmpNo X2.here hx rfl (hb hby d9_173) rfl (tlt (by decide)).2.1 q) ?_
 refine Go.of (mkF m 177 #[.val (.ref a), .val (.int 0), .val (.ref cp), .val (.ref d), .val (.ref p), .val (.ref t), .val (.int 3), .val (.int 0), .val (.int 2), .val (.int 2), .val (.int 0)] [(.ref d)]) (fun _ q => XS.aloadN X2.here hx rfl (hb hby d9_176) rfl rfl q) ?_
 refine Go.of (mkF m 179 #[.val (.ref a), .val (.int 0), .val (.ref cp), .val (.ref d), .val (.ref p), .val (.ref t), .val (.int 3), .val (.int 0), .val (.int 2), .val (.int 2), .val (.int 0)] [(.int 0), (.ref d)]) (fun _ q => XS.iload X2.here hx rfl (hb hby d9_177) rfl q) ?_
 refine Go.iaload X2 hx hZ hh2 Vdd (by decide) (by decide) (g := (mkF m 179 #[.val (.ref a), .val (.int 0), .val (.ref cp), .val (.ref d), .val (.ref p), .val (.ref t), .val (.int 3), .val (.int 0), .val (.int 2), .val (.int 2), .val (.int 0)] [(.int 0), (.ref d)])) rfl rfl (hb hby d9_179) ?_
 show Go pr ev below _ T2 (mkF m 180 #[.val (.ref a), .val (.int 0), .val (.ref cp), .val (.ref d), .val (.ref p), .val (.ref t), .val (.int 3), .val (.int 0), .val (.int 2), .val (.int 2), .val (.int 0)] [(.int ((fun _ => (0 : Int32)) (0 : Int32)))])
 rw [show ((fun _ => (0 : Int32)) (0 : Int32)) = (0 : Int32) from by rfl]
 refine Go.of (mkF m 182 #[.val (.ref a), .val (.int 0), .val (.ref cp), .val (.ref d), .val (.ref p), .val (.ref t), .val (.int 3), .val (.int 0), .val (.int 2), .val (.int 2), .val (.int 0)] [(.ref p), (.int 0)]) (fun _ q => XS.aload X2.here hx rfl (hb hby d9_180) rfl rfl q) ?_
 refine Go.of (mkF m 184 #[.val (.ref a), .val (.int 0), .val (.ref cp), .val (.ref d), .val (.ref p), .val (.ref t), .val (.int 3), .val (.int 0), .val (.int 2), .val (.int 2), .val (.int 0)] [(.int 0), (.ref p), (.int 0)]) (fun _ q => XS.iload X2.here hx rfl (hb hby d9_182) rfl q) ?_
 refine Go.iaload X2 hx hZ hh2 Vpp (by decide) (by decide) (g := (mkF m 184 #[.val (.ref a), .val (.int 0), .val (.ref cp), .val (.ref d), .val (.ref p), .val (.ref t), .val (.int 3), .val (.int 0), .val (.int 2), .val (.int 2), .val (.int 0)] [(.int 0), (.ref p), (.int 0)])) rfl rfl (hb hby d9_184) ?_
 show Go pr ev below _ T2 (mkF m 185 #[.val (.ref a), .val (.int 0), .val (.ref cp), .val (.ref d), .val (.ref p), .val (.ref t), .val (.int 3), .val (.int 0), .val (.int 2), .val (.int 2), .val (.int 0)] [(.int ((fun _ => (0 : Int32)) (0 : Int32))), (.int 0)])
 rw [show ((fun _ => (0 : Int32)) (0 : Int32)) = (0 : Int32) from by rfl]
 refine Go.callS X2 hx hZ (y := (⟨"java/lang/Math", "min", "(II)I"⟩ : MethodName)) (argsL := [(.int 0), (.int 0)]) (rest := []) hown (tw61 hw) (tw62 hw) (tw14 hw) (tw63 hw) (by decide) hh2 (rmN l Z a0 hw [] (0 : Int32) (0 : Int32) h0) (g := (mkF m 185 #[.val (.ref a), .val (.int 0), .val (.ref cp), .val (.ref d), .val (.ref p), .val (.ref t), .val (.int 3), .val (.int 0), .val (.int 2), .val (.int 2), .val (.int 0)] [(.int 0), (.int 0)])) rfl (by rw [hml]; rfl) (lenOf pd4 rfl) rfl (W := 0) (by show 2 * 0 + _ ≤ _; exact Nat.le_of_eq rfl) (hb hby d9_185) (by decide) (by decide) (by decide) (by decide) ?_
 rintro T3 L3 v3 X3 ⟨rfl, rfl, hh3⟩
 have N3 := Fr.app N2 (Fr.nil n0)
 show Go pr ev below _ T3 (mkF m 188 #[.val (.ref a), .val (.int 0), .val (.ref cp), .val (.ref d), .val (.ref p), .val (.ref t), .val (.int 3), .val (.int 0), .val (.int 2), .val (.int 2), .val (.int 0)] [(.int (own_min (0 : Int32) (0 : Int32)))])
 rw [show (own_min (0 : Int32) (0 : Int32)) = (0 : Int32) from by decide]
 refine Go.of (mkF m 206 #[.val (.ref a), .val (.int 0), .val (.ref cp), .val (.ref d), .val (.ref p), .val (.ref t), .val (.int 3), .val (.int 0), .val (.int 2), .val (.int 2), .val (.int 0)] []) (fun _ q => XS.ifYes X3.here hx rfl (pc0 := 188) (pc' := 206) rfl (hb hby d9_188) rfl ((if0 _ _).trans (flt (by decide)).2.1) (by decide) (by decide) q) ?_
 refine Go.of (mkF m 209 #[.val (.ref a), .val (.int 0), .val (.ref cp), .val (.ref d), .val (.ref p), .val (.ref t), .val (.int 3), .val (.int ((0 : Int32) + (1 : Int32))), .val (.int 2), .val (.int 2), .val (.int 0)] []) (fun _ q => XS.iinc X3.here hx rfl (hb hby d9_206) rfl (l' := #[.val (.ref a), .val (.int 0), .val (.ref cp), .val (.ref d), .val (.ref p), .val (.ref t), .val (.int 3), .val (.int ((0 : Int32) + (1 : Int32))), .val (.int 2), .val (.int 2), .val (.int 0)]) rfl q) ?_
 rw [show ((0 : Int32) + (1 : Int32)) = (1 : Int32) from by decide]
 refine Go.of (mkF m 169 #[.val (.ref a), .val (.int 0), .val (.ref cp), .val (.ref d), .val (.ref p), .val (.ref t), .val (.int 3), .val (.int 1), .val (.int 2), .val (.int 2), .val (.int 0)] []) (fun _ q => XS.goto X3.here hx rfl (pc0 := 209) (pc' := 169) rfl (hb hby d9_209) (by decide) (by decide) q) ?_
 refine Go.of (mkF m 171 #[.val (.ref a), .val (.int 0), .val (.ref cp), .val (.ref d), .val (.ref p), .val (.ref t), .val (.int 3), .val (.int 1), .val (.int 2), .val (.int 2), .val (.int 0)] [(.int 1)]) (fun _ q => XS.iload X3.here hx rfl (hb hby d9_169) rfl q) ?_
 refine Go.of (mkF m 173 #[.val (.ref a), .val (.int 0), .val (.ref cp), .val (.ref d), .val (.ref p), .val (.ref t), .val (.int 3), .val (.int 1), .val (.int 2), .val (.int 2), .val (.int 0)] [(.int 3), (.int 1)]) (fun _ q => XS.iload X3.here hx rfl (hb hby d9_171) rfl q) ?_
 refine Go.of (mkF m 176 #[.val (.ref a), .val (.int 0), .val (.ref cp), .val (.ref d), .val (.ref p), .val (.ref t), .val (.int 3), .val (.int 1), .val (.int 2), .val (.int 2), .val (.int 0)] []) (fun _ q => XS.icmpNo X3.here hx rfl (hb hby d9_173) rfl (tlt (by decide)).2.1 q) ?_
 refine Go.of (mkF m 177 #[.val (.ref a), .val (.int 0), .val (.ref cp), .val (.ref d), .val (.ref p), .val (.ref t), .val (.int 3), .val (.int 1), .val (.int 2), .val (.int 2), .val (.int 0)] [(.ref d)]) (fun _ q => XS.aloadN X3.here hx rfl (hb hby d9_176) rfl rfl q) ?_
 refine Go.of (mkF m 179 #[.val (.ref a), .val (.int 0), .val (.ref cp), .val (.ref d), .val (.ref p), .val (.ref t), .val (.int 3), .val (.int 1), .val (.int 2), .val (.int 2), .val (.int 0)] [(.int 1), (.ref d)]) (fun _ q => XS.iload X3.here hx rfl (hb hby d9_177) rfl q) ?_
 refine Go.iaload X3 hx hZ hh3 Vdd (by decide) (by decide) (g := (mkF m 179 #[.val (.ref a), .val (.int 0), .val (.ref cp), .val (.ref d), .val (.ref p), .val (.ref t), .val (.int 3), .val (.int 1), .val (.int 2), .val (.int 2), .val (.int 0)] [(.int 1), (.ref d)])) rfl rfl (hb hby d9_179) ?_
 show Go pr ev below _ T3 (mkF m 180 #[.val (.ref a), .val (.int 0), .val (.ref cp), .val (.ref d), .val (.ref p), .val (.ref t), .val (.int 3), .val (.int 1), .val (.int 2), .val (.int 2), .val (.int 0)] [(.int ((fun _ => (0 : Int32)) (1 : Int32)))])
 rw [show ((fun _ => (0 : Int32)) (1 : Int32)) = (0 : Int32) from by rfl]
 refine Go.of (mkF m 182 #[.val (.ref a), .val (.int 0), .val (.ref cp), .val (.ref d), .val (.ref p), .val (.ref t), .val (.int 3), .val (.int 1), .val (.int 2), .val (.int 2), .val (.int 0)] [(.ref p), (.int 0)]) (fun _ q => XS.aload X3.here hx rfl (hb hby d9_180) rfl rfl q) ?_
 refine Go.of (mkF m 184 #[.val (.ref a), .val (.int 0), .val (.ref cp), .val (.ref d), .val (.ref p), .val (.ref t), .val (.int 3), .val (.int 1), .val (.int 2), .val (.int 2), .val (.int 0)] [(.int 1), (.ref p), (.int 0)]) (fun _ q => XS.iload X3.here hx rfl (hb hby d9_182) rfl q) ?_
 refine Go.iaload X3 hx hZ hh3 Vpp (by decide) (by decide) (g := (mkF m 184 #[.val (.ref a), .val (.int 0), .val (.ref cp), .val (.ref d), .val (.ref p), .val (.ref t), .val (.int 3), .val (.int 1), .val (.int 2), .val (.int 2), .val (.int 0)] [(.int 1), (.ref p), (.int 0)])) rfl rfl (hb hby d9_184) ?_
 show Go pr ev below _ T3 (mkF m 185 #[.val (.ref a), .val (.int 0), .val (.ref cp), .val (.ref d), .val (.ref p), .val (.ref t), .val (.int 3), .val (.int 1), .val (.int 2), .val (.int 2), .val (.int 0)] [(.int ((fun _ => (0 : Int32)) (1 : Int32))), (.int 0)])
 rw [show ((fun _ => (0 : Int32)) (1 : Int32)) = (0 : Int32) from by rfl]
 refine Go.callS X3 hx hZ (y := (⟨"java/lang/Math", "min", "(II)I"⟩ : MethodName)) (argsL := [(.int 0), (.int 0)]) (rest := []) hown (tw61 hw) (tw62 hw) (tw14 hw) (tw63 hw) (by decide) hh3 (rmN l Z a0 hw [] (0 : Int32) (0 : Int32) h0) (g := (mkF m 185 #[.val (.ref a), .val (.int 0), .val (.ref cp), .val (.ref d), .val (.ref p), .val (.ref t), .val (.int 3), .val (.int 1), .val (.int 2), .val (.int 2), .val (.int 0)] [(.int 0), (.int 0)])) rfl (by rw [hml]; rfl) (lenOf pd4 rfl) rfl (W := 0) (by show 2 * 0 + _ ≤ _; exact Nat.le_of_eq rfl) (hb hby d9_185) (by decide) (by decide) (by decide) (by decide) ?_
 rintro T4 L4 v4 X4 ⟨rfl, rfl, hh4⟩
 have N4 := Fr.app N3 (Fr.nil n0)
 show Go pr ev below _ T4 (mkF m 188 #[.val (.ref a), .val (.int 0), .val (.ref cp), .val (.ref d), .val (.ref p), .val (.ref t), .val (.int 3), .val (.int 1), .val (.int 2), .val (.int 2), .val (.int 0)] [(.int (own_min (0 : Int32) (0 : Int32)))])
 rw [show (own_min (0 : Int32) (0 : Int32)) = (0 : Int32) from by decide]
 refine Go.of (mkF m 206 #[.val (.ref a), .val (.int 0), .val (.ref cp), .val (.ref d), .val (.ref p), .val (.ref t), .val (.int 3), .val (.int 1), .val (.int 2), .val (.int 2), .val (.int 0)] []) (fun _ q => XS.ifYes X4.here hx rfl (pc0 := 188) (pc' := 206) rfl (hb hby d9_188) rfl ((if0 _ _).trans (flt (by decide)).2.1) (by decide) (by decide) q) ?_
 refine Go.of (mkF m 209 #[.val (.ref a), .val (.int 0), .val (.ref cp), .val (.ref d), .val (.ref p), .val (.ref t), .val (.int 3), .val (.int ((1 : Int32) + (1 : Int32))), .val (.int 2), .val (.int 2), .val (.int 0)] []) (fun _ q => XS.iinc X4.here hx rfl (hb hby d9_206) rfl (l' := #[.val (.ref a), .val (.int 0), .val (.ref cp), .val (.ref d), .val (.ref p), .val (.ref t), .val (.int 3), .val (.int ((1 : Int32) + (1 : Int32))), .val (.int 2), .val (.int 2), .val (.int 0)]) rfl q) ?_
 rw [show ((1 : Int32) + (1 : Int32)) = (2 : Int32) from by decide]
 refine Go.of (mkF m 169 #[.val (.ref a), .val (.int 0), .val (.ref cp), .val (.ref d), .val (.ref p), .val (.ref t), .val (.int 3), .val (.int 2), .val (.int 2), .val (.int 2), .val (.int 0)] []) (fun _ q => XS.goto X4.here hx rfl (pc0 := 209) (pc' := 169) rfl (hb hby d9_209) (by decide) (by decide) q) ?_
 refine Go.of (mkF m 171 #[.val (.ref a), .val (.int 0), .val (.ref cp), .val (.ref d), .val (.ref p), .val (.ref t), .val (.int 3), .val (.int 2), .val (.int 2), .val (.int 2), .val (.int 0)] [(.int 2)]) (fun _ q => XS.iload X4.here hx rfl (hb hby d9_169) rfl q) ?_
 refine Go.of (mkF m 173 #[.val (.ref a), .val (.int 0), .val (.ref cp), .val (.ref d), .val (.ref p), .val (.ref t), .val (.int 3), .val (.int 2), .val (.int 2), .val (.int 2), .val (.int 0)] [(.int 3), (.int 2)]) (fun _ q => XS.iload X4.here hx rfl (hb hby d9_171) rfl q) ?_
 refine Go.of (mkF m 176 #[.val (.ref a), .val (.int 0), .val (.ref cp), .val (.ref d), .val (.ref p), .val (.ref t), .val (.int 3), .val (.int 2), .val (.int 2), .val (.int 2), .val (.int 0)] []) (fun _ q => XS.icmpNo X4.here hx rfl (hb hby d9_173) rfl (tlt (by decide)).2.1 q) ?_
 refine Go.of (mkF m 177 #[.val (.ref a), .val (.int 0), .val (.ref cp), .val (.ref d), .val (.ref p), .val (.ref t), .val (.int 3), .val (.int 2), .val (.int 2), .val (.int 2), .val (.int 0)] [(.ref d)]) (fun _ q => XS.aloadN X4.here hx rfl (hb hby d9_176) rfl rfl q) ?_
 refine Go.of (mkF m 179 #[.val (.ref a), .val (.int 0), .val (.ref cp), .val (.ref d), .val (.ref p), .val (.ref t), .val (.int 3), .val (.int 2), .val (.int 2), .val (.int 2), .val (.int 0)] [(.int 2), (.ref d)]) (fun _ q => XS.iload X4.here hx rfl (hb hby d9_177) rfl q) ?_
 refine Go.iaload X4 hx hZ hh4 Vdd (by decide) (by decide) (g := (mkF m 179 #[.val (.ref a), .val (.int 0), .val (.ref cp), .val (.ref d), .val (.ref p), .val (.ref t), .val (.int 3), .val (.int 2), .val (.int 2), .val (.int 2), .val (.int 0)] [(.int 2), (.ref d)])) rfl rfl (hb hby d9_179) ?_
 show Go pr ev below _ T4 (mkF m 180 #[.val (.ref a), .val (.int 0), .val (.ref cp), .val (.ref d), .val (.ref p), .val (.ref t), .val (.int 3), .val (.int 2), .val (.int 2), .val (.int 2), .val (.int 0)] [(.int ((fun _ => (0 : Int32)) (2 : Int32)))])
 rw [show ((fun _ => (0 : Int32)) (2 : Int32)) = (0 : Int32) from by rfl]
 refine Go.of (mkF m 182 #[.val (.ref a), .val (.int 0), .val (.ref cp), .val (.ref d), .val (.ref p), .val (.ref t), .val (.int 3), .val (.int 2), .val (.int 2), .val (.int 2), .val (.int 0)] [(.ref p), (.int 0)]) (fun _ q => XS.aload X4.here hx rfl (hb hby d9_180) rfl rfl q) ?_
 refine Go.of (mkF m 184 #[.val (.ref a), .val (.int 0), .val (.ref cp), .val (.ref d), .val (.ref p), .val (.ref t), .val (.int 3), .val (.int 2), .val (.int 2), .val (.int 2), .val (.int 0)] [(.int 2), (.ref p), (.int 0)]) (fun _ q => XS.iload X4.here hx rfl (hb hby d9_182) rfl q) ?_
 refine Go.iaload X4 hx hZ hh4 Vpp (by decide) (by decide) (g := (mkF m 184 #[.val (.ref a), .val (.int 0), .val (.ref cp), .val (.ref d), .val (.ref p), .val (.ref t), .val (.int 3), .val (.int 2), .val (.int 2), .val (.int 2), .val (.int 0)] [(.int 2), (.ref p), (.int 0)])) rfl rfl (hb hby d9_184) ?_
 show Go pr ev below _ T4 (mkF m 185 #[.val (.ref a), .val (.int 0), .val (.ref cp), .val (.ref d), .val (.ref p), .val (.ref t), .val (.int 3), .val (.int 2), .val (.int 2), .val (.int 2), .val (.int 0)] [(.int ((fun _ => (0 : Int32)) (2 : Int32))), (.int 0)])
 rw [show ((fun _ => (0 : Int32)) (2 : Int32)) = (0 : Int32) from by rfl]
 refine Go.callS X4 hx hZ (y := (⟨"java/lang/Math", "min", "(II)I"⟩ : MethodName)) (argsL := [(.int 0), (.int 0)]) (rest := []) hown (tw61 hw) (tw62 hw) (tw14 hw) (tw63 hw) (by decide) hh4 (rmN l Z a0 hw [] (0 : Int32) (0 : Int32) h0) (g := (mkF m 185 #[.val (.ref a), .val (.int 0), .val (.ref cp), .val (.ref d), .val (.ref p), .val (.ref t), .val (.int 3), .val (.int 2), .val (.int 2), .val (.int 2), .val (.int 0)] [(.int 0), (.int 0)])) rfl (by rw [hml]; rfl) (lenOf pd4 rfl) rfl (W := 0) (by show 2 * 0 + _ ≤ _; exact Nat.le_of_eq rfl) (hb hby d9_185) (by decide) (by decide) (by decide) (by decide) ?_
 rintro T5 L5 v5 X5 ⟨rfl, rfl, hh5⟩
 have N5 := Fr.app N4 (Fr.nil n0)
 show Go pr ev below _ T5 (mkF m 188 #[.val (.ref a), .val (.int 0), .val (.ref cp), .val (.ref d), .val (.ref p), .val (.ref t), .val (.int 3), .val (.int 2), .val (.int 2), .val (.int 2), .val (.int 0)] [(.int (own_min (0 : Int32) (0 : Int32)))])
 rw [show (own_min (0 : Int32) (0 : Int32)) = (0 : Int32) from by decide]
 refine Go.of (mkF m 206 #[.val (.ref a), .val (.int 0), .val (.ref cp), .val (.ref d), .val (.ref p), .val (.ref t), .val (.int 3), .val (.int 2), .val (.int 2), .val (.int 2), .val (.int 0)] []) (fun _ q => XS.ifYes X5.here hx rfl (pc0 := 188) (pc' := 206) rfl (hb hby d9_188) rfl ((if0 _ _).trans (flt (by decide)).2.1) (by decide) (by decide) q) ?_
 refine Go.of (mkF m 209 #[.val (.ref a), .val (.int 0), .val (.ref cp), .val (.ref d), .val (.ref p), .val (.ref t), .val (.int 3), .val (.int ((2 : Int32) + (1 : Int32))), .val (.int 2), .val (.int 2), .val (.int 0)] []) (fun _ q => XS.iinc X5.here hx rfl (hb hby d9_206) rfl (l' := #[.val (.ref a), .val (.int 0), .val (.ref cp), .val (.ref d), .val (.ref p), .val (.ref t), .val (.int 3), .val (.int ((2 : Int32) + (1 : Int32))), .val (.int 2), .val (.int 2), .val (.int 0)]) rfl q) ?_
 rw [show ((2 : Int32) + (1 : Int32)) = (3 : Int32) from by decide]
 refine Go.of (mkF m 169 #[.val (.ref a), .val (.int 0), .val (.ref cp), .val (.ref d), .val (.ref p), .val (.ref t), .val (.int 3), .val (.int 3), .val (.int 2), .val (.int 2), .val (.int 0)] []) (fun _ q => XS.goto X5.here hx rfl (pc0 := 209) (pc' := 169) rfl (hb hby d9_209) (by decide) (by decide) q) ?_
 refine Go.of (mkF m 171 #[.val (.ref a), .val (.int 0), .val (.ref cp), .val (.ref d), .val (.ref p), .val (.ref t), .val (.int 3), .val (.int 3), .val (.int 2), .val (.int 2), .val (.int 0)] [(.int 3)]) (fun _ q => XS.iload X5.here hx rfl (hb hby d9_169) rfl q) ?_
 refine Go.of (mkF m 173 #[.val (.ref a), .val (.int 0), .val (.ref cp), .val (.ref d), .val (.ref p), .val (.ref t), .val (.int 3), .val (.int 3), .val (.int 2), .val (.int 2), .val (.int 0)] [(.int 3), (.int 3)]) (fun _ q => XS.iload X5.here hx rfl (hb hby d9_171) rfl q) ?_
 refine Go.of (mkF m 212 #[.val (.ref a), .val (.int 0), .val (.ref cp), .val (.ref d), .val (.ref p), .val (.ref t), .val (.int 3), .val (.int 3), .val (.int 2), .val (.int 2), .val (.int 0)] []) (fun _ q => XS.icmpYes X5.here hx rfl (pc0 := 173) (pc' := 212) rfl (hb hby d9_173) rfl (flt (by decide)).2.1 (by decide) (by decide) q) ?_
 refine Go.of (mkF m 213 #[.val (.ref a), .val (.int 0), .val (.ref cp), .val (.ref d), .val (.ref p), .val (.ref t), .val (.int 3), .val (.int 3), .val (.int 2), .val (.int 2), .val (.int 0)] [(.ref a)]) (fun _ q => XS.aloadN X5.here hx rfl (hb hby d9_212) rfl rfl q) ?_
 refine Go.of (mkF m 215 #[.val (.ref a), .val (.int 0), .val (.ref cp), .val (.ref d), .val (.ref p), .val (.ref t), .val (.int 3), .val (.int 3), .val (.int 2), .val (.int 2), .val (.int 0)] [(.int 3), (.ref a)]) (fun _ q => XS.iload X5.here hx rfl (hb hby d9_213) rfl q) ?_
 obtain ⟨T6, h6, X6, e6, W6, st6⟩ := putF X5 hx hZ hown (host := "") (Or.inl (tw64 hw)) Via.refl hh5 Pnodes E (Or.inr ⟨(tw65 hw), rfl, hnm⟩) (tw4 hw) (ty := .int) (by decide) rfl rfl (g := (mkF m 215 #[.val (.ref a), .val (.int 0), .val (.ref cp), .val (.ref d), .val (.ref p), .val (.ref t), .val (.int 3), .val (.int 3), .val (.int 2), .val (.int 2), .val (.int 0)] [(.int 3), (.ref a)])) rfl rfl (hb hby d9_215)
 replace Pnodes := Pnodes.same W6
 replace Pdepot := Pdepot.other W6 (Or.inr (slot_ne (Or.inr (tw67 hw)) (Or.inr (tw65 hw)) (by decide) (t := .int) (t' := .int) (by decide) (by decide)))
 replace Pcapacities := Pcapacities.other W6 (Or.inr (slot_ne (Or.inr (tw69 hw)) (Or.inr (tw65 hw)) (by decide) (t := (.array .int)) (t' := .int) (by decide) (by decide)))
 replace Pdeliveries := Pdeliveries.other W6 (Or.inr (slot_ne (Or.inr (tw71 hw)) (Or.inr (tw65 hw)) (by decide) (t := (.array .int)) (t' := .int) (by decide) (by decide)))
 replace Ppickups := Ppickups.other W6 (Or.inr (slot_ne (Or.inr (tw73 hw)) (Or.inr (tw65 hw)) (by decide) (t := (.array .int)) (t' := .int) (by decide) (by decide)))
 replace Pcosts := Pcosts.other W6 (Or.inr (slot_ne (Or.inr (tw75 hw)) (Or.inr (tw65 hw)) (by decide) (t := (.object "com/example/kiriman/kiriman/route/Costs")) (t' := .int) (by decide) (by decide)))
 replace Pservice := Pservice.other W6 (Or.inr (slot_ne (Or.inr (tw77 hw)) (Or.inr (tw65 hw)) (by decide) (t := (.array .int)) (t' := .int) (by decide) (by decide)))
 replace Plongest := Plongest.other W6 (Or.inr (slot_ne (Or.inr (tw80 hw)) (Or.inr (tw65 hw)) (by decide) (t := .long) (t' := .int) (by decide) (by decide)))
 replace Platest := Platest.other W6 (Or.inr (slot_ne (Or.inr (tw82 hw)) (Or.inr (tw65 hw)) (by decide) (t := .long) (t' := .int) (by decide) (by decide)))
 replace Ft := Ft.other W6 (Or.inl n4)
 replace E := E.wr W6
 replace Eca := Eca.wr W6
 replace Edd := Edd.wr W6
 replace Epp := Epp.wr W6
 replace Et := Et.wr W6
 replace Vca := Vca.other W6 n1
 replace Vdd := Vdd.other W6 n2
 replace Vpp := Vpp.other W6 n3
 replace hz := Nat.le_trans hz (Nat.le_of_eq W6.size.symm)
 replace K0 := K0.wr W6 (Or.inl (by simp))
 have N6 := Fr.snoc X6 N5 ga
 refine Go.of (mkF m 218 #[.val (.ref a), .val (.int 0), .val (.ref cp), .val (.ref d), .val (.ref p), .val (.ref t), .val (.int 3), .val (.int 3), .val (.int 2), .val (.int 2), .val (.int 0)] []) (st6) ?_
 refine Go.of (mkF m 219 #[.val (.ref a), .val (.int 0), .val (.ref cp), .val (.ref d), .val (.ref p), .val (.ref t), .val (.int 3), .val (.int 3), .val (.int 2), .val (.int 2), .val (.int 0)] [(.ref a)]) (fun _ q => XS.aloadN X6.here hx rfl (hb hby d9_218) rfl rfl q) ?_
 refine Go.of (mkF m 220 #[.val (.ref a), .val (.int 0), .val (.ref cp), .val (.ref d), .val (.ref p), .val (.ref t), .val (.int 3), .val (.int 3), .val (.int 2), .val (.int 2), .val (.int 0)] [(.int 0), (.ref a)]) (fun _ q => XS.iloadN X6.here hx rfl (hb hby d9_219) rfl q) ?_
 obtain ⟨T7, h7, X7, e7, W7, st7⟩ := putF X6 hx hZ hown (host := "") (Or.inl (tw66 hw)) Via.refl e6 Pdepot E (Or.inr ⟨(tw67 hw), rfl, hnm⟩) (tw4 hw) (ty := .int) (by decide) rfl rfl (g := (mkF m 220 #[.val (.ref a), .val (.int 0), .val (.ref cp), .val (.ref d), .val (.ref p), .val (.ref t), .val (.int 3), .val (.int 3), .val (.int 2), .val (.int 2), .val (.int 0)] [(.int 0), (.ref a)])) rfl rfl (hb hby d9_220)
 replace Pnodes := Pnodes.other W7 (Or.inr (slot_ne (Or.inr (tw65 hw)) (Or.inr (tw67 hw)) (by decide) (t := .int) (t' := .int) (by decide) (by decide)))
 replace Pdepot := Pdepot.same W7
 replace Pcapacities := Pcapacities.other W7 (Or.inr (slot_ne (Or.inr (tw69 hw)) (Or.inr (tw67 hw)) (by decide) (t := (.array .int)) (t' := .int) (by decide) (by decide)))
 replace Pdeliveries := Pdeliveries.other W7 (Or.inr (slot_ne (Or.inr (tw71 hw)) (Or.inr (tw67 hw)) (by decide) (t := (.array .int)) (t' := .int) (by decide) (by decide)))
 replace Ppickups := Ppickups.other W7 (Or.inr (slot_ne (Or.inr (tw73 hw)) (Or.inr (tw67 hw)) (by decide) (t := (.array .int)) (t' := .int) (by decide) (by decide)))
 replace Pcosts := Pcosts.other W7 (Or.inr (slot_ne (Or.inr (tw75 hw)) (Or.inr (tw67 hw)) (by decide) (t := (.object "com/example/kiriman/kiriman/route/Costs")) (t' := .int) (by decide) (by decide)))
 replace Pservice := Pservice.other W7 (Or.inr (slot_ne (Or.inr (tw77 hw)) (Or.inr (tw67 hw)) (by decide) (t := (.array .int)) (t' := .int) (by decide) (by decide)))
 replace Plongest := Plongest.other W7 (Or.inr (slot_ne (Or.inr (tw80 hw)) (Or.inr (tw67 hw)) (by decide) (t := .long) (t' := .int) (by decide) (by decide)))
 replace Platest := Platest.other W7 (Or.inr (slot_ne (Or.inr (tw82 hw)) (Or.inr (tw67 hw)) (by decide) (t := .long) (t' := .int) (by decide) (by decide)))
 replace Ft := Ft.other W7 (Or.inl n4)
 replace E := E.wr W7
 replace Eca := Eca.wr W7
 replace Edd := Edd.wr W7
 replace Epp := Epp.wr W7
 replace Et := Et.wr W7
 replace Vca := Vca.other W7 n1
 replace Vdd := Vdd.other W7 n2
 replace Vpp := Vpp.other W7 n3
 replace hz := Nat.le_trans hz (Nat.le_of_eq W7.size.symm)
 replace K0 := K0.wr W7 (Or.inl (by simp))
 have N7 := Fr.snoc X7 N6 ga
 refine Go.of (mkF m 223 #[.val (.ref a), .val (.int 0), .val (.ref cp), .val (.ref d), .val (.ref p), .val (.ref t), .val (.int 3), .val (.int 3), .val (.int 2), .val (.int 2), .val (.int 0)] []) (st7) ?_
 refine Go.of (mkF m 224 #[.val (.ref a), .val (.int 0), .val (.ref cp), .val (.ref d), .val (.ref p), .val (.ref t), .val (.int 3), .val (.int 3), .val (.int 2), .val (.int 2), .val (.int 0)] [(.ref a)]) (fun _ q => XS.aloadN X7.here hx rfl (hb hby d9_223) rfl rfl q) ?_
 refine Go.of (mkF m 225 #[.val (.ref a), .val (.int 0), .val (.ref cp), .val (.ref d), .val (.ref p), .val (.ref t), .val (.int 3), .val (.int 3), .val (.int 2), .val (.int 2), .val (.int 0)] [(.ref cp), (.ref a)]) (fun _ q => XS.aloadN X7.here hx rfl (hb hby d9_224) rfl rfl q) ?_
 refine Go.clone X7 hx hZ hown (tw29 hw) (tw30 hw) (tw34 hw) (tw32 hw) (tw33 hw) (tw35 hw) e7 Vca Eca (g := (mkF m 225 #[.val (.ref a), .val (.int 0), .val (.ref cp), .val (.ref d), .val (.ref p), .val (.ref t), .val (.int 3), .val (.int 3), .val (.int 2), .val (.int 2), .val (.int 0)] [(.ref cp), (.ref a)])) rfl (by rw [hml]; rfl) rfl (hb hby d9_225) (by decide) (W := 1) (cap := 2) (by show 2 * 0 + _ ≤ _; exact Nat.le_of_eq rfl) (by decide) (by decide) (by decide) (by decide) ?_
 rintro T8 h8 b8 g8 X8 e8 E8 V8 Q8
 have ne_a_b8 : a ≠ b8 := Nat.ne_of_lt (Nat.lt_of_lt_of_le E.lt (Nat.le_of_eq g8.symm))
 have ne_cp_b8 : cp ≠ b8 := Nat.ne_of_lt (Nat.lt_of_lt_of_le Eca.lt (Nat.le_of_eq g8.symm))
 have ne_d_b8 : d ≠ b8 := Nat.ne_of_lt (Nat.lt_of_lt_of_le Edd.lt (Nat.le_of_eq g8.symm))
 have ne_p_b8 : p ≠ b8 := Nat.ne_of_lt (Nat.lt_of_lt_of_le Epp.lt (Nat.le_of_eq g8.symm))
 have ne_t_b8 : t ≠ b8 := Nat.ne_of_lt (Nat.lt_of_lt_of_le Et.lt (Nat.le_of_eq g8.symm))
 have gb_b8 : n0 ≤ b8 := Nat.le_trans hz (Nat.le_of_eq g8.symm)
 have sz_b8 : h0.size ≤ b8 := Nat.le_trans K0.1 (Nat.le_of_eq g8.symm)
 replace Pnodes := Pnodes.ext E8
 replace Pdepot := Pdepot.ext E8
 replace Pcapacities := Pcapacities.ext E8
 replace Pdeliveries := Pdeliveries.ext E8
 replace Ppickups := Ppickups.ext E8
 replace Pcosts := Pcosts.ext E8
 replace Pservice := Pservice.ext E8
 replace Plongest := Plongest.ext E8
 replace Platest := Platest.ext E8
 replace Ft := Ft.ext E8
 replace E := E.ext E8
 replace Eca := Eca.ext E8
 replace Edd := Edd.ext E8
 replace Epp := Epp.ext E8
 replace Et := Et.ext E8
 replace Vca := Vca.ext E8
 replace Vdd := Vdd.ext E8
 replace Vpp := Vpp.ext E8
 replace hz := Nat.le_trans hz E8.1
 replace K0 := K0.ext E8
 show Go pr ev below _ T8 (mkF m 228 #[.val (.ref a), .val (.int 0), .val (.ref cp), .val (.ref d), .val (.ref p), .val (.ref t), .val (.int 3), .val (.int 3), .val (.int 2), .val (.int 2), .val (.int 0)] [(.ref b8), (.ref a)])
 obtain ⟨T9, X9, e9, st9⟩ := castY X8 hx hZ hown (tw36 hw) e8 (Ins.self Q8) (g := (mkF m 228 #[.val (.ref a), .val (.int 0), .val (.ref cp), .val (.ref d), .val (.ref p), .val (.ref t), .val (.int 3), .val (.int 3), .val (.int 2), .val (.int 2), .val (.int 0)] [(.ref b8), (.ref a)])) rfl rfl (hb hby d9_228)
 refine Go.of (mkF m 231 #[.val (.ref a), .val (.int 0), .val (.ref cp), .val (.ref d), .val (.ref p), .val (.ref t), .val (.int 3), .val (.int 3), .val (.int 2), .val (.int 2), .val (.int 0)] [(.ref b8), (.ref a)]) (st9) ?_
 obtain ⟨T10, h10, X10, e10, W10, st10⟩ := putF X9 hx hZ hown (host := "") (Or.inl (tw68 hw)) Via.refl e9 Pcapacities E (Or.inr ⟨(tw69 hw), rfl, hnm⟩) (tw4 hw) (ty := (.array .int)) (by decide) rfl rfl (g := (mkF m 231 #[.val (.ref a), .val (.int 0), .val (.ref cp), .val (.ref d), .val (.ref p), .val (.ref t), .val (.int 3), .val (.int 3), .val (.int 2), .val (.int 2), .val (.int 0)] [(.ref b8), (.ref a)])) rfl rfl (hb hby d9_231)
 replace Pnodes := Pnodes.other W10 (Or.inr (slot_ne (Or.inr (tw65 hw)) (Or.inr (tw69 hw)) (by decide) (t := .int) (t' := (.array .int)) (by decide) (by decide)))
 replace Pdepot := Pdepot.other W10 (Or.inr (slot_ne (Or.inr (tw67 hw)) (Or.inr (tw69 hw)) (by decide) (t := .int) (t' := (.array .int)) (by decide) (by decide)))
 replace Pcapacities := Pcapacities.same W10
 replace Pdeliveries := Pdeliveries.other W10 (Or.inr (slot_ne (Or.inr (tw71 hw)) (Or.inr (tw69 hw)) (by decide) (t := (.array .int)) (t' := (.array .int)) (by decide) (by decide)))
 replace Ppickups := Ppickups.other W10 (Or.inr (slot_ne (Or.inr (tw73 hw)) (Or.inr (tw69 hw)) (by decide) (t := (.array .int)) (t' := (.array .int)) (by decide) (by decide)))
 replace Pcosts := Pcosts.other W10 (Or.inr (slot_ne (Or.inr (tw75 hw)) (Or.inr (tw69 hw)) (by decide) (t := (.object "com/example/kiriman/kiriman/route/Costs")) (t' := (.array .int)) (by decide) (by decide)))
 replace Pservice := Pservice.other W10 (Or.inr (slot_ne (Or.inr (tw77 hw)) (Or.inr (tw69 hw)) (by decide) (t := (.array .int)) (t' := (.array .int)) (by decide) (by decide)))
 replace Plongest := Plongest.other W10 (Or.inr (slot_ne (Or.inr (tw80 hw)) (Or.inr (tw69 hw)) (by decide) (t := .long) (t' := (.array .int)) (by decide) (by decide)))
 replace Platest := Platest.other W10 (Or.inr (slot_ne (Or.inr (tw82 hw)) (Or.inr (tw69 hw)) (by decide) (t := .long) (t' := (.array .int)) (by decide) (by decide)))
 replace Ft := Ft.other W10 (Or.inl n4)
 replace E := E.wr W10
 replace Eca := Eca.wr W10
 replace Edd := Edd.wr W10
 replace Epp := Epp.wr W10
 replace Et := Et.wr W10
 replace Q8 := Q8.wr W10
 replace Vca := Vca.other W10 n1
 replace Vdd := Vdd.other W10 n2
 replace Vpp := Vpp.other W10 n3
 replace V8 := V8.other W10 (Ne.symm ne_a_b8)
 replace hz := Nat.le_trans hz (Nat.le_of_eq W10.size.symm)
 replace K0 := K0.wr W10 (Or.inl (by simp))
 have N10 := Fr.snoc X10 N7 ga
 refine Go.of (mkF m 234 #[.val (.ref a), .val (.int 0), .val (.ref cp), .val (.ref d), .val (.ref p), .val (.ref t), .val (.int 3), .val (.int 3), .val (.int 2), .val (.int 2), .val (.int 0)] []) (st10) ?_
 refine Go.of (mkF m 235 #[.val (.ref a), .val (.int 0), .val (.ref cp), .val (.ref d), .val (.ref p), .val (.ref t), .val (.int 3), .val (.int 3), .val (.int 2), .val (.int 2), .val (.int 0)] [(.ref a)]) (fun _ q => XS.aloadN X10.here hx rfl (hb hby d9_234) rfl rfl q) ?_
 refine Go.of (mkF m 236 #[.val (.ref a), .val (.int 0), .val (.ref cp), .val (.ref d), .val (.ref p), .val (.ref t), .val (.int 3), .val (.int 3), .val (.int 2), .val (.int 2), .val (.int 0)] [(.ref d), (.ref a)]) (fun _ q => XS.aloadN X10.here hx rfl (hb hby d9_235) rfl rfl q) ?_
 refine Go.clone X10 hx hZ hown (tw29 hw) (tw30 hw) (tw34 hw) (tw32 hw) (tw33 hw) (tw35 hw) e10 Vdd Edd (g := (mkF m 236 #[.val (.ref a), .val (.int 0), .val (.ref cp), .val (.ref d), .val (.ref p), .val (.ref t), .val (.int 3), .val (.int 3), .val (.int 2), .val (.int 2), .val (.int 0)] [(.ref d), (.ref a)])) rfl (by rw [hml]; rfl) rfl (hb hby d9_236) (by decide) (W := 1) (cap := 3) (by show 2 * 0 + _ ≤ _; exact Nat.le_of_eq rfl) (by decide) (by decide) (by decide) (by decide) ?_
 rintro T11 h11 b11 g11 X11 e11 E11 V11 Q11
 have ne_a_b11 : a ≠ b11 := Nat.ne_of_lt (Nat.lt_of_lt_of_le E.lt (Nat.le_of_eq g11.symm))
 have ne_cp_b11 : cp ≠ b11 := Nat.ne_of_lt (Nat.lt_of_lt_of_le Eca.lt (Nat.le_of_eq g11.symm))
 have ne_d_b11 : d ≠ b11 := Nat.ne_of_lt (Nat.lt_of_lt_of_le Edd.lt (Nat.le_of_eq g11.symm))
 have ne_p_b11 : p ≠ b11 := Nat.ne_of_lt (Nat.lt_of_lt_of_le Epp.lt (Nat.le_of_eq g11.symm))
 have ne_t_b11 : t ≠ b11 := Nat.ne_of_lt (Nat.lt_of_lt_of_le Et.lt (Nat.le_of_eq g11.symm))
 have ne_b8_b11 : b8 ≠ b11 := Nat.ne_of_lt (Nat.lt_of_lt_of_le Q8.lt (Nat.le_of_eq g11.symm))
 have gb_b11 : n0 ≤ b11 := Nat.le_trans hz (Nat.le_of_eq g11.symm)
 have sz_b11 : h0.size ≤ b11 := Nat.le_trans K0.1 (Nat.le_of_eq g11.symm)
 replace Pnodes := Pnodes.ext E11
 replace Pdepot := Pdepot.ext E11
 replace Pcapacities := Pcapacities.ext E11
 replace Pdeliveries := Pdeliveries.ext E11
 replace Ppickups := Ppickups.ext E11
 replace Pcosts := Pcosts.ext E11
 replace Pservice := Pservice.ext E11
 replace Plongest := Plongest.ext E11
 replace Platest := Platest.ext E11
 replace Ft := Ft.ext E11
 replace E := E.ext E11
 replace Eca := Eca.ext E11
 replace Edd := Edd.ext E11
 replace Epp := Epp.ext E11
 replace Et := Et.ext E11
 replace Q8 := Q8.ext E11
 replace Vca := Vca.ext E11
 replace Vdd := Vdd.ext E11
 replace Vpp := Vpp.ext E11
 replace V8 := V8.ext E11
 replace hz := Nat.le_trans hz E11.1
 replace K0 := K0.ext E11
 show Go pr ev below _ T11 (mkF m 239 #[.val (.ref a), .val (.int 0), .val (.ref cp), .val (.ref d), .val (.ref p), .val (.ref t), .val (.int 3), .val (.int 3), .val (.int 2), .val (.int 2), .val (.int 0)] [(.ref b11), (.ref a)])
 obtain ⟨T12, X12, e12, st12⟩ := castY X11 hx hZ hown (tw36 hw) e11 (Ins.self Q11) (g := (mkF m 239 #[.val (.ref a), .val (.int 0), .val (.ref cp), .val (.ref d), .val (.ref p), .val (.ref t), .val (.int 3), .val (.int 3), .val (.int 2), .val (.int 2), .val (.int 0)] [(.ref b11), (.ref a)])) rfl rfl (hb hby d9_239)
 refine Go.of (mkF m 242 #[.val (.ref a), .val (.int 0), .val (.ref cp), .val (.ref d), .val (.ref p), .val (.ref t), .val (.int 3), .val (.int 3), .val (.int 2), .val (.int 2), .val (.int 0)] [(.ref b11), (.ref a)]) (st12) ?_
 obtain ⟨T13, h13, X13, e13, W13, st13⟩ := putF X12 hx hZ hown (host := "") (Or.inl (tw70 hw)) Via.refl e12 Pdeliveries E (Or.inr ⟨(tw71 hw), rfl, hnm⟩) (tw4 hw) (ty := (.array .int)) (by decide) rfl rfl (g := (mkF m 242 #[.val (.ref a), .val (.int 0), .val (.ref cp), .val (.ref d), .val (.ref p), .val (.ref t), .val (.int 3), .val (.int 3), .val (.int 2), .val (.int 2), .val (.int 0)] [(.ref b11), (.ref a)])) rfl rfl (hb hby d9_242)
 replace Pnodes := Pnodes.other W13 (Or.inr (slot_ne (Or.inr (tw65 hw)) (Or.inr (tw71 hw)) (by decide) (t := .int) (t' := (.array .int)) (by decide) (by decide)))
 replace Pdepot := Pdepot.other W13 (Or.inr (slot_ne (Or.inr (tw67 hw)) (Or.inr (tw71 hw)) (by decide) (t := .int) (t' := (.array .int)) (by decide) (by decide)))
 replace Pcapacities := Pcapacities.other W13 (Or.inr (slot_ne (Or.inr (tw69 hw)) (Or.inr (tw71 hw)) (by decide) (t := (.array .int)) (t' := (.array .int)) (by decide) (by decide)))
 replace Pdeliveries := Pdeliveries.same W13
 replace Ppickups := Ppickups.other W13 (Or.inr (slot_ne (Or.inr (tw73 hw)) (Or.inr (tw71 hw)) (by decide) (t := (.array .int)) (t' := (.array .int)) (by decide) (by decide)))
 replace Pcosts := Pcosts.other W13 (Or.inr (slot_ne (Or.inr (tw75 hw)) (Or.inr (tw71 hw)) (by decide) (t := (.object "com/example/kiriman/kiriman/route/Costs")) (t' := (.array .int)) (by decide) (by decide)))
 replace Pservice := Pservice.other W13 (Or.inr (slot_ne (Or.inr (tw77 hw)) (Or.inr (tw71 hw)) (by decide) (t := (.array .int)) (t' := (.array .int)) (by decide) (by decide)))
 replace Plongest := Plongest.other W13 (Or.inr (slot_ne (Or.inr (tw80 hw)) (Or.inr (tw71 hw)) (by decide) (t := .long) (t' := (.array .int)) (by decide) (by decide)))
 replace Platest := Platest.other W13 (Or.inr (slot_ne (Or.inr (tw82 hw)) (Or.inr (tw71 hw)) (by decide) (t := .long) (t' := (.array .int)) (by decide) (by decide)))
 replace Ft := Ft.other W13 (Or.inl n4)
 replace E := E.wr W13
 replace Eca := Eca.wr W13
 replace Edd := Edd.wr W13
 replace Epp := Epp.wr W13
 replace Et := Et.wr W13
 replace Q8 := Q8.wr W13
 replace Q11 := Q11.wr W13
 replace Vca := Vca.other W13 n1
 replace Vdd := Vdd.other W13 n2
 replace Vpp := Vpp.other W13 n3
 replace V8 := V8.other W13 (Ne.symm ne_a_b8)
 replace V11 := V11.other W13 (Ne.symm ne_a_b11)
 replace hz := Nat.le_trans hz (Nat.le_of_eq W13.size.symm)
 replace K0 := K0.wr W13 (Or.inl (by simp))
 have N13 := Fr.snoc X13 N10 ga
 refine Go.of (mkF m 245 #[.val (.ref a), .val (.int 0), .val (.ref cp), .val (.ref d), .val (.ref p), .val (.ref t), .val (.int 3), .val (.int 3), .val (.int 2), .val (.int 2), .val (.int 0)] []) (st13) ?_
 refine Go.of (mkF m 246 #[.val (.ref a), .val (.int 0), .val (.ref cp), .val (.ref d), .val (.ref p), .val (.ref t), .val (.int 3), .val (.int 3), .val (.int 2), .val (.int 2), .val (.int 0)] [(.ref a)]) (fun _ q => XS.aloadN X13.here hx rfl (hb hby d9_245) rfl rfl q) ?_
 refine Go.of (mkF m 248 #[.val (.ref a), .val (.int 0), .val (.ref cp), .val (.ref d), .val (.ref p), .val (.ref t), .val (.int 3), .val (.int 3), .val (.int 2), .val (.int 2), .val (.int 0)] [(.ref p), (.ref a)]) (fun _ q => XS.aload X13.here hx rfl (hb hby d9_246) rfl rfl q) ?_
 refine Go.clone X13 hx hZ hown (tw29 hw) (tw30 hw) (tw34 hw) (tw32 hw) (tw33 hw) (tw35 hw) e13 Vpp Epp (g := (mkF m 248 #[.val (.ref a), .val (.int 0), .val (.ref cp), .val (.ref d), .val (.ref p), .val (.ref t), .val (.int 3), .val (.int 3), .val (.int 2), .val (.int 2), .val (.int 0)] [(.ref p), (.ref a)])) rfl (by rw [hml]; rfl) rfl (hb hby d9_248) (by decide) (W := 1) (cap := 3) (by show 2 * 0 + _ ≤ _; exact Nat.le_of_eq rfl) (by decide) (by decide) (by decide) (by decide) ?_
 rintro T14 h14 b14 g14 X14 e14 E14 V14 Q14
 have ne_a_b14 : a ≠ b14 := Nat.ne_of_lt (Nat.lt_of_lt_of_le E.lt (Nat.le_of_eq g14.symm))
 have ne_cp_b14 : cp ≠ b14 := Nat.ne_of_lt (Nat.lt_of_lt_of_le Eca.lt (Nat.le_of_eq g14.symm))
 have ne_d_b14 : d ≠ b14 := Nat.ne_of_lt (Nat.lt_of_lt_of_le Edd.lt (Nat.le_of_eq g14.symm))
 have ne_p_b14 : p ≠ b14 := Nat.ne_of_lt (Nat.lt_of_lt_of_le Epp.lt (Nat.le_of_eq g14.symm))
 have ne_t_b14 : t ≠ b14 := Nat.ne_of_lt (Nat.lt_of_lt_of_le Et.lt (Nat.le_of_eq g14.symm))
 have ne_b8_b14 : b8 ≠ b14 := Nat.ne_of_lt (Nat.lt_of_lt_of_le Q8.lt (Nat.le_of_eq g14.symm))
 have ne_b11_b14 : b11 ≠ b14 := Nat.ne_of_lt (Nat.lt_of_lt_of_le Q11.lt (Nat.le_of_eq g14.symm))
 have gb_b14 : n0 ≤ b14 := Nat.le_trans hz (Nat.le_of_eq g14.symm)
 have sz_b14 : h0.size ≤ b14 := Nat.le_trans K0.1 (Nat.le_of_eq g14.symm)
 replace Pnodes := Pnodes.ext E14
 replace Pdepot := Pdepot.ext E14
 replace Pcapacities := Pcapacities.ext E14
 replace Pdeliveries := Pdeliveries.ext E14
 replace Ppickups := Ppickups.ext E14
 replace Pcosts := Pcosts.ext E14
 replace Pservice := Pservice.ext E14
 replace Plongest := Plongest.ext E14
 replace Platest := Platest.ext E14
 replace Ft := Ft.ext E14
 replace E := E.ext E14
 replace Eca := Eca.ext E14
 replace Edd := Edd.ext E14
 replace Epp := Epp.ext E14
 replace Et := Et.ext E14
 replace Q8 := Q8.ext E14
 replace Q11 := Q11.ext E14
 replace Vca := Vca.ext E14
 replace Vdd := Vdd.ext E14
 replace Vpp := Vpp.ext E14
 replace V8 := V8.ext E14
 replace V11 := V11.ext E14
 replace hz := Nat.le_trans hz E14.1
 replace K0 := K0.ext E14
 show Go pr ev below _ T14 (mkF m 251 #[.val (.ref a), .val (.int 0), .val (.ref cp), .val (.ref d), .val (.ref p), .val (.ref t), .val (.int 3), .val (.int 3), .val (.int 2), .val (.int 2), .val (.int 0)] [(.ref b14), (.ref a)])
 obtain ⟨T15, X15, e15, st15⟩ := castY X14 hx hZ hown (tw36 hw) e14 (Ins.self Q14) (g := (mkF m 251 #[.val (.ref a), .val (.int 0), .val (.ref cp), .val (.ref d), .val (.ref p), .val (.ref t), .val (.int 3), .val (.int 3), .val (.int 2), .val (.int 2), .val (.int 0)] [(.ref b14), (.ref a)])) rfl rfl (hb hby d9_251)
 refine Go.of (mkF m 254 #[.val (.ref a), .val (.int 0), .val (.ref cp), .val (.ref d), .val (.ref p), .val (.ref t), .val (.int 3), .val (.int 3), .val (.int 2), .val (.int 2), .val (.int 0)] [(.ref b14), (.ref a)]) (st15) ?_
 obtain ⟨T16, h16, X16, e16, W16, st16⟩ := putF X15 hx hZ hown (host := "") (Or.inl (tw72 hw)) Via.refl e15 Ppickups E (Or.inr ⟨(tw73 hw), rfl, hnm⟩) (tw4 hw) (ty := (.array .int)) (by decide) rfl rfl (g := (mkF m 254 #[.val (.ref a), .val (.int 0), .val (.ref cp), .val (.ref d), .val (.ref p), .val (.ref t), .val (.int 3), .val (.int 3), .val (.int 2), .val (.int 2), .val (.int 0)] [(.ref b14), (.ref a)])) rfl rfl (hb hby d9_254)
 replace Pnodes := Pnodes.other W16 (Or.inr (slot_ne (Or.inr (tw65 hw)) (Or.inr (tw73 hw)) (by decide) (t := .int) (t' := (.array .int)) (by decide) (by decide)))
 replace Pdepot := Pdepot.other W16 (Or.inr (slot_ne (Or.inr (tw67 hw)) (Or.inr (tw73 hw)) (by decide) (t := .int) (t' := (.array .int)) (by decide) (by decide)))
 replace Pcapacities := Pcapacities.other W16 (Or.inr (slot_ne (Or.inr (tw69 hw)) (Or.inr (tw73 hw)) (by decide) (t := (.array .int)) (t' := (.array .int)) (by decide) (by decide)))
 replace Pdeliveries := Pdeliveries.other W16 (Or.inr (slot_ne (Or.inr (tw71 hw)) (Or.inr (tw73 hw)) (by decide) (t := (.array .int)) (t' := (.array .int)) (by decide) (by decide)))
 replace Ppickups := Ppickups.same W16
 replace Pcosts := Pcosts.other W16 (Or.inr (slot_ne (Or.inr (tw75 hw)) (Or.inr (tw73 hw)) (by decide) (t := (.object "com/example/kiriman/kiriman/route/Costs")) (t' := (.array .int)) (by decide) (by decide)))
 replace Pservice := Pservice.other W16 (Or.inr (slot_ne (Or.inr (tw77 hw)) (Or.inr (tw73 hw)) (by decide) (t := (.array .int)) (t' := (.array .int)) (by decide) (by decide)))
 replace Plongest := Plongest.other W16 (Or.inr (slot_ne (Or.inr (tw80 hw)) (Or.inr (tw73 hw)) (by decide) (t := .long) (t' := (.array .int)) (by decide) (by decide)))
 replace Platest := Platest.other W16 (Or.inr (slot_ne (Or.inr (tw82 hw)) (Or.inr (tw73 hw)) (by decide) (t := .long) (t' := (.array .int)) (by decide) (by decide)))
 replace Ft := Ft.other W16 (Or.inl n4)
 replace E := E.wr W16
 replace Eca := Eca.wr W16
 replace Edd := Edd.wr W16
 replace Epp := Epp.wr W16
 replace Et := Et.wr W16
 replace Q8 := Q8.wr W16
 replace Q11 := Q11.wr W16
 replace Q14 := Q14.wr W16
 replace Vca := Vca.other W16 n1
 replace Vdd := Vdd.other W16 n2
 replace Vpp := Vpp.other W16 n3
 replace V8 := V8.other W16 (Ne.symm ne_a_b8)
 replace V11 := V11.other W16 (Ne.symm ne_a_b11)
 replace V14 := V14.other W16 (Ne.symm ne_a_b14)
 replace hz := Nat.le_trans hz (Nat.le_of_eq W16.size.symm)
 replace K0 := K0.wr W16 (Or.inl (by simp))
 have N16 := Fr.snoc X16 N13 ga
 refine Go.of (mkF m 257 #[.val (.ref a), .val (.int 0), .val (.ref cp), .val (.ref d), .val (.ref p), .val (.ref t), .val (.int 3), .val (.int 3), .val (.int 2), .val (.int 2), .val (.int 0)] []) (st16) ?_
 refine Go.of (mkF m 258 #[.val (.ref a), .val (.int 0), .val (.ref cp), .val (.ref d), .val (.ref p), .val (.ref t), .val (.int 3), .val (.int 3), .val (.int 2), .val (.int 2), .val (.int 0)] [(.ref a)]) (fun _ q => XS.aloadN X16.here hx rfl (hb hby d9_257) rfl rfl q) ?_
 refine Go.of (mkF m 260 #[.val (.ref a), .val (.int 0), .val (.ref cp), .val (.ref d), .val (.ref p), .val (.ref t), .val (.int 3), .val (.int 3), .val (.int 2), .val (.int 2), .val (.int 0)] [(.ref t), (.ref a)]) (fun _ q => XS.aload X16.here hx rfl (hb hby d9_258) rfl rfl q) ?_
 obtain ⟨T17, h17, X17, e17, W17, st17⟩ := putF X16 hx hZ hown (host := "") (Or.inl (tw74 hw)) Via.refl e16 Pcosts E (Or.inr ⟨(tw75 hw), rfl, hnm⟩) (tw4 hw) (ty := (.object "com/example/kiriman/kiriman/route/Costs")) (by decide) rfl rfl (g := (mkF m 260 #[.val (.ref a), .val (.int 0), .val (.ref cp), .val (.ref d), .val (.ref p), .val (.ref t), .val (.int 3), .val (.int 3), .val (.int 2), .val (.int 2), .val (.int 0)] [(.ref t), (.ref a)])) rfl rfl (hb hby d9_260)
 replace Pnodes := Pnodes.other W17 (Or.inr (slot_ne (Or.inr (tw65 hw)) (Or.inr (tw75 hw)) (by decide) (t := .int) (t' := (.object "com/example/kiriman/kiriman/route/Costs")) (by decide) (by decide)))
 replace Pdepot := Pdepot.other W17 (Or.inr (slot_ne (Or.inr (tw67 hw)) (Or.inr (tw75 hw)) (by decide) (t := .int) (t' := (.object "com/example/kiriman/kiriman/route/Costs")) (by decide) (by decide)))
 replace Pcapacities := Pcapacities.other W17 (Or.inr (slot_ne (Or.inr (tw69 hw)) (Or.inr (tw75 hw)) (by decide) (t := (.array .int)) (t' := (.object "com/example/kiriman/kiriman/route/Costs")) (by decide) (by decide)))
 replace Pdeliveries := Pdeliveries.other W17 (Or.inr (slot_ne (Or.inr (tw71 hw)) (Or.inr (tw75 hw)) (by decide) (t := (.array .int)) (t' := (.object "com/example/kiriman/kiriman/route/Costs")) (by decide) (by decide)))
 replace Ppickups := Ppickups.other W17 (Or.inr (slot_ne (Or.inr (tw73 hw)) (Or.inr (tw75 hw)) (by decide) (t := (.array .int)) (t' := (.object "com/example/kiriman/kiriman/route/Costs")) (by decide) (by decide)))
 replace Pcosts := Pcosts.same W17
 replace Pservice := Pservice.other W17 (Or.inr (slot_ne (Or.inr (tw77 hw)) (Or.inr (tw75 hw)) (by decide) (t := (.array .int)) (t' := (.object "com/example/kiriman/kiriman/route/Costs")) (by decide) (by decide)))
 replace Plongest := Plongest.other W17 (Or.inr (slot_ne (Or.inr (tw80 hw)) (Or.inr (tw75 hw)) (by decide) (t := .long) (t' := (.object "com/example/kiriman/kiriman/route/Costs")) (by decide) (by decide)))
 replace Platest := Platest.other W17 (Or.inr (slot_ne (Or.inr (tw82 hw)) (Or.inr (tw75 hw)) (by decide) (t := .long) (t' := (.object "com/example/kiriman/kiriman/route/Costs")) (by decide) (by decide)))
 replace Ft := Ft.other W17 (Or.inl n4)
 replace E := E.wr W17
 replace Eca := Eca.wr W17
 replace Edd := Edd.wr W17
 replace Epp := Epp.wr W17
 replace Et := Et.wr W17
 replace Q8 := Q8.wr W17
 replace Q11 := Q11.wr W17
 replace Q14 := Q14.wr W17
 replace Vca := Vca.other W17 n1
 replace Vdd := Vdd.other W17 n2
 replace Vpp := Vpp.other W17 n3
 replace V8 := V8.other W17 (Ne.symm ne_a_b8)
 replace V11 := V11.other W17 (Ne.symm ne_a_b11)
 replace V14 := V14.other W17 (Ne.symm ne_a_b14)
 replace hz := Nat.le_trans hz (Nat.le_of_eq W17.size.symm)
 replace K0 := K0.wr W17 (Or.inl (by simp))
 have N17 := Fr.snoc X17 N16 ga
 refine Go.of (mkF m 263 #[.val (.ref a), .val (.int 0), .val (.ref cp), .val (.ref d), .val (.ref p), .val (.ref t), .val (.int 3), .val (.int 3), .val (.int 2), .val (.int 2), .val (.int 0)] []) (st17) ?_
 refine Go.of (mkF m 264 #[.val (.ref a), .val (.int 0), .val (.ref cp), .val (.ref d), .val (.ref p), .val (.ref t), .val (.int 3), .val (.int 3), .val (.int 2), .val (.int 2), .val (.int 0)] [(.ref a)]) (fun _ q => XS.aloadN X17.here hx rfl (hb hby d9_263) rfl rfl q) ?_
 refine Go.of (mkF m 266 #[.val (.ref a), .val (.int 0), .val (.ref cp), .val (.ref d), .val (.ref p), .val (.ref t), .val (.int 3), .val (.int 3), .val (.int 2), .val (.int 2), .val (.int 0)] [(.int 3), (.ref a)]) (fun _ q => XS.iload X17.here hx rfl (hb hby d9_264) rfl q) ?_
 obtain ⟨T18, h18, k18, X18, e18, E18, A18, Q18, st18⟩ := newPE X17 hx hZ (aty := .int) (tw2 hw) e17 (g := (mkF m 266 #[.val (.ref a), .val (.int 0), .val (.ref cp), .val (.ref d), .val (.ref p), .val (.ref t), .val (.int 3), .val (.int 3), .val (.int 2), .val (.int 2), .val (.int 0)] [(.int 3), (.ref a)])) rfl (hb hby d9_266) rfl (by decide) (cap := 3) (by decide) (by decide) (by decide) (by decide) (ad := "[I") (by decide +kernel)
 obtain ⟨b18, g18⟩ : ∃ z, z = h17.size := ⟨_, rfl⟩
 rw [← g18] at A18 Q18 st18
 have ne_a_b18 : a ≠ b18 := Nat.ne_of_lt (Nat.lt_of_lt_of_le E.lt (Nat.le_of_eq g18.symm))
 have ne_cp_b18 : cp ≠ b18 := Nat.ne_of_lt (Nat.lt_of_lt_of_le Eca.lt (Nat.le_of_eq g18.symm))
 have ne_d_b18 : d ≠ b18 := Nat.ne_of_lt (Nat.lt_of_lt_of_le Edd.lt (Nat.le_of_eq g18.symm))
 have ne_p_b18 : p ≠ b18 := Nat.ne_of_lt (Nat.lt_of_lt_of_le Epp.lt (Nat.le_of_eq g18.symm))
 have ne_t_b18 : t ≠ b18 := Nat.ne_of_lt (Nat.lt_of_lt_of_le Et.lt (Nat.le_of_eq g18.symm))
 have ne_b8_b18 : b8 ≠ b18 := Nat.ne_of_lt (Nat.lt_of_lt_of_le Q8.lt (Nat.le_of_eq g18.symm))
 have ne_b11_b18 : b11 ≠ b18 := Nat.ne_of_lt (Nat.lt_of_lt_of_le Q11.lt (Nat.le_of_eq g18.symm))
 have ne_b14_b18 : b14 ≠ b18 := Nat.ne_of_lt (Nat.lt_of_lt_of_le Q14.lt (Nat.le_of_eq g18.symm))
 have gb_b18 : n0 ≤ b18 := Nat.le_trans hz (Nat.le_of_eq g18.symm)
 have sz_b18 : h0.size ≤ b18 := Nat.le_trans K0.1 (Nat.le_of_eq g18.symm)
 replace Pnodes := Pnodes.ext E18
 replace Pdepot := Pdepot.ext E18
 replace Pcapacities := Pcapacities.ext E18
 replace Pdeliveries := Pdeliveries.ext E18
 replace Ppickups := Ppickups.ext E18
 replace Pcosts := Pcosts.ext E18
 replace Pservice := Pservice.ext E18
 replace Plongest := Plongest.ext E18
 replace Platest := Platest.ext E18
 replace Ft := Ft.ext E18
 replace E := E.ext E18
 replace Eca := Eca.ext E18
 replace Edd := Edd.ext E18
 replace Epp := Epp.ext E18
 replace Et := Et.ext E18
 replace Q8 := Q8.ext E18
 replace Q11 := Q11.ext E18
 replace Q14 := Q14.ext E18
 replace Vca := Vca.ext E18
 replace Vdd := Vdd.ext E18
 replace Vpp := Vpp.ext E18
 replace V8 := V8.ext E18
 replace V11 := V11.ext E18
 replace V14 := V14.ext E18
 replace hz := Nat.le_trans hz E18.1
 replace K0 := K0.ext E18
 have V_b18 : Fa Z h18 b18 .int (3 : Int32) (fun i => .int ((fun _ => (0 : Int32)) i)) := Fa.new A18 (by decide)
 refine Go.of (mkF m 268 #[.val (.ref a), .val (.int 0), .val (.ref cp), .val (.ref d), .val (.ref p), .val (.ref t), .val (.int 3), .val (.int 3), .val (.int 2), .val (.int 2), .val (.int 0)] [(.ref b18), (.ref a)]) (st18) ?_
 obtain ⟨T19, h19, X19, e19, W19, st19⟩ := putF X18 hx hZ hown (host := "") (Or.inl (tw76 hw)) Via.refl e18 Pservice E (Or.inr ⟨(tw77 hw), rfl, hnm⟩) (tw4 hw) (ty := (.array .int)) (by decide) rfl rfl (g := (mkF m 268 #[.val (.ref a), .val (.int 0), .val (.ref cp), .val (.ref d), .val (.ref p), .val (.ref t), .val (.int 3), .val (.int 3), .val (.int 2), .val (.int 2), .val (.int 0)] [(.ref b18), (.ref a)])) rfl rfl (hb hby d9_268)
 replace Pnodes := Pnodes.other W19 (Or.inr (slot_ne (Or.inr (tw65 hw)) (Or.inr (tw77 hw)) (by decide) (t := .int) (t' := (.array .int)) (by decide) (by decide)))
 replace Pdepot := Pdepot.other W19 (Or.inr (slot_ne (Or.inr (tw67 hw)) (Or.inr (tw77 hw)) (by decide) (t := .int) (t' := (.array .int)) (by decide) (by decide)))
 replace Pcapacities := Pcapacities.other W19 (Or.inr (slot_ne (Or.inr (tw69 hw)) (Or.inr (tw77 hw)) (by decide) (t := (.array .int)) (t' := (.array .int)) (by decide) (by decide)))
 replace Pdeliveries := Pdeliveries.other W19 (Or.inr (slot_ne (Or.inr (tw71 hw)) (Or.inr (tw77 hw)) (by decide) (t := (.array .int)) (t' := (.array .int)) (by decide) (by decide)))
 replace Ppickups := Ppickups.other W19 (Or.inr (slot_ne (Or.inr (tw73 hw)) (Or.inr (tw77 hw)) (by decide) (t := (.array .int)) (t' := (.array .int)) (by decide) (by decide)))
 replace Pcosts := Pcosts.other W19 (Or.inr (slot_ne (Or.inr (tw75 hw)) (Or.inr (tw77 hw)) (by decide) (t := (.object "com/example/kiriman/kiriman/route/Costs")) (t' := (.array .int)) (by decide) (by decide)))
 replace Pservice := Pservice.same W19
 replace Plongest := Plongest.other W19 (Or.inr (slot_ne (Or.inr (tw80 hw)) (Or.inr (tw77 hw)) (by decide) (t := .long) (t' := (.array .int)) (by decide) (by decide)))
 replace Platest := Platest.other W19 (Or.inr (slot_ne (Or.inr (tw82 hw)) (Or.inr (tw77 hw)) (by decide) (t := .long) (t' := (.array .int)) (by decide) (by decide)))
 replace Ft := Ft.other W19 (Or.inl n4)
 replace E := E.wr W19
 replace Eca := Eca.wr W19
 replace Edd := Edd.wr W19
 replace Epp := Epp.wr W19
 replace Et := Et.wr W19
 replace Q8 := Q8.wr W19
 replace Q11 := Q11.wr W19
 replace Q14 := Q14.wr W19
 replace Q18 := Q18.wr W19
 replace Vca := Vca.other W19 n1
 replace Vdd := Vdd.other W19 n2
 replace Vpp := Vpp.other W19 n3
 replace V8 := V8.other W19 (Ne.symm ne_a_b8)
 replace V11 := V11.other W19 (Ne.symm ne_a_b11)
 replace V14 := V14.other W19 (Ne.symm ne_a_b14)
 replace V_b18 := V_b18.other W19 (Ne.symm ne_a_b18)
 replace hz := Nat.le_trans hz (Nat.le_of_eq W19.size.symm)
 replace K0 := K0.wr W19 (Or.inl (by simp))
 have N19 := Fr.snoc X19 N17 ga
 refine Go.of (mkF m 271 #[.val (.ref a), .val (.int 0), .val (.ref cp), .val (.ref d), .val (.ref p), .val (.ref t), .val (.int 3), .val (.int 3), .val (.int 2), .val (.int 2), .val (.int 0)] []) (st19) ?_
 refine Go.of (mkF m 272 #[.val (.ref a), .val (.int 0), .val (.ref cp), .val (.ref d), .val (.ref p), .val (.ref t), .val (.int 3), .val (.int 3), .val (.int 2), .val (.int 2), .val (.int 0)] [(.ref a)]) (fun _ q => XS.aloadN X19.here hx rfl (hb hby d9_271) rfl rfl q) ?_
 refine Go.of (mkF m 275 #[.val (.ref a), .val (.int 0), .val (.ref cp), .val (.ref d), .val (.ref p), .val (.ref t), .val (.int 3), .val (.int 3), .val (.int 2), .val (.int 2), .val (.int 0)] [(.long 9223372036854775807), (.ref a)]) (fun _ q => X19.ldc2Long hx hown (mvT hZ (tw78 hw)) (g := (mkF m 272 #[.val (.ref a), .val (.int 0), .val (.ref cp), .val (.ref d), .val (.ref p), .val (.ref t), .val (.int 3), .val (.int 3), .val (.int 2), .val (.int 2), .val (.int 0)] [(.ref a)])) rfl (hb hby d9_272) _ q) ?_
 obtain ⟨T20, h20, X20, e20, W20, st20⟩ := putF X19 hx hZ hown (host := "") (Or.inl (tw79 hw)) Via.refl e19 Plongest E (Or.inr ⟨(tw80 hw), rfl, hnm⟩) (tw4 hw) (ty := .long) (by decide) rfl rfl (g := (mkF m 275 #[.val (.ref a), .val (.int 0), .val (.ref cp), .val (.ref d), .val (.ref p), .val (.ref t), .val (.int 3), .val (.int 3), .val (.int 2), .val (.int 2), .val (.int 0)] [(.long 9223372036854775807), (.ref a)])) rfl rfl (hb hby d9_275)
 replace Pnodes := Pnodes.other W20 (Or.inr (slot_ne (Or.inr (tw65 hw)) (Or.inr (tw80 hw)) (by decide) (t := .int) (t' := .long) (by decide) (by decide)))
 replace Pdepot := Pdepot.other W20 (Or.inr (slot_ne (Or.inr (tw67 hw)) (Or.inr (tw80 hw)) (by decide) (t := .int) (t' := .long) (by decide) (by decide)))
 replace Pcapacities := Pcapacities.other W20 (Or.inr (slot_ne (Or.inr (tw69 hw)) (Or.inr (tw80 hw)) (by decide) (t := (.array .int)) (t' := .long) (by decide) (by decide)))
 replace Pdeliveries := Pdeliveries.other W20 (Or.inr (slot_ne (Or.inr (tw71 hw)) (Or.inr (tw80 hw)) (by decide) (t := (.array .int)) (t' := .long) (by decide) (by decide)))
 replace Ppickups := Ppickups.other W20 (Or.inr (slot_ne (Or.inr (tw73 hw)) (Or.inr (tw80 hw)) (by decide) (t := (.array .int)) (t' := .long) (by decide) (by decide)))
 replace Pcosts := Pcosts.other W20 (Or.inr (slot_ne (Or.inr (tw75 hw)) (Or.inr (tw80 hw)) (by decide) (t := (.object "com/example/kiriman/kiriman/route/Costs")) (t' := .long) (by decide) (by decide)))
 replace Pservice := Pservice.other W20 (Or.inr (slot_ne (Or.inr (tw77 hw)) (Or.inr (tw80 hw)) (by decide) (t := (.array .int)) (t' := .long) (by decide) (by decide)))
 replace Plongest := Plongest.same W20
 replace Platest := Platest.other W20 (Or.inr (slot_ne (Or.inr (tw82 hw)) (Or.inr (tw80 hw)) (by decide) (t := .long) (t' := .long) (by decide) (by decide)))
 replace Ft := Ft.other W20 (Or.inl n4)
 replace E := E.wr W20
 replace Eca := Eca.wr W20
 replace Edd := Edd.wr W20
 replace Epp := Epp.wr W20
 replace Et := Et.wr W20
 replace Q8 := Q8.wr W20
 replace Q11 := Q11.wr W20
 replace Q14 := Q14.wr W20
 replace Q18 := Q18.wr W20
 replace Vca := Vca.other W20 n1
 replace Vdd := Vdd.other W20 n2
 replace Vpp := Vpp.other W20 n3
 replace V8 := V8.other W20 (Ne.symm ne_a_b8)
 replace V11 := V11.other W20 (Ne.symm ne_a_b11)
 replace V14 := V14.other W20 (Ne.symm ne_a_b14)
 replace V_b18 := V_b18.other W20 (Ne.symm ne_a_b18)
 replace hz := Nat.le_trans hz (Nat.le_of_eq W20.size.symm)
 replace K0 := K0.wr W20 (Or.inl (by simp))
 have N20 := Fr.snoc X20 N19 ga
 refine Go.of (mkF m 278 #[.val (.ref a), .val (.int 0), .val (.ref cp), .val (.ref d), .val (.ref p), .val (.ref t), .val (.int 3), .val (.int 3), .val (.int 2), .val (.int 2), .val (.int 0)] []) (st20) ?_
 refine Go.of (mkF m 279 #[.val (.ref a), .val (.int 0), .val (.ref cp), .val (.ref d), .val (.ref p), .val (.ref t), .val (.int 3), .val (.int 3), .val (.int 2), .val (.int 2), .val (.int 0)] [(.ref a)]) (fun _ q => XS.aloadN X20.here hx rfl (hb hby d9_278) rfl rfl q) ?_
 refine Go.of (mkF m 282 #[.val (.ref a), .val (.int 0), .val (.ref cp), .val (.ref d), .val (.ref p), .val (.ref t), .val (.int 3), .val (.int 3), .val (.int 2), .val (.int 2), .val (.int 0)] [(.long 9223372036854775807), (.ref a)]) (fun _ q => X20.ldc2Long hx hown (mvT hZ (tw78 hw)) (g := (mkF m 279 #[.val (.ref a), .val (.int 0), .val (.ref cp), .val (.ref d), .val (.ref p), .val (.ref t), .val (.int 3), .val (.int 3), .val (.int 2), .val (.int 2), .val (.int 0)] [(.ref a)])) rfl (hb hby d9_279) _ q) ?_
 obtain ⟨T21, h21, X21, e21, W21, st21⟩ := putF X20 hx hZ hown (host := "") (Or.inl (tw81 hw)) Via.refl e20 Platest E (Or.inr ⟨(tw82 hw), rfl, hnm⟩) (tw4 hw) (ty := .long) (by decide) rfl rfl (g := (mkF m 282 #[.val (.ref a), .val (.int 0), .val (.ref cp), .val (.ref d), .val (.ref p), .val (.ref t), .val (.int 3), .val (.int 3), .val (.int 2), .val (.int 2), .val (.int 0)] [(.long 9223372036854775807), (.ref a)])) rfl rfl (hb hby d9_282)
 replace Pnodes := Pnodes.other W21 (Or.inr (slot_ne (Or.inr (tw65 hw)) (Or.inr (tw82 hw)) (by decide) (t := .int) (t' := .long) (by decide) (by decide)))
 replace Pdepot := Pdepot.other W21 (Or.inr (slot_ne (Or.inr (tw67 hw)) (Or.inr (tw82 hw)) (by decide) (t := .int) (t' := .long) (by decide) (by decide)))
 replace Pcapacities := Pcapacities.other W21 (Or.inr (slot_ne (Or.inr (tw69 hw)) (Or.inr (tw82 hw)) (by decide) (t := (.array .int)) (t' := .long) (by decide) (by decide)))
 replace Pdeliveries := Pdeliveries.other W21 (Or.inr (slot_ne (Or.inr (tw71 hw)) (Or.inr (tw82 hw)) (by decide) (t := (.array .int)) (t' := .long) (by decide) (by decide)))
 replace Ppickups := Ppickups.other W21 (Or.inr (slot_ne (Or.inr (tw73 hw)) (Or.inr (tw82 hw)) (by decide) (t := (.array .int)) (t' := .long) (by decide) (by decide)))
 replace Pcosts := Pcosts.other W21 (Or.inr (slot_ne (Or.inr (tw75 hw)) (Or.inr (tw82 hw)) (by decide) (t := (.object "com/example/kiriman/kiriman/route/Costs")) (t' := .long) (by decide) (by decide)))
 replace Pservice := Pservice.other W21 (Or.inr (slot_ne (Or.inr (tw77 hw)) (Or.inr (tw82 hw)) (by decide) (t := (.array .int)) (t' := .long) (by decide) (by decide)))
 replace Plongest := Plongest.other W21 (Or.inr (slot_ne (Or.inr (tw80 hw)) (Or.inr (tw82 hw)) (by decide) (t := .long) (t' := .long) (by decide) (by decide)))
 replace Platest := Platest.same W21
 replace Ft := Ft.other W21 (Or.inl n4)
 replace E := E.wr W21
 replace Eca := Eca.wr W21
 replace Edd := Edd.wr W21
 replace Epp := Epp.wr W21
 replace Et := Et.wr W21
 replace Q8 := Q8.wr W21
 replace Q11 := Q11.wr W21
 replace Q14 := Q14.wr W21
 replace Q18 := Q18.wr W21
 replace Vca := Vca.other W21 n1
 replace Vdd := Vdd.other W21 n2
 replace Vpp := Vpp.other W21 n3
 replace V8 := V8.other W21 (Ne.symm ne_a_b8)
 replace V11 := V11.other W21 (Ne.symm ne_a_b11)
 replace V14 := V14.other W21 (Ne.symm ne_a_b14)
 replace V_b18 := V_b18.other W21 (Ne.symm ne_a_b18)
 replace hz := Nat.le_trans hz (Nat.le_of_eq W21.size.symm)
 replace K0 := K0.wr W21 (Or.inl (by simp))
 have N21 := Fr.snoc X21 N20 ga
 refine Go.of (mkF m 285 #[.val (.ref a), .val (.int 0), .val (.ref cp), .val (.ref d), .val (.ref p), .val (.ref t), .val (.int 3), .val (.int 3), .val (.int 2), .val (.int 2), .val (.int 0)] []) (st21) ?_
 exact Go.retV X21 hx hret hlk (hb hby d9_285) (by decide) (by decide) (by rw [e21]; exact ⟨rfl, N21, K0, Pnodes, Pdepot, Pcosts⟩)
theorem ef_rmP2 (m : MethodId) (x0 : Addr) (x1 : Int32) (x2 : Addr) (x3 : Addr) (x4 : Addr) (x5 : Addr) : entryFrame m #[(.ref x0), (.int x1), (.ref x2), (.ref x3), (.ref x4), (.ref x5)] 10 = mkF m 0 #[.val (.ref x0), .val (.int x1), .val (.ref x2), .val (.ref x3), .val (.ref x4), .val (.ref x5), .unset, .unset, .unset, .unset] [] := by first | (simp [entryFrame, mkF, argsToLocals, Value.category]; done) | rfl
theorem rmP2 (l : Launch) (Z : State) (a0 : Array Value) (hw : ∀ d ∈ tables_1, d.before a0 Z = true) (ws : List Jvm.Cond) (a cp d p c9 : Nat) (h0 : Heap) (n0 : Nat) (hz0 : n0 ≤ h0.size) (E : Exa Z h0 a "com/example/kiriman/kiriman/route/Problem") (ga : n0 ≤ a) (Pnodes : Fld Z h0 a "com/example/kiriman/kiriman/route/Problem" "nodes" "I" (.int (0 : Int32))) (Pdepot : Fld Z h0 a "com/example/kiriman/kiriman/route/Problem" "depot" "I" (.int (0 : Int32))) (Pcapacities : Fld Z h0 a "com/example/kiriman/kiriman/route/Problem" "capacities" "[I" .null) (Pdeliveries : Fld Z h0 a "com/example/kiriman/kiriman/route/Problem" "deliveries" "[I" .null) (Ppickups : Fld Z h0 a "com/example/kiriman/kiriman/route/Problem" "pickups" "[I" .null) (Pcosts : Fld Z h0 a "com/example/kiriman/kiriman/route/Problem" "costs" "Lcom/example/kiriman/kiriman/route/Costs;" .null) (Pservice : Fld Z h0 a "com/example/kiriman/kiriman/route/Problem" "service" "[I" .null) (Plongest : Fld Z h0 a "com/example/kiriman/kiriman/route/Problem" "longest" "J" (.long (0 : Int64))) (Platest : Fld Z h0 a "com/example/kiriman/kiriman/route/Problem" "latest" "J" (.long (0 : Int64))) (Vca : Fa Z h0 cp .int 2 (fun i => .int ((fun _ => (0 : Int32)) i))) (Eca : Exa Z h0 cp "[I") (Vdd : Fa Z h0 d .int 3 (fun i => .int ((fun _ => (0 : Int32)) i))) (Edd : Exa Z h0 d "[I") (Vpp : Fa Z h0 p .int 3 (fun i => .int ((fun _ => (0 : Int32)) i))) (Epp : Exa Z h0 p "[I") (Vcc : Fa Z h0 c9 .int 9 (fun i => .int ((fun _ => (0 : Int32)) i))) (Ecc : Exa Z h0 c9 "[I") (n1 : cp ≠ a) (n2 : d ≠ a) (n3 : p ≠ a) (n4 : c9 ≠ a) :
    Met l Z (⟨"com/example/kiriman/kiriman/route/Problem", "<init>", "(I[I[I[I[I)V"⟩ : MethodName) prog_29_method_2_code 10 none ws ({ frames := 3, cells := 6, slots := 22, locals := 48 } : Room) #[(.ref a), (.int 0), (.ref cp), (.ref d), (.ref p), (.ref c9)] h0 (fun v h L => ∃ t tc : Nat, v = none ∧ Fr n0 L ∧ Keep h0 h [a] ∧ h0.size ≤ t ∧ t < tc ∧ Fld Z h a "com/example/kiriman/kiriman/route/Problem" "nodes" "I" (.int (3 : Int32)) ∧ Fld Z h a "com/example/kiriman/kiriman/route/Problem" "depot" "I" (.int (0 : Int32)) ∧ Fld Z h a "com/example/kiriman/kiriman/route/Problem" "costs" "Lcom/example/kiriman/kiriman/route/Costs;" (.ref t) ∧ Exa Z h t "com/example/kiriman/kiriman/route/CostMatrix" ∧ Fld Z h t "com/example/kiriman/kiriman/route/CostMatrix" "nodes" "I" (.int (3 : Int32)) ∧ Fld Z h t "com/example/kiriman/kiriman/route/CostMatrix" "costs" "[I" (.ref tc) ∧ Fa Z h tc .int 9 (fun i => .int ((fun _ => (0 : Int32)) i))) := by
 refine Met.intro pn13 ?_
 intro pr ev s m below meth c T0 X0 hx hZ hown hby hml hret hlk hnm e0
 refine Go.cast (ef_rmP2 m a (0 : Int32) cp d p c9) ?_
 have N0 := Fr.nil n0
 have hz := hz0
 have K0 : Keep h0 h0 [a] := Keep.refl h0 _
 refine Go.of (mkF m 1 #[.val (.ref a), .val (.int 0), .val (.ref cp), .val (.ref d), .val (.ref p), .val (.ref c9), .unset, .unset, .unset, .unset] [(.ref a)]) (fun _ q => XS.aloadN X0.here hx rfl (hb hby d5_0) rfl rfl q) ?_
 refine Go.of (mkF m 2 #[.val (.ref a), .val (.int 0), .val (.ref cp), .val (.ref d), .val (.ref p), .val (.ref c9), .unset, .unset, .unset, .unset] [(.int 0), (.ref a)]) (fun _ q => XS.iloadN X0.here hx rfl (hb hby d5_1) rfl q) ?_
 refine Go.of (mkF m 3 #[.val (.ref a), .val (.int 0), .val (.ref cp), .val (.ref d), .val (.ref p), .val (.ref c9), .unset, .unset, .unset, .unset] [(.ref cp), (.int 0), (.ref a)]) (fun _ q => XS.aloadN X0.here hx rfl (hb hby d5_2) rfl rfl q) ?_
 refine Go.of (mkF m 4 #[.val (.ref a), .val (.int 0), .val (.ref cp), .val (.ref d), .val (.ref p), .val (.ref c9), .unset, .unset, .unset, .unset] [(.ref d), (.ref cp), (.int 0), (.ref a)]) (fun _ q => XS.aloadN X0.here hx rfl (hb hby d5_3) rfl rfl q) ?_
 refine Go.of (mkF m 6 #[.val (.ref a), .val (.int 0), .val (.ref cp), .val (.ref d), .val (.ref p), .val (.ref c9), .unset, .unset, .unset, .unset] [(.ref p), (.ref d), (.ref cp), (.int 0), (.ref a)]) (fun _ q => XS.aload X0.here hx rfl (hb hby d5_4) rfl rfl q) ?_
 refine Go.of (mkF m 7 #[.val (.ref a), .val (.int 0), .val (.ref cp), .val (.ref d), .val (.ref p), .val (.ref c9), .unset, .unset, .unset, .unset] [(.ref d), (.ref p), (.ref d), (.ref cp), (.int 0), (.ref a)]) (fun _ q => XS.aloadN X0.here hx rfl (hb hby d5_6) rfl rfl q) ?_
 refine Go.of (mkF m 9 #[.val (.ref a), .val (.int 0), .val (.ref cp), .val (.ref d), .val (.ref p), .val (.ref c9), .unset, .unset, .unset, .unset] [(.ref p), (.ref d), (.ref p), (.ref d), (.ref cp), (.int 0), (.ref a)]) (fun _ q => XS.aload X0.here hx rfl (hb hby d5_7) rfl rfl q) ?_
 refine Go.of (mkF m 11 #[.val (.ref a), .val (.int 0), .val (.ref cp), .val (.ref d), .val (.ref p), .val (.ref c9), .unset, .unset, .unset, .unset] [(.ref c9), (.ref p), (.ref d), (.ref p), (.ref d), (.ref cp), (.int 0), (.ref a)]) (fun _ q => XS.aload X0.here hx rfl (hb hby d5_9) rfl rfl q) ?_
 refine Go.callS X0 hx hZ (y := (⟨"com/example/kiriman/kiriman/route/Problem", "matrix", "([I[I[I)Lcom/example/kiriman/kiriman/route/Costs;"⟩ : MethodName)) (argsL := [(.ref d), (.ref p), (.ref c9)]) (rest := [(.ref p), (.ref d), (.ref cp), (.int 0), (.ref a)]) hown (tw23 hw) (tw24 hw) (tw5 hw) (tw25 hw) (by decide) e0 (rmMx l Z a0 hw [] d p c9 h0 n0 hz Vdd Vpp Vcc Ecc) (g := (mkF m 11 #[.val (.ref a), .val (.int 0), .val (.ref cp), .val (.ref d), .val (.ref p), .val (.ref c9), .unset, .unset, .unset, .unset] [(.ref c9), (.ref p), (.ref d), (.ref p), (.ref d), (.ref cp), (.int 0), (.ref a)])) rfl (by rw [hml]; rfl) (lenOf pd14 rfl) rfl (W := 5) (by show 2 * 0 + _ ≤ _; exact Nat.le_of_eq rfl) (hb hby d5_11) (by decide) (by decide) (by decide) (by decide) ?_
 rintro T1 L1 v1 X1 ⟨t, tc, rfl, NL1, K1, szt, ltt, Et, Ft1, Ft2, Vt⟩
 have N1 := Fr.app N0 NL1
 have ne_a_t : a ≠ t := Nat.ne_of_lt (Nat.lt_of_lt_of_le E.lt szt)
 have ne_cp_t : cp ≠ t := Nat.ne_of_lt (Nat.lt_of_lt_of_le Eca.lt szt)
 have ne_d_t : d ≠ t := Nat.ne_of_lt (Nat.lt_of_lt_of_le Edd.lt szt)
 have ne_p_t : p ≠ t := Nat.ne_of_lt (Nat.lt_of_lt_of_le Epp.lt szt)
 have ne_c9_t : c9 ≠ t := Nat.ne_of_lt (Nat.lt_of_lt_of_le Ecc.lt szt)
 have gb_t : n0 ≤ t := Nat.le_trans hz szt
 have sz_t : h0.size ≤ t := Nat.le_trans K0.1 szt
 have ne_a_tc : a ≠ tc := Nat.ne_of_lt (Nat.lt_of_lt_of_le E.lt (Nat.le_trans szt (Nat.le_of_lt ltt)))
 have ne_cp_tc : cp ≠ tc := Nat.ne_of_lt (Nat.lt_of_lt_of_le Eca.lt (Nat.le_trans szt (Nat.le_of_lt ltt)))
 have ne_d_tc : d ≠ tc := Nat.ne_of_lt (Nat.lt_of_lt_of_le Edd.lt (Nat.le_trans szt (Nat.le_of_lt ltt)))
 have ne_p_tc : p ≠ tc := Nat.ne_of_lt (Nat.lt_of_lt_of_le Epp.lt (Nat.le_trans szt (Nat.le_of_lt ltt)))
 have ne_c9_tc : c9 ≠ tc := Nat.ne_of_lt (Nat.lt_of_lt_of_le Ecc.lt (Nat.le_trans szt (Nat.le_of_lt ltt)))
 have gb_tc : n0 ≤ tc := Nat.le_trans hz (Nat.le_trans szt (Nat.le_of_lt ltt))
 have sz_tc : h0.size ≤ tc := Nat.le_trans K0.1 (Nat.le_trans szt (Nat.le_of_lt ltt))
 replace Pnodes := Pnodes.keep K1 nin0
 replace Pdepot := Pdepot.keep K1 nin0
 replace Pcapacities := Pcapacities.keep K1 nin0
 replace Pdeliveries := Pdeliveries.keep K1 nin0
 replace Ppickups := Ppickups.keep K1 nin0
 replace Pcosts := Pcosts.keep K1 nin0
 replace Pservice := Pservice.keep K1 nin0
 replace Plongest := Plongest.keep K1 nin0
 replace Platest := Platest.keep K1 nin0
 replace E := E.keep K1
 replace Eca := Eca.keep K1
 replace Edd := Edd.keep K1
 replace Epp := Epp.keep K1
 replace Ecc := Ecc.keep K1
 replace Vca := Vca.keep K1 nin0
 replace Vdd := Vdd.keep K1 nin0
 replace Vpp := Vpp.keep K1 nin0
 replace Vcc := Vcc.keep K1 nin0
 replace hz := Nat.le_trans hz K1.1
 replace K0 := K0.trans K1 (fun x hx => nomatch hx)
 show Go pr ev below _ T1 (mkF m 14 #[.val (.ref a), .val (.int 0), .val (.ref cp), .val (.ref d), .val (.ref p), .val (.ref c9), .unset, .unset, .unset, .unset] [(.ref t), (.ref p), (.ref d), (.ref cp), (.int 0), (.ref a)])
 have szt0 : h0.size ≤ t := szt
 refine Go.init X1 hx hZ (y := (⟨"com/example/kiriman/kiriman/route/Problem", "<init>", "(I[I[I[ILcom/example/kiriman/kiriman/route/Costs;)V"⟩ : MethodName)) (a := a) (argsL := [(.int 0), (.ref cp), (.ref d), (.ref p), (.ref t)]) (rest := []) hown rfl (tw48 hw) (tw49 hw) (tw5 hw) (tw50 hw) (by decide) rfl (rmP3 l Z a0 hw [] a cp d p t T1.heap n0 hz E ga Pnodes Pdepot Pcapacities Pdeliveries Ppickups Pcosts Pservice Plongest Platest Vca Eca Vdd Edd Vpp Epp Et Ft1 n1 n2 n3 (Ne.symm ne_a_t)) (g := (mkF m 14 #[.val (.ref a), .val (.int 0), .val (.ref cp), .val (.ref d), .val (.ref p), .val (.ref c9), .unset, .unset, .unset, .unset] [(.ref t), (.ref p), (.ref d), (.ref cp), (.int 0), (.ref a)])) rfl (by rw [hml]; rfl) (lenOf pd15 rfl) rfl (W := 0) (by show 2 * 0 + _ ≤ _; exact Nat.le_of_eq rfl) (hb hby d5_14) (by decide) (by decide) (by decide) (by decide) ?_
 rintro T2 L2 v2 X2 ⟨rfl, NL2, K2, G1, G2, G3⟩
 have N2 := Fr.app N1 NL2
 replace Ft1 := Ft1.keep K2 (ninS (Ne.symm ne_a_t) nin0)
 replace Ft2 := Ft2.keep K2 (ninS (Ne.symm ne_a_t) nin0)
 replace E := E.keep K2
 replace Eca := Eca.keep K2
 replace Edd := Edd.keep K2
 replace Epp := Epp.keep K2
 replace Ecc := Ecc.keep K2
 replace Et := Et.keep K2
 replace Vca := Vca.keep K2 (ninS n1 nin0)
 replace Vdd := Vdd.keep K2 (ninS n2 nin0)
 replace Vpp := Vpp.keep K2 (ninS n3 nin0)
 replace Vcc := Vcc.keep K2 (ninS n4 nin0)
 replace Vt := Vt.keep K2 (ninS (Ne.symm ne_a_tc) nin0)
 replace hz := Nat.le_trans hz K2.1
 replace K0 := K0.trans K2 (((allS (Or.inl (by simp)) all0)))
 show Go pr ev below _ T2 (mkF m 17 #[.val (.ref a), .val (.int 0), .val (.ref cp), .val (.ref d), .val (.ref p), .val (.ref c9), .unset, .unset, .unset, .unset] [])
 refine Go.of (mkF m 19 #[.val (.ref a), .val (.int 0), .val (.ref cp), .val (.ref d), .val (.ref p), .val (.ref c9), .unset, .unset, .unset, .unset] [(.ref c9)]) (fun _ q => XS.aload X2.here hx rfl (hb hby d5_17) rfl rfl q) ?_
 refine Go.of (mkF m 21 #[.val (.ref a), .val (.int 0), .val (.ref cp), .val (.ref d), .val (.ref p), .val (.ref c9), .val (.ref c9), .unset, .unset, .unset] []) (fun _ q => XS.astore X2.here hx rfl (hb hby d5_19) rfl rfl (l' := #[.val (.ref a), .val (.int 0), .val (.ref cp), .val (.ref d), .val (.ref p), .val (.ref c9), .val (.ref c9), .unset, .unset, .unset]) rfl q) ?_
 refine Go.of (mkF m 23 #[.val (.ref a), .val (.int 0), .val (.ref cp), .val (.ref d), .val (.ref p), .val (.ref c9), .val (.ref c9), .unset, .unset, .unset] [(.ref c9)]) (fun _ q => XS.aload X2.here hx rfl (hb hby d5_21) rfl rfl q) ?_
 refine Go.arraylength X2 hx hZ rfl Vcc (g := (mkF m 23 #[.val (.ref a), .val (.int 0), .val (.ref cp), .val (.ref d), .val (.ref p), .val (.ref c9), .val (.ref c9), .unset, .unset, .unset] [(.ref c9)])) rfl rfl (hb hby d5_23) ?_
 show Go pr ev below _ T2 (mkF m 24 #[.val (.ref a), .val (.int 0), .val (.ref cp), .val (.ref d), .val (.ref p), .val (.ref c9), .val (.ref c9), .unset, .unset, .unset] [(.int 9)])
 refine Go.of (mkF m 26 #[.val (.ref a), .val (.int 0), .val (.ref cp), .val (.ref d), .val (.ref p), .val (.ref c9), .val (.ref c9), .val (.int 9), .unset, .unset] []) (fun _ q => XS.istore X2.here hx rfl (hb hby d5_24) rfl (l' := #[.val (.ref a), .val (.int 0), .val (.ref cp), .val (.ref d), .val (.ref p), .val (.ref c9), .val (.ref c9), .val (.int 9), .unset, .unset]) rfl q) ?_
 refine Go.of (mkF m 27 #[.val (.ref a), .val (.int 0), .val (.ref cp), .val (.ref d), .val (.ref p), .val (.ref c9), .val (.ref c9), .val (.int 9), .unset, .unset] [(.int 0)]) (fun _ q => XS.iconst X2.here hx rfl (hb hby d5_26) q) ?_
 refine Go.of (mkF m 29 #[.val (.ref a), .val (.int 0), .val (.ref cp), .val (.ref d), .val (.ref p), .val (.ref c9), .val (.ref c9), .val (.int 9), .val (.int 0), .unset] []) (fun _ q => XS.istore X2.here hx rfl (hb hby d5_27) rfl (l' := #[.val (.ref a), .val (.int 0), .val (.ref cp), .val (.ref d), .val (.ref p), .val (.ref c9), .val (.ref c9), .val (.int 9), .val (.int 0), .unset]) rfl q) ?_
 refine Go.of (mkF m 31 #[.val (.ref a), .val (.int 0), .val (.ref cp), .val (.ref d), .val (.ref p), .val (.ref c9), .val (.ref c9), .val (.int 9), .val (.int 0), .unset] [(.int 0)]) (fun _ q => XS.iload X2.here hx rfl (hb hby d5_29) rfl q) ?_
 refine Go.of (mkF m 33 #[.val (.ref a), .val (.int 0), .val (.ref cp), .val (.ref d), .val (.ref p), .val (.ref c9), .val (.ref c9), .val (.int 9), .val (.int 0), .unset] [(.int 9), (.int 0)]) (fun _ q => XS.iload X2.here hx rfl (hb hby d5_31) rfl q) ?_
 refine Go.of (mkF m 36 #[.val (.ref a), .val (.int 0), .val (.ref cp), .val (.ref d), .val (.ref p), .val (.ref c9), .val (.ref c9), .val (.int 9), .val (.int 0), .unset] []) (fun _ q => XS.icmpNo X2.here hx rfl (hb hby d5_33) rfl (tlt (by decide)).2.1 q) ?_
 refine Go.of (mkF m 38 #[.val (.ref a), .val (.int 0), .val (.ref cp), .val (.ref d), .val (.ref p), .val (.ref c9), .val (.ref c9), .val (.int 9), .val (.int 0), .unset] [(.ref c9)]) (fun _ q => XS.aload X2.here hx rfl (hb hby d5_36) rfl rfl q) ?_
 refine Go.of (mkF m 40 #[.val (.ref a), .val (.int 0), .val (.ref cp), .val (.ref d), .val (.ref p), .val (.ref c9), .val (.ref c9), .val (.int 9), .val (.int 0), .unset] [(.int 0), (.ref c9)]) (fun _ q => XS.iload X2.here hx rfl (hb hby d5_38) rfl q) ?_
 refine Go.iaload X2 hx hZ rfl Vcc (by decide) (by decide) (g := (mkF m 40 #[.val (.ref a), .val (.int 0), .val (.ref cp), .val (.ref d), .val (.ref p), .val (.ref c9), .val (.ref c9), .val (.int 9), .val (.int 0), .unset] [(.int 0), (.ref c9)])) rfl rfl (hb hby d5_40) ?_
 show Go pr ev below _ T2 (mkF m 41 #[.val (.ref a), .val (.int 0), .val (.ref cp), .val (.ref d), .val (.ref p), .val (.ref c9), .val (.ref c9), .val (.int 9), .val (.int 0), .unset] [(.int ((fun _ => (0 : Int32)) (0 : Int32)))])
 rw [show ((fun _ => (0 : Int32)) (0 : Int32)) = (0 : Int32) from by rfl]
 refine Go.of (mkF m 43 #[.val (.ref a), .val (.int 0), .val (.ref cp), .val (.ref d), .val (.ref p), .val (.ref c9), .val (.ref c9), .val (.int 9), .val (.int 0), .val (.int 0)] []) (fun _ q => XS.istore X2.here hx rfl (hb hby d5_41) rfl (l' := #[.val (.ref a), .val (.int 0), .val (.ref cp), .val (.ref d), .val (.ref p), .val (.ref c9), .val (.ref c9), .val (.int 9), .val (.int 0), .val (.int 0)]) rfl q) ?_
 refine Go.of (mkF m 45 #[.val (.ref a), .val (.int 0), .val (.ref cp), .val (.ref d), .val (.ref p), .val (.ref c9), .val (.ref c9), .val (.int 9), .val (.int 0), .val (.int 0)] [(.int 0)]) (fun _ q => XS.iload X2.here hx rfl (hb hby d5_43) rfl q) ?_
 refine Go.of (mkF m 63 #[.val (.ref a), .val (.int 0), .val (.ref cp), .val (.ref d), .val (.ref p), .val (.ref c9), .val (.ref c9), .val (.int 9), .val (.int 0), .val (.int 0)] []) (fun _ q => XS.ifYes X2.here hx rfl (pc0 := 45) (pc' := 63) rfl (hb hby d5_45) rfl ((if0 _ _).trans (flt (by decide)).2.1) (by decide) (by decide) q) ?_
 refine Go.of (mkF m 66 #[.val (.ref a), .val (.int 0), .val (.ref cp), .val (.ref d), .val (.ref p), .val (.ref c9), .val (.ref c9), .val (.int 9), .val (.int ((0 : Int32) + (1 : Int32))), .val (.int 0)] []) (fun _ q => XS.iinc X2.here hx rfl (hb hby d5_63) rfl (l' := #[.val (.ref a), .val (.int 0), .val (.ref cp), .val (.ref d), .val (.ref p), .val (.ref c9), .val (.ref c9), .val (.int 9), .val (.int ((0 : Int32) + (1 : Int32))), .val (.int 0)]) rfl q) ?_
 rw [show ((0 : Int32) + (1 : Int32)) = (1 : Int32) from by decide]
 refine Go.of (mkF m 29 #[.val (.ref a), .val (.int 0), .val (.ref cp), .val (.ref d), .val (.ref p), .val (.ref c9), .val (.ref c9), .val (.int 9), .val (.int 1), .val (.int 0)] []) (fun _ q => XS.goto X2.here hx rfl (pc0 := 66) (pc' := 29) rfl (hb hby d5_66) (by decide) (by decide) q) ?_
 refine Go.of (mkF m 31 #[.val (.ref a), .val (.int 0), .val (.ref cp), .val (.ref d), .val (.ref p), .val (.ref c9), .val (.ref c9), .val (.int 9), .val (.int 1), .val (.int 0)] [(.int 1)]) (fun _ q => XS.iload X2.here hx rfl (hb hby d5_29) rfl q) ?_
 refine Go.of (mkF m 33 #[.val (.ref a), .val (.int 0), .val (.ref cp), .val (.ref d), .val (.ref p), .val (.ref c9), .val (.ref c9), .val (.int 9), .val (.int 1), .val (.int 0)] [(.int 9), (.int 1)]) (fun _ q => XS.iload X2.here hx rfl (hb hby d5_31) rfl q) ?_
 refine Go.of (mkF m 36 #[.val (.ref a), .val (.int 0), .val (.ref cp), .val (.ref d), .val (.ref p), .val (.ref c9), .val (.ref c9), .val (.int 9), .val (.int 1), .val (.int 0)] []) (fun _ q => XS.icmpNo X2.here hx rfl (hb hby d5_33) rfl (tlt (by decide)).2.1 q) ?_
 refine Go.of (mkF m 38 #[.val (.ref a), .val (.int 0), .val (.ref cp), .val (.ref d), .val (.ref p), .val (.ref c9), .val (.ref c9), .val (.int 9), .val (.int 1), .val (.int 0)] [(.ref c9)]) (fun _ q => XS.aload X2.here hx rfl (hb hby d5_36) rfl rfl q) ?_
 refine Go.of (mkF m 40 #[.val (.ref a), .val (.int 0), .val (.ref cp), .val (.ref d), .val (.ref p), .val (.ref c9), .val (.ref c9), .val (.int 9), .val (.int 1), .val (.int 0)] [(.int 1), (.ref c9)]) (fun _ q => XS.iload X2.here hx rfl (hb hby d5_38) rfl q) ?_
 refine Go.iaload X2 hx hZ rfl Vcc (by decide) (by decide) (g := (mkF m 40 #[.val (.ref a), .val (.int 0), .val (.ref cp), .val (.ref d), .val (.ref p), .val (.ref c9), .val (.ref c9), .val (.int 9), .val (.int 1), .val (.int 0)] [(.int 1), (.ref c9)])) rfl rfl (hb hby d5_40) ?_
 show Go pr ev below _ T2 (mkF m 41 #[.val (.ref a), .val (.int 0), .val (.ref cp), .val (.ref d), .val (.ref p), .val (.ref c9), .val (.ref c9), .val (.int 9), .val (.int 1), .val (.int 0)] [(.int ((fun _ => (0 : Int32)) (1 : Int32)))])
 rw [show ((fun _ => (0 : Int32)) (1 : Int32)) = (0 : Int32) from by rfl]
 refine Go.of (mkF m 43 #[.val (.ref a), .val (.int 0), .val (.ref cp), .val (.ref d), .val (.ref p), .val (.ref c9), .val (.ref c9), .val (.int 9), .val (.int 1), .val (.int 0)] []) (fun _ q => XS.istore X2.here hx rfl (hb hby d5_41) rfl (l' := #[.val (.ref a), .val (.int 0), .val (.ref cp), .val (.ref d), .val (.ref p), .val (.ref c9), .val (.ref c9), .val (.int 9), .val (.int 1), .val (.int 0)]) rfl q) ?_
 refine Go.of (mkF m 45 #[.val (.ref a), .val (.int 0), .val (.ref cp), .val (.ref d), .val (.ref p), .val (.ref c9), .val (.ref c9), .val (.int 9), .val (.int 1), .val (.int 0)] [(.int 0)]) (fun _ q => XS.iload X2.here hx rfl (hb hby d5_43) rfl q) ?_
 refine Go.of (mkF m 63 #[.val (.ref a), .val (.int 0), .val (.ref cp), .val (.ref d), .val (.ref p), .val (.ref c9), .val (.ref c9), .val (.int 9), .val (.int 1), .val (.int 0)] []) (fun _ q => XS.ifYes X2.here hx rfl (pc0 := 45) (pc' := 63) rfl (hb hby d5_45) rfl ((if0 _ _).trans (flt (by decide)).2.1) (by decide) (by decide) q) ?_
 refine Go.of (mkF m 66 #[.val (.ref a), .val (.int 0), .val (.ref cp), .val (.ref d), .val (.ref p), .val (.ref c9), .val (.ref c9), .val (.int 9), .val (.int ((1 : Int32) + (1 : Int32))), .val (.int 0)] []) (fun _ q => XS.iinc X2.here hx rfl (hb hby d5_63) rfl (l' := #[.val (.ref a), .val (.int 0), .val (.ref cp), .val (.ref d), .val (.ref p), .val (.ref c9), .val (.ref c9), .val (.int 9), .val (.int ((1 : Int32) + (1 : Int32))), .val (.int 0)]) rfl q) ?_
 rw [show ((1 : Int32) + (1 : Int32)) = (2 : Int32) from by decide]
 refine Go.of (mkF m 29 #[.val (.ref a), .val (.int 0), .val (.ref cp), .val (.ref d), .val (.ref p), .val (.ref c9), .val (.ref c9), .val (.int 9), .val (.int 2), .val (.int 0)] []) (fun _ q => XS.goto X2.here hx rfl (pc0 := 66) (pc' := 29) rfl (hb hby d5_66) (by decide) (by decide) q) ?_
 refine Go.of (mkF m 31 #[.val (.ref a), .val (.int 0), .val (.ref cp), .val (.ref d), .val (.ref p), .val (.ref c9), .val (.ref c9), .val (.int 9), .val (.int 2), .val (.int 0)] [(.int 2)]) (fun _ q => XS.iload X2.here hx rfl (hb hby d5_29) rfl q) ?_
 refine Go.of (mkF m 33 #[.val (.ref a), .val (.int 0), .val (.ref cp), .val (.ref d), .val (.ref p), .val (.ref c9), .val (.ref c9), .val (.int 9), .val (.int 2), .val (.int 0)] [(.int 9), (.int 2)]) (fun _ q => XS.iload X2.here hx rfl (hb hby d5_31) rfl q) ?_
 refine Go.of (mkF m 36 #[.val (.ref a), .val (.int 0), .val (.ref cp), .val (.ref d), .val (.ref p), .val (.ref c9), .val (.ref c9), .val (.int 9), .val (.int 2), .val (.int 0)] []) (fun _ q => XS.icmpNo X2.here hx rfl (hb hby d5_33) rfl (tlt (by decide)).2.1 q) ?_
 refine Go.of (mkF m 38 #[.val (.ref a), .val (.int 0), .val (.ref cp), .val (.ref d), .val (.ref p), .val (.ref c9), .val (.ref c9), .val (.int 9), .val (.int 2), .val (.int 0)] [(.ref c9)]) (fun _ q => XS.aload X2.here hx rfl (hb hby d5_36) rfl rfl q) ?_
 refine Go.of (mkF m 40 #[.val (.ref a), .val (.int 0), .val (.ref cp), .val (.ref d), .val (.ref p), .val (.ref c9), .val (.ref c9), .val (.int 9), .val (.int 2), .val (.int 0)] [(.int 2), (.ref c9)]) (fun _ q => XS.iload X2.here hx rfl (hb hby d5_38) rfl q) ?_
 refine Go.iaload X2 hx hZ rfl Vcc (by decide) (by decide) (g := (mkF m 40 #[.val (.ref a), .val (.int 0), .val (.ref cp), .val (.ref d), .val (.ref p), .val (.ref c9), .val (.ref c9), .val (.int 9), .val (.int 2), .val (.int 0)] [(.int 2), (.ref c9)])) rfl rfl (hb hby d5_40) ?_
 show Go pr ev below _ T2 (mkF m 41 #[.val (.ref a), .val (.int 0), .val (.ref cp), .val (.ref d), .val (.ref p), .val (.ref c9), .val (.ref c9), .val (.int 9), .val (.int 2), .val (.int 0)] [(.int ((fun _ => (0 : Int32)) (2 : Int32)))])
 rw [show ((fun _ => (0 : Int32)) (2 : Int32)) = (0 : Int32) from by rfl]
 refine Go.of (mkF m 43 #[.val (.ref a), .val (.int 0), .val (.ref cp), .val (.ref d), .val (.ref p), .val (.ref c9), .val (.ref c9), .val (.int 9), .val (.int 2), .val (.int 0)] []) (fun _ q => XS.istore X2.here hx rfl (hb hby d5_41) rfl (l' := #[.val (.ref a), .val (.int 0), .val (.ref cp), .val (.ref d), .val (.ref p), .val (.ref c9), .val (.ref c9), .val (.int 9), .val (.int 2), .val (.int 0)]) rfl q) ?_
 refine Go.of (mkF m 45 #[.val (.ref a), .val (.int 0), .val (.ref cp), .val (.ref d), .val (.ref p), .val (.ref c9), .val (.ref c9), .val (.int 9), .val (.int 2), .val (.int 0)] [(.int 0)]) (fun _ q => XS.iload X2.here hx rfl (hb hby d5_43) rfl q) ?_
 refine Go.of (mkF m 63 #[.val (.ref a), .val (.int 0), .val (.ref cp), .val (.ref d), .val (.ref p), .val (.ref c9), .val (.ref c9), .val (.int 9), .val (.int 2), .val (.int 0)] []) (fun _ q => XS.ifYes X2.here hx rfl (pc0 := 45) (pc' := 63) rfl (hb hby d5_45) rfl ((if0 _ _).trans (flt (by decide)).2.1) (by decide) (by decide) q) ?_
 refine Go.of (mkF m 66 #[.val (.ref a), .val (.int 0), .val (.ref cp), .val (.ref d), .val (.ref p), .val (.ref c9), .val (.ref c9), .val (.int 9), .val (.int ((2 : Int32) + (1 : Int32))), .val (.int 0)] []) (fun _ q => XS.iinc X2.here hx rfl (hb hby d5_63) rfl (l' := #[.val (.ref a), .val (.int 0), .val (.ref cp), .val (.ref d), .val (.ref p), .val (.ref c9), .val (.ref c9), .val (.int 9), .val (.int ((2 : Int32) + (1 : Int32))), .val (.int 0)]) rfl q) ?_
 rw [show ((2 : Int32) + (1 : Int32)) = (3 : Int32) from by decide]
 refine Go.of (mkF m 29 #[.val (.ref a), .val (.int 0), .val (.ref cp), .val (.ref d), .val (.ref p), .val (.ref c9), .val (.ref c9), .val (.int 9), .val (.int 3), .val (.int 0)] []) (fun _ q => XS.goto X2.here hx rfl (pc0 := 66) (pc' := 29) rfl (hb hby d5_66) (by decide) (by decide) q) ?_
 refine Go.of (mkF m 31 #[.val (.ref a), .val (.int 0), .val (.ref cp), .val (.ref d), .val (.ref p), .val (.ref c9), .val (.ref c9), .val (.int 9), .val (.int 3), .val (.int 0)] [(.int 3)]) (fun _ q => XS.iload X2.here hx rfl (hb hby d5_29) rfl q) ?_
 refine Go.of (mkF m 33 #[.val (.ref a), .val (.int 0), .val (.ref cp), .val (.ref d), .val (.ref p), .val (.ref c9), .val (.ref c9), .val (.int 9), .val (.int 3), .val (.int 0)] [(.int 9), (.int 3)]) (fun _ q => XS.iload X2.here hx rfl (hb hby d5_31) rfl q) ?_
 refine Go.of (mkF m 36 #[.val (.ref a), .val (.int 0), .val (.ref cp), .val (.ref d), .val (.ref p), .val (.ref c9), .val (.ref c9), .val (.int 9), .val (.int 3), .val (.int 0)] []) (fun _ q => XS.icmpNo X2.here hx rfl (hb hby d5_33) rfl (tlt (by decide)).2.1 q) ?_
 refine Go.of (mkF m 38 #[.val (.ref a), .val (.int 0), .val (.ref cp), .val (.ref d), .val (.ref p), .val (.ref c9), .val (.ref c9), .val (.int 9), .val (.int 3), .val (.int 0)] [(.ref c9)]) (fun _ q => XS.aload X2.here hx rfl (hb hby d5_36) rfl rfl q) ?_
 refine Go.of (mkF m 40 #[.val (.ref a), .val (.int 0), .val (.ref cp), .val (.ref d), .val (.ref p), .val (.ref c9), .val (.ref c9), .val (.int 9), .val (.int 3), .val (.int 0)] [(.int 3), (.ref c9)]) (fun _ q => XS.iload X2.here hx rfl (hb hby d5_38) rfl q) ?_
 refine Go.iaload X2 hx hZ rfl Vcc (by decide) (by decide) (g := (mkF m 40 #[.val (.ref a), .val (.int 0), .val (.ref cp), .val (.ref d), .val (.ref p), .val (.ref c9), .val (.ref c9), .val (.int 9), .val (.int 3), .val (.int 0)] [(.int 3), (.ref c9)])) rfl rfl (hb hby d5_40) ?_
 show Go pr ev below _ T2 (mkF m 41 #[.val (.ref a), .val (.int 0), .val (.ref cp), .val (.ref d), .val (.ref p), .val (.ref c9), .val (.ref c9), .val (.int 9), .val (.int 3), .val (.int 0)] [(.int ((fun _ => (0 : Int32)) (3 : Int32)))])
 rw [show ((fun _ => (0 : Int32)) (3 : Int32)) = (0 : Int32) from by rfl]
 refine Go.of (mkF m 43 #[.val (.ref a), .val (.int 0), .val (.ref cp), .val (.ref d), .val (.ref p), .val (.ref c9), .val (.ref c9), .val (.int 9), .val (.int 3), .val (.int 0)] []) (fun _ q => XS.istore X2.here hx rfl (hb hby d5_41) rfl (l' := #[.val (.ref a), .val (.int 0), .val (.ref cp), .val (.ref d), .val (.ref p), .val (.ref c9), .val (.ref c9), .val (.int 9), .val (.int 3), .val (.int 0)]) rfl q) ?_
 refine Go.of (mkF m 45 #[.val (.ref a), .val (.int 0), .val (.ref cp), .val (.ref d), .val (.ref p), .val (.ref c9), .val (.ref c9), .val (.int 9), .val (.int 3), .val (.int 0)] [(.int 0)]) (fun _ q => XS.iload X2.here hx rfl (hb hby d5_43) rfl q) ?_
 refine Go.of (mkF m 63 #[.val (.ref a), .val (.int 0), .val (.ref cp), .val (.ref d), .val (.ref p), .val (.ref c9), .val (.ref c9), .val (.int 9), .val (.int 3), .val (.int 0)] []) (fun _ q => XS.ifYes X2.here hx rfl (pc0 := 45) (pc' := 63) rfl (hb hby d5_45) rfl ((if0 _ _).trans (flt (by decide)).2.1) (by decide) (by decide) q) ?_
 refine Go.of (mkF m 66 #[.val (.ref a), .val (.int 0), .val (.ref cp), .val (.ref d), .val (.ref p), .val (.ref c9), .val (.ref c9), .val (.int 9), .val (.int ((3 : Int32) + (1 : Int32))), .val (.int 0)] []) (fun _ q => XS.iinc X2.here hx rfl (hb hby d5_63) rfl (l' := #[.val (.ref a), .val (.int 0), .val (.ref cp), .val (.ref d), .val (.ref p), .val (.ref c9), .val (.ref c9), .val (.int 9), .val (.int ((3 : Int32) + (1 : Int32))), .val (.int 0)]) rfl q) ?_
 rw [show ((3 : Int32) + (1 : Int32)) = (4 : Int32) from by decide]
 refine Go.of (mkF m 29 #[.val (.ref a), .val (.int 0), .val (.ref cp), .val (.ref d), .val (.ref p), .val (.ref c9), .val (.ref c9), .val (.int 9), .val (.int 4), .val (.int 0)] []) (fun _ q => XS.goto X2.here hx rfl (pc0 := 66) (pc' := 29) rfl (hb hby d5_66) (by decide) (by decide) q) ?_
 refine Go.of (mkF m 31 #[.val (.ref a), .val (.int 0), .val (.ref cp), .val (.ref d), .val (.ref p), .val (.ref c9), .val (.ref c9), .val (.int 9), .val (.int 4), .val (.int 0)] [(.int 4)]) (fun _ q => XS.iload X2.here hx rfl (hb hby d5_29) rfl q) ?_
 refine Go.of (mkF m 33 #[.val (.ref a), .val (.int 0), .val (.ref cp), .val (.ref d), .val (.ref p), .val (.ref c9), .val (.ref c9), .val (.int 9), .val (.int 4), .val (.int 0)] [(.int 9), (.int 4)]) (fun _ q => XS.iload X2.here hx rfl (hb hby d5_31) rfl q) ?_
 refine Go.of (mkF m 36 #[.val (.ref a), .val (.int 0), .val (.ref cp), .val (.ref d), .val (.ref p), .val (.ref c9), .val (.ref c9), .val (.int 9), .val (.int 4), .val (.int 0)] []) (fun _ q => XS.icmpNo X2.here hx rfl (hb hby d5_33) rfl (tlt (by decide)).2.1 q) ?_
 refine Go.of (mkF m 38 #[.val (.ref a), .val (.int 0), .val (.ref cp), .val (.ref d), .val (.ref p), .val (.ref c9), .val (.ref c9), .val (.int 9), .val (.int 4), .val (.int 0)] [(.ref c9)]) (fun _ q => XS.aload X2.here hx rfl (hb hby d5_36) rfl rfl q) ?_
 refine Go.of (mkF m 40 #[.val (.ref a), .val (.int 0), .val (.ref cp), .val (.ref d), .val (.ref p), .val (.ref c9), .val (.ref c9), .val (.int 9), .val (.int 4), .val (.int 0)] [(.int 4), (.ref c9)]) (fun _ q => XS.iload X2.here hx rfl (hb hby d5_38) rfl q) ?_
 refine Go.iaload X2 hx hZ rfl Vcc (by decide) (by decide) (g := (mkF m 40 #[.val (.ref a), .val (.int 0), .val (.ref cp), .val (.ref d), .val (.ref p), .val (.ref c9), .val (.ref c9), .val (.int 9), .val (.int 4), .val (.int 0)] [(.int 4), (.ref c9)])) rfl rfl (hb hby d5_40) ?_
 show Go pr ev below _ T2 (mkF m 41 #[.val (.ref a), .val (.int 0), .val (.ref cp), .val (.ref d), .val (.ref p), .val (.ref c9), .val (.ref c9), .val (.int 9), .val (.int 4), .val (.int 0)] [(.int ((fun _ => (0 : Int32)) (4 : Int32)))])
 rw [show ((fun _ => (0 : Int32)) (4 : Int32)) = (0 : Int32) from by rfl]
 refine Go.of (mkF m 43 #[.val (.ref a), .val (.int 0), .val (.ref cp), .val (.ref d), .val (.ref p), .val (.ref c9), .val (.ref c9), .val (.int 9), .val (.int 4), .val (.int 0)] []) (fun _ q => XS.istore X2.here hx rfl (hb hby d5_41) rfl (l' := #[.val (.ref a), .val (.int 0), .val (.ref cp), .val (.ref d), .val (.ref p), .val (.ref c9), .val (.ref c9), .val (.int 9), .val (.int 4), .val (.int 0)]) rfl q) ?_
 refine Go.of (mkF m 45 #[.val (.ref a), .val (.int 0), .val (.ref cp), .val (.ref d), .val (.ref p), .val (.ref c9), .val (.ref c9), .val (.int 9), .val (.int 4), .val (.int 0)] [(.int 0)]) (fun _ q => XS.iload X2.here hx rfl (hb hby d5_43) rfl q) ?_
 refine Go.of (mkF m 63 #[.val (.ref a), .val (.int 0), .val (.ref cp), .val (.ref d), .val (.ref p), .val (.ref c9), .val (.ref c9), .val (.int 9), .val (.int 4), .val (.int 0)] []) (fun _ q => XS.ifYes X2.here hx rfl (pc0 := 45) (pc' := 63) rfl (hb hby d5_45) rfl ((if0 _ _).trans (flt (by decide)).2.1) (by decide) (by decide) q) ?_
 refine Go.of (mkF m 66 #[.val (.ref a), .val (.int 0), .val (.ref cp), .val (.ref d), .val (.ref p), .val (.ref c9), .val (.ref c9), .val (.int 9), .val (.int ((4 : Int32) + (1 : Int32))), .val (.int 0)] []) (fun _ q => XS.iinc X2.here hx rfl (hb hby d5_63) rfl (l' := #[.val (.ref a), .val (.int 0), .val (.ref cp), .val (.ref d), .val (.ref p), .val (.ref c9), .val (.ref c9), .val (.int 9), .val (.int ((4 : Int32) + (1 : Int32))), .val (.int 0)]) rfl q) ?_
 rw [show ((4 : Int32) + (1 : Int32)) = (5 : Int32) from by decide]
 refine Go.of (mkF m 29 #[.val (.ref a), .val (.int 0), .val (.ref cp), .val (.ref d), .val (.ref p), .val (.ref c9), .val (.ref c9), .val (.int 9), .val (.int 5), .val (.int 0)] []) (fun _ q => XS.goto X2.here hx rfl (pc0 := 66) (pc' := 29) rfl (hb hby d5_66) (by decide) (by decide) q) ?_
 refine Go.of (mkF m 31 #[.val (.ref a), .val (.int 0), .val (.ref cp), .val (.ref d), .val (.ref p), .val (.ref c9), .val (.ref c9), .val (.int 9), .val (.int 5), .val (.int 0)] [(.int 5)]) (fun _ q => XS.iload X2.here hx rfl (hb hby d5_29) rfl q) ?_
 refine Go.of (mkF m 33 #[.val (.ref a), .val (.int 0), .val (.ref cp), .val (.ref d), .val (.ref p), .val (.ref c9), .val (.ref c9), .val (.int 9), .val (.int 5), .val (.int 0)] [(.int 9), (.int 5)]) (fun _ q => XS.iload X2.here hx rfl (hb hby d5_31) rfl q) ?_
 refine Go.of (mkF m 36 #[.val (.ref a), .val (.int 0), .val (.ref cp), .val (.ref d), .val (.ref p), .val (.ref c9), .val (.ref c9), .val (.int 9), .val (.int 5), .val (.int 0)] []) (fun _ q => XS.icmpNo X2.here hx rfl (hb hby d5_33) rfl (tlt (by decide)).2.1 q) ?_
 refine Go.of (mkF m 38 #[.val (.ref a), .val (.int 0), .val (.ref cp), .val (.ref d), .val (.ref p), .val (.ref c9), .val (.ref c9), .val (.int 9), .val (.int 5), .val (.int 0)] [(.ref c9)]) (fun _ q => XS.aload X2.here hx rfl (hb hby d5_36) rfl rfl q) ?_
 refine Go.of (mkF m 40 #[.val (.ref a), .val (.int 0), .val (.ref cp), .val (.ref d), .val (.ref p), .val (.ref c9), .val (.ref c9), .val (.int 9), .val (.int 5), .val (.int 0)] [(.int 5), (.ref c9)]) (fun _ q => XS.iload X2.here hx rfl (hb hby d5_38) rfl q) ?_
 refine Go.iaload X2 hx hZ rfl Vcc (by decide) (by decide) (g := (mkF m 40 #[.val (.ref a), .val (.int 0), .val (.ref cp), .val (.ref d), .val (.ref p), .val (.ref c9), .val (.ref c9), .val (.int 9), .val (.int 5), .val (.int 0)] [(.int 5), (.ref c9)])) rfl rfl (hb hby d5_40) ?_
 show Go pr ev below _ T2 (mkF m 41 #[.val (.ref a), .val (.int 0), .val (.ref cp), .val (.ref d), .val (.ref p), .val (.ref c9), .val (.ref c9), .val (.int 9), .val (.int 5), .val (.int 0)] [(.int ((fun _ => (0 : Int32)) (5 : Int32)))])
 rw [show ((fun _ => (0 : Int32)) (5 : Int32)) = (0 : Int32) from by rfl]
 refine Go.of (mkF m 43 #[.val (.ref a), .val (.int 0), .val (.ref cp), .val (.ref d), .val (.ref p), .val (.ref c9), .val (.ref c9), .val (.int 9), .val (.int 5), .val (.int 0)] []) (fun _ q => XS.istore X2.here hx rfl (hb hby d5_41) rfl (l' := #[.val (.ref a), .val (.int 0), .val (.ref cp), .val (.ref d), .val (.ref p), .val (.ref c9), .val (.ref c9), .val (.int 9), .val (.int 5), .val (.int 0)]) rfl q) ?_
 refine Go.of (mkF m 45 #[.val (.ref a), .val (.int 0), .val (.ref cp), .val (.ref d), .val (.ref p), .val (.ref c9), .val (.ref c9), .val (.int 9), .val (.int 5), .val (.int 0)] [(.int 0)]) (fun _ q => XS.iload X2.here hx rfl (hb hby d5_43) rfl q) ?_
 refine Go.of (mkF m 63 #[.val (.ref a), .val (.int 0), .val (.ref cp), .val (.ref d), .val (.ref p), .val (.ref c9), .val (.ref c9), .val (.int 9), .val (.int 5), .val (.int 0)] []) (fun _ q => XS.ifYes X2.here hx rfl (pc0 := 45) (pc' := 63) rfl (hb hby d5_45) rfl ((if0 _ _).trans (flt (by decide)).2.1) (by decide) (by decide) q) ?_
 refine Go.of (mkF m 66 #[.val (.ref a), .val (.int 0), .val (.ref cp), .val (.ref d), .val (.ref p), .val (.ref c9), .val (.ref c9), .val (.int 9), .val (.int ((5 : Int32) + (1 : Int32))), .val (.int 0)] []) (fun _ q => XS.iinc X2.here hx rfl (hb hby d5_63) rfl (l' := #[.val (.ref a), .val (.int 0), .val (.ref cp), .val (.ref d), .val (.ref p), .val (.ref c9), .val (.ref c9), .val (.int 9), .val (.int ((5 : Int32) + (1 : Int32))), .val (.int 0)]) rfl q) ?_
 rw [show ((5 : Int32) + (1 : Int32)) = (6 : Int32) from by decide]
 refine Go.of (mkF m 29 #[.val (.ref a), .val (.int 0), .val (.ref cp), .val (.ref d), .val (.ref p), .val (.ref c9), .val (.ref c9), .val (.int 9), .val (.int 6), .val (.int 0)] []) (fun _ q => XS.goto X2.here hx rfl (pc0 := 66) (pc' := 29) rfl (hb hby d5_66) (by decide) (by decide) q) ?_
 refine Go.of (mkF m 31 #[.val (.ref a), .val (.int 0), .val (.ref cp), .val (.ref d), .val (.ref p), .val (.ref c9), .val (.ref c9), .val (.int 9), .val (.int 6), .val (.int 0)] [(.int 6)]) (fun _ q => XS.iload X2.here hx rfl (hb hby d5_29) rfl q) ?_
 refine Go.of (mkF m 33 #[.val (.ref a), .val (.int 0), .val (.ref cp), .val (.ref d), .val (.ref p), .val (.ref c9), .val (.ref c9), .val (.int 9), .val (.int 6), .val (.int 0)] [(.int 9), (.int 6)]) (fun _ q => XS.iload X2.here hx rfl (hb hby d5_31) rfl q) ?_
 refine Go.of (mkF m 36 #[.val (.ref a), .val (.int 0), .val (.ref cp), .val (.ref d), .val (.ref p), .val (.ref c9), .val (.ref c9), .val (.int 9), .val (.int 6), .val (.int 0)] []) (fun _ q => XS.icmpNo X2.here hx rfl (hb hby d5_33) rfl (tlt (by decide)).2.1 q) ?_
 refine Go.of (mkF m 38 #[.val (.ref a), .val (.int 0), .val (.ref cp), .val (.ref d), .val (.ref p), .val (.ref c9), .val (.ref c9), .val (.int 9), .val (.int 6), .val (.int 0)] [(.ref c9)]) (fun _ q => XS.aload X2.here hx rfl (hb hby d5_36) rfl rfl q) ?_
 refine Go.of (mkF m 40 #[.val (.ref a), .val (.int 0), .val (.ref cp), .val (.ref d), .val (.ref p), .val (.ref c9), .val (.ref c9), .val (.int 9), .val (.int 6), .val (.int 0)] [(.int 6), (.ref c9)]) (fun _ q => XS.iload X2.here hx rfl (hb hby d5_38) rfl q) ?_
 refine Go.iaload X2 hx hZ rfl Vcc (by decide) (by decide) (g := (mkF m 40 #[.val (.ref a), .val (.int 0), .val (.ref cp), .val (.ref d), .val (.ref p), .val (.ref c9), .val (.ref c9), .val (.int 9), .val (.int 6), .val (.int 0)] [(.int 6), (.ref c9)])) rfl rfl (hb hby d5_40) ?_
 show Go pr ev below _ T2 (mkF m 41 #[.val (.ref a), .val (.int 0), .val (.ref cp), .val (.ref d), .val (.ref p), .val (.ref c9), .val (.ref c9), .val (.int 9), .val (.int 6), .val (.int 0)] [(.int ((fun _ => (0 : Int32)) (6 : Int32)))])
 rw [show ((fun _ => (0 : Int32)) (6 : Int32)) = (0 : Int32) from by rfl]
 refine Go.of (mkF m 43 #[.val (.ref a), .val (.int 0), .val (.ref cp), .val (.ref d), .val (.ref p), .val (.ref c9), .val (.ref c9), .val (.int 9), .val (.int 6), .val (.int 0)] []) (fun _ q => XS.istore X2.here hx rfl (hb hby d5_41) rfl (l' := #[.val (.ref a), .val (.int 0), .val (.ref cp), .val (.ref d), .val (.ref p), .val (.ref c9), .val (.ref c9), .val (.int 9), .val (.int 6), .val (.int 0)]) rfl q) ?_
 refine Go.of (mkF m 45 #[.val (.ref a), .val (.int 0), .val (.ref cp), .val (.ref d), .val (.ref p), .val (.ref c9), .val (.ref c9), .val (.int 9), .val (.int 6), .val (.int 0)] [(.int 0)]) (fun _ q => XS.iload X2.here hx rfl (hb hby d5_43) rfl q) ?_
 refine Go.of (mkF m 63 #[.val (.ref a), .val (.int 0), .val (.ref cp), .val (.ref d), .val (.ref p), .val (.ref c9), .val (.ref c9), .val (.int 9), .val (.int 6), .val (.int 0)] []) (fun _ q => XS.ifYes X2.here hx rfl (pc0 := 45) (pc' := 63) rfl (hb hby d5_45) rfl ((if0 _ _).trans (flt (by decide)).2.1) (by decide) (by decide) q) ?_
 refine Go.of (mkF m 66 #[.val (.ref a), .val (.int 0), .val (.ref cp), .val (.ref d), .val (.ref p), .val (.ref c9), .val (.ref c9), .val (.int 9), .val (.int ((6 : Int32) + (1 : Int32))), .val (.int 0)] []) (fun _ q => XS.iinc X2.here hx rfl (hb hby d5_63) rfl (l' := #[.val (.ref a), .val (.int 0), .val (.ref cp), .val (.ref d), .val (.ref p), .val (.ref c9), .val (.ref c9), .val (.int 9), .val (.int ((6 : Int32) + (1 : Int32))), .val (.int 0)]) rfl q) ?_
 rw [show ((6 : Int32) + (1 : Int32)) = (7 : Int32) from by decide]
 refine Go.of (mkF m 29 #[.val (.ref a), .val (.int 0), .val (.ref cp), .val (.ref d), .val (.ref p), .val (.ref c9), .val (.ref c9), .val (.int 9), .val (.int 7), .val (.int 0)] []) (fun _ q => XS.goto X2.here hx rfl (pc0 := 66) (pc' := 29) rfl (hb hby d5_66) (by decide) (by decide) q) ?_
 refine Go.of (mkF m 31 #[.val (.ref a), .val (.int 0), .val (.ref cp), .val (.ref d), .val (.ref p), .val (.ref c9), .val (.ref c9), .val (.int 9), .val (.int 7), .val (.int 0)] [(.int 7)]) (fun _ q => XS.iload X2.here hx rfl (hb hby d5_29) rfl q) ?_
 refine Go.of (mkF m 33 #[.val (.ref a), .val (.int 0), .val (.ref cp), .val (.ref d), .val (.ref p), .val (.ref c9), .val (.ref c9), .val (.int 9), .val (.int 7), .val (.int 0)] [(.int 9), (.int 7)]) (fun _ q => XS.iload X2.here hx rfl (hb hby d5_31) rfl q) ?_
 refine Go.of (mkF m 36 #[.val (.ref a), .val (.int 0), .val (.ref cp), .val (.ref d), .val (.ref p), .val (.ref c9), .val (.ref c9), .val (.int 9), .val (.int 7), .val (.int 0)] []) (fun _ q => XS.icmpNo X2.here hx rfl (hb hby d5_33) rfl (tlt (by decide)).2.1 q) ?_
 refine Go.of (mkF m 38 #[.val (.ref a), .val (.int 0), .val (.ref cp), .val (.ref d), .val (.ref p), .val (.ref c9), .val (.ref c9), .val (.int 9), .val (.int 7), .val (.int 0)] [(.ref c9)]) (fun _ q => XS.aload X2.here hx rfl (hb hby d5_36) rfl rfl q) ?_
 refine Go.of (mkF m 40 #[.val (.ref a), .val (.int 0), .val (.ref cp), .val (.ref d), .val (.ref p), .val (.ref c9), .val (.ref c9), .val (.int 9), .val (.int 7), .val (.int 0)] [(.int 7), (.ref c9)]) (fun _ q => XS.iload X2.here hx rfl (hb hby d5_38) rfl q) ?_
 refine Go.iaload X2 hx hZ rfl Vcc (by decide) (by decide) (g := (mkF m 40 #[.val (.ref a), .val (.int 0), .val (.ref cp), .val (.ref d), .val (.ref p), .val (.ref c9), .val (.ref c9), .val (.int 9), .val (.int 7), .val (.int 0)] [(.int 7), (.ref c9)])) rfl rfl (hb hby d5_40) ?_
 show Go pr ev below _ T2 (mkF m 41 #[.val (.ref a), .val (.int 0), .val (.ref cp), .val (.ref d), .val (.ref p), .val (.ref c9), .val (.ref c9), .val (.int 9), .val (.int 7), .val (.int 0)] [(.int ((fun _ => (0 : Int32)) (7 : Int32)))])
 rw [show ((fun _ => (0 : Int32)) (7 : Int32)) = (0 : Int32) from by rfl]
 refine Go.of (mkF m 43 #[.val (.ref a), .val (.int 0), .val (.ref cp), .val (.ref d), .val (.ref p), .val (.ref c9), .val (.ref c9), .val (.int 9), .val (.int 7), .val (.int 0)] []) (fun _ q => XS.istore X2.here hx rfl (hb hby d5_41) rfl (l' := #[.val (.ref a), .val (.int 0), .val (.ref cp), .val (.ref d), .val (.ref p), .val (.ref c9), .val (.ref c9), .val (.int 9), .val (.int 7), .val (.int 0)]) rfl q) ?_
 refine Go.of (mkF m 45 #[.val (.ref a), .val (.int 0), .val (.ref cp), .val (.ref d), .val (.ref p), .val (.ref c9), .val (.ref c9), .val (.int 9), .val (.int 7), .val (.int 0)] [(.int 0)]) (fun _ q => XS.iload X2.here hx rfl (hb hby d5_43) rfl q) ?_
 refine Go.of (mkF m 63 #[.val (.ref a), .val (.int 0), .val (.ref cp), .val (.ref d), .val (.ref p), .val (.ref c9), .val (.ref c9), .val (.int 9), .val (.int 7), .val (.int 0)] []) (fun _ q => XS.ifYes X2.here hx rfl (pc0 := 45) (pc' := 63) rfl (hb hby d5_45) rfl ((if0 _ _).trans (flt (by decide)).2.1) (by decide) (by decide) q) ?_
 refine Go.of (mkF m 66 #[.val (.ref a), .val (.int 0), .val (.ref cp), .val (.ref d), .val (.ref p), .val (.ref c9), .val (.ref c9), .val (.int 9), .val (.int ((7 : Int32) + (1 : Int32))), .val (.int 0)] []) (fun _ q => XS.iinc X2.here hx rfl (hb hby d5_63) rfl (l' := #[.val (.ref a), .val (.int 0), .val (.ref cp), .val (.ref d), .val (.ref p), .val (.ref c9), .val (.ref c9), .val (.int 9), .val (.int ((7 : Int32) + (1 : Int32))), .val (.int 0)]) rfl q) ?_
 rw [show ((7 : Int32) + (1 : Int32)) = (8 : Int32) from by decide]
 refine Go.of (mkF m 29 #[.val (.ref a), .val (.int 0), .val (.ref cp), .val (.ref d), .val (.ref p), .val (.ref c9), .val (.ref c9), .val (.int 9), .val (.int 8), .val (.int 0)] []) (fun _ q => XS.goto X2.here hx rfl (pc0 := 66) (pc' := 29) rfl (hb hby d5_66) (by decide) (by decide) q) ?_
 refine Go.of (mkF m 31 #[.val (.ref a), .val (.int 0), .val (.ref cp), .val (.ref d), .val (.ref p), .val (.ref c9), .val (.ref c9), .val (.int 9), .val (.int 8), .val (.int 0)] [(.int 8)]) (fun _ q => XS.iload X2.here hx rfl (hb hby d5_29) rfl q) ?_
 refine Go.of (mkF m 33 #[.val (.ref a), .val (.int 0), .val (.ref cp), .val (.ref d), .val (.ref p), .val (.ref c9), .val (.ref c9), .val (.int 9), .val (.int 8), .val (.int 0)] [(.int 9), (.int 8)]) (fun _ q => XS.iload X2.here hx rfl (hb hby d5_31) rfl q) ?_
 refine Go.of (mkF m 36 #[.val (.ref a), .val (.int 0), .val (.ref cp), .val (.ref d), .val (.ref p), .val (.ref c9), .val (.ref c9), .val (.int 9), .val (.int 8), .val (.int 0)] []) (fun _ q => XS.icmpNo X2.here hx rfl (hb hby d5_33) rfl (tlt (by decide)).2.1 q) ?_
 refine Go.of (mkF m 38 #[.val (.ref a), .val (.int 0), .val (.ref cp), .val (.ref d), .val (.ref p), .val (.ref c9), .val (.ref c9), .val (.int 9), .val (.int 8), .val (.int 0)] [(.ref c9)]) (fun _ q => XS.aload X2.here hx rfl (hb hby d5_36) rfl rfl q) ?_
 refine Go.of (mkF m 40 #[.val (.ref a), .val (.int 0), .val (.ref cp), .val (.ref d), .val (.ref p), .val (.ref c9), .val (.ref c9), .val (.int 9), .val (.int 8), .val (.int 0)] [(.int 8), (.ref c9)]) (fun _ q => XS.iload X2.here hx rfl (hb hby d5_38) rfl q) ?_
 refine Go.iaload X2 hx hZ rfl Vcc (by decide) (by decide) (g := (mkF m 40 #[.val (.ref a), .val (.int 0), .val (.ref cp), .val (.ref d), .val (.ref p), .val (.ref c9), .val (.ref c9), .val (.int 9), .val (.int 8), .val (.int 0)] [(.int 8), (.ref c9)])) rfl rfl (hb hby d5_40) ?_
 show Go pr ev below _ T2 (mkF m 41 #[.val (.ref a), .val (.int 0), .val (.ref cp), .val (.ref d), .val (.ref p), .val (.ref c9), .val (.ref c9), .val (.int 9), .val (.int 8), .val (.int 0)] [(.int ((fun _ => (0 : Int32)) (8 : Int32)))])
 rw [show ((fun _ => (0 : Int32)) (8 : Int32)) = (0 : Int32) from by rfl]
 refine Go.of (mkF m 43 #[.val (.ref a), .val (.int 0), .val (.ref cp), .val (.ref d), .val (.ref p), .val (.ref c9), .val (.ref c9), .val (.int 9), .val (.int 8), .val (.int 0)] []) (fun _ q => XS.istore X2.here hx rfl (hb hby d5_41) rfl (l' := #[.val (.ref a), .val (.int 0), .val (.ref cp), .val (.ref d), .val (.ref p), .val (.ref c9), .val (.ref c9), .val (.int 9), .val (.int 8), .val (.int 0)]) rfl q) ?_
 refine Go.of (mkF m 45 #[.val (.ref a), .val (.int 0), .val (.ref cp), .val (.ref d), .val (.ref p), .val (.ref c9), .val (.ref c9), .val (.int 9), .val (.int 8), .val (.int 0)] [(.int 0)]) (fun _ q => XS.iload X2.here hx rfl (hb hby d5_43) rfl q) ?_
 refine Go.of (mkF m 63 #[.val (.ref a), .val (.int 0), .val (.ref cp), .val (.ref d), .val (.ref p), .val (.ref c9), .val (.ref c9), .val (.int 9), .val (.int 8), .val (.int 0)] []) (fun _ q => XS.ifYes X2.here hx rfl (pc0 := 45) (pc' := 63) rfl (hb hby d5_45) rfl ((if0 _ _).trans (flt (by decide)).2.1) (by decide) (by decide) q) ?_
 refine Go.of (mkF m 66 #[.val (.ref a), .val (.int 0), .val (.ref cp), .val (.ref d), .val (.ref p), .val (.ref c9), .val (.ref c9), .val (.int 9), .val (.int ((8 : Int32) + (1 : Int32))), .val (.int 0)] []) (fun _ q => XS.iinc X2.here hx rfl (hb hby d5_63) rfl (l' := #[.val (.ref a), .val (.int 0), .val (.ref cp), .val (.ref d), .val (.ref p), .val (.ref c9), .val (.ref c9), .val (.int 9), .val (.int ((8 : Int32) + (1 : Int32))), .val (.int 0)]) rfl q) ?_
 rw [show ((8 : Int32) + (1 : Int32)) = (9 : Int32) from by decide]
 refine Go.of (mkF m 29 #[.val (.ref a), .val (.int 0), .val (.ref cp), .val (.ref d), .val (.ref p), .val (.ref c9), .val (.ref c9), .val (.int 9), .val (.int 9), .val (.int 0)] []) (fun _ q => XS.goto X2.here hx rfl (pc0 := 66) (pc' := 29) rfl (hb hby d5_66) (by decide) (by decide) q) ?_
 refine Go.of (mkF m 31 #[.val (.ref a), .val (.int 0), .val (.ref cp), .val (.ref d), .val (.ref p), .val (.ref c9), .val (.ref c9), .val (.int 9), .val (.int 9), .val (.int 0)] [(.int 9)]) (fun _ q => XS.iload X2.here hx rfl (hb hby d5_29) rfl q) ?_
 refine Go.of (mkF m 33 #[.val (.ref a), .val (.int 0), .val (.ref cp), .val (.ref d), .val (.ref p), .val (.ref c9), .val (.ref c9), .val (.int 9), .val (.int 9), .val (.int 0)] [(.int 9), (.int 9)]) (fun _ q => XS.iload X2.here hx rfl (hb hby d5_31) rfl q) ?_
 refine Go.of (mkF m 69 #[.val (.ref a), .val (.int 0), .val (.ref cp), .val (.ref d), .val (.ref p), .val (.ref c9), .val (.ref c9), .val (.int 9), .val (.int 9), .val (.int 0)] []) (fun _ q => XS.icmpYes X2.here hx rfl (pc0 := 33) (pc' := 69) rfl (hb hby d5_33) rfl (flt (by decide)).2.1 (by decide) (by decide) q) ?_
 exact Go.retV X2 hx hret hlk (hb hby d5_69) (by decide) (by decide) ⟨t, tc, rfl, N2, K0, szt, ltt, G1, G2, G3, Et, Ft1, Ft2, Vt⟩
theorem ef_rmP1 (m : MethodId) (x0 : Addr) (x1 : Int32) (x2 : Int32) (x3 : Addr) (x4 : Addr) (x5 : Addr) : entryFrame m #[(.ref x0), (.int x1), (.int x2), (.ref x3), (.ref x4), (.ref x5)] 7 = mkF m 0 #[.val (.ref x0), .val (.int x1), .val (.int x2), .val (.ref x3), .val (.ref x4), .val (.ref x5), .unset] [] := by first | (simp [entryFrame, mkF, argsToLocals, Value.category]; done) | rfl
theorem rmP1 (l : Launch) (Z : State) (a0 : Array Value) (hw : ∀ d ∈ tables_1, d.before a0 Z = true) (ws : List Jvm.Cond) (a d p c9 : Nat) (h0 : Heap) (n0 : Nat) (hz0 : n0 ≤ h0.size) (E : Exa Z h0 a "com/example/kiriman/kiriman/route/Problem") (ga : n0 ≤ a) (Pnodes : Fld Z h0 a "com/example/kiriman/kiriman/route/Problem" "nodes" "I" (.int (0 : Int32))) (Pdepot : Fld Z h0 a "com/example/kiriman/kiriman/route/Problem" "depot" "I" (.int (0 : Int32))) (Pcapacities : Fld Z h0 a "com/example/kiriman/kiriman/route/Problem" "capacities" "[I" .null) (Pdeliveries : Fld Z h0 a "com/example/kiriman/kiriman/route/Problem" "deliveries" "[I" .null) (Ppickups : Fld Z h0 a "com/example/kiriman/kiriman/route/Problem" "pickups" "[I" .null) (Pcosts : Fld Z h0 a "com/example/kiriman/kiriman/route/Problem" "costs" "Lcom/example/kiriman/kiriman/route/Costs;" .null) (Pservice : Fld Z h0 a "com/example/kiriman/kiriman/route/Problem" "service" "[I" .null) (Plongest : Fld Z h0 a "com/example/kiriman/kiriman/route/Problem" "longest" "J" (.long (0 : Int64))) (Platest : Fld Z h0 a "com/example/kiriman/kiriman/route/Problem" "latest" "J" (.long (0 : Int64))) (Vdd : Fa Z h0 d .int 3 (fun i => .int ((fun _ => (0 : Int32)) i))) (Edd : Exa Z h0 d "[I") (Vpp : Fa Z h0 p .int 3 (fun i => .int ((fun _ => (0 : Int32)) i))) (Epp : Exa Z h0 p "[I") (Vcc : Fa Z h0 c9 .int 9 (fun i => .int ((fun _ => (0 : Int32)) i))) (Ecc : Exa Z h0 c9 "[I") (n2 : d ≠ a) (n3 : p ≠ a) (n4 : c9 ≠ a) :
    Met l Z (⟨"com/example/kiriman/kiriman/route/Problem", "<init>", "(II[I[I[I)V"⟩ : MethodName) prog_29_method_1_code 7 none ws ({ frames := 4, cells := 7, slots := 24, locals := 69 } : Room) #[(.ref a), (.int 0), (.int 0), (.ref d), (.ref p), (.ref c9)] h0 (fun v h L => ∃ t tc : Nat, v = none ∧ Fr n0 L ∧ Keep h0 h [a] ∧ h0.size ≤ t ∧ t < tc ∧ Fld Z h a "com/example/kiriman/kiriman/route/Problem" "nodes" "I" (.int (3 : Int32)) ∧ Fld Z h a "com/example/kiriman/kiriman/route/Problem" "depot" "I" (.int (0 : Int32)) ∧ Fld Z h a "com/example/kiriman/kiriman/route/Problem" "costs" "Lcom/example/kiriman/kiriman/route/Costs;" (.ref t) ∧ Exa Z h t "com/example/kiriman/kiriman/route/CostMatrix" ∧ Fld Z h t "com/example/kiriman/kiriman/route/CostMatrix" "nodes" "I" (.int (3 : Int32)) ∧ Fld Z h t "com/example/kiriman/kiriman/route/CostMatrix" "costs" "[I" (.ref tc) ∧ Fa Z h tc .int 9 (fun i => .int ((fun _ => (0 : Int32)) i))) := by
 refine Met.intro pn16 ?_
 intro pr ev s m below meth c T0 X0 hx hZ hown hby hml hret hlk hnm e0
 refine Go.cast (ef_rmP1 m a (0 : Int32) (0 : Int32) d p c9) ?_
 have N0 := Fr.nil n0
 have hz := hz0
 have K0 : Keep h0 h0 [a] := Keep.refl h0 _
 refine Go.of (mkF m 1 #[.val (.ref a), .val (.int 0), .val (.int 0), .val (.ref d), .val (.ref p), .val (.ref c9), .unset] [(.ref a)]) (fun _ q => XS.aloadN X0.here hx rfl (hb hby d1_0) rfl rfl q) ?_
 refine Go.of (mkF m 2 #[.val (.ref a), .val (.int 0), .val (.int 0), .val (.ref d), .val (.ref p), .val (.ref c9), .unset] [(.int 0), (.ref a)]) (fun _ q => XS.iloadN X0.here hx rfl (hb hby d1_1) rfl q) ?_
 refine Go.of (mkF m 3 #[.val (.ref a), .val (.int 0), .val (.int 0), .val (.ref d), .val (.ref p), .val (.ref c9), .unset] [(.int 0), (.int 0), (.ref a)]) (fun _ q => XS.iloadN X0.here hx rfl (hb hby d1_2) rfl q) ?_
 refine Go.of (mkF m 4 #[.val (.ref a), .val (.int 0), .val (.int 0), .val (.ref d), .val (.ref p), .val (.ref c9), .unset] [(.ref d), (.int 0), (.int 0), (.ref a)]) (fun _ q => XS.aloadN X0.here hx rfl (hb hby d1_3) rfl rfl q) ?_
 refine Go.arraylength X0 hx hZ e0 Vdd (g := (mkF m 4 #[.val (.ref a), .val (.int 0), .val (.int 0), .val (.ref d), .val (.ref p), .val (.ref c9), .unset] [(.ref d), (.int 0), (.int 0), (.ref a)])) rfl rfl (hb hby d1_4) ?_
 show Go pr ev below _ T0 (mkF m 5 #[.val (.ref a), .val (.int 0), .val (.int 0), .val (.ref d), .val (.ref p), .val (.ref c9), .unset] [(.int 3), (.int 0), (.int 0), (.ref a)])
 refine Go.callS X0 hx hZ (y := (⟨"com/example/kiriman/kiriman/route/Problem", "oneForEachCustomer", "(II)[I"⟩ : MethodName)) (argsL := [(.int 0), (.int 3)]) (rest := [(.int 0), (.ref a)]) hown (tw9 hw) (tw10 hw) (tw5 hw) (tw11 hw) (by decide) e0 (rmOne l Z a0 hw [] h0 n0 hz) (g := (mkF m 5 #[.val (.ref a), .val (.int 0), .val (.int 0), .val (.ref d), .val (.ref p), .val (.ref c9), .unset] [(.int 3), (.int 0), (.int 0), (.ref a)])) rfl (by rw [hml]; rfl) (lenOf pd17 rfl) rfl (W := 2) (by show 2 * 0 + _ ≤ _; exact Nat.le_of_eq rfl) (hb hby d1_5) (by decide) (by decide) (by decide) (by decide) ?_
 rintro T1 L1 v1 X1 ⟨cp, rfl, NL1, K1, szc, Vca, Eca⟩
 have N1 := Fr.app N0 NL1
 have ne_a_cp : a ≠ cp := Nat.ne_of_lt (Nat.lt_of_lt_of_le E.lt szc)
 have ne_d_cp : d ≠ cp := Nat.ne_of_lt (Nat.lt_of_lt_of_le Edd.lt szc)
 have ne_p_cp : p ≠ cp := Nat.ne_of_lt (Nat.lt_of_lt_of_le Epp.lt szc)
 have ne_c9_cp : c9 ≠ cp := Nat.ne_of_lt (Nat.lt_of_lt_of_le Ecc.lt szc)
 have gb_cp : n0 ≤ cp := Nat.le_trans hz szc
 have sz_cp : h0.size ≤ cp := Nat.le_trans K0.1 szc
 replace Pnodes := Pnodes.keep K1 nin0
 replace Pdepot := Pdepot.keep K1 nin0
 replace Pcapacities := Pcapacities.keep K1 nin0
 replace Pdeliveries := Pdeliveries.keep K1 nin0
 replace Ppickups := Ppickups.keep K1 nin0
 replace Pcosts := Pcosts.keep K1 nin0
 replace Pservice := Pservice.keep K1 nin0
 replace Plongest := Plongest.keep K1 nin0
 replace Platest := Platest.keep K1 nin0
 replace E := E.keep K1
 replace Edd := Edd.keep K1
 replace Epp := Epp.keep K1
 replace Ecc := Ecc.keep K1
 replace Vdd := Vdd.keep K1 nin0
 replace Vpp := Vpp.keep K1 nin0
 replace Vcc := Vcc.keep K1 nin0
 replace hz := Nat.le_trans hz K1.1
 replace K0 := K0.trans K1 (fun x hx => nomatch hx)
 show Go pr ev below _ T1 (mkF m 8 #[.val (.ref a), .val (.int 0), .val (.int 0), .val (.ref d), .val (.ref p), .val (.ref c9), .unset] [(.ref cp), (.int 0), (.ref a)])
 refine Go.of (mkF m 9 #[.val (.ref a), .val (.int 0), .val (.int 0), .val (.ref d), .val (.ref p), .val (.ref c9), .unset] [(.ref d), (.ref cp), (.int 0), (.ref a)]) (fun _ q => XS.aloadN X1.here hx rfl (hb hby d1_8) rfl rfl q) ?_
 refine Go.of (mkF m 11 #[.val (.ref a), .val (.int 0), .val (.int 0), .val (.ref d), .val (.ref p), .val (.ref c9), .unset] [(.ref p), (.ref d), (.ref cp), (.int 0), (.ref a)]) (fun _ q => XS.aload X1.here hx rfl (hb hby d1_9) rfl rfl q) ?_
 refine Go.of (mkF m 13 #[.val (.ref a), .val (.int 0), .val (.int 0), .val (.ref d), .val (.ref p), .val (.ref c9), .unset] [(.ref c9), (.ref p), (.ref d), (.ref cp), (.int 0), (.ref a)]) (fun _ q => XS.aload X1.here hx rfl (hb hby d1_11) rfl rfl q) ?_
 refine Go.init X1 hx hZ (y := (⟨"com/example/kiriman/kiriman/route/Problem", "<init>", "(I[I[I[I[I)V"⟩ : MethodName)) (a := a) (argsL := [(.int 0), (.ref cp), (.ref d), (.ref p), (.ref c9)]) (rest := []) hown rfl (tw20 hw) (tw21 hw) (tw5 hw) (tw22 hw) (by decide) rfl (rmP2 l Z a0 hw [] a cp d p c9 T1.heap n0 hz E ga Pnodes Pdepot Pcapacities Pdeliveries Ppickups Pcosts Pservice Plongest Platest Vca Eca Vdd Edd Vpp Epp Vcc Ecc (Ne.symm ne_a_cp) n2 n3 n4) (g := (mkF m 13 #[.val (.ref a), .val (.int 0), .val (.int 0), .val (.ref d), .val (.ref p), .val (.ref c9), .unset] [(.ref c9), (.ref p), (.ref d), (.ref cp), (.int 0), (.ref a)])) rfl (by rw [hml]; rfl) (lenOf pd18 rfl) rfl (W := 0) (by show 2 * 0 + _ ≤ _; exact Nat.le_of_eq rfl) (hb hby d1_13) (by decide) (by decide) (by decide) (by decide) ?_
 rintro T2 L2 v2 X2 ⟨t, tc, rfl, NL2, K2, szt, ltt, G1, G2, G3, Et, Ft1, Ft2, Vt⟩
 have N2 := Fr.app N1 NL2
 have ne_a_t : a ≠ t := Nat.ne_of_lt (Nat.lt_of_lt_of_le E.lt szt)
 have ne_d_t : d ≠ t := Nat.ne_of_lt (Nat.lt_of_lt_of_le Edd.lt szt)
 have ne_p_t : p ≠ t := Nat.ne_of_lt (Nat.lt_of_lt_of_le Epp.lt szt)
 have ne_c9_t : c9 ≠ t := Nat.ne_of_lt (Nat.lt_of_lt_of_le Ecc.lt szt)
 have ne_cp_t : cp ≠ t := Nat.ne_of_lt (Nat.lt_of_lt_of_le Eca.lt szt)
 have gb_t : n0 ≤ t := Nat.le_trans hz szt
 have sz_t : h0.size ≤ t := Nat.le_trans K0.1 szt
 have ne_a_tc : a ≠ tc := Nat.ne_of_lt (Nat.lt_of_lt_of_le E.lt (Nat.le_trans szt (Nat.le_of_lt ltt)))
 have ne_d_tc : d ≠ tc := Nat.ne_of_lt (Nat.lt_of_lt_of_le Edd.lt (Nat.le_trans szt (Nat.le_of_lt ltt)))
 have ne_p_tc : p ≠ tc := Nat.ne_of_lt (Nat.lt_of_lt_of_le Epp.lt (Nat.le_trans szt (Nat.le_of_lt ltt)))
 have ne_c9_tc : c9 ≠ tc := Nat.ne_of_lt (Nat.lt_of_lt_of_le Ecc.lt (Nat.le_trans szt (Nat.le_of_lt ltt)))
 have ne_cp_tc : cp ≠ tc := Nat.ne_of_lt (Nat.lt_of_lt_of_le Eca.lt (Nat.le_trans szt (Nat.le_of_lt ltt)))
 have gb_tc : n0 ≤ tc := Nat.le_trans hz (Nat.le_trans szt (Nat.le_of_lt ltt))
 have sz_tc : h0.size ≤ tc := Nat.le_trans K0.1 (Nat.le_trans szt (Nat.le_of_lt ltt))
 replace E := E.keep K2
 replace Edd := Edd.keep K2
 replace Epp := Epp.keep K2
 replace Ecc := Ecc.keep K2
 replace Eca := Eca.keep K2
 replace Vdd := Vdd.keep K2 (ninS n2 nin0)
 replace Vpp := Vpp.keep K2 (ninS n3 nin0)
 replace Vcc := Vcc.keep K2 (ninS n4 nin0)
 replace Vca := Vca.keep K2 (ninS (Ne.symm ne_a_cp) nin0)
 replace hz := Nat.le_trans hz K2.1
 replace K0 := K0.trans K2 (((allS (Or.inl (by simp)) all0)))
 show Go pr ev below _ T2 (mkF m 16 #[.val (.ref a), .val (.int 0), .val (.int 0), .val (.ref d), .val (.ref p), .val (.ref c9), .unset] [])
 refine Go.of (mkF m 17 #[.val (.ref a), .val (.int 0), .val (.int 0), .val (.ref d), .val (.ref p), .val (.ref c9), .unset] [(.int 0)]) (fun _ q => XS.iconst X2.here hx rfl (hb hby d1_16) q) ?_
 refine Go.of (mkF m 19 #[.val (.ref a), .val (.int 0), .val (.int 0), .val (.ref d), .val (.ref p), .val (.ref c9), .val (.int 0)] []) (fun _ q => XS.istore X2.here hx rfl (hb hby d1_17) rfl (l' := #[.val (.ref a), .val (.int 0), .val (.int 0), .val (.ref d), .val (.ref p), .val (.ref c9), .val (.int 0)]) rfl q) ?_
 refine Go.of (mkF m 21 #[.val (.ref a), .val (.int 0), .val (.int 0), .val (.ref d), .val (.ref p), .val (.ref c9), .val (.int 0)] [(.int 0)]) (fun _ q => XS.iload X2.here hx rfl (hb hby d1_19) rfl q) ?_
 refine Go.of (mkF m 22 #[.val (.ref a), .val (.int 0), .val (.int 0), .val (.ref d), .val (.ref p), .val (.ref c9), .val (.int 0)] [(.ref a), (.int 0)]) (fun _ q => XS.aloadN X2.here hx rfl (hb hby d1_21) rfl rfl q) ?_
 obtain ⟨T3, X3, e3, st3⟩ := getF X2 hx hZ hown (host := "") (Or.inl (tw64 hw)) Via.refl rfl G1 (g := (mkF m 22 #[.val (.ref a), .val (.int 0), .val (.int 0), .val (.ref d), .val (.ref p), .val (.ref c9), .val (.int 0)] [(.ref a), (.int 0)])) rfl rfl (hb hby d1_22)
 refine Go.of (mkF m 25 #[.val (.ref a), .val (.int 0), .val (.int 0), .val (.ref d), .val (.ref p), .val (.ref c9), .val (.int 0)] [(.int 3), (.int 0)]) (st3) ?_
 refine Go.of (mkF m 28 #[.val (.ref a), .val (.int 0), .val (.int 0), .val (.ref d), .val (.ref p), .val (.ref c9), .val (.int 0)] []) (fun _ q => XS.icmpNo X3.here hx rfl (hb hby d1_25) rfl (tlt (by decide)).2.1 q) ?_
 refine Go.of (mkF m 29 #[.val (.ref a), .val (.int 0), .val (.int 0), .val (.ref d), .val (.ref p), .val (.ref c9), .val (.int 0)] [(.ref d)]) (fun _ q => XS.aloadN X3.here hx rfl (hb hby d1_28) rfl rfl q) ?_
 refine Go.of (mkF m 31 #[.val (.ref a), .val (.int 0), .val (.int 0), .val (.ref d), .val (.ref p), .val (.ref c9), .val (.int 0)] [(.int 0), (.ref d)]) (fun _ q => XS.iload X3.here hx rfl (hb hby d1_29) rfl q) ?_
 refine Go.iaload X3 hx hZ e3 Vdd (by decide) (by decide) (g := (mkF m 31 #[.val (.ref a), .val (.int 0), .val (.int 0), .val (.ref d), .val (.ref p), .val (.ref c9), .val (.int 0)] [(.int 0), (.ref d)])) rfl rfl (hb hby d1_31) ?_
 show Go pr ev below _ T3 (mkF m 32 #[.val (.ref a), .val (.int 0), .val (.int 0), .val (.ref d), .val (.ref p), .val (.ref c9), .val (.int 0)] [(.int ((fun _ => (0 : Int32)) (0 : Int32)))])
 rw [show ((fun _ => (0 : Int32)) (0 : Int32)) = (0 : Int32) from by rfl]
 refine Go.of (mkF m 34 #[.val (.ref a), .val (.int 0), .val (.int 0), .val (.ref d), .val (.ref p), .val (.ref c9), .val (.int 0)] [(.ref p), (.int 0)]) (fun _ q => XS.aload X3.here hx rfl (hb hby d1_32) rfl rfl q) ?_
 refine Go.of (mkF m 36 #[.val (.ref a), .val (.int 0), .val (.int 0), .val (.ref d), .val (.ref p), .val (.ref c9), .val (.int 0)] [(.int 0), (.ref p), (.int 0)]) (fun _ q => XS.iload X3.here hx rfl (hb hby d1_34) rfl q) ?_
 refine Go.iaload X3 hx hZ e3 Vpp (by decide) (by decide) (g := (mkF m 36 #[.val (.ref a), .val (.int 0), .val (.int 0), .val (.ref d), .val (.ref p), .val (.ref c9), .val (.int 0)] [(.int 0), (.ref p), (.int 0)])) rfl rfl (hb hby d1_36) ?_
 show Go pr ev below _ T3 (mkF m 37 #[.val (.ref a), .val (.int 0), .val (.int 0), .val (.ref d), .val (.ref p), .val (.ref c9), .val (.int 0)] [(.int ((fun _ => (0 : Int32)) (0 : Int32))), (.int 0)])
 rw [show ((fun _ => (0 : Int32)) (0 : Int32)) = (0 : Int32) from by rfl]
 refine Go.callS X3 hx hZ (y := (⟨"java/lang/Math", "max", "(II)I"⟩ : MethodName)) (argsL := [(.int 0), (.int 0)]) (rest := []) hown (tw12 hw) (tw13 hw) (tw14 hw) (tw15 hw) (by decide) e3 (rmX l Z a0 hw [] (0 : Int32) (0 : Int32) T2.heap) (g := (mkF m 37 #[.val (.ref a), .val (.int 0), .val (.int 0), .val (.ref d), .val (.ref p), .val (.ref c9), .val (.int 0)] [(.int 0), (.int 0)])) rfl (by rw [hml]; rfl) (lenOf pd4 rfl) rfl (W := 0) (by show 2 * 0 + _ ≤ _; exact Nat.le_of_eq rfl) (hb hby d1_37) (by decide) (by decide) (by decide) (by decide) ?_
 rintro T4 L4 v4 X4 ⟨rfl, rfl, hh4⟩
 have N4 := Fr.app N2 (Fr.nil n0)
 show Go pr ev below _ T4 (mkF m 40 #[.val (.ref a), .val (.int 0), .val (.int 0), .val (.ref d), .val (.ref p), .val (.ref c9), .val (.int 0)] [(.int (own_max (0 : Int32) (0 : Int32)))])
 rw [show (own_max (0 : Int32) (0 : Int32)) = (0 : Int32) from by decide]
 refine Go.of (mkF m 41 #[.val (.ref a), .val (.int 0), .val (.int 0), .val (.ref d), .val (.ref p), .val (.ref c9), .val (.int 0)] [(.int 0), (.int 0)]) (fun _ q => XS.iloadN X4.here hx rfl (hb hby d1_40) rfl q) ?_
 refine Go.of (mkF m 60 #[.val (.ref a), .val (.int 0), .val (.int 0), .val (.ref d), .val (.ref p), .val (.ref c9), .val (.int 0)] []) (fun _ q => XS.icmpYes X4.here hx rfl (pc0 := 41) (pc' := 60) rfl (hb hby d1_41) rfl (flt (by decide)).2.2.2 (by decide) (by decide) q) ?_
 refine Go.of (mkF m 63 #[.val (.ref a), .val (.int 0), .val (.int 0), .val (.ref d), .val (.ref p), .val (.ref c9), .val (.int ((0 : Int32) + (1 : Int32)))] []) (fun _ q => XS.iinc X4.here hx rfl (hb hby d1_60) rfl (l' := #[.val (.ref a), .val (.int 0), .val (.int 0), .val (.ref d), .val (.ref p), .val (.ref c9), .val (.int ((0 : Int32) + (1 : Int32)))]) rfl q) ?_
 rw [show ((0 : Int32) + (1 : Int32)) = (1 : Int32) from by decide]
 refine Go.of (mkF m 19 #[.val (.ref a), .val (.int 0), .val (.int 0), .val (.ref d), .val (.ref p), .val (.ref c9), .val (.int 1)] []) (fun _ q => XS.goto X4.here hx rfl (pc0 := 63) (pc' := 19) rfl (hb hby d1_63) (by decide) (by decide) q) ?_
 refine Go.of (mkF m 21 #[.val (.ref a), .val (.int 0), .val (.int 0), .val (.ref d), .val (.ref p), .val (.ref c9), .val (.int 1)] [(.int 1)]) (fun _ q => XS.iload X4.here hx rfl (hb hby d1_19) rfl q) ?_
 refine Go.of (mkF m 22 #[.val (.ref a), .val (.int 0), .val (.int 0), .val (.ref d), .val (.ref p), .val (.ref c9), .val (.int 1)] [(.ref a), (.int 1)]) (fun _ q => XS.aloadN X4.here hx rfl (hb hby d1_21) rfl rfl q) ?_
 obtain ⟨T5, X5, e5, st5⟩ := getF X4 hx hZ hown (host := "") (Or.inl (tw64 hw)) Via.refl hh4 G1 (g := (mkF m 22 #[.val (.ref a), .val (.int 0), .val (.int 0), .val (.ref d), .val (.ref p), .val (.ref c9), .val (.int 1)] [(.ref a), (.int 1)])) rfl rfl (hb hby d1_22)
 refine Go.of (mkF m 25 #[.val (.ref a), .val (.int 0), .val (.int 0), .val (.ref d), .val (.ref p), .val (.ref c9), .val (.int 1)] [(.int 3), (.int 1)]) (st5) ?_
 refine Go.of (mkF m 28 #[.val (.ref a), .val (.int 0), .val (.int 0), .val (.ref d), .val (.ref p), .val (.ref c9), .val (.int 1)] []) (fun _ q => XS.icmpNo X5.here hx rfl (hb hby d1_25) rfl (tlt (by decide)).2.1 q) ?_
 refine Go.of (mkF m 29 #[.val (.ref a), .val (.int 0), .val (.int 0), .val (.ref d), .val (.ref p), .val (.ref c9), .val (.int 1)] [(.ref d)]) (fun _ q => XS.aloadN X5.here hx rfl (hb hby d1_28) rfl rfl q) ?_
 refine Go.of (mkF m 31 #[.val (.ref a), .val (.int 0), .val (.int 0), .val (.ref d), .val (.ref p), .val (.ref c9), .val (.int 1)] [(.int 1), (.ref d)]) (fun _ q => XS.iload X5.here hx rfl (hb hby d1_29) rfl q) ?_
 refine Go.iaload X5 hx hZ e5 Vdd (by decide) (by decide) (g := (mkF m 31 #[.val (.ref a), .val (.int 0), .val (.int 0), .val (.ref d), .val (.ref p), .val (.ref c9), .val (.int 1)] [(.int 1), (.ref d)])) rfl rfl (hb hby d1_31) ?_
 show Go pr ev below _ T5 (mkF m 32 #[.val (.ref a), .val (.int 0), .val (.int 0), .val (.ref d), .val (.ref p), .val (.ref c9), .val (.int 1)] [(.int ((fun _ => (0 : Int32)) (1 : Int32)))])
 rw [show ((fun _ => (0 : Int32)) (1 : Int32)) = (0 : Int32) from by rfl]
 refine Go.of (mkF m 34 #[.val (.ref a), .val (.int 0), .val (.int 0), .val (.ref d), .val (.ref p), .val (.ref c9), .val (.int 1)] [(.ref p), (.int 0)]) (fun _ q => XS.aload X5.here hx rfl (hb hby d1_32) rfl rfl q) ?_
 refine Go.of (mkF m 36 #[.val (.ref a), .val (.int 0), .val (.int 0), .val (.ref d), .val (.ref p), .val (.ref c9), .val (.int 1)] [(.int 1), (.ref p), (.int 0)]) (fun _ q => XS.iload X5.here hx rfl (hb hby d1_34) rfl q) ?_
 refine Go.iaload X5 hx hZ e5 Vpp (by decide) (by decide) (g := (mkF m 36 #[.val (.ref a), .val (.int 0), .val (.int 0), .val (.ref d), .val (.ref p), .val (.ref c9), .val (.int 1)] [(.int 1), (.ref p), (.int 0)])) rfl rfl (hb hby d1_36) ?_
 show Go pr ev below _ T5 (mkF m 37 #[.val (.ref a), .val (.int 0), .val (.int 0), .val (.ref d), .val (.ref p), .val (.ref c9), .val (.int 1)] [(.int ((fun _ => (0 : Int32)) (1 : Int32))), (.int 0)])
 rw [show ((fun _ => (0 : Int32)) (1 : Int32)) = (0 : Int32) from by rfl]
 refine Go.callS X5 hx hZ (y := (⟨"java/lang/Math", "max", "(II)I"⟩ : MethodName)) (argsL := [(.int 0), (.int 0)]) (rest := []) hown (tw12 hw) (tw13 hw) (tw14 hw) (tw15 hw) (by decide) e5 (rmX l Z a0 hw [] (0 : Int32) (0 : Int32) T2.heap) (g := (mkF m 37 #[.val (.ref a), .val (.int 0), .val (.int 0), .val (.ref d), .val (.ref p), .val (.ref c9), .val (.int 1)] [(.int 0), (.int 0)])) rfl (by rw [hml]; rfl) (lenOf pd4 rfl) rfl (W := 0) (by show 2 * 0 + _ ≤ _; exact Nat.le_of_eq rfl) (hb hby d1_37) (by decide) (by decide) (by decide) (by decide) ?_
 rintro T6 L6 v6 X6 ⟨rfl, rfl, hh6⟩
 have N6 := Fr.app N4 (Fr.nil n0)
 show Go pr ev below _ T6 (mkF m 40 #[.val (.ref a), .val (.int 0), .val (.int 0), .val (.ref d), .val (.ref p), .val (.ref c9), .val (.int 1)] [(.int (own_max (0 : Int32) (0 : Int32)))])
 rw [show (own_max (0 : Int32) (0 : Int32)) = (0 : Int32) from by decide]
 refine Go.of (mkF m 41 #[.val (.ref a), .val (.int 0), .val (.int 0), .val (.ref d), .val (.ref p), .val (.ref c9), .val (.int 1)] [(.int 0), (.int 0)]) (fun _ q => XS.iloadN X6.here hx rfl (hb hby d1_40) rfl q) ?_
 refine Go.of (mkF m 60 #[.val (.ref a), .val (.int 0), .val (.int 0), .val (.ref d), .val (.ref p), .val (.ref c9), .val (.int 1)] []) (fun _ q => XS.icmpYes X6.here hx rfl (pc0 := 41) (pc' := 60) rfl (hb hby d1_41) rfl (flt (by decide)).2.2.2 (by decide) (by decide) q) ?_
 refine Go.of (mkF m 63 #[.val (.ref a), .val (.int 0), .val (.int 0), .val (.ref d), .val (.ref p), .val (.ref c9), .val (.int ((1 : Int32) + (1 : Int32)))] []) (fun _ q => XS.iinc X6.here hx rfl (hb hby d1_60) rfl (l' := #[.val (.ref a), .val (.int 0), .val (.int 0), .val (.ref d), .val (.ref p), .val (.ref c9), .val (.int ((1 : Int32) + (1 : Int32)))]) rfl q) ?_
 rw [show ((1 : Int32) + (1 : Int32)) = (2 : Int32) from by decide]
 refine Go.of (mkF m 19 #[.val (.ref a), .val (.int 0), .val (.int 0), .val (.ref d), .val (.ref p), .val (.ref c9), .val (.int 2)] []) (fun _ q => XS.goto X6.here hx rfl (pc0 := 63) (pc' := 19) rfl (hb hby d1_63) (by decide) (by decide) q) ?_
 refine Go.of (mkF m 21 #[.val (.ref a), .val (.int 0), .val (.int 0), .val (.ref d), .val (.ref p), .val (.ref c9), .val (.int 2)] [(.int 2)]) (fun _ q => XS.iload X6.here hx rfl (hb hby d1_19) rfl q) ?_
 refine Go.of (mkF m 22 #[.val (.ref a), .val (.int 0), .val (.int 0), .val (.ref d), .val (.ref p), .val (.ref c9), .val (.int 2)] [(.ref a), (.int 2)]) (fun _ q => XS.aloadN X6.here hx rfl (hb hby d1_21) rfl rfl q) ?_
 obtain ⟨T7, X7, e7, st7⟩ := getF X6 hx hZ hown (host := "") (Or.inl (tw64 hw)) Via.refl hh6 G1 (g := (mkF m 22 #[.val (.ref a), .val (.int 0), .val (.int 0), .val (.ref d), .val (.ref p), .val (.ref c9), .val (.int 2)] [(.ref a), (.int 2)])) rfl rfl (hb hby d1_22)
 refine Go.of (mkF m 25 #[.val (.ref a), .val (.int 0), .val (.int 0), .val (.ref d), .val (.ref p), .val (.ref c9), .val (.int 2)] [(.int 3), (.int 2)]) (st7) ?_
 refine Go.of (mkF m 28 #[.val (.ref a), .val (.int 0), .val (.int 0), .val (.ref d), .val (.ref p), .val (.ref c9), .val (.int 2)] []) (fun _ q => XS.icmpNo X7.here hx rfl (hb hby d1_25) rfl (tlt (by decide)).2.1 q) ?_
 refine Go.of (mkF m 29 #[.val (.ref a), .val (.int 0), .val (.int 0), .val (.ref d), .val (.ref p), .val (.ref c9), .val (.int 2)] [(.ref d)]) (fun _ q => XS.aloadN X7.here hx rfl (hb hby d1_28) rfl rfl q) ?_
 refine Go.of (mkF m 31 #[.val (.ref a), .val (.int 0), .val (.int 0), .val (.ref d), .val (.ref p), .val (.ref c9), .val (.int 2)] [(.int 2), (.ref d)]) (fun _ q => XS.iload X7.here hx rfl (hb hby d1_29) rfl q) ?_
 refine Go.iaload X7 hx hZ e7 Vdd (by decide) (by decide) (g := (mkF m 31 #[.val (.ref a), .val (.int 0), .val (.int 0), .val (.ref d), .val (.ref p), .val (.ref c9), .val (.int 2)] [(.int 2), (.ref d)])) rfl rfl (hb hby d1_31) ?_
 show Go pr ev below _ T7 (mkF m 32 #[.val (.ref a), .val (.int 0), .val (.int 0), .val (.ref d), .val (.ref p), .val (.ref c9), .val (.int 2)] [(.int ((fun _ => (0 : Int32)) (2 : Int32)))])
 rw [show ((fun _ => (0 : Int32)) (2 : Int32)) = (0 : Int32) from by rfl]
 refine Go.of (mkF m 34 #[.val (.ref a), .val (.int 0), .val (.int 0), .val (.ref d), .val (.ref p), .val (.ref c9), .val (.int 2)] [(.ref p), (.int 0)]) (fun _ q => XS.aload X7.here hx rfl (hb hby d1_32) rfl rfl q) ?_
 refine Go.of (mkF m 36 #[.val (.ref a), .val (.int 0), .val (.int 0), .val (.ref d), .val (.ref p), .val (.ref c9), .val (.int 2)] [(.int 2), (.ref p), (.int 0)]) (fun _ q => XS.iload X7.here hx rfl (hb hby d1_34) rfl q) ?_
 refine Go.iaload X7 hx hZ e7 Vpp (by decide) (by decide) (g := (mkF m 36 #[.val (.ref a), .val (.int 0), .val (.int 0), .val (.ref d), .val (.ref p), .val (.ref c9), .val (.int 2)] [(.int 2), (.ref p), (.int 0)])) rfl rfl (hb hby d1_36) ?_
 show Go pr ev below _ T7 (mkF m 37 #[.val (.ref a), .val (.int 0), .val (.int 0), .val (.ref d), .val (.ref p), .val (.ref c9), .val (.int 2)] [(.int ((fun _ => (0 : Int32)) (2 : Int32))), (.int 0)])
 rw [show ((fun _ => (0 : Int32)) (2 : Int32)) = (0 : Int32) from by rfl]
 refine Go.callS X7 hx hZ (y := (⟨"java/lang/Math", "max", "(II)I"⟩ : MethodName)) (argsL := [(.int 0), (.int 0)]) (rest := []) hown (tw12 hw) (tw13 hw) (tw14 hw) (tw15 hw) (by decide) e7 (rmX l Z a0 hw [] (0 : Int32) (0 : Int32) T2.heap) (g := (mkF m 37 #[.val (.ref a), .val (.int 0), .val (.int 0), .val (.ref d), .val (.ref p), .val (.ref c9), .val (.int 2)] [(.int 0), (.int 0)])) rfl (by rw [hml]; rfl) (lenOf pd4 rfl) rfl (W := 0) (by show 2 * 0 + _ ≤ _; exact Nat.le_of_eq rfl) (hb hby d1_37) (by decide) (by decide) (by decide) (by decide) ?_
 rintro T8 L8 v8 X8 ⟨rfl, rfl, hh8⟩
 have N8 := Fr.app N6 (Fr.nil n0)
 show Go pr ev below _ T8 (mkF m 40 #[.val (.ref a), .val (.int 0), .val (.int 0), .val (.ref d), .val (.ref p), .val (.ref c9), .val (.int 2)] [(.int (own_max (0 : Int32) (0 : Int32)))])
 rw [show (own_max (0 : Int32) (0 : Int32)) = (0 : Int32) from by decide]
 refine Go.of (mkF m 41 #[.val (.ref a), .val (.int 0), .val (.int 0), .val (.ref d), .val (.ref p), .val (.ref c9), .val (.int 2)] [(.int 0), (.int 0)]) (fun _ q => XS.iloadN X8.here hx rfl (hb hby d1_40) rfl q) ?_
 refine Go.of (mkF m 60 #[.val (.ref a), .val (.int 0), .val (.int 0), .val (.ref d), .val (.ref p), .val (.ref c9), .val (.int 2)] []) (fun _ q => XS.icmpYes X8.here hx rfl (pc0 := 41) (pc' := 60) rfl (hb hby d1_41) rfl (flt (by decide)).2.2.2 (by decide) (by decide) q) ?_
 refine Go.of (mkF m 63 #[.val (.ref a), .val (.int 0), .val (.int 0), .val (.ref d), .val (.ref p), .val (.ref c9), .val (.int ((2 : Int32) + (1 : Int32)))] []) (fun _ q => XS.iinc X8.here hx rfl (hb hby d1_60) rfl (l' := #[.val (.ref a), .val (.int 0), .val (.int 0), .val (.ref d), .val (.ref p), .val (.ref c9), .val (.int ((2 : Int32) + (1 : Int32)))]) rfl q) ?_
 rw [show ((2 : Int32) + (1 : Int32)) = (3 : Int32) from by decide]
 refine Go.of (mkF m 19 #[.val (.ref a), .val (.int 0), .val (.int 0), .val (.ref d), .val (.ref p), .val (.ref c9), .val (.int 3)] []) (fun _ q => XS.goto X8.here hx rfl (pc0 := 63) (pc' := 19) rfl (hb hby d1_63) (by decide) (by decide) q) ?_
 refine Go.of (mkF m 21 #[.val (.ref a), .val (.int 0), .val (.int 0), .val (.ref d), .val (.ref p), .val (.ref c9), .val (.int 3)] [(.int 3)]) (fun _ q => XS.iload X8.here hx rfl (hb hby d1_19) rfl q) ?_
 refine Go.of (mkF m 22 #[.val (.ref a), .val (.int 0), .val (.int 0), .val (.ref d), .val (.ref p), .val (.ref c9), .val (.int 3)] [(.ref a), (.int 3)]) (fun _ q => XS.aloadN X8.here hx rfl (hb hby d1_21) rfl rfl q) ?_
 obtain ⟨T9, X9, e9, st9⟩ := getF X8 hx hZ hown (host := "") (Or.inl (tw64 hw)) Via.refl hh8 G1 (g := (mkF m 22 #[.val (.ref a), .val (.int 0), .val (.int 0), .val (.ref d), .val (.ref p), .val (.ref c9), .val (.int 3)] [(.ref a), (.int 3)])) rfl rfl (hb hby d1_22)
 refine Go.of (mkF m 25 #[.val (.ref a), .val (.int 0), .val (.int 0), .val (.ref d), .val (.ref p), .val (.ref c9), .val (.int 3)] [(.int 3), (.int 3)]) (st9) ?_
 refine Go.of (mkF m 66 #[.val (.ref a), .val (.int 0), .val (.int 0), .val (.ref d), .val (.ref p), .val (.ref c9), .val (.int 3)] []) (fun _ q => XS.icmpYes X9.here hx rfl (pc0 := 25) (pc' := 66) rfl (hb hby d1_25) rfl (flt (by decide)).2.1 (by decide) (by decide) q) ?_
 exact Go.retV X9 hx hret hlk (hb hby d1_66) (by decide) (by decide) (by rw [e9]; exact ⟨t, tc, rfl, N8, K0, sz_t, ltt, G1, G2, G3, Et, Ft1, Ft2, Vt⟩)
theorem ef_rmDe (m : MethodId) (x0 : Addr) : entryFrame m #[(.ref x0)] 1 = mkF m 0 #[.val (.ref x0)] [] := by first | (simp [entryFrame, mkF, argsToLocals, Value.category]; done) | rfl
theorem rmDe (l : Launch) (Z : State) (a0 : Array Value) (hw : ∀ d ∈ tables_1, d.before a0 Z = true) (ws : List Jvm.Cond) (a : Nat) (h0 : Heap) (Fd : Fld Z h0 a "com/example/kiriman/kiriman/route/Problem" "depot" "I" (.int (0 : Int32))) :
    Met l Z (⟨"com/example/kiriman/kiriman/route/Problem", "depot", "()I"⟩ : MethodName) prog_29_method_9_code 1 (some .int) ws ({ frames := 0, cells := 0, slots := 0, locals := 0 } : Room) #[(.ref a)] h0 (fun v h L => v = some (.int 0) ∧ L = [] ∧ h = h0) := by
 refine Met.intro pn19 ?_
 intro pr ev s m below meth c T0 X0 hx hZ hown hby hml hret hlk hnm e0
 refine Go.cast (ef_rmDe m a) ?_
 refine Go.of (mkF m 1 #[.val (.ref a)] [(.ref a)]) (fun _ q => XS.aloadN X0.here hx rfl (hb hby d13_0) rfl rfl q) ?_
 obtain ⟨T1, X1, e1, st1⟩ := getF X0 hx hZ hown (host := "") (Or.inl (tw66 hw)) Via.refl e0 Fd (g := (mkF m 1 #[.val (.ref a)] [(.ref a)])) rfl rfl (hb hby d13_1)
 refine Go.of (mkF m 4 #[.val (.ref a)] [(.int 0)]) (st1) ?_
 exact Go.retW X1 hx (t := .int) hret hlk rfl (Or.inl ⟨rfl, by simp, _, rfl⟩) (hb hby d13_4) (by decide) (by decide) ⟨rfl, rfl, e1⟩
theorem ef_rmPC (m : MethodId) (x0 : Addr) (x1 : Int32) (x2 : Int32) : entryFrame m #[(.ref x0), (.int x1), (.int x2)] 3 = mkF m 0 #[.val (.ref x0), .val (.int x1), .val (.int x2)] [] := by first | (simp [entryFrame, mkF, argsToLocals, Value.category]; done) | rfl
theorem rmPC (l : Launch) (Z : State) (a0 : Array Value) (hw : ∀ d ∈ tables_1, d.before a0 Z = true) (ws : List Jvm.Cond) (a t tc : Nat) (f u : Int32) (h0 : Heap) (Cst : Fld Z h0 a "com/example/kiriman/kiriman/route/Problem" "costs" "Lcom/example/kiriman/kiriman/route/Costs;" (.ref t)) (Et : Exa Z h0 t "com/example/kiriman/kiriman/route/CostMatrix") (Ft1 : Fld Z h0 t "com/example/kiriman/kiriman/route/CostMatrix" "nodes" "I" (.int (3 : Int32))) (Ft2 : Fld Z h0 t "com/example/kiriman/kiriman/route/CostMatrix" "costs" "[I" (.ref tc)) (Vt : Fa Z h0 tc .int 9 (fun i => .int ((fun _ => (0 : Int32)) i))) (hr : ¬ f * 3 + u < 0 ∧ f * 3 + u < 9) :
    Met l Z (⟨"com/example/kiriman/kiriman/route/Problem", "cost", "(II)I"⟩ : MethodName) prog_29_method_14_code 3 (some .int) ws ({ frames := 1, cells := 0, slots := 0, locals := 14 } : Room) #[(.ref a), (.int f), (.int u)] h0 (fun v h L => v = some (.int 0) ∧ L = [] ∧ h = h0) := by
 refine Met.intro pn20 ?_
 intro pr ev s m below meth c T0 X0 hx hZ hown hby hml hret hlk hnm e0
 refine Go.cast (ef_rmPC m a f u) ?_
 refine Go.of (mkF m 1 #[.val (.ref a), .val (.int f), .val (.int u)] [(.ref a)]) (fun _ q => XS.aloadN X0.here hx rfl (hb hby d14_0) rfl rfl q) ?_
 obtain ⟨T1, X1, e1, st1⟩ := getF X0 hx hZ hown (host := "") (Or.inl (tw74 hw)) Via.refl e0 Cst (g := (mkF m 1 #[.val (.ref a), .val (.int f), .val (.int u)] [(.ref a)])) rfl rfl (hb hby d14_1)
 refine Go.of (mkF m 4 #[.val (.ref a), .val (.int f), .val (.int u)] [(.ref t)]) (st1) ?_
 refine Go.of (mkF m 5 #[.val (.ref a), .val (.int f), .val (.int u)] [(.int f), (.ref t)]) (fun _ q => XS.iloadN X1.here hx rfl (hb hby d14_4) rfl q) ?_
 refine Go.of (mkF m 6 #[.val (.ref a), .val (.int f), .val (.int u)] [(.int u), (.int f), (.ref t)]) (fun _ q => XS.iloadN X1.here hx rfl (hb hby d14_5) rfl q) ?_
 refine Go.face X1 hx hZ (y := (⟨"com/example/kiriman/kiriman/route/CostMatrix", "cost", "(II)I"⟩ : MethodName)) (z := (⟨"com/example/kiriman/kiriman/route/Costs", "cost", "(II)I"⟩ : MethodName)) (a := t) (argsL := [(.int f), (.int u)]) (rest := []) hown (tw109 hw) (tw110 hw) (mvT hZ (tw111 hw)) (tw112 hw) (tw113 hw) (tw114 hw) (tw115 hw) (tw59 hw) (tw28 hw) (tw116 hw) (by decide) e1 Et (rmCC l Z a0 hw [] t tc f u h0 Ft1 Ft2 Vt hr) (g := (mkF m 6 #[.val (.ref a), .val (.int f), .val (.int u)] [(.int u), (.int f), (.ref t)])) rfl (by rw [hml]; rfl) (lenOf pd4 rfl) rfl (W := 0) (by show 2 * 0 + _ ≤ _; exact Nat.le_of_eq rfl) (hb hby d14_6) (by decide) (by decide) (by decide) (by decide) ?_
 rintro T2 L2 v2 X2 ⟨rfl, rfl, hh2⟩
 show Go pr ev below _ T2 (mkF m 11 #[.val (.ref a), .val (.int f), .val (.int u)] [(.int 0)])
 exact Go.retW X2 hx (t := .int) hret hlk rfl (Or.inl ⟨rfl, by simp, _, rfl⟩) (hb hby d14_11) (by decide) (by decide) ⟨rfl, rfl, hh2⟩
theorem ef_rmRI (m : MethodId) (x0 : Addr) (x1 : Addr) (x2 : Int32) : entryFrame m #[(.ref x0), (.ref x1), (.int x2)] 3 = mkF m 0 #[.val (.ref x0), .val (.ref x1), .val (.int x2)] [] := by first | (simp [entryFrame, mkF, argsToLocals, Value.category]; done) | rfl
theorem rmRI (l : Launch) (Z : State) (a0 : Array Value) (hw : ∀ d ∈ tables_1, d.before a0 Z = true) (ws : List Jvm.Cond) (a pb t tc : Nat) (h0 : Heap) (n0 : Nat) (hz0 : n0 ≤ h0.size) (E : Exa Z h0 a "com/example/kiriman/kiriman/route/Route") (ga : n0 ≤ a) (Rstale : Fld Z h0 a "com/example/kiriman/kiriman/route/Route" "stale" "Z" (.int (0 : Int32))) (Rproblem : Fld Z h0 a "com/example/kiriman/kiriman/route/Route" "problem" "Lcom/example/kiriman/kiriman/route/Problem;" .null) (Rvehicle : Fld Z h0 a "com/example/kiriman/kiriman/route/Route" "vehicle" "I" (.int (0 : Int32))) (Rvisits : Fld Z h0 a "com/example/kiriman/kiriman/route/Route" "visits" "[I" .null) (RlegTo : Fld Z h0 a "com/example/kiriman/kiriman/route/Route" "legTo" "[I" .null) (Rsize : Fld Z h0 a "com/example/kiriman/kiriman/route/Route" "size" "I" (.int (0 : Int32))) (Eb : Exa Z h0 pb "com/example/kiriman/kiriman/route/Problem") (Dep : Fld Z h0 pb "com/example/kiriman/kiriman/route/Problem" "depot" "I" (.int (0 : Int32))) (Cst : Fld Z h0 pb "com/example/kiriman/kiriman/route/Problem" "costs" "Lcom/example/kiriman/kiriman/route/Costs;" (.ref t)) (Et : Exa Z h0 t "com/example/kiriman/kiriman/route/CostMatrix") (Ft1 : Fld Z h0 t "com/example/kiriman/kiriman/route/CostMatrix" "nodes" "I" (.int (3 : Int32))) (Ft2 : Fld Z h0 t "com/example/kiriman/kiriman/route/CostMatrix" "costs" "[I" (.ref tc)) (Vt : Fa Z h0 tc .int 9 (fun i => .int ((fun _ => (0 : Int32)) i))) (n1 : pb ≠ a) (n2 : t ≠ a) (n3 : tc ≠ a) :
    Met l Z (⟨"com/example/kiriman/kiriman/route/Route", "<init>", "(Lcom/example/kiriman/kiriman/route/Problem;I)V"⟩ : MethodName) prog_30_method_1_code 3 none ws ({ frames := 2, cells := 2, slots := 17, locals := 30 } : Room) #[(.ref a), (.ref pb), (.int 0)] h0 (fun v h L => ∃ vs lt : Nat, v = none ∧ Fr n0 L ∧ Keep h0 h [a] ∧ h0.size ≤ vs ∧ vs < lt ∧ Fld Z h a "com/example/kiriman/kiriman/route/Route" "stale" "Z" (.int (1 : Int32)) ∧ Fld Z h a "com/example/kiriman/kiriman/route/Route" "problem" "Lcom/example/kiriman/kiriman/route/Problem;" (.ref pb) ∧ Fld Z h a "com/example/kiriman/kiriman/route/Route" "visits" "[I" (.ref vs) ∧ Fld Z h a "com/example/kiriman/kiriman/route/Route" "legTo" "[I" (.ref lt) ∧ Fld Z h a "com/example/kiriman/kiriman/route/Route" "size" "I" (.int (0 : Int32)) ∧ Fa Z h vs .int 8 (fun i => .int ((fun _ => (0 : Int32)) i)) ∧ ∃ yl : Int32 → Int32, Fa Z h lt .int 9 (fun i => .int (yl i))) := by
 refine Met.intro pn21 ?_
 intro pr ev s m below meth c T0 X0 hx hZ hown hby hml hret hlk hnm e0
 refine Go.cast (ef_rmRI m a pb (0 : Int32)) ?_
 have N0 := Fr.nil n0
 have hz := hz0
 have K0 : Keep h0 h0 [a] := Keep.refl h0 _
 refine Go.of (mkF m 1 #[.val (.ref a), .val (.ref pb), .val (.int 0)] [(.ref a)]) (fun _ q => XS.aloadN X0.here hx rfl (hb hby d12_0) rfl rfl q) ?_
 obtain ⟨T1, X1, e1, st1⟩ := initO X0 hx hZ hown (tw88 hw) (tw42 hw) (tw43 hw) e0 (g := (mkF m 1 #[.val (.ref a), .val (.ref pb), .val (.int 0)] [(.ref a)])) rfl (by rw [hml]; rfl) rfl (hb hby d12_1) (by decide) (W := 0) (by show 2 * 0 + _ ≤ _; exact Nat.le_of_eq rfl) (by decide)
 refine Go.of (mkF m 4 #[.val (.ref a), .val (.ref pb), .val (.int 0)] []) (st1) ?_
 refine Go.of (mkF m 5 #[.val (.ref a), .val (.ref pb), .val (.int 0)] [(.ref a)]) (fun _ q => XS.aloadN X1.here hx rfl (hb hby d12_4) rfl rfl q) ?_
 refine Go.of (mkF m 6 #[.val (.ref a), .val (.ref pb), .val (.int 0)] [(.int 1), (.ref a)]) (fun _ q => XS.iconst X1.here hx rfl (hb hby d12_5) q) ?_
 obtain ⟨T2, h2, X2, e2, W2, st2⟩ := putFN X1 hx hZ hown (tw89 hw) Via.refl e1 Rstale E (Or.inl (tw90 hw)) (tw83 hw) (ty := .boolean) (v' := (.int 1)) (by decide) rfl rfl (g := (mkF m 6 #[.val (.ref a), .val (.ref pb), .val (.int 0)] [(.int 1), (.ref a)])) rfl rfl (hb hby d12_6)
 replace Dep := Dep.other W2 (Or.inl n1)
 replace Cst := Cst.other W2 (Or.inl n1)
 replace Ft1 := Ft1.other W2 (Or.inl n2)
 replace Ft2 := Ft2.other W2 (Or.inl n2)
 replace Rstale := Rstale.same W2
 replace Rproblem := Rproblem.other W2 (Or.inr (slot_ne (Or.inr (tw92 hw)) (Or.inl (tw90 hw)) (by decide) (t := (.object "com/example/kiriman/kiriman/route/Problem")) (t' := .boolean) (by decide) (by decide)))
 replace Rvehicle := Rvehicle.other W2 (Or.inr (slot_ne (Or.inr (tw94 hw)) (Or.inl (tw90 hw)) (by decide) (t := .int) (t' := .boolean) (by decide) (by decide)))
 replace Rvisits := Rvisits.other W2 (Or.inr (slot_ne (Or.inl (tw96 hw)) (Or.inl (tw90 hw)) (by decide) (t := (.array .int)) (t' := .boolean) (by decide) (by decide)))
 replace RlegTo := RlegTo.other W2 (Or.inr (slot_ne (Or.inl (tw98 hw)) (Or.inl (tw90 hw)) (by decide) (t := (.array .int)) (t' := .boolean) (by decide) (by decide)))
 replace Rsize := Rsize.other W2 (Or.inr (slot_ne (Or.inl (tw123 hw)) (Or.inl (tw90 hw)) (by decide) (t := .int) (t' := .boolean) (by decide) (by decide)))
 replace Eb := Eb.wr W2
 replace Et := Et.wr W2
 replace E := E.wr W2
 replace Vt := Vt.other W2 n3
 replace hz := Nat.le_trans hz (Nat.le_of_eq W2.size.symm)
 replace K0 := K0.wr W2 (Or.inl (by simp))
 have N2 := Fr.snoc X2 N0 ga
 refine Go.of (mkF m 9 #[.val (.ref a), .val (.ref pb), .val (.int 0)] []) (st2) ?_
 refine Go.of (mkF m 10 #[.val (.ref a), .val (.ref pb), .val (.int 0)] [(.ref a)]) (fun _ q => XS.aloadN X2.here hx rfl (hb hby d12_9) rfl rfl q) ?_
 refine Go.of (mkF m 11 #[.val (.ref a), .val (.ref pb), .val (.int 0)] [(.ref pb), (.ref a)]) (fun _ q => XS.aloadN X2.here hx rfl (hb hby d12_10) rfl rfl q) ?_
 obtain ⟨T3, h3, X3, e3, W3, st3⟩ := putF X2 hx hZ hown (host := "") (Or.inl (tw91 hw)) Via.refl e2 Rproblem E (Or.inr ⟨(tw92 hw), rfl, hnm⟩) (tw83 hw) (ty := (.object "com/example/kiriman/kiriman/route/Problem")) (by decide) rfl rfl (g := (mkF m 11 #[.val (.ref a), .val (.ref pb), .val (.int 0)] [(.ref pb), (.ref a)])) rfl rfl (hb hby d12_11)
 replace Dep := Dep.other W3 (Or.inl n1)
 replace Cst := Cst.other W3 (Or.inl n1)
 replace Ft1 := Ft1.other W3 (Or.inl n2)
 replace Ft2 := Ft2.other W3 (Or.inl n2)
 replace Rstale := Rstale.other W3 (Or.inr (slot_ne (Or.inl (tw90 hw)) (Or.inr (tw92 hw)) (by decide) (t := .boolean) (t' := (.object "com/example/kiriman/kiriman/route/Problem")) (by decide) (by decide)))
 replace Rproblem := Rproblem.same W3
 replace Rvehicle := Rvehicle.other W3 (Or.inr (slot_ne (Or.inr (tw94 hw)) (Or.inr (tw92 hw)) (by decide) (t := .int) (t' := (.object "com/example/kiriman/kiriman/route/Problem")) (by decide) (by decide)))
 replace Rvisits := Rvisits.other W3 (Or.inr (slot_ne (Or.inl (tw96 hw)) (Or.inr (tw92 hw)) (by decide) (t := (.array .int)) (t' := (.object "com/example/kiriman/kiriman/route/Problem")) (by decide) (by decide)))
 replace RlegTo := RlegTo.other W3 (Or.inr (slot_ne (Or.inl (tw98 hw)) (Or.inr (tw92 hw)) (by decide) (t := (.array .int)) (t' := (.object "com/example/kiriman/kiriman/route/Problem")) (by decide) (by decide)))
 replace Rsize := Rsize.other W3 (Or.inr (slot_ne (Or.inl (tw123 hw)) (Or.inr (tw92 hw)) (by decide) (t := .int) (t' := (.object "com/example/kiriman/kiriman/route/Problem")) (by decide) (by decide)))
 replace Eb := Eb.wr W3
 replace Et := Et.wr W3
 replace E := E.wr W3
 replace Vt := Vt.other W3 n3
 replace hz := Nat.le_trans hz (Nat.le_of_eq W3.size.symm)
 replace K0 := K0.wr W3 (Or.inl (by simp))
 have N3 := Fr.snoc X3 N2 ga
 refine Go.of (mkF m 14 #[.val (.ref a), .val (.ref pb), .val (.int 0)] []) (st3) ?_
 refine Go.of (mkF m 15 #[.val (.ref a), .val (.ref pb), .val (.int 0)] [(.ref a)]) (fun _ q => XS.aloadN X3.here hx rfl (hb hby d12_14) rfl rfl q) ?_
 refine Go.of (mkF m 16 #[.val (.ref a), .val (.ref pb), .val (.int 0)] [(.int 0), (.ref a)]) (fun _ q => XS.iloadN X3.here hx rfl (hb hby d12_15) rfl q) ?_
 obtain ⟨T4, h4, X4, e4, W4, st4⟩ := putF X3 hx hZ hown (host := "") (Or.inl (tw93 hw)) Via.refl e3 Rvehicle E (Or.inr ⟨(tw94 hw), rfl, hnm⟩) (tw83 hw) (ty := .int) (by decide) rfl rfl (g := (mkF m 16 #[.val (.ref a), .val (.ref pb), .val (.int 0)] [(.int 0), (.ref a)])) rfl rfl (hb hby d12_16)
 replace Dep := Dep.other W4 (Or.inl n1)
 replace Cst := Cst.other W4 (Or.inl n1)
 replace Ft1 := Ft1.other W4 (Or.inl n2)
 replace Ft2 := Ft2.other W4 (Or.inl n2)
 replace Rstale := Rstale.other W4 (Or.inr (slot_ne (Or.inl (tw90 hw)) (Or.inr (tw94 hw)) (by decide) (t := .boolean) (t' := .int) (by decide) (by decide)))
 replace Rproblem := Rproblem.other W4 (Or.inr (slot_ne (Or.inr (tw92 hw)) (Or.inr (tw94 hw)) (by decide) (t := (.object "com/example/kiriman/kiriman/route/Problem")) (t' := .int) (by decide) (by decide)))
 replace Rvehicle := Rvehicle.same W4
 replace Rvisits := Rvisits.other W4 (Or.inr (slot_ne (Or.inl (tw96 hw)) (Or.inr (tw94 hw)) (by decide) (t := (.array .int)) (t' := .int) (by decide) (by decide)))
 replace RlegTo := RlegTo.other W4 (Or.inr (slot_ne (Or.inl (tw98 hw)) (Or.inr (tw94 hw)) (by decide) (t := (.array .int)) (t' := .int) (by decide) (by decide)))
 replace Rsize := Rsize.other W4 (Or.inr (slot_ne (Or.inl (tw123 hw)) (Or.inr (tw94 hw)) (by decide) (t := .int) (t' := .int) (by decide) (by decide)))
 replace Eb := Eb.wr W4
 replace Et := Et.wr W4
 replace E := E.wr W4
 replace Vt := Vt.other W4 n3
 replace hz := Nat.le_trans hz (Nat.le_of_eq W4.size.symm)
 replace K0 := K0.wr W4 (Or.inl (by simp))
 have N4 := Fr.snoc X4 N3 ga
 refine Go.of (mkF m 19 #[.val (.ref a), .val (.ref pb), .val (.int 0)] []) (st4) ?_
 refine Go.of (mkF m 20 #[.val (.ref a), .val (.ref pb), .val (.int 0)] [(.ref a)]) (fun _ q => XS.aloadN X4.here hx rfl (hb hby d12_19) rfl rfl q) ?_
 refine Go.of (mkF m 22 #[.val (.ref a), .val (.ref pb), .val (.int 0)] [(.int 8), (.ref a)]) (fun _ q => XS.bipush X4.here hx rfl (hb hby d12_20) q) ?_
 obtain ⟨T5, h5, k5, X5, e5, E5, A5, Q5, st5⟩ := newPE X4 hx hZ (aty := .int) (tw2 hw) e4 (g := (mkF m 22 #[.val (.ref a), .val (.ref pb), .val (.int 0)] [(.int 8), (.ref a)])) rfl (hb hby d12_22) rfl (by decide) (cap := 8) (by decide) (by decide) (by decide) (by decide) (ad := "[I") (by decide +kernel)
 obtain ⟨b5, g5⟩ : ∃ z, z = h4.size := ⟨_, rfl⟩
 rw [← g5] at A5 Q5 st5
 have ne_pb_b5 : pb ≠ b5 := Nat.ne_of_lt (Nat.lt_of_lt_of_le Eb.lt (Nat.le_of_eq g5.symm))
 have ne_t_b5 : t ≠ b5 := Nat.ne_of_lt (Nat.lt_of_lt_of_le Et.lt (Nat.le_of_eq g5.symm))
 have ne_a_b5 : a ≠ b5 := Nat.ne_of_lt (Nat.lt_of_lt_of_le E.lt (Nat.le_of_eq g5.symm))
 have ne_tc_b5 : tc ≠ b5 := Nat.ne_of_lt (Nat.lt_of_lt_of_le Vt.lt (Nat.le_of_eq g5.symm))
 have gb_b5 : n0 ≤ b5 := Nat.le_trans hz (Nat.le_of_eq g5.symm)
 have sz_b5 : h0.size ≤ b5 := Nat.le_trans K0.1 (Nat.le_of_eq g5.symm)
 replace Dep := Dep.ext E5
 replace Cst := Cst.ext E5
 replace Ft1 := Ft1.ext E5
 replace Ft2 := Ft2.ext E5
 replace Rstale := Rstale.ext E5
 replace Rproblem := Rproblem.ext E5
 replace Rvehicle := Rvehicle.ext E5
 replace Rvisits := Rvisits.ext E5
 replace RlegTo := RlegTo.ext E5
 replace Rsize := Rsize.ext E5
 replace Eb := Eb.ext E5
 replace Et := Et.ext E5
 replace E := E.ext E5
 replace Vt := Vt.ext E5
 replace hz := Nat.le_trans hz E5.1
 replace K0 := K0.ext E5
 have V_b5 : Fa Z h5 b5 .int (8 : Int32) (fun i => .int ((fun _ => (0 : Int32)) i)) := Fa.new A5 (by decide)
 refine Go.of (mkF m 24 #[.val (.ref a), .val (.ref pb), .val (.int 0)] [(.ref b5), (.ref a)]) (st5) ?_
 obtain ⟨T6, h6, X6, e6, W6, st6⟩ := putF X5 hx hZ hown (host := "") (Or.inl (tw95 hw)) Via.refl e5 Rvisits E (Or.inl (tw96 hw)) (tw83 hw) (ty := (.array .int)) (by decide) rfl rfl (g := (mkF m 24 #[.val (.ref a), .val (.ref pb), .val (.int 0)] [(.ref b5), (.ref a)])) rfl rfl (hb hby d12_24)
 replace Dep := Dep.other W6 (Or.inl n1)
 replace Cst := Cst.other W6 (Or.inl n1)
 replace Ft1 := Ft1.other W6 (Or.inl n2)
 replace Ft2 := Ft2.other W6 (Or.inl n2)
 replace Rstale := Rstale.other W6 (Or.inr (slot_ne (Or.inl (tw90 hw)) (Or.inl (tw96 hw)) (by decide) (t := .boolean) (t' := (.array .int)) (by decide) (by decide)))
 replace Rproblem := Rproblem.other W6 (Or.inr (slot_ne (Or.inr (tw92 hw)) (Or.inl (tw96 hw)) (by decide) (t := (.object "com/example/kiriman/kiriman/route/Problem")) (t' := (.array .int)) (by decide) (by decide)))
 replace Rvehicle := Rvehicle.other W6 (Or.inr (slot_ne (Or.inr (tw94 hw)) (Or.inl (tw96 hw)) (by decide) (t := .int) (t' := (.array .int)) (by decide) (by decide)))
 replace Rvisits := Rvisits.same W6
 replace RlegTo := RlegTo.other W6 (Or.inr (slot_ne (Or.inl (tw98 hw)) (Or.inl (tw96 hw)) (by decide) (t := (.array .int)) (t' := (.array .int)) (by decide) (by decide)))
 replace Rsize := Rsize.other W6 (Or.inr (slot_ne (Or.inl (tw123 hw)) (Or.inl (tw96 hw)) (by decide) (t := .int) (t' := (.array .int)) (by decide) (by decide)))
 replace Eb := Eb.wr W6
 replace Et := Et.wr W6
 replace E := E.wr W6
 replace Q5 := Q5.wr W6
 replace Vt := Vt.other W6 n3
 replace V_b5 := V_b5.other W6 (Ne.symm ne_a_b5)
 replace hz := Nat.le_trans hz (Nat.le_of_eq W6.size.symm)
 replace K0 := K0.wr W6 (Or.inl (by simp))
 have N6 := Fr.snoc X6 N4 ga
 refine Go.of (mkF m 27 #[.val (.ref a), .val (.ref pb), .val (.int 0)] []) (st6) ?_
 refine Go.of (mkF m 28 #[.val (.ref a), .val (.ref pb), .val (.int 0)] [(.ref a)]) (fun _ q => XS.aloadN X6.here hx rfl (hb hby d12_27) rfl rfl q) ?_
 refine Go.of (mkF m 29 #[.val (.ref a), .val (.ref pb), .val (.int 0)] [(.ref a), (.ref a)]) (fun _ q => XS.aloadN X6.here hx rfl (hb hby d12_28) rfl rfl q) ?_
 obtain ⟨T7, X7, e7, st7⟩ := getF X6 hx hZ hown (host := "") (Or.inl (tw95 hw)) Via.refl e6 Rvisits (g := (mkF m 29 #[.val (.ref a), .val (.ref pb), .val (.int 0)] [(.ref a), (.ref a)])) rfl rfl (hb hby d12_29)
 refine Go.of (mkF m 32 #[.val (.ref a), .val (.ref pb), .val (.int 0)] [(.ref b5), (.ref a)]) (st7) ?_
 refine Go.arraylength X7 hx hZ e7 V_b5 (g := (mkF m 32 #[.val (.ref a), .val (.ref pb), .val (.int 0)] [(.ref b5), (.ref a)])) rfl rfl (hb hby d12_32) ?_
 show Go pr ev below _ T7 (mkF m 33 #[.val (.ref a), .val (.ref pb), .val (.int 0)] [(.int 8), (.ref a)])
 refine Go.of (mkF m 34 #[.val (.ref a), .val (.ref pb), .val (.int 0)] [(.int 1), (.int 8), (.ref a)]) (fun _ q => XS.iconst X7.here hx rfl (hb hby d12_33) q) ?_
 refine Go.of (mkF m 35 #[.val (.ref a), .val (.ref pb), .val (.int 0)] [(.int ((8 : Int32) + (1 : Int32))), (.ref a)]) (fun _ q => XS.iadd X7.here hx rfl (hb hby d12_34) rfl q) ?_
 rw [show ((8 : Int32) + (1 : Int32)) = (9 : Int32) from by decide]
 have hlv := V_b5.lt
 obtain ⟨T8, h8, k8, X8, e8, E8, A8, Q8, st8⟩ := newPE X7 hx hZ (aty := .int) (tw2 hw) e7 (g := (mkF m 35 #[.val (.ref a), .val (.ref pb), .val (.int 0)] [(.int 9), (.ref a)])) rfl (hb hby d12_35) rfl (by decide) (cap := 9) (by decide) (by decide) (by decide) (by decide) (ad := "[I") (by decide +kernel)
 obtain ⟨b8, g8⟩ : ∃ z, z = h6.size := ⟨_, rfl⟩
 rw [← g8] at A8 Q8 st8
 have ne_pb_b8 : pb ≠ b8 := Nat.ne_of_lt (Nat.lt_of_lt_of_le Eb.lt (Nat.le_of_eq g8.symm))
 have ne_t_b8 : t ≠ b8 := Nat.ne_of_lt (Nat.lt_of_lt_of_le Et.lt (Nat.le_of_eq g8.symm))
 have ne_a_b8 : a ≠ b8 := Nat.ne_of_lt (Nat.lt_of_lt_of_le E.lt (Nat.le_of_eq g8.symm))
 have ne_b5_b8 : b5 ≠ b8 := Nat.ne_of_lt (Nat.lt_of_lt_of_le Q5.lt (Nat.le_of_eq g8.symm))
 have ne_tc_b8 : tc ≠ b8 := Nat.ne_of_lt (Nat.lt_of_lt_of_le Vt.lt (Nat.le_of_eq g8.symm))
 have gb_b8 : n0 ≤ b8 := Nat.le_trans hz (Nat.le_of_eq g8.symm)
 have sz_b8 : h0.size ≤ b8 := Nat.le_trans K0.1 (Nat.le_of_eq g8.symm)
 replace Dep := Dep.ext E8
 replace Cst := Cst.ext E8
 replace Ft1 := Ft1.ext E8
 replace Ft2 := Ft2.ext E8
 replace Rstale := Rstale.ext E8
 replace Rproblem := Rproblem.ext E8
 replace Rvehicle := Rvehicle.ext E8
 replace Rvisits := Rvisits.ext E8
 replace RlegTo := RlegTo.ext E8
 replace Rsize := Rsize.ext E8
 replace Eb := Eb.ext E8
 replace Et := Et.ext E8
 replace E := E.ext E8
 replace Q5 := Q5.ext E8
 replace Vt := Vt.ext E8
 replace V_b5 := V_b5.ext E8
 replace hz := Nat.le_trans hz E8.1
 replace K0 := K0.ext E8
 have V_b8 : Fa Z h8 b8 .int (9 : Int32) (fun i => .int ((fun _ => (0 : Int32)) i)) := Fa.new A8 (by decide)
 refine Go.of (mkF m 37 #[.val (.ref a), .val (.ref pb), .val (.int 0)] [(.ref b8), (.ref a)]) (st8) ?_
 obtain ⟨T9, h9, X9, e9, W9, st9⟩ := putF X8 hx hZ hown (host := "") (Or.inl (tw97 hw)) Via.refl e8 RlegTo E (Or.inl (tw98 hw)) (tw83 hw) (ty := (.array .int)) (by decide) rfl rfl (g := (mkF m 37 #[.val (.ref a), .val (.ref pb), .val (.int 0)] [(.ref b8), (.ref a)])) rfl rfl (hb hby d12_37)
 replace Dep := Dep.other W9 (Or.inl n1)
 replace Cst := Cst.other W9 (Or.inl n1)
 replace Ft1 := Ft1.other W9 (Or.inl n2)
 replace Ft2 := Ft2.other W9 (Or.inl n2)
 replace Rstale := Rstale.other W9 (Or.inr (slot_ne (Or.inl (tw90 hw)) (Or.inl (tw98 hw)) (by decide) (t := .boolean) (t' := (.array .int)) (by decide) (by decide)))
 replace Rproblem := Rproblem.other W9 (Or.inr (slot_ne (Or.inr (tw92 hw)) (Or.inl (tw98 hw)) (by decide) (t := (.object "com/example/kiriman/kiriman/route/Problem")) (t' := (.array .int)) (by decide) (by decide)))
 replace Rvehicle := Rvehicle.other W9 (Or.inr (slot_ne (Or.inr (tw94 hw)) (Or.inl (tw98 hw)) (by decide) (t := .int) (t' := (.array .int)) (by decide) (by decide)))
 replace Rvisits := Rvisits.other W9 (Or.inr (slot_ne (Or.inl (tw96 hw)) (Or.inl (tw98 hw)) (by decide) (t := (.array .int)) (t' := (.array .int)) (by decide) (by decide)))
 replace RlegTo := RlegTo.same W9
 replace Rsize := Rsize.other W9 (Or.inr (slot_ne (Or.inl (tw123 hw)) (Or.inl (tw98 hw)) (by decide) (t := .int) (t' := (.array .int)) (by decide) (by decide)))
 replace Eb := Eb.wr W9
 replace Et := Et.wr W9
 replace E := E.wr W9
 replace Q5 := Q5.wr W9
 replace Q8 := Q8.wr W9
 replace Vt := Vt.other W9 n3
 replace V_b5 := V_b5.other W9 (Ne.symm ne_a_b5)
 replace V_b8 := V_b8.other W9 (Ne.symm ne_a_b8)
 replace hz := Nat.le_trans hz (Nat.le_of_eq W9.size.symm)
 replace K0 := K0.wr W9 (Or.inl (by simp))
 have N9 := Fr.snoc X9 N6 ga
 refine Go.of (mkF m 40 #[.val (.ref a), .val (.ref pb), .val (.int 0)] []) (st9) ?_
 refine Go.of (mkF m 41 #[.val (.ref a), .val (.ref pb), .val (.int 0)] [(.ref a)]) (fun _ q => XS.aloadN X9.here hx rfl (hb hby d12_40) rfl rfl q) ?_
 obtain ⟨T10, X10, e10, st10⟩ := getF X9 hx hZ hown (host := "") (Or.inl (tw97 hw)) Via.refl e9 RlegTo (g := (mkF m 41 #[.val (.ref a), .val (.ref pb), .val (.int 0)] [(.ref a)])) rfl rfl (hb hby d12_41)
 refine Go.of (mkF m 44 #[.val (.ref a), .val (.ref pb), .val (.int 0)] [(.ref b8)]) (st10) ?_
 refine Go.of (mkF m 45 #[.val (.ref a), .val (.ref pb), .val (.int 0)] [(.int 0), (.ref b8)]) (fun _ q => XS.iconst X10.here hx rfl (hb hby d12_44) q) ?_
 refine Go.of (mkF m 46 #[.val (.ref a), .val (.ref pb), .val (.int 0)] [(.ref pb), (.int 0), (.ref b8)]) (fun _ q => XS.aloadN X10.here hx rfl (hb hby d12_45) rfl rfl q) ?_
 refine Go.of (mkF m 47 #[.val (.ref a), .val (.ref pb), .val (.int 0)] [(.ref pb), (.ref pb), (.int 0), (.ref b8)]) (fun _ q => XS.aloadN X10.here hx rfl (hb hby d12_46) rfl rfl q) ?_
 refine Go.virt X10 hx hZ (y := (⟨"com/example/kiriman/kiriman/route/Problem", "depot", "()I"⟩ : MethodName)) (z := (⟨"com/example/kiriman/kiriman/route/Problem", "depot", "()I"⟩ : MethodName)) (a := pb) (argsL := []) (rest := [(.ref pb), (.int 0), (.ref b8)]) hown (tw99 hw) (tw100 hw) (notFace_of_selects (args := #[]) (mvT hZ (tw102 hw))) (tw102 hw) (tw101 hw) (tw5 hw) (tw103 hw) (by decide) e10 Eb (rmDe l Z a0 hw [] pb h9 Dep) (g := (mkF m 47 #[.val (.ref a), .val (.ref pb), .val (.int 0)] [(.ref pb), (.ref pb), (.int 0), (.ref b8)])) rfl (by rw [hml]; rfl) (lenOf pd12 rfl) rfl (W := 3) (by show 2 * 0 + _ ≤ _; exact Nat.le_of_eq rfl) (hb hby d12_47) (by decide) (by decide) (by decide) (by decide) ?_
 rintro T11 L11 v11 X11 ⟨rfl, rfl, hh11⟩
 have N11 := Fr.app N9 (Fr.nil n0)
 show Go pr ev below _ T11 (mkF m 50 #[.val (.ref a), .val (.ref pb), .val (.int 0)] [(.int 0), (.ref pb), (.int 0), (.ref b8)])
 refine Go.of (mkF m 51 #[.val (.ref a), .val (.ref pb), .val (.int 0)] [(.ref pb), (.int 0), (.ref pb), (.int 0), (.ref b8)]) (fun _ q => XS.aloadN X11.here hx rfl (hb hby d12_50) rfl rfl q) ?_
 refine Go.virt X11 hx hZ (y := (⟨"com/example/kiriman/kiriman/route/Problem", "depot", "()I"⟩ : MethodName)) (z := (⟨"com/example/kiriman/kiriman/route/Problem", "depot", "()I"⟩ : MethodName)) (a := pb) (argsL := []) (rest := [(.int 0), (.ref pb), (.int 0), (.ref b8)]) hown (tw99 hw) (tw100 hw) (notFace_of_selects (args := #[]) (mvT hZ (tw102 hw))) (tw102 hw) (tw101 hw) (tw5 hw) (tw103 hw) (by decide) hh11 Eb (rmDe l Z a0 hw [] pb h9 Dep) (g := (mkF m 51 #[.val (.ref a), .val (.ref pb), .val (.int 0)] [(.ref pb), (.int 0), (.ref pb), (.int 0), (.ref b8)])) rfl (by rw [hml]; rfl) (lenOf pd12 rfl) rfl (W := 4) (by show 2 * 0 + _ ≤ _; exact Nat.le_of_eq rfl) (hb hby d12_51) (by decide) (by decide) (by decide) (by decide) ?_
 rintro T12 L12 v12 X12 ⟨rfl, rfl, hh12⟩
 have N12 := Fr.app N11 (Fr.nil n0)
 show Go pr ev below _ T12 (mkF m 54 #[.val (.ref a), .val (.ref pb), .val (.int 0)] [(.int 0), (.int 0), (.ref pb), (.int 0), (.ref b8)])
 refine Go.virt X12 hx hZ (y := (⟨"com/example/kiriman/kiriman/route/Problem", "cost", "(II)I"⟩ : MethodName)) (z := (⟨"com/example/kiriman/kiriman/route/Problem", "cost", "(II)I"⟩ : MethodName)) (a := pb) (argsL := [(.int 0), (.int 0)]) (rest := [(.int 0), (.ref b8)]) hown (tw104 hw) (tw105 hw) (notFace_of_selects (args := #[]) (mvT hZ (tw107 hw))) (tw107 hw) (tw106 hw) (tw5 hw) (tw108 hw) (by decide) hh12 Eb (rmPC l Z a0 hw [] pb t tc (0 : Int32) (0 : Int32) h9 Cst Et Ft1 Ft2 Vt (own_rng (Or.inl rfl) (Or.inl rfl))) (g := (mkF m 54 #[.val (.ref a), .val (.ref pb), .val (.int 0)] [(.int 0), (.int 0), (.ref pb), (.int 0), (.ref b8)])) rfl (by rw [hml]; rfl) (lenOf pd4 rfl) rfl (W := 2) (by show 2 * 0 + _ ≤ _; exact Nat.le_of_eq rfl) (hb hby d12_54) (by decide) (by decide) (by decide) (by decide) ?_
 rintro T13 L13 v13 X13 ⟨rfl, rfl, hh13⟩
 have N13 := Fr.app N12 (Fr.nil n0)
 show Go pr ev below _ T13 (mkF m 57 #[.val (.ref a), .val (.ref pb), .val (.int 0)] [(.int 0), (.int 0), (.ref b8)])
 refine Go.iastore X13 hx hZ hh13 V_b8 (by decide) (by decide) (g := (mkF m 57 #[.val (.ref a), .val (.ref pb), .val (.int 0)] [(.int 0), (.int 0), (.ref b8)])) rfl rfl (hb hby d12_57) ?_
 rintro T14 h14 X14 e14 W14 V14
 replace Dep := Dep.other W14 (Or.inl ne_pb_b8)
 replace Cst := Cst.other W14 (Or.inl ne_pb_b8)
 replace Ft1 := Ft1.other W14 (Or.inl ne_t_b8)
 replace Ft2 := Ft2.other W14 (Or.inl ne_t_b8)
 replace Rstale := Rstale.other W14 (Or.inl ne_a_b8)
 replace Rproblem := Rproblem.other W14 (Or.inl ne_a_b8)
 replace Rvehicle := Rvehicle.other W14 (Or.inl ne_a_b8)
 replace Rvisits := Rvisits.other W14 (Or.inl ne_a_b8)
 replace RlegTo := RlegTo.other W14 (Or.inl ne_a_b8)
 replace Rsize := Rsize.other W14 (Or.inl ne_a_b8)
 replace Eb := Eb.wr W14
 replace Et := Et.wr W14
 replace E := E.wr W14
 replace Q5 := Q5.wr W14
 replace Q8 := Q8.wr W14
 replace Vt := Vt.other W14 ne_tc_b8
 replace V_b5 := V_b5.other W14 ne_b5_b8
 replace hz := Nat.le_trans hz (Nat.le_of_eq W14.size.symm)
 replace K0 := K0.wr W14 (Or.inr sz_b8)
 replace V_b8 := V14
 have N14 := Fr.snoc X14 N13 gb_b8
 show Go pr ev below _ T14 (mkF m 58 #[.val (.ref a), .val (.ref pb), .val (.int 0)] [])
 exact Go.retV X14 hx hret hlk (hb hby d12_58) (by decide) (by decide) (by rw [e14]; exact ⟨b5, b8, rfl, N14, K0, sz_b5, Nat.lt_of_lt_of_le hlv (Nat.le_of_eq g8.symm), Rstale, Rproblem, Rvisits, RlegTo, Rsize, V_b5, (fnup (fun _ => (0 : Int32)) (0 : Int32) (0 : Int32)), V_b8⟩)
theorem ef_rmB0 (m : MethodId) (x0 : Addr) (x1 : Int32) : entryFrame m #[(.ref x0), (.int x1)] 2 = mkF m 0 #[.val (.ref x0), .val (.int x1)] [] := by first | (simp [entryFrame, mkF, argsToLocals, Value.category]; done) | rfl
theorem rmB0 (l : Launch) (Z : State) (a0 : Array Value) (hw : ∀ d ∈ tables_1, d.before a0 Z = true) (ws : List Jvm.Cond) (a pb vs : Nat) (y : Int32 → Int32) (h0 : Heap) (Rp : Fld Z h0 a "com/example/kiriman/kiriman/route/Route" "problem" "Lcom/example/kiriman/kiriman/route/Problem;" (.ref pb)) (Rv : Fld Z h0 a "com/example/kiriman/kiriman/route/Route" "visits" "[I" (.ref vs)) (Eb : Exa Z h0 pb "com/example/kiriman/kiriman/route/Problem") (Dep : Fld Z h0 pb "com/example/kiriman/kiriman/route/Problem" "depot" "I" (.int (0 : Int32))) (Vv : Fa Z h0 vs .int 8 (fun i => .int (y i))) :
    Met l Z (⟨"com/example/kiriman/kiriman/route/Route", "before", "(I)I"⟩ : MethodName) prog_30_method_11_code 2 (some .int) ws ({ frames := 1, cells := 0, slots := 0, locals := 12 } : Room) #[(.ref a), (.int 0)] h0 (fun v h L => v = some (.int 0) ∧ L = [] ∧ h = h0) := by
 refine Met.intro pn22 ?_
 intro pr ev s m below meth c T0 X0 hx hZ hown hby hml hret hlk hnm e0
 refine Go.cast (ef_rmB0 m a (0 : Int32)) ?_
 refine Go.of (mkF m 1 #[.val (.ref a), .val (.int 0)] [(.int 0)]) (fun _ q => XS.iloadN X0.here hx rfl (hb hby d17_0) rfl q) ?_
 refine Go.of (mkF m 4 #[.val (.ref a), .val (.int 0)] []) (fun _ q => XS.ifNo X0.here hx rfl (hb hby d17_1) rfl ((if0 _ _).trans (teq (by decide)).2) q) ?_
 refine Go.of (mkF m 5 #[.val (.ref a), .val (.int 0)] [(.ref a)]) (fun _ q => XS.aloadN X0.here hx rfl (hb hby d17_4) rfl rfl q) ?_
 obtain ⟨T1, X1, e1, st1⟩ := getF X0 hx hZ hown (host := "") (Or.inl (tw91 hw)) Via.refl e0 Rp (g := (mkF m 5 #[.val (.ref a), .val (.int 0)] [(.ref a)])) rfl rfl (hb hby d17_5)
 refine Go.of (mkF m 8 #[.val (.ref a), .val (.int 0)] [(.ref pb)]) (st1) ?_
 refine Go.virt X1 hx hZ (y := (⟨"com/example/kiriman/kiriman/route/Problem", "depot", "()I"⟩ : MethodName)) (z := (⟨"com/example/kiriman/kiriman/route/Problem", "depot", "()I"⟩ : MethodName)) (a := pb) (argsL := []) (rest := []) hown (tw99 hw) (tw100 hw) (notFace_of_selects (args := #[]) (mvT hZ (tw102 hw))) (tw102 hw) (tw101 hw) (tw5 hw) (tw103 hw) (by decide) e1 Eb (rmDe l Z a0 hw [] pb h0 Dep) (g := (mkF m 8 #[.val (.ref a), .val (.int 0)] [(.ref pb)])) rfl (by rw [hml]; rfl) (lenOf pd12 rfl) rfl (W := 0) (by show 2 * 0 + _ ≤ _; exact Nat.le_of_eq rfl) (hb hby d17_8) (by decide) (by decide) (by decide) (by decide) ?_
 rintro T2 L2 v2 X2 ⟨rfl, rfl, hh2⟩
 show Go pr ev below _ T2 (mkF m 11 #[.val (.ref a), .val (.int 0)] [(.int 0)])
 refine Go.of (mkF m 22 #[.val (.ref a), .val (.int 0)] [(.int 0)]) (fun _ q => XS.goto X2.here hx rfl (pc0 := 11) (pc' := 22) rfl (hb hby d17_11) (by decide) (by decide) q) ?_
 exact Go.retW X2 hx (t := .int) hret hlk rfl (Or.inl ⟨rfl, by simp, _, rfl⟩) (hb hby d17_22) (by decide) (by decide) ⟨rfl, rfl, hh2⟩
theorem ef_rmA0 (m : MethodId) (x0 : Addr) (x1 : Int32) : entryFrame m #[(.ref x0), (.int x1)] 2 = mkF m 0 #[.val (.ref x0), .val (.int x1)] [] := by first | (simp [entryFrame, mkF, argsToLocals, Value.category]; done) | rfl
theorem rmA0 (l : Launch) (Z : State) (a0 : Array Value) (hw : ∀ d ∈ tables_1, d.before a0 Z = true) (ws : List Jvm.Cond) (a pb : Nat) (h0 : Heap) (Rp : Fld Z h0 a "com/example/kiriman/kiriman/route/Route" "problem" "Lcom/example/kiriman/kiriman/route/Problem;" (.ref pb)) (Rs : Fld Z h0 a "com/example/kiriman/kiriman/route/Route" "size" "I" (.int (0 : Int32))) (Eb : Exa Z h0 pb "com/example/kiriman/kiriman/route/Problem") (Dep : Fld Z h0 pb "com/example/kiriman/kiriman/route/Problem" "depot" "I" (.int (0 : Int32))) :
    Met l Z (⟨"com/example/kiriman/kiriman/route/Route", "after", "(I)I"⟩ : MethodName) prog_30_method_12_code 2 (some .int) ws ({ frames := 1, cells := 0, slots := 0, locals := 12 } : Room) #[(.ref a), (.int 0)] h0 (fun v h L => v = some (.int 0) ∧ L = [] ∧ h = h0) := by
 refine Met.intro pn23 ?_
 intro pr ev s m below meth c T0 X0 hx hZ hown hby hml hret hlk hnm e0
 refine Go.cast (ef_rmA0 m a (0 : Int32)) ?_
 refine Go.of (mkF m 1 #[.val (.ref a), .val (.int 0)] [(.int 0)]) (fun _ q => XS.iloadN X0.here hx rfl (hb hby d18_0) rfl q) ?_
 refine Go.of (mkF m 2 #[.val (.ref a), .val (.int 0)] [(.ref a), (.int 0)]) (fun _ q => XS.aloadN X0.here hx rfl (hb hby d18_1) rfl rfl q) ?_
 obtain ⟨T1, X1, e1, st1⟩ := getF X0 hx hZ hown (host := "") (Or.inl (tw122 hw)) Via.refl e0 Rs (g := (mkF m 2 #[.val (.ref a), .val (.int 0)] [(.ref a), (.int 0)])) rfl rfl (hb hby d18_2)
 refine Go.of (mkF m 5 #[.val (.ref a), .val (.int 0)] [(.int 0), (.int 0)]) (st1) ?_
 refine Go.of (mkF m 8 #[.val (.ref a), .val (.int 0)] []) (fun _ q => XS.icmpNo X1.here hx rfl (hb hby d18_5) rfl (teq (by decide)).2 q) ?_
 refine Go.of (mkF m 9 #[.val (.ref a), .val (.int 0)] [(.ref a)]) (fun _ q => XS.aloadN X1.here hx rfl (hb hby d18_8) rfl rfl q) ?_
 obtain ⟨T2, X2, e2, st2⟩ := getF X1 hx hZ hown (host := "") (Or.inl (tw91 hw)) Via.refl e1 Rp (g := (mkF m 9 #[.val (.ref a), .val (.int 0)] [(.ref a)])) rfl rfl (hb hby d18_9)
 refine Go.of (mkF m 12 #[.val (.ref a), .val (.int 0)] [(.ref pb)]) (st2) ?_
 refine Go.virt X2 hx hZ (y := (⟨"com/example/kiriman/kiriman/route/Problem", "depot", "()I"⟩ : MethodName)) (z := (⟨"com/example/kiriman/kiriman/route/Problem", "depot", "()I"⟩ : MethodName)) (a := pb) (argsL := []) (rest := []) hown (tw99 hw) (tw100 hw) (notFace_of_selects (args := #[]) (mvT hZ (tw102 hw))) (tw102 hw) (tw101 hw) (tw5 hw) (tw103 hw) (by decide) e2 Eb (rmDe l Z a0 hw [] pb h0 Dep) (g := (mkF m 12 #[.val (.ref a), .val (.int 0)] [(.ref pb)])) rfl (by rw [hml]; rfl) (lenOf pd12 rfl) rfl (W := 0) (by show 2 * 0 + _ ≤ _; exact Nat.le_of_eq rfl) (hb hby d18_12) (by decide) (by decide) (by decide) (by decide) ?_
 rintro T3 L3 v3 X3 ⟨rfl, rfl, hh3⟩
 show Go pr ev below _ T3 (mkF m 15 #[.val (.ref a), .val (.int 0)] [(.int 0)])
 refine Go.of (mkF m 24 #[.val (.ref a), .val (.int 0)] [(.int 0)]) (fun _ q => XS.goto X3.here hx rfl (pc0 := 15) (pc' := 24) rfl (hb hby d18_15) (by decide) (by decide) q) ?_
 exact Go.retW X3 hx (t := .int) hret hlk rfl (Or.inl ⟨rfl, by simp, _, rfl⟩) (hb hby d18_24) (by decide) (by decide) ⟨rfl, rfl, hh3⟩
theorem ef_rmB1 (m : MethodId) (x0 : Addr) (x1 : Int32) : entryFrame m #[(.ref x0), (.int x1)] 2 = mkF m 0 #[.val (.ref x0), .val (.int x1)] [] := by first | (simp [entryFrame, mkF, argsToLocals, Value.category]; done) | rfl
theorem rmB1 (l : Launch) (Z : State) (a0 : Array Value) (hw : ∀ d ∈ tables_1, d.before a0 Z = true) (ws : List Jvm.Cond) (a pb vs : Nat) (y : Int32 → Int32) (h0 : Heap) (Rp : Fld Z h0 a "com/example/kiriman/kiriman/route/Route" "problem" "Lcom/example/kiriman/kiriman/route/Problem;" (.ref pb)) (Rv : Fld Z h0 a "com/example/kiriman/kiriman/route/Route" "visits" "[I" (.ref vs)) (Eb : Exa Z h0 pb "com/example/kiriman/kiriman/route/Problem") (Dep : Fld Z h0 pb "com/example/kiriman/kiriman/route/Problem" "depot" "I" (.int (0 : Int32))) (Vv : Fa Z h0 vs .int 8 (fun i => .int (y i))) :
    Met l Z (⟨"com/example/kiriman/kiriman/route/Route", "before", "(I)I"⟩ : MethodName) prog_30_method_11_code 2 (some .int) ws ({ frames := 1, cells := 0, slots := 0, locals := 12 } : Room) #[(.ref a), (.int 1)] h0 (fun v h L => v = some (.int (y 0)) ∧ L = [] ∧ h = h0) := by
 refine Met.intro pn22 ?_
 intro pr ev s m below meth c T0 X0 hx hZ hown hby hml hret hlk hnm e0
 refine Go.cast (ef_rmB1 m a (1 : Int32)) ?_
 refine Go.of (mkF m 1 #[.val (.ref a), .val (.int 1)] [(.int 1)]) (fun _ q => XS.iloadN X0.here hx rfl (hb hby d17_0) rfl q) ?_
 refine Go.of (mkF m 14 #[.val (.ref a), .val (.int 1)] []) (fun _ q => XS.ifYes X0.here hx rfl (pc0 := 1) (pc' := 14) rfl (hb hby d17_1) rfl ((if0 _ _).trans (feq (by decide)).2) (by decide) (by decide) q) ?_
 refine Go.of (mkF m 15 #[.val (.ref a), .val (.int 1)] [(.ref a)]) (fun _ q => XS.aloadN X0.here hx rfl (hb hby d17_14) rfl rfl q) ?_
 obtain ⟨T1, X1, e1, st1⟩ := getF X0 hx hZ hown (host := "") (Or.inl (tw95 hw)) Via.refl e0 Rv (g := (mkF m 15 #[.val (.ref a), .val (.int 1)] [(.ref a)])) rfl rfl (hb hby d17_15)
 refine Go.of (mkF m 18 #[.val (.ref a), .val (.int 1)] [(.ref vs)]) (st1) ?_
 refine Go.of (mkF m 19 #[.val (.ref a), .val (.int 1)] [(.int 1), (.ref vs)]) (fun _ q => XS.iloadN X1.here hx rfl (hb hby d17_18) rfl q) ?_
 refine Go.of (mkF m 20 #[.val (.ref a), .val (.int 1)] [(.int 1), (.int 1), (.ref vs)]) (fun _ q => XS.iconst X1.here hx rfl (hb hby d17_19) q) ?_
 refine Go.of (mkF m 21 #[.val (.ref a), .val (.int 1)] [(.int ((1 : Int32) - (1 : Int32))), (.ref vs)]) (fun _ q => XS.isub X1.here hx rfl (hb hby d17_20) rfl q) ?_
 rw [show ((1 : Int32) - (1 : Int32)) = (0 : Int32) from by decide]
 refine Go.iaload X1 hx hZ e1 Vv (by decide) (by decide) (g := (mkF m 21 #[.val (.ref a), .val (.int 1)] [(.int 0), (.ref vs)])) rfl rfl (hb hby d17_21) ?_
 show Go pr ev below _ T1 (mkF m 22 #[.val (.ref a), .val (.int 1)] [(.int (y (0 : Int32)))])
 show Go pr ev below _ T1 (mkF m 22 #[.val (.ref a), .val (.int 1)] [(.int (y (0 : Int32)))])
 exact Go.retW X1 hx (t := .int) hret hlk rfl (Or.inl ⟨rfl, by simp, _, rfl⟩) (hb hby d17_22) (by decide) (by decide) ⟨rfl, rfl, e1⟩
theorem ef_rmA1 (m : MethodId) (x0 : Addr) (x1 : Int32) : entryFrame m #[(.ref x0), (.int x1)] 2 = mkF m 0 #[.val (.ref x0), .val (.int x1)] [] := by first | (simp [entryFrame, mkF, argsToLocals, Value.category]; done) | rfl
theorem rmA1 (l : Launch) (Z : State) (a0 : Array Value) (hw : ∀ d ∈ tables_1, d.before a0 Z = true) (ws : List Jvm.Cond) (a pb : Nat) (h0 : Heap) (Rp : Fld Z h0 a "com/example/kiriman/kiriman/route/Route" "problem" "Lcom/example/kiriman/kiriman/route/Problem;" (.ref pb)) (Rs : Fld Z h0 a "com/example/kiriman/kiriman/route/Route" "size" "I" (.int (1 : Int32))) (Eb : Exa Z h0 pb "com/example/kiriman/kiriman/route/Problem") (Dep : Fld Z h0 pb "com/example/kiriman/kiriman/route/Problem" "depot" "I" (.int (0 : Int32))) :
    Met l Z (⟨"com/example/kiriman/kiriman/route/Route", "after", "(I)I"⟩ : MethodName) prog_30_method_12_code 2 (some .int) ws ({ frames := 1, cells := 0, slots := 0, locals := 12 } : Room) #[(.ref a), (.int 1)] h0 (fun v h L => v = some (.int 0) ∧ L = [] ∧ h = h0) := by
 refine Met.intro pn23 ?_
 intro pr ev s m below meth c T0 X0 hx hZ hown hby hml hret hlk hnm e0
 refine Go.cast (ef_rmA1 m a (1 : Int32)) ?_
 refine Go.of (mkF m 1 #[.val (.ref a), .val (.int 1)] [(.int 1)]) (fun _ q => XS.iloadN X0.here hx rfl (hb hby d18_0) rfl q) ?_
 refine Go.of (mkF m 2 #[.val (.ref a), .val (.int 1)] [(.ref a), (.int 1)]) (fun _ q => XS.aloadN X0.here hx rfl (hb hby d18_1) rfl rfl q) ?_
 obtain ⟨T1, X1, e1, st1⟩ := getF X0 hx hZ hown (host := "") (Or.inl (tw122 hw)) Via.refl e0 Rs (g := (mkF m 2 #[.val (.ref a), .val (.int 1)] [(.ref a), (.int 1)])) rfl rfl (hb hby d18_2)
 refine Go.of (mkF m 5 #[.val (.ref a), .val (.int 1)] [(.int 1), (.int 1)]) (st1) ?_
 refine Go.of (mkF m 8 #[.val (.ref a), .val (.int 1)] []) (fun _ q => XS.icmpNo X1.here hx rfl (hb hby d18_5) rfl (teq (by decide)).2 q) ?_
 refine Go.of (mkF m 9 #[.val (.ref a), .val (.int 1)] [(.ref a)]) (fun _ q => XS.aloadN X1.here hx rfl (hb hby d18_8) rfl rfl q) ?_
 obtain ⟨T2, X2, e2, st2⟩ := getF X1 hx hZ hown (host := "") (Or.inl (tw91 hw)) Via.refl e1 Rp (g := (mkF m 9 #[.val (.ref a), .val (.int 1)] [(.ref a)])) rfl rfl (hb hby d18_9)
 refine Go.of (mkF m 12 #[.val (.ref a), .val (.int 1)] [(.ref pb)]) (st2) ?_
 refine Go.virt X2 hx hZ (y := (⟨"com/example/kiriman/kiriman/route/Problem", "depot", "()I"⟩ : MethodName)) (z := (⟨"com/example/kiriman/kiriman/route/Problem", "depot", "()I"⟩ : MethodName)) (a := pb) (argsL := []) (rest := []) hown (tw99 hw) (tw100 hw) (notFace_of_selects (args := #[]) (mvT hZ (tw102 hw))) (tw102 hw) (tw101 hw) (tw5 hw) (tw103 hw) (by decide) e2 Eb (rmDe l Z a0 hw [] pb h0 Dep) (g := (mkF m 12 #[.val (.ref a), .val (.int 1)] [(.ref pb)])) rfl (by rw [hml]; rfl) (lenOf pd12 rfl) rfl (W := 0) (by show 2 * 0 + _ ≤ _; exact Nat.le_of_eq rfl) (hb hby d18_12) (by decide) (by decide) (by decide) (by decide) ?_
 rintro T3 L3 v3 X3 ⟨rfl, rfl, hh3⟩
 show Go pr ev below _ T3 (mkF m 15 #[.val (.ref a), .val (.int 1)] [(.int 0)])
 refine Go.of (mkF m 24 #[.val (.ref a), .val (.int 1)] [(.int 0)]) (fun _ q => XS.goto X3.here hx rfl (pc0 := 15) (pc' := 24) rfl (hb hby d18_15) (by decide) (by decide) q) ?_
 exact Go.retW X3 hx (t := .int) hret hlk rfl (Or.inl ⟨rfl, by simp, _, rfl⟩) (hb hby d18_24) (by decide) (by decide) ⟨rfl, rfl, hh3⟩
theorem ef_rmI0 (m : MethodId) (x0 : Addr) (x1 : Int32) (x2 : Int32) : entryFrame m #[(.ref x0), (.int x1), (.int x2)] 5 = mkF m 0 #[.val (.ref x0), .val (.int x1), .val (.int x2), .unset, .unset] [] := by first | (simp [entryFrame, mkF, argsToLocals, Value.category]; done) | rfl
theorem rmI0 (l : Launch) (Z : State) (a0 : Array Value) (hw : ∀ d ∈ tables_1, d.before a0 Z = true) (ws : List Jvm.Cond) (a pb t tc vs lt : Nat) (u : Int32) (y yl : Int32 → Int32) (h0 : Heap) (n0 : Nat) (hz0 : n0 ≤ h0.size) (E : Exa Z h0 a "com/example/kiriman/kiriman/route/Route") (ga : n0 ≤ a) (o1 : pb < t) (o2 : t < tc) (o3 : tc < a) (o4 : a < vs) (o5 : vs < lt) (Eb : Exa Z h0 pb "com/example/kiriman/kiriman/route/Problem") (Dep : Fld Z h0 pb "com/example/kiriman/kiriman/route/Problem" "depot" "I" (.int (0 : Int32))) (Cst : Fld Z h0 pb "com/example/kiriman/kiriman/route/Problem" "costs" "Lcom/example/kiriman/kiriman/route/Costs;" (.ref t)) (Et : Exa Z h0 t "com/example/kiriman/kiriman/route/CostMatrix") (Ft1 : Fld Z h0 t "com/example/kiriman/kiriman/route/CostMatrix" "nodes" "I" (.int (3 : Int32))) (Ft2 : Fld Z h0 t "com/example/kiriman/kiriman/route/CostMatrix" "costs" "[I" (.ref tc)) (Vt : Fa Z h0 tc .int 9 (fun i => .int ((fun _ => (0 : Int32)) i))) (Rst : Fld Z h0 a "com/example/kiriman/kiriman/route/Route" "stale" "Z" (.int (1 : Int32))) (Rp : Fld Z h0 a "com/example/kiriman/kiriman/route/Route" "problem" "Lcom/example/kiriman/kiriman/route/Problem;" (.ref pb)) (Rv : Fld Z h0 a "com/example/kiriman/kiriman/route/Route" "visits" "[I" (.ref vs)) (Rl : Fld Z h0 a "com/example/kiriman/kiriman/route/Route" "legTo" "[I" (.ref lt)) (Rs : Fld Z h0 a "com/example/kiriman/kiriman/route/Route" "size" "I" (.int (0 : Int32))) (Vv : Fa Z h0 vs .int 8 (fun i => .int (y i))) (Vl : Fa Z h0 lt .int 9 (fun i => .int (yl i))) (hu : u = 1 ∨ u = 2) (hB0 : y 0 = 0 ∨ y 0 = 1 ∨ y 0 = 2) :
    Met l Z (⟨"com/example/kiriman/kiriman/route/Route", "insert", "(II)V"⟩ : MethodName) prog_30_method_7_code 5 none ws ({ frames := 2, cells := 0, slots := 0, locals := 40 } : Room) #[(.ref a), (.int 0), (.int u)] h0 (fun v h L => v = none ∧ Fr n0 L ∧ Keep h0 h [a, vs, lt] ∧ Fld Z h a "com/example/kiriman/kiriman/route/Route" "stale" "Z" (.int (1 : Int32)) ∧ Fld Z h a "com/example/kiriman/kiriman/route/Route" "problem" "Lcom/example/kiriman/kiriman/route/Problem;" (.ref pb) ∧ Fld Z h a "com/example/kiriman/kiriman/route/Route" "visits" "[I" (.ref vs) ∧ Fld Z h a "com/example/kiriman/kiriman/route/Route" "legTo" "[I" (.ref lt) ∧ Fld Z h a "com/example/kiriman/kiriman/route/Route" "size" "I" (.int (1 : Int32)) ∧ Fa Z h vs .int 8 (fun i => .int ((fnup y (0 : Int32) u) i)) ∧ ∃ yl : Int32 → Int32, Fa Z h lt .int 9 (fun i => .int (yl i))) := by
 refine Met.intro pn24 ?_
 intro pr ev s m below meth c T0 X0 hx hZ hown hby hml hret hlk hnm e0
 refine Go.cast (ef_rmI0 m a (0 : Int32) u) ?_
 have N0 := Fr.nil n0
 have hz := hz0
 have K0 : Keep h0 h0 [a, vs, lt] := Keep.refl h0 _
 have ne_pb_t : pb ≠ t := by omega
 have ne_pb_tc : pb ≠ tc := by omega
 have ne_pb_a : pb ≠ a := by omega
 have ne_pb_vs : pb ≠ vs := by omega
 have ne_pb_lt : pb ≠ lt := by omega
 have ne_t_tc : t ≠ tc := by omega
 have ne_t_a : t ≠ a := by omega
 have ne_t_vs : t ≠ vs := by omega
 have ne_t_lt : t ≠ lt := by omega
 have ne_tc_a : tc ≠ a := by omega
 have ne_tc_vs : tc ≠ vs := by omega
 have ne_tc_lt : tc ≠ lt := by omega
 have ne_a_vs : a ≠ vs := by omega
 have ne_a_lt : a ≠ lt := by omega
 have ne_vs_lt : vs ≠ lt := by omega
 have gb_vs : n0 ≤ vs := by omega
 have gb_lt : n0 ≤ lt := by omega
 refine Go.of (mkF m 1 #[.val (.ref a), .val (.int 0), .val (.int u), .unset, .unset] [(.ref a)]) (fun _ q => XS.aloadN X0.here hx rfl (hb hby d16_0) rfl rfl q) ?_
 obtain ⟨T1, X1, e1, st1⟩ := getF X0 hx hZ hown (host := "") (Or.inl (tw122 hw)) Via.refl e0 Rs (g := (mkF m 1 #[.val (.ref a), .val (.int 0), .val (.int u), .unset, .unset] [(.ref a)])) rfl rfl (hb hby d16_1)
 refine Go.of (mkF m 4 #[.val (.ref a), .val (.int 0), .val (.int u), .unset, .unset] [(.int 0)]) (st1) ?_
 refine Go.of (mkF m 5 #[.val (.ref a), .val (.int 0), .val (.int u), .unset, .unset] [(.ref a), (.int 0)]) (fun _ q => XS.aloadN X1.here hx rfl (hb hby d16_4) rfl rfl q) ?_
 obtain ⟨T2, X2, e2, st2⟩ := getF X1 hx hZ hown (host := "") (Or.inl (tw95 hw)) Via.refl e1 Rv (g := (mkF m 5 #[.val (.ref a), .val (.int 0), .val (.int u), .unset, .unset] [(.ref a), (.int 0)])) rfl rfl (hb hby d16_5)
 refine Go.of (mkF m 8 #[.val (.ref a), .val (.int 0), .val (.int u), .unset, .unset] [(.ref vs), (.int 0)]) (st2) ?_
 refine Go.arraylength X2 hx hZ e2 Vv (g := (mkF m 8 #[.val (.ref a), .val (.int 0), .val (.int u), .unset, .unset] [(.ref vs), (.int 0)])) rfl rfl (hb hby d16_8) ?_
 show Go pr ev below _ T2 (mkF m 9 #[.val (.ref a), .val (.int 0), .val (.int u), .unset, .unset] [(.int 8), (.int 0)])
 refine Go.of (mkF m 47 #[.val (.ref a), .val (.int 0), .val (.int u), .unset, .unset] []) (fun _ q => XS.icmpYes X2.here hx rfl (pc0 := 9) (pc' := 47) rfl (hb hby d16_9) rfl (feq (by decide)).2 (by decide) (by decide) q) ?_
 refine Go.of (mkF m 48 #[.val (.ref a), .val (.int 0), .val (.int u), .unset, .unset] [(.ref a)]) (fun _ q => XS.aloadN X2.here hx rfl (hb hby d16_47) rfl rfl q) ?_
 refine Go.of (mkF m 49 #[.val (.ref a), .val (.int 0), .val (.int u), .unset, .unset] [(.int 0), (.ref a)]) (fun _ q => XS.iloadN X2.here hx rfl (hb hby d16_48) rfl q) ?_
 refine Go.priv X2 hx hZ (y := (⟨"com/example/kiriman/kiriman/route/Route", "before", "(I)I"⟩ : MethodName)) (a := a) (argsL := [(.int 0)]) (rest := []) hown (tw124 hw) (tw125 hw) (Jvm.Kit.selects_private (by decide) (tw83 hw) (tw126 hw) (tw125 hw)) (tw126 hw) (tw84 hw) (tw127 hw) (by decide) e2 E (rmB0 l Z a0 hw [] a pb vs y h0 Rp Rv Eb Dep Vv) (g := (mkF m 49 #[.val (.ref a), .val (.int 0), .val (.int u), .unset, .unset] [(.int 0), (.ref a)])) rfl (by rw [hml]; rfl) (lenOf pd25 rfl) rfl (W := 0) (by show 2 * 0 + _ ≤ _; exact Nat.le_of_eq rfl) (hb hby d16_49) (by decide) (by decide) (by decide) (by decide) ?_
 rintro T3 L3 v3 X3 ⟨rfl, rfl, hh3⟩
 have N3 := Fr.app N0 (Fr.nil n0)
 show Go pr ev below _ T3 (mkF m 52 #[.val (.ref a), .val (.int 0), .val (.int u), .unset, .unset] [(.int 0)])
 refine Go.of (mkF m 53 #[.val (.ref a), .val (.int 0), .val (.int u), .val (.int 0), .unset] []) (fun _ q => XS.istoreN X3.here hx rfl (hb hby d16_52) rfl (l' := #[.val (.ref a), .val (.int 0), .val (.int u), .val (.int 0), .unset]) rfl q) ?_
 refine Go.of (mkF m 54 #[.val (.ref a), .val (.int 0), .val (.int u), .val (.int 0), .unset] [(.ref a)]) (fun _ q => XS.aloadN X3.here hx rfl (hb hby d16_53) rfl rfl q) ?_
 refine Go.of (mkF m 55 #[.val (.ref a), .val (.int 0), .val (.int u), .val (.int 0), .unset] [(.int 0), (.ref a)]) (fun _ q => XS.iloadN X3.here hx rfl (hb hby d16_54) rfl q) ?_
 refine Go.priv X3 hx hZ (y := (⟨"com/example/kiriman/kiriman/route/Route", "after", "(I)I"⟩ : MethodName)) (a := a) (argsL := [(.int 0)]) (rest := []) hown (tw128 hw) (tw129 hw) (Jvm.Kit.selects_private (by decide) (tw83 hw) (tw130 hw) (tw129 hw)) (tw130 hw) (tw84 hw) (tw131 hw) (by decide) hh3 E (rmA0 l Z a0 hw [] a pb h0 Rp Rs Eb Dep) (g := (mkF m 55 #[.val (.ref a), .val (.int 0), .val (.int u), .val (.int 0), .unset] [(.int 0), (.ref a)])) rfl (by rw [hml]; rfl) (lenOf pd25 rfl) rfl (W := 0) (by show 2 * 0 + _ ≤ _; exact Nat.le_of_eq rfl) (hb hby d16_55) (by decide) (by decide) (by decide) (by decide) ?_
 rintro T4 L4 v4 X4 ⟨rfl, rfl, hh4⟩
 have N4 := Fr.app N3 (Fr.nil n0)
 show Go pr ev below _ T4 (mkF m 58 #[.val (.ref a), .val (.int 0), .val (.int u), .val (.int 0), .unset] [(.int 0)])
 refine Go.of (mkF m 60 #[.val (.ref a), .val (.int 0), .val (.int u), .val (.int 0), .val (.int 0)] []) (fun _ q => XS.istore X4.here hx rfl (hb hby d16_58) rfl (l' := #[.val (.ref a), .val (.int 0), .val (.int u), .val (.int 0), .val (.int 0)]) rfl q) ?_
 refine Go.of (mkF m 61 #[.val (.ref a), .val (.int 0), .val (.int u), .val (.int 0), .val (.int 0)] [(.ref a)]) (fun _ q => XS.aloadN X4.here hx rfl (hb hby d16_60) rfl rfl q) ?_
 obtain ⟨T5, X5, e5, st5⟩ := getF X4 hx hZ hown (host := "") (Or.inl (tw97 hw)) Via.refl hh4 Rl (g := (mkF m 61 #[.val (.ref a), .val (.int 0), .val (.int u), .val (.int 0), .val (.int 0)] [(.ref a)])) rfl rfl (hb hby d16_61)
 refine Go.of (mkF m 64 #[.val (.ref a), .val (.int 0), .val (.int u), .val (.int 0), .val (.int 0)] [(.ref lt)]) (st5) ?_
 refine Go.of (mkF m 65 #[.val (.ref a), .val (.int 0), .val (.int u), .val (.int 0), .val (.int 0)] [(.int 0), (.ref lt)]) (fun _ q => XS.iloadN X5.here hx rfl (hb hby d16_64) rfl q) ?_
 refine Go.of (mkF m 66 #[.val (.ref a), .val (.int 0), .val (.int u), .val (.int 0), .val (.int 0)] [(.int 1), (.int 0), (.ref lt)]) (fun _ q => XS.iconst X5.here hx rfl (hb hby d16_65) q) ?_
 refine Go.of (mkF m 67 #[.val (.ref a), .val (.int 0), .val (.int u), .val (.int 0), .val (.int 0)] [(.int ((0 : Int32) + (1 : Int32))), (.ref lt)]) (fun _ q => XS.iadd X5.here hx rfl (hb hby d16_66) rfl q) ?_
 rw [show ((0 : Int32) + (1 : Int32)) = (1 : Int32) from by decide]
 refine Go.of (mkF m 68 #[.val (.ref a), .val (.int 0), .val (.int u), .val (.int 0), .val (.int 0)] [(.ref a), (.int 1), (.ref lt)]) (fun _ q => XS.aloadN X5.here hx rfl (hb hby d16_67) rfl rfl q) ?_
 obtain ⟨T6, X6, e6, st6⟩ := getF X5 hx hZ hown (host := "") (Or.inl (tw97 hw)) Via.refl e5 Rl (g := (mkF m 68 #[.val (.ref a), .val (.int 0), .val (.int u), .val (.int 0), .val (.int 0)] [(.ref a), (.int 1), (.ref lt)])) rfl rfl (hb hby d16_68)
 refine Go.of (mkF m 71 #[.val (.ref a), .val (.int 0), .val (.int u), .val (.int 0), .val (.int 0)] [(.ref lt), (.int 1), (.ref lt)]) (st6) ?_
 refine Go.of (mkF m 72 #[.val (.ref a), .val (.int 0), .val (.int u), .val (.int 0), .val (.int 0)] [(.int 0), (.ref lt), (.int 1), (.ref lt)]) (fun _ q => XS.iloadN X6.here hx rfl (hb hby d16_71) rfl q) ?_
 refine Go.of (mkF m 73 #[.val (.ref a), .val (.int 0), .val (.int u), .val (.int 0), .val (.int 0)] [(.int 2), (.int 0), (.ref lt), (.int 1), (.ref lt)]) (fun _ q => XS.iconst X6.here hx rfl (hb hby d16_72) q) ?_
 refine Go.of (mkF m 74 #[.val (.ref a), .val (.int 0), .val (.int u), .val (.int 0), .val (.int 0)] [(.int ((0 : Int32) + (2 : Int32))), (.ref lt), (.int 1), (.ref lt)]) (fun _ q => XS.iadd X6.here hx rfl (hb hby d16_73) rfl q) ?_
 rw [show ((0 : Int32) + (2 : Int32)) = (2 : Int32) from by decide]
 refine Go.of (mkF m 75 #[.val (.ref a), .val (.int 0), .val (.int u), .val (.int 0), .val (.int 0)] [(.ref a), (.int 2), (.ref lt), (.int 1), (.ref lt)]) (fun _ q => XS.aloadN X6.here hx rfl (hb hby d16_74) rfl rfl q) ?_
 obtain ⟨T7, X7, e7, st7⟩ := getF X6 hx hZ hown (host := "") (Or.inl (tw122 hw)) Via.refl e6 Rs (g := (mkF m 75 #[.val (.ref a), .val (.int 0), .val (.int u), .val (.int 0), .val (.int 0)] [(.ref a), (.int 2), (.ref lt), (.int 1), (.ref lt)])) rfl rfl (hb hby d16_75)
 refine Go.of (mkF m 78 #[.val (.ref a), .val (.int 0), .val (.int u), .val (.int 0), .val (.int 0)] [(.int 0), (.int 2), (.ref lt), (.int 1), (.ref lt)]) (st7) ?_
 refine Go.of (mkF m 79 #[.val (.ref a), .val (.int 0), .val (.int u), .val (.int 0), .val (.int 0)] [(.int 0), (.int 0), (.int 2), (.ref lt), (.int 1), (.ref lt)]) (fun _ q => XS.iloadN X7.here hx rfl (hb hby d16_78) rfl q) ?_
 refine Go.of (mkF m 80 #[.val (.ref a), .val (.int 0), .val (.int u), .val (.int 0), .val (.int 0)] [(.int ((0 : Int32) - (0 : Int32))), (.int 2), (.ref lt), (.int 1), (.ref lt)]) (fun _ q => XS.isub X7.here hx rfl (hb hby d16_79) rfl q) ?_
 rw [show ((0 : Int32) - (0 : Int32)) = (0 : Int32) from by decide]
 refine Go.copy0 X7 hx hZ hown (tw132 hw) (tw135 hw) (tw133 hw) (tw134 hw) e7 Vl rfl (by decide) (by decide) (by decide) (by decide) N4 gb_lt (g := (mkF m 80 #[.val (.ref a), .val (.int 0), .val (.int u), .val (.int 0), .val (.int 0)] [(.int 0), (.int 2), (.ref lt), (.int 1), (.ref lt)])) rfl (by rw [hml]; rfl) rfl (hb hby d16_80) (by decide) (W := 0) (by show 2 * 0 + _ ≤ _; exact Nat.le_of_eq rfl) (by decide) ?_
 rintro T8 h8 L8 X8 e8 N8 K8 V8
 replace Dep := Dep.keep K8 (ninS ne_pb_lt nin0)
 replace Cst := Cst.keep K8 (ninS ne_pb_lt nin0)
 replace Ft1 := Ft1.keep K8 (ninS ne_t_lt nin0)
 replace Ft2 := Ft2.keep K8 (ninS ne_t_lt nin0)
 replace Rst := Rst.keep K8 (ninS ne_a_lt nin0)
 replace Rp := Rp.keep K8 (ninS ne_a_lt nin0)
 replace Rv := Rv.keep K8 (ninS ne_a_lt nin0)
 replace Rl := Rl.keep K8 (ninS ne_a_lt nin0)
 replace Rs := Rs.keep K8 (ninS ne_a_lt nin0)
 replace Eb := Eb.keep K8
 replace Et := Et.keep K8
 replace E := E.keep K8
 replace Vt := Vt.keep K8 (ninS ne_tc_lt nin0)
 replace Vv := Vv.keep K8 (ninS ne_vs_lt nin0)
 replace hz := Nat.le_trans hz K8.1
 replace K0 := K0.trans K8 (((allS (Or.inl (by simp)) all0)))
 show Go pr ev below _ T8 (mkF m 83 #[.val (.ref a), .val (.int 0), .val (.int u), .val (.int 0), .val (.int 0)] [])
 refine Go.of (mkF m 84 #[.val (.ref a), .val (.int 0), .val (.int u), .val (.int 0), .val (.int 0)] [(.ref a)]) (fun _ q => XS.aloadN X8.here hx rfl (hb hby d16_83) rfl rfl q) ?_
 obtain ⟨T9, X9, e9, st9⟩ := getF X8 hx hZ hown (host := "") (Or.inl (tw97 hw)) Via.refl e8 Rl (g := (mkF m 84 #[.val (.ref a), .val (.int 0), .val (.int u), .val (.int 0), .val (.int 0)] [(.ref a)])) rfl rfl (hb hby d16_84)
 refine Go.of (mkF m 87 #[.val (.ref a), .val (.int 0), .val (.int u), .val (.int 0), .val (.int 0)] [(.ref lt)]) (st9) ?_
 refine Go.of (mkF m 88 #[.val (.ref a), .val (.int 0), .val (.int u), .val (.int 0), .val (.int 0)] [(.int 0), (.ref lt)]) (fun _ q => XS.iloadN X9.here hx rfl (hb hby d16_87) rfl q) ?_
 refine Go.of (mkF m 89 #[.val (.ref a), .val (.int 0), .val (.int u), .val (.int 0), .val (.int 0)] [(.ref a), (.int 0), (.ref lt)]) (fun _ q => XS.aloadN X9.here hx rfl (hb hby d16_88) rfl rfl q) ?_
 obtain ⟨T10, X10, e10, st10⟩ := getF X9 hx hZ hown (host := "") (Or.inl (tw91 hw)) Via.refl e9 Rp (g := (mkF m 89 #[.val (.ref a), .val (.int 0), .val (.int u), .val (.int 0), .val (.int 0)] [(.ref a), (.int 0), (.ref lt)])) rfl rfl (hb hby d16_89)
 refine Go.of (mkF m 92 #[.val (.ref a), .val (.int 0), .val (.int u), .val (.int 0), .val (.int 0)] [(.ref pb), (.int 0), (.ref lt)]) (st10) ?_
 refine Go.of (mkF m 93 #[.val (.ref a), .val (.int 0), .val (.int u), .val (.int 0), .val (.int 0)] [(.int 0), (.ref pb), (.int 0), (.ref lt)]) (fun _ q => XS.iloadN X10.here hx rfl (hb hby d16_92) rfl q) ?_
 refine Go.of (mkF m 94 #[.val (.ref a), .val (.int 0), .val (.int u), .val (.int 0), .val (.int 0)] [(.int u), (.int 0), (.ref pb), (.int 0), (.ref lt)]) (fun _ q => XS.iloadN X10.here hx rfl (hb hby d16_93) rfl q) ?_
 refine Go.virt X10 hx hZ (y := (⟨"com/example/kiriman/kiriman/route/Problem", "cost", "(II)I"⟩ : MethodName)) (z := (⟨"com/example/kiriman/kiriman/route/Problem", "cost", "(II)I"⟩ : MethodName)) (a := pb) (argsL := [(.int 0), (.int u)]) (rest := [(.int 0), (.ref lt)]) hown (tw104 hw) (tw105 hw) (notFace_of_selects (args := #[]) (mvT hZ (tw107 hw))) (tw107 hw) (tw106 hw) (tw5 hw) (tw108 hw) (by decide) e10 Eb (rmPC l Z a0 hw [] pb t tc (0 : Int32) u h8 Cst Et Ft1 Ft2 Vt (own_rng (Or.inl rfl) (Or.inr hu))) (g := (mkF m 94 #[.val (.ref a), .val (.int 0), .val (.int u), .val (.int 0), .val (.int 0)] [(.int u), (.int 0), (.ref pb), (.int 0), (.ref lt)])) rfl (by rw [hml]; rfl) (lenOf pd4 rfl) rfl (W := 2) (by show 2 * 0 + _ ≤ _; exact Nat.le_of_eq rfl) (hb hby d16_94) (by decide) (by decide) (by decide) (by decide) ?_
 rintro T11 L11 v11 X11 ⟨rfl, rfl, hh11⟩
 have N11 := Fr.app N8 (Fr.nil n0)
 show Go pr ev below _ T11 (mkF m 97 #[.val (.ref a), .val (.int 0), .val (.int u), .val (.int 0), .val (.int 0)] [(.int 0), (.int 0), (.ref lt)])
 refine Go.iastore X11 hx hZ hh11 V8 (by decide) (by decide) (g := (mkF m 97 #[.val (.ref a), .val (.int 0), .val (.int u), .val (.int 0), .val (.int 0)] [(.int 0), (.int 0), (.ref lt)])) rfl rfl (hb hby d16_97) ?_
 rintro T12 h12 X12 e12 W12 V12
 replace Dep := Dep.other W12 (Or.inl ne_pb_lt)
 replace Cst := Cst.other W12 (Or.inl ne_pb_lt)
 replace Ft1 := Ft1.other W12 (Or.inl ne_t_lt)
 replace Ft2 := Ft2.other W12 (Or.inl ne_t_lt)
 replace Rst := Rst.other W12 (Or.inl ne_a_lt)
 replace Rp := Rp.other W12 (Or.inl ne_a_lt)
 replace Rv := Rv.other W12 (Or.inl ne_a_lt)
 replace Rl := Rl.other W12 (Or.inl ne_a_lt)
 replace Rs := Rs.other W12 (Or.inl ne_a_lt)
 replace Eb := Eb.wr W12
 replace Et := Et.wr W12
 replace E := E.wr W12
 replace Vt := Vt.other W12 ne_tc_lt
 replace Vv := Vv.other W12 ne_vs_lt
 replace hz := Nat.le_trans hz (Nat.le_of_eq W12.size.symm)
 replace K0 := K0.wr W12 (Or.inl (by simp))
 replace V8 := V12
 have N12 := Fr.snoc X12 N11 gb_lt
 show Go pr ev below _ T12 (mkF m 98 #[.val (.ref a), .val (.int 0), .val (.int u), .val (.int 0), .val (.int 0)] [])
 refine Go.of (mkF m 99 #[.val (.ref a), .val (.int 0), .val (.int u), .val (.int 0), .val (.int 0)] [(.ref a)]) (fun _ q => XS.aloadN X12.here hx rfl (hb hby d16_98) rfl rfl q) ?_
 obtain ⟨T13, X13, e13, st13⟩ := getF X12 hx hZ hown (host := "") (Or.inl (tw97 hw)) Via.refl e12 Rl (g := (mkF m 99 #[.val (.ref a), .val (.int 0), .val (.int u), .val (.int 0), .val (.int 0)] [(.ref a)])) rfl rfl (hb hby d16_99)
 refine Go.of (mkF m 102 #[.val (.ref a), .val (.int 0), .val (.int u), .val (.int 0), .val (.int 0)] [(.ref lt)]) (st13) ?_
 refine Go.of (mkF m 103 #[.val (.ref a), .val (.int 0), .val (.int u), .val (.int 0), .val (.int 0)] [(.int 0), (.ref lt)]) (fun _ q => XS.iloadN X13.here hx rfl (hb hby d16_102) rfl q) ?_
 refine Go.of (mkF m 104 #[.val (.ref a), .val (.int 0), .val (.int u), .val (.int 0), .val (.int 0)] [(.int 1), (.int 0), (.ref lt)]) (fun _ q => XS.iconst X13.here hx rfl (hb hby d16_103) q) ?_
 refine Go.of (mkF m 105 #[.val (.ref a), .val (.int 0), .val (.int u), .val (.int 0), .val (.int 0)] [(.int ((0 : Int32) + (1 : Int32))), (.ref lt)]) (fun _ q => XS.iadd X13.here hx rfl (hb hby d16_104) rfl q) ?_
 rw [show ((0 : Int32) + (1 : Int32)) = (1 : Int32) from by decide]
 refine Go.of (mkF m 106 #[.val (.ref a), .val (.int 0), .val (.int u), .val (.int 0), .val (.int 0)] [(.ref a), (.int 1), (.ref lt)]) (fun _ q => XS.aloadN X13.here hx rfl (hb hby d16_105) rfl rfl q) ?_
 obtain ⟨T14, X14, e14, st14⟩ := getF X13 hx hZ hown (host := "") (Or.inl (tw91 hw)) Via.refl e13 Rp (g := (mkF m 106 #[.val (.ref a), .val (.int 0), .val (.int u), .val (.int 0), .val (.int 0)] [(.ref a), (.int 1), (.ref lt)])) rfl rfl (hb hby d16_106)
 refine Go.of (mkF m 109 #[.val (.ref a), .val (.int 0), .val (.int u), .val (.int 0), .val (.int 0)] [(.ref pb), (.int 1), (.ref lt)]) (st14) ?_
 refine Go.of (mkF m 110 #[.val (.ref a), .val (.int 0), .val (.int u), .val (.int 0), .val (.int 0)] [(.int u), (.ref pb), (.int 1), (.ref lt)]) (fun _ q => XS.iloadN X14.here hx rfl (hb hby d16_109) rfl q) ?_
 refine Go.of (mkF m 112 #[.val (.ref a), .val (.int 0), .val (.int u), .val (.int 0), .val (.int 0)] [(.int 0), (.int u), (.ref pb), (.int 1), (.ref lt)]) (fun _ q => XS.iload X14.here hx rfl (hb hby d16_110) rfl q) ?_
 refine Go.virt X14 hx hZ (y := (⟨"com/example/kiriman/kiriman/route/Problem", "cost", "(II)I"⟩ : MethodName)) (z := (⟨"com/example/kiriman/kiriman/route/Problem", "cost", "(II)I"⟩ : MethodName)) (a := pb) (argsL := [(.int u), (.int 0)]) (rest := [(.int 1), (.ref lt)]) hown (tw104 hw) (tw105 hw) (notFace_of_selects (args := #[]) (mvT hZ (tw107 hw))) (tw107 hw) (tw106 hw) (tw5 hw) (tw108 hw) (by decide) e14 Eb (rmPC l Z a0 hw [] pb t tc u (0 : Int32) h12 Cst Et Ft1 Ft2 Vt (own_rng (Or.inr hu) (Or.inl rfl))) (g := (mkF m 112 #[.val (.ref a), .val (.int 0), .val (.int u), .val (.int 0), .val (.int 0)] [(.int 0), (.int u), (.ref pb), (.int 1), (.ref lt)])) rfl (by rw [hml]; rfl) (lenOf pd4 rfl) rfl (W := 2) (by show 2 * 0 + _ ≤ _; exact Nat.le_of_eq rfl) (hb hby d16_112) (by decide) (by decide) (by decide) (by decide) ?_
 rintro T15 L15 v15 X15 ⟨rfl, rfl, hh15⟩
 have N15 := Fr.app N12 (Fr.nil n0)
 show Go pr ev below _ T15 (mkF m 115 #[.val (.ref a), .val (.int 0), .val (.int u), .val (.int 0), .val (.int 0)] [(.int 0), (.int 1), (.ref lt)])
 refine Go.iastore X15 hx hZ hh15 V8 (by decide) (by decide) (g := (mkF m 115 #[.val (.ref a), .val (.int 0), .val (.int u), .val (.int 0), .val (.int 0)] [(.int 0), (.int 1), (.ref lt)])) rfl rfl (hb hby d16_115) ?_
 rintro T16 h16 X16 e16 W16 V16
 replace Dep := Dep.other W16 (Or.inl ne_pb_lt)
 replace Cst := Cst.other W16 (Or.inl ne_pb_lt)
 replace Ft1 := Ft1.other W16 (Or.inl ne_t_lt)
 replace Ft2 := Ft2.other W16 (Or.inl ne_t_lt)
 replace Rst := Rst.other W16 (Or.inl ne_a_lt)
 replace Rp := Rp.other W16 (Or.inl ne_a_lt)
 replace Rv := Rv.other W16 (Or.inl ne_a_lt)
 replace Rl := Rl.other W16 (Or.inl ne_a_lt)
 replace Rs := Rs.other W16 (Or.inl ne_a_lt)
 replace Eb := Eb.wr W16
 replace Et := Et.wr W16
 replace E := E.wr W16
 replace Vt := Vt.other W16 ne_tc_lt
 replace Vv := Vv.other W16 ne_vs_lt
 replace hz := Nat.le_trans hz (Nat.le_of_eq W16.size.symm)
 replace K0 := K0.wr W16 (Or.inl (by simp))
 replace V8 := V16
 have N16 := Fr.snoc X16 N15 gb_lt
 show Go pr ev below _ T16 (mkF m 116 #[.val (.ref a), .val (.int 0), .val (.int u), .val (.int 0), .val (.int 0)] [])
 refine Go.of (mkF m 117 #[.val (.ref a), .val (.int 0), .val (.int u), .val (.int 0), .val (.int 0)] [(.ref a)]) (fun _ q => XS.aloadN X16.here hx rfl (hb hby d16_116) rfl rfl q) ?_
 obtain ⟨T17, X17, e17, st17⟩ := getF X16 hx hZ hown (host := "") (Or.inl (tw95 hw)) Via.refl e16 Rv (g := (mkF m 117 #[.val (.ref a), .val (.int 0), .val (.int u), .val (.int 0), .val (.int 0)] [(.ref a)])) rfl rfl (hb hby d16_117)
 refine Go.of (mkF m 120 #[.val (.ref a), .val (.int 0), .val (.int u), .val (.int 0), .val (.int 0)] [(.ref vs)]) (st17) ?_
 refine Go.of (mkF m 121 #[.val (.ref a), .val (.int 0), .val (.int u), .val (.int 0), .val (.int 0)] [(.int 0), (.ref vs)]) (fun _ q => XS.iloadN X17.here hx rfl (hb hby d16_120) rfl q) ?_
 refine Go.of (mkF m 122 #[.val (.ref a), .val (.int 0), .val (.int u), .val (.int 0), .val (.int 0)] [(.ref a), (.int 0), (.ref vs)]) (fun _ q => XS.aloadN X17.here hx rfl (hb hby d16_121) rfl rfl q) ?_
 obtain ⟨T18, X18, e18, st18⟩ := getF X17 hx hZ hown (host := "") (Or.inl (tw95 hw)) Via.refl e17 Rv (g := (mkF m 122 #[.val (.ref a), .val (.int 0), .val (.int u), .val (.int 0), .val (.int 0)] [(.ref a), (.int 0), (.ref vs)])) rfl rfl (hb hby d16_122)
 refine Go.of (mkF m 125 #[.val (.ref a), .val (.int 0), .val (.int u), .val (.int 0), .val (.int 0)] [(.ref vs), (.int 0), (.ref vs)]) (st18) ?_
 refine Go.of (mkF m 126 #[.val (.ref a), .val (.int 0), .val (.int u), .val (.int 0), .val (.int 0)] [(.int 0), (.ref vs), (.int 0), (.ref vs)]) (fun _ q => XS.iloadN X18.here hx rfl (hb hby d16_125) rfl q) ?_
 refine Go.of (mkF m 127 #[.val (.ref a), .val (.int 0), .val (.int u), .val (.int 0), .val (.int 0)] [(.int 1), (.int 0), (.ref vs), (.int 0), (.ref vs)]) (fun _ q => XS.iconst X18.here hx rfl (hb hby d16_126) q) ?_
 refine Go.of (mkF m 128 #[.val (.ref a), .val (.int 0), .val (.int u), .val (.int 0), .val (.int 0)] [(.int ((0 : Int32) + (1 : Int32))), (.ref vs), (.int 0), (.ref vs)]) (fun _ q => XS.iadd X18.here hx rfl (hb hby d16_127) rfl q) ?_
 rw [show ((0 : Int32) + (1 : Int32)) = (1 : Int32) from by decide]
 refine Go.of (mkF m 129 #[.val (.ref a), .val (.int 0), .val (.int u), .val (.int 0), .val (.int 0)] [(.ref a), (.int 1), (.ref vs), (.int 0), (.ref vs)]) (fun _ q => XS.aloadN X18.here hx rfl (hb hby d16_128) rfl rfl q) ?_
 obtain ⟨T19, X19, e19, st19⟩ := getF X18 hx hZ hown (host := "") (Or.inl (tw122 hw)) Via.refl e18 Rs (g := (mkF m 129 #[.val (.ref a), .val (.int 0), .val (.int u), .val (.int 0), .val (.int 0)] [(.ref a), (.int 1), (.ref vs), (.int 0), (.ref vs)])) rfl rfl (hb hby d16_129)
 refine Go.of (mkF m 132 #[.val (.ref a), .val (.int 0), .val (.int u), .val (.int 0), .val (.int 0)] [(.int 0), (.int 1), (.ref vs), (.int 0), (.ref vs)]) (st19) ?_
 refine Go.of (mkF m 133 #[.val (.ref a), .val (.int 0), .val (.int u), .val (.int 0), .val (.int 0)] [(.int 0), (.int 0), (.int 1), (.ref vs), (.int 0), (.ref vs)]) (fun _ q => XS.iloadN X19.here hx rfl (hb hby d16_132) rfl q) ?_
 refine Go.of (mkF m 134 #[.val (.ref a), .val (.int 0), .val (.int u), .val (.int 0), .val (.int 0)] [(.int ((0 : Int32) - (0 : Int32))), (.int 1), (.ref vs), (.int 0), (.ref vs)]) (fun _ q => XS.isub X19.here hx rfl (hb hby d16_133) rfl q) ?_
 rw [show ((0 : Int32) - (0 : Int32)) = (0 : Int32) from by decide]
 refine Go.copy0 X19 hx hZ hown (tw132 hw) (tw135 hw) (tw133 hw) (tw134 hw) e19 Vv rfl (by decide) (by decide) (by decide) (by decide) N16 gb_vs (g := (mkF m 134 #[.val (.ref a), .val (.int 0), .val (.int u), .val (.int 0), .val (.int 0)] [(.int 0), (.int 1), (.ref vs), (.int 0), (.ref vs)])) rfl (by rw [hml]; rfl) rfl (hb hby d16_134) (by decide) (W := 0) (by show 2 * 0 + _ ≤ _; exact Nat.le_of_eq rfl) (by decide) ?_
 rintro T20 h20 L20 X20 e20 N20 K20 V20
 replace Dep := Dep.keep K20 (ninS ne_pb_vs nin0)
 replace Cst := Cst.keep K20 (ninS ne_pb_vs nin0)
 replace Ft1 := Ft1.keep K20 (ninS ne_t_vs nin0)
 replace Ft2 := Ft2.keep K20 (ninS ne_t_vs nin0)
 replace Rst := Rst.keep K20 (ninS ne_a_vs nin0)
 replace Rp := Rp.keep K20 (ninS ne_a_vs nin0)
 replace Rv := Rv.keep K20 (ninS ne_a_vs nin0)
 replace Rl := Rl.keep K20 (ninS ne_a_vs nin0)
 replace Rs := Rs.keep K20 (ninS ne_a_vs nin0)
 replace Eb := Eb.keep K20
 replace Et := Et.keep K20
 replace E := E.keep K20
 replace Vt := Vt.keep K20 (ninS ne_tc_vs nin0)
 replace V8 := V8.keep K20 (ninS (Ne.symm ne_vs_lt) nin0)
 replace hz := Nat.le_trans hz K20.1
 replace K0 := K0.trans K20 (((allS (Or.inl (by simp)) all0)))
 show Go pr ev below _ T20 (mkF m 137 #[.val (.ref a), .val (.int 0), .val (.int u), .val (.int 0), .val (.int 0)] [])
 refine Go.of (mkF m 138 #[.val (.ref a), .val (.int 0), .val (.int u), .val (.int 0), .val (.int 0)] [(.ref a)]) (fun _ q => XS.aloadN X20.here hx rfl (hb hby d16_137) rfl rfl q) ?_
 obtain ⟨T21, X21, e21, st21⟩ := getF X20 hx hZ hown (host := "") (Or.inl (tw95 hw)) Via.refl e20 Rv (g := (mkF m 138 #[.val (.ref a), .val (.int 0), .val (.int u), .val (.int 0), .val (.int 0)] [(.ref a)])) rfl rfl (hb hby d16_138)
 refine Go.of (mkF m 141 #[.val (.ref a), .val (.int 0), .val (.int u), .val (.int 0), .val (.int 0)] [(.ref vs)]) (st21) ?_
 refine Go.of (mkF m 142 #[.val (.ref a), .val (.int 0), .val (.int u), .val (.int 0), .val (.int 0)] [(.int 0), (.ref vs)]) (fun _ q => XS.iloadN X21.here hx rfl (hb hby d16_141) rfl q) ?_
 refine Go.of (mkF m 143 #[.val (.ref a), .val (.int 0), .val (.int u), .val (.int 0), .val (.int 0)] [(.int u), (.int 0), (.ref vs)]) (fun _ q => XS.iloadN X21.here hx rfl (hb hby d16_142) rfl q) ?_
 refine Go.iastore X21 hx hZ e21 V20 (by decide) (by decide) (g := (mkF m 143 #[.val (.ref a), .val (.int 0), .val (.int u), .val (.int 0), .val (.int 0)] [(.int u), (.int 0), (.ref vs)])) rfl rfl (hb hby d16_143) ?_
 rintro T22 h22 X22 e22 W22 V22
 replace Dep := Dep.other W22 (Or.inl ne_pb_vs)
 replace Cst := Cst.other W22 (Or.inl ne_pb_vs)
 replace Ft1 := Ft1.other W22 (Or.inl ne_t_vs)
 replace Ft2 := Ft2.other W22 (Or.inl ne_t_vs)
 replace Rst := Rst.other W22 (Or.inl ne_a_vs)
 replace Rp := Rp.other W22 (Or.inl ne_a_vs)
 replace Rv := Rv.other W22 (Or.inl ne_a_vs)
 replace Rl := Rl.other W22 (Or.inl ne_a_vs)
 replace Rs := Rs.other W22 (Or.inl ne_a_vs)
 replace Eb := Eb.wr W22
 replace Et := Et.wr W22
 replace E := E.wr W22
 replace Vt := Vt.other W22 ne_tc_vs
 replace V8 := V8.other W22 (Ne.symm ne_vs_lt)
 replace hz := Nat.le_trans hz (Nat.le_of_eq W22.size.symm)
 replace K0 := K0.wr W22 (Or.inl (by simp))
 replace V20 := V22
 have N22 := Fr.snoc X22 N20 gb_vs
 show Go pr ev below _ T22 (mkF m 144 #[.val (.ref a), .val (.int 0), .val (.int u), .val (.int 0), .val (.int 0)] [])
 refine Go.of (mkF m 145 #[.val (.ref a), .val (.int 0), .val (.int u), .val (.int 0), .val (.int 0)] [(.ref a)]) (fun _ q => XS.aloadN X22.here hx rfl (hb hby d16_144) rfl rfl q) ?_
 refine Go.of (mkF m 146 #[.val (.ref a), .val (.int 0), .val (.int u), .val (.int 0), .val (.int 0)] [(.ref a), (.ref a)]) (fun _ q => XS.dup X22.here hx rfl (hb hby d16_145) rfl rfl q) ?_
 obtain ⟨T23, X23, e23, st23⟩ := getF X22 hx hZ hown (host := "") (Or.inl (tw122 hw)) Via.refl e22 Rs (g := (mkF m 146 #[.val (.ref a), .val (.int 0), .val (.int u), .val (.int 0), .val (.int 0)] [(.ref a), (.ref a)])) rfl rfl (hb hby d16_146)
 refine Go.of (mkF m 149 #[.val (.ref a), .val (.int 0), .val (.int u), .val (.int 0), .val (.int 0)] [(.int 0), (.ref a)]) (st23) ?_
 refine Go.of (mkF m 150 #[.val (.ref a), .val (.int 0), .val (.int u), .val (.int 0), .val (.int 0)] [(.int 1), (.int 0), (.ref a)]) (fun _ q => XS.iconst X23.here hx rfl (hb hby d16_149) q) ?_
 refine Go.of (mkF m 151 #[.val (.ref a), .val (.int 0), .val (.int u), .val (.int 0), .val (.int 0)] [(.int ((0 : Int32) + (1 : Int32))), (.ref a)]) (fun _ q => XS.iadd X23.here hx rfl (hb hby d16_150) rfl q) ?_
 rw [show ((0 : Int32) + (1 : Int32)) = (1 : Int32) from by decide]
 obtain ⟨T24, h24, X24, e24, W24, st24⟩ := putF X23 hx hZ hown (host := "") (Or.inl (tw122 hw)) Via.refl e23 Rs E (Or.inl (tw123 hw)) (tw83 hw) (ty := .int) (by decide) rfl rfl (g := (mkF m 151 #[.val (.ref a), .val (.int 0), .val (.int u), .val (.int 0), .val (.int 0)] [(.int 1), (.ref a)])) rfl rfl (hb hby d16_151)
 replace Dep := Dep.other W24 (Or.inl ne_pb_a)
 replace Cst := Cst.other W24 (Or.inl ne_pb_a)
 replace Ft1 := Ft1.other W24 (Or.inl ne_t_a)
 replace Ft2 := Ft2.other W24 (Or.inl ne_t_a)
 replace Rst := Rst.other W24 (Or.inr (slot_ne (Or.inl (tw90 hw)) (Or.inl (tw123 hw)) (by decide) (t := .boolean) (t' := .int) (by decide) (by decide)))
 replace Rp := Rp.other W24 (Or.inr (slot_ne (Or.inr (tw92 hw)) (Or.inl (tw123 hw)) (by decide) (t := (.object "com/example/kiriman/kiriman/route/Problem")) (t' := .int) (by decide) (by decide)))
 replace Rv := Rv.other W24 (Or.inr (slot_ne (Or.inl (tw96 hw)) (Or.inl (tw123 hw)) (by decide) (t := (.array .int)) (t' := .int) (by decide) (by decide)))
 replace Rl := Rl.other W24 (Or.inr (slot_ne (Or.inl (tw98 hw)) (Or.inl (tw123 hw)) (by decide) (t := (.array .int)) (t' := .int) (by decide) (by decide)))
 replace Rs := Rs.same W24
 replace Eb := Eb.wr W24
 replace Et := Et.wr W24
 replace E := E.wr W24
 replace Vt := Vt.other W24 ne_tc_a
 replace V8 := V8.other W24 (Ne.symm ne_a_lt)
 replace V20 := V20.other W24 (Ne.symm ne_a_vs)
 replace hz := Nat.le_trans hz (Nat.le_of_eq W24.size.symm)
 replace K0 := K0.wr W24 (Or.inl (by simp))
 have N24 := Fr.snoc X24 N22 ga
 refine Go.of (mkF m 154 #[.val (.ref a), .val (.int 0), .val (.int u), .val (.int 0), .val (.int 0)] []) (st24) ?_
 refine Go.of (mkF m 155 #[.val (.ref a), .val (.int 0), .val (.int u), .val (.int 0), .val (.int 0)] [(.ref a)]) (fun _ q => XS.aloadN X24.here hx rfl (hb hby d16_154) rfl rfl q) ?_
 refine Go.of (mkF m 156 #[.val (.ref a), .val (.int 0), .val (.int u), .val (.int 0), .val (.int 0)] [(.int 1), (.ref a)]) (fun _ q => XS.iconst X24.here hx rfl (hb hby d16_155) q) ?_
 obtain ⟨T25, h25, X25, e25, W25, st25⟩ := putFN X24 hx hZ hown (tw89 hw) Via.refl e24 Rst E (Or.inl (tw90 hw)) (tw83 hw) (ty := .boolean) (v' := (.int 1)) (by decide) rfl rfl (g := (mkF m 156 #[.val (.ref a), .val (.int 0), .val (.int u), .val (.int 0), .val (.int 0)] [(.int 1), (.ref a)])) rfl rfl (hb hby d16_156)
 replace Dep := Dep.other W25 (Or.inl ne_pb_a)
 replace Cst := Cst.other W25 (Or.inl ne_pb_a)
 replace Ft1 := Ft1.other W25 (Or.inl ne_t_a)
 replace Ft2 := Ft2.other W25 (Or.inl ne_t_a)
 replace Rst := Rst.same W25
 replace Rp := Rp.other W25 (Or.inr (slot_ne (Or.inr (tw92 hw)) (Or.inl (tw90 hw)) (by decide) (t := (.object "com/example/kiriman/kiriman/route/Problem")) (t' := .boolean) (by decide) (by decide)))
 replace Rv := Rv.other W25 (Or.inr (slot_ne (Or.inl (tw96 hw)) (Or.inl (tw90 hw)) (by decide) (t := (.array .int)) (t' := .boolean) (by decide) (by decide)))
 replace Rl := Rl.other W25 (Or.inr (slot_ne (Or.inl (tw98 hw)) (Or.inl (tw90 hw)) (by decide) (t := (.array .int)) (t' := .boolean) (by decide) (by decide)))
 replace Rs := Rs.other W25 (Or.inr (slot_ne (Or.inl (tw123 hw)) (Or.inl (tw90 hw)) (by decide) (t := .int) (t' := .boolean) (by decide) (by decide)))
 replace Eb := Eb.wr W25
 replace Et := Et.wr W25
 replace E := E.wr W25
 replace Vt := Vt.other W25 ne_tc_a
 replace V8 := V8.other W25 (Ne.symm ne_a_lt)
 replace V20 := V20.other W25 (Ne.symm ne_a_vs)
 replace hz := Nat.le_trans hz (Nat.le_of_eq W25.size.symm)
 replace K0 := K0.wr W25 (Or.inl (by simp))
 have N25 := Fr.snoc X25 N24 ga
 refine Go.of (mkF m 159 #[.val (.ref a), .val (.int 0), .val (.int u), .val (.int 0), .val (.int 0)] []) (st25) ?_
 exact Go.retV X25 hx hret hlk (hb hby d16_159) (by decide) (by decide) (by rw [e25]; exact ⟨rfl, N25, K0, Rst, Rp, Rv, Rl, Rs, V20, (fnup (fnup yl (0 : Int32) (0 : Int32)) (1 : Int32) (0 : Int32)), V8⟩)
theorem ef_rmI1 (m : MethodId) (x0 : Addr) (x1 : Int32) (x2 : Int32) : entryFrame m #[(.ref x0), (.int x1), (.int x2)] 5 = mkF m 0 #[.val (.ref x0), .val (.int x1), .val (.int x2), .unset, .unset] [] := by first | (simp [entryFrame, mkF, argsToLocals, Value.category]; done) | rfl
theorem rmI1 (l : Launch) (Z : State) (a0 : Array Value) (hw : ∀ d ∈ tables_1, d.before a0 Z = true) (ws : List Jvm.Cond) (a pb t tc vs lt : Nat) (u : Int32) (y yl : Int32 → Int32) (h0 : Heap) (n0 : Nat) (hz0 : n0 ≤ h0.size) (E : Exa Z h0 a "com/example/kiriman/kiriman/route/Route") (ga : n0 ≤ a) (o1 : pb < t) (o2 : t < tc) (o3 : tc < a) (o4 : a < vs) (o5 : vs < lt) (Eb : Exa Z h0 pb "com/example/kiriman/kiriman/route/Problem") (Dep : Fld Z h0 pb "com/example/kiriman/kiriman/route/Problem" "depot" "I" (.int (0 : Int32))) (Cst : Fld Z h0 pb "com/example/kiriman/kiriman/route/Problem" "costs" "Lcom/example/kiriman/kiriman/route/Costs;" (.ref t)) (Et : Exa Z h0 t "com/example/kiriman/kiriman/route/CostMatrix") (Ft1 : Fld Z h0 t "com/example/kiriman/kiriman/route/CostMatrix" "nodes" "I" (.int (3 : Int32))) (Ft2 : Fld Z h0 t "com/example/kiriman/kiriman/route/CostMatrix" "costs" "[I" (.ref tc)) (Vt : Fa Z h0 tc .int 9 (fun i => .int ((fun _ => (0 : Int32)) i))) (Rst : Fld Z h0 a "com/example/kiriman/kiriman/route/Route" "stale" "Z" (.int (1 : Int32))) (Rp : Fld Z h0 a "com/example/kiriman/kiriman/route/Route" "problem" "Lcom/example/kiriman/kiriman/route/Problem;" (.ref pb)) (Rv : Fld Z h0 a "com/example/kiriman/kiriman/route/Route" "visits" "[I" (.ref vs)) (Rl : Fld Z h0 a "com/example/kiriman/kiriman/route/Route" "legTo" "[I" (.ref lt)) (Rs : Fld Z h0 a "com/example/kiriman/kiriman/route/Route" "size" "I" (.int (1 : Int32))) (Vv : Fa Z h0 vs .int 8 (fun i => .int (y i))) (Vl : Fa Z h0 lt .int 9 (fun i => .int (yl i))) (hu : u = 1 ∨ u = 2) (hB0 : y 0 = 0 ∨ y 0 = 1 ∨ y 0 = 2) :
    Met l Z (⟨"com/example/kiriman/kiriman/route/Route", "insert", "(II)V"⟩ : MethodName) prog_30_method_7_code 5 none ws ({ frames := 2, cells := 0, slots := 0, locals := 40 } : Room) #[(.ref a), (.int 1), (.int u)] h0 (fun v h L => v = none ∧ Fr n0 L ∧ Keep h0 h [a, vs, lt] ∧ Fld Z h a "com/example/kiriman/kiriman/route/Route" "stale" "Z" (.int (1 : Int32)) ∧ Fld Z h a "com/example/kiriman/kiriman/route/Route" "problem" "Lcom/example/kiriman/kiriman/route/Problem;" (.ref pb) ∧ Fld Z h a "com/example/kiriman/kiriman/route/Route" "visits" "[I" (.ref vs) ∧ Fld Z h a "com/example/kiriman/kiriman/route/Route" "legTo" "[I" (.ref lt) ∧ Fld Z h a "com/example/kiriman/kiriman/route/Route" "size" "I" (.int (2 : Int32)) ∧ Fa Z h vs .int 8 (fun i => .int ((fnup y (1 : Int32) u) i)) ∧ ∃ yl : Int32 → Int32, Fa Z h lt .int 9 (fun i => .int (yl i))) := by
 refine Met.intro pn24 ?_
 intro pr ev s m below meth c T0 X0 hx hZ hown hby hml hret hlk hnm e0
 refine Go.cast (ef_rmI1 m a (1 : Int32) u) ?_
 have N0 := Fr.nil n0
 have hz := hz0
 have K0 : Keep h0 h0 [a, vs, lt] := Keep.refl h0 _
 have ne_pb_t : pb ≠ t := by omega
 have ne_pb_tc : pb ≠ tc := by omega
 have ne_pb_a : pb ≠ a := by omega
 have ne_pb_vs : pb ≠ vs := by omega
 have ne_pb_lt : pb ≠ lt := by omega
 have ne_t_tc : t ≠ tc := by omega
 have ne_t_a : t ≠ a := by omega
 have ne_t_vs : t ≠ vs := by omega
 have ne_t_lt : t ≠ lt := by omega
 have ne_tc_a : tc ≠ a := by omega
 have ne_tc_vs : tc ≠ vs := by omega
 have ne_tc_lt : tc ≠ lt := by omega
 have ne_a_vs : a ≠ vs := by omega
 have ne_a_lt : a ≠ lt := by omega
 have ne_vs_lt : vs ≠ lt := by omega
 have gb_vs : n0 ≤ vs := by omega
 have gb_lt : n0 ≤ lt := by omega
 refine Go.of (mkF m 1 #[.val (.ref a), .val (.int 1), .val (.int u), .unset, .unset] [(.ref a)]) (fun _ q => XS.aloadN X0.here hx rfl (hb hby d16_0) rfl rfl q) ?_
 obtain ⟨T1, X1, e1, st1⟩ := getF X0 hx hZ hown (host := "") (Or.inl (tw122 hw)) Via.refl e0 Rs (g := (mkF m 1 #[.val (.ref a), .val (.int 1), .val (.int u), .unset, .unset] [(.ref a)])) rfl rfl (hb hby d16_1)
 refine Go.of (mkF m 4 #[.val (.ref a), .val (.int 1), .val (.int u), .unset, .unset] [(.int 1)]) (st1) ?_
 refine Go.of (mkF m 5 #[.val (.ref a), .val (.int 1), .val (.int u), .unset, .unset] [(.ref a), (.int 1)]) (fun _ q => XS.aloadN X1.here hx rfl (hb hby d16_4) rfl rfl q) ?_
 obtain ⟨T2, X2, e2, st2⟩ := getF X1 hx hZ hown (host := "") (Or.inl (tw95 hw)) Via.refl e1 Rv (g := (mkF m 5 #[.val (.ref a), .val (.int 1), .val (.int u), .unset, .unset] [(.ref a), (.int 1)])) rfl rfl (hb hby d16_5)
 refine Go.of (mkF m 8 #[.val (.ref a), .val (.int 1), .val (.int u), .unset, .unset] [(.ref vs), (.int 1)]) (st2) ?_
 refine Go.arraylength X2 hx hZ e2 Vv (g := (mkF m 8 #[.val (.ref a), .val (.int 1), .val (.int u), .unset, .unset] [(.ref vs), (.int 1)])) rfl rfl (hb hby d16_8) ?_
 show Go pr ev below _ T2 (mkF m 9 #[.val (.ref a), .val (.int 1), .val (.int u), .unset, .unset] [(.int 8), (.int 1)])
 refine Go.of (mkF m 47 #[.val (.ref a), .val (.int 1), .val (.int u), .unset, .unset] []) (fun _ q => XS.icmpYes X2.here hx rfl (pc0 := 9) (pc' := 47) rfl (hb hby d16_9) rfl (feq (by decide)).2 (by decide) (by decide) q) ?_
 refine Go.of (mkF m 48 #[.val (.ref a), .val (.int 1), .val (.int u), .unset, .unset] [(.ref a)]) (fun _ q => XS.aloadN X2.here hx rfl (hb hby d16_47) rfl rfl q) ?_
 refine Go.of (mkF m 49 #[.val (.ref a), .val (.int 1), .val (.int u), .unset, .unset] [(.int 1), (.ref a)]) (fun _ q => XS.iloadN X2.here hx rfl (hb hby d16_48) rfl q) ?_
 refine Go.priv X2 hx hZ (y := (⟨"com/example/kiriman/kiriman/route/Route", "before", "(I)I"⟩ : MethodName)) (a := a) (argsL := [(.int 1)]) (rest := []) hown (tw124 hw) (tw125 hw) (Jvm.Kit.selects_private (by decide) (tw83 hw) (tw126 hw) (tw125 hw)) (tw126 hw) (tw84 hw) (tw127 hw) (by decide) e2 E (rmB1 l Z a0 hw [] a pb vs y h0 Rp Rv Eb Dep Vv) (g := (mkF m 49 #[.val (.ref a), .val (.int 1), .val (.int u), .unset, .unset] [(.int 1), (.ref a)])) rfl (by rw [hml]; rfl) (lenOf pd25 rfl) rfl (W := 0) (by show 2 * 0 + _ ≤ _; exact Nat.le_of_eq rfl) (hb hby d16_49) (by decide) (by decide) (by decide) (by decide) ?_
 rintro T3 L3 v3 X3 ⟨rfl, rfl, hh3⟩
 have N3 := Fr.app N0 (Fr.nil n0)
 show Go pr ev below _ T3 (mkF m 52 #[.val (.ref a), .val (.int 1), .val (.int u), .unset, .unset] [(.int (y (0 : Int32)))])
 refine Go.of (mkF m 53 #[.val (.ref a), .val (.int 1), .val (.int u), .val (.int (y (0 : Int32))), .unset] []) (fun _ q => XS.istoreN X3.here hx rfl (hb hby d16_52) rfl (l' := #[.val (.ref a), .val (.int 1), .val (.int u), .val (.int (y (0 : Int32))), .unset]) rfl q) ?_
 refine Go.of (mkF m 54 #[.val (.ref a), .val (.int 1), .val (.int u), .val (.int (y (0 : Int32))), .unset] [(.ref a)]) (fun _ q => XS.aloadN X3.here hx rfl (hb hby d16_53) rfl rfl q) ?_
 refine Go.of (mkF m 55 #[.val (.ref a), .val (.int 1), .val (.int u), .val (.int (y (0 : Int32))), .unset] [(.int 1), (.ref a)]) (fun _ q => XS.iloadN X3.here hx rfl (hb hby d16_54) rfl q) ?_
 refine Go.priv X3 hx hZ (y := (⟨"com/example/kiriman/kiriman/route/Route", "after", "(I)I"⟩ : MethodName)) (a := a) (argsL := [(.int 1)]) (rest := []) hown (tw128 hw) (tw129 hw) (Jvm.Kit.selects_private (by decide) (tw83 hw) (tw130 hw) (tw129 hw)) (tw130 hw) (tw84 hw) (tw131 hw) (by decide) hh3 E (rmA1 l Z a0 hw [] a pb h0 Rp Rs Eb Dep) (g := (mkF m 55 #[.val (.ref a), .val (.int 1), .val (.int u), .val (.int (y (0 : Int32))), .unset] [(.int 1), (.ref a)])) rfl (by rw [hml]; rfl) (lenOf pd25 rfl) rfl (W := 0) (by show 2 * 0 + _ ≤ _; exact Nat.le_of_eq rfl) (hb hby d16_55) (by decide) (by decide) (by decide) (by decide) ?_
 rintro T4 L4 v4 X4 ⟨rfl, rfl, hh4⟩
 have N4 := Fr.app N3 (Fr.nil n0)
 show Go pr ev below _ T4 (mkF m 58 #[.val (.ref a), .val (.int 1), .val (.int u), .val (.int (y (0 : Int32))), .unset] [(.int 0)])
 refine Go.of (mkF m 60 #[.val (.ref a), .val (.int 1), .val (.int u), .val (.int (y (0 : Int32))), .val (.int 0)] []) (fun _ q => XS.istore X4.here hx rfl (hb hby d16_58) rfl (l' := #[.val (.ref a), .val (.int 1), .val (.int u), .val (.int (y (0 : Int32))), .val (.int 0)]) rfl q) ?_
 refine Go.of (mkF m 61 #[.val (.ref a), .val (.int 1), .val (.int u), .val (.int (y (0 : Int32))), .val (.int 0)] [(.ref a)]) (fun _ q => XS.aloadN X4.here hx rfl (hb hby d16_60) rfl rfl q) ?_
 obtain ⟨T5, X5, e5, st5⟩ := getF X4 hx hZ hown (host := "") (Or.inl (tw97 hw)) Via.refl hh4 Rl (g := (mkF m 61 #[.val (.ref a), .val (.int 1), .val (.int u), .val (.int (y (0 : Int32))), .val (.int 0)] [(.ref a)])) rfl rfl (hb hby d16_61)
 refine Go.of (mkF m 64 #[.val (.ref a), .val (.int 1), .val (.int u), .val (.int (y (0 : Int32))), .val (.int 0)] [(.ref lt)]) (st5) ?_
 refine Go.of (mkF m 65 #[.val (.ref a), .val (.int 1), .val (.int u), .val (.int (y (0 : Int32))), .val (.int 0)] [(.int 1), (.ref lt)]) (fun _ q => XS.iloadN X5.here hx rfl (hb hby d16_64) rfl q) ?_
 refine Go.of (mkF m 66 #[.val (.ref a), .val (.int 1), .val (.int u), .val (.int (y (0 : Int32))), .val (.int 0)] [(.int 1), (.int 1), (.ref lt)]) (fun _ q => XS.iconst X5.here hx rfl (hb hby d16_65) q) ?_
 refine Go.of (mkF m 67 #[.val (.ref a), .val (.int 1), .val (.int u), .val (.int (y (0 : Int32))), .val (.int 0)] [(.int ((1 : Int32) + (1 : Int32))), (.ref lt)]) (fun _ q => XS.iadd X5.here hx rfl (hb hby d16_66) rfl q) ?_
 rw [show ((1 : Int32) + (1 : Int32)) = (2 : Int32) from by decide]
 refine Go.of (mkF m 68 #[.val (.ref a), .val (.int 1), .val (.int u), .val (.int (y (0 : Int32))), .val (.int 0)] [(.ref a), (.int 2), (.ref lt)]) (fun _ q => XS.aloadN X5.here hx rfl (hb hby d16_67) rfl rfl q) ?_
 obtain ⟨T6, X6, e6, st6⟩ := getF X5 hx hZ hown (host := "") (Or.inl (tw97 hw)) Via.refl e5 Rl (g := (mkF m 68 #[.val (.ref a), .val (.int 1), .val (.int u), .val (.int (y (0 : Int32))), .val (.int 0)] [(.ref a), (.int 2), (.ref lt)])) rfl rfl (hb hby d16_68)
 refine Go.of (mkF m 71 #[.val (.ref a), .val (.int 1), .val (.int u), .val (.int (y (0 : Int32))), .val (.int 0)] [(.ref lt), (.int 2), (.ref lt)]) (st6) ?_
 refine Go.of (mkF m 72 #[.val (.ref a), .val (.int 1), .val (.int u), .val (.int (y (0 : Int32))), .val (.int 0)] [(.int 1), (.ref lt), (.int 2), (.ref lt)]) (fun _ q => XS.iloadN X6.here hx rfl (hb hby d16_71) rfl q) ?_
 refine Go.of (mkF m 73 #[.val (.ref a), .val (.int 1), .val (.int u), .val (.int (y (0 : Int32))), .val (.int 0)] [(.int 2), (.int 1), (.ref lt), (.int 2), (.ref lt)]) (fun _ q => XS.iconst X6.here hx rfl (hb hby d16_72) q) ?_
 refine Go.of (mkF m 74 #[.val (.ref a), .val (.int 1), .val (.int u), .val (.int (y (0 : Int32))), .val (.int 0)] [(.int ((1 : Int32) + (2 : Int32))), (.ref lt), (.int 2), (.ref lt)]) (fun _ q => XS.iadd X6.here hx rfl (hb hby d16_73) rfl q) ?_
 rw [show ((1 : Int32) + (2 : Int32)) = (3 : Int32) from by decide]
 refine Go.of (mkF m 75 #[.val (.ref a), .val (.int 1), .val (.int u), .val (.int (y (0 : Int32))), .val (.int 0)] [(.ref a), (.int 3), (.ref lt), (.int 2), (.ref lt)]) (fun _ q => XS.aloadN X6.here hx rfl (hb hby d16_74) rfl rfl q) ?_
 obtain ⟨T7, X7, e7, st7⟩ := getF X6 hx hZ hown (host := "") (Or.inl (tw122 hw)) Via.refl e6 Rs (g := (mkF m 75 #[.val (.ref a), .val (.int 1), .val (.int u), .val (.int (y (0 : Int32))), .val (.int 0)] [(.ref a), (.int 3), (.ref lt), (.int 2), (.ref lt)])) rfl rfl (hb hby d16_75)
 refine Go.of (mkF m 78 #[.val (.ref a), .val (.int 1), .val (.int u), .val (.int (y (0 : Int32))), .val (.int 0)] [(.int 1), (.int 3), (.ref lt), (.int 2), (.ref lt)]) (st7) ?_
 refine Go.of (mkF m 79 #[.val (.ref a), .val (.int 1), .val (.int u), .val (.int (y (0 : Int32))), .val (.int 0)] [(.int 1), (.int 1), (.int 3), (.ref lt), (.int 2), (.ref lt)]) (fun _ q => XS.iloadN X7.here hx rfl (hb hby d16_78) rfl q) ?_
 refine Go.of (mkF m 80 #[.val (.ref a), .val (.int 1), .val (.int u), .val (.int (y (0 : Int32))), .val (.int 0)] [(.int ((1 : Int32) - (1 : Int32))), (.int 3), (.ref lt), (.int 2), (.ref lt)]) (fun _ q => XS.isub X7.here hx rfl (hb hby d16_79) rfl q) ?_
 rw [show ((1 : Int32) - (1 : Int32)) = (0 : Int32) from by decide]
 refine Go.copy0 X7 hx hZ hown (tw132 hw) (tw135 hw) (tw133 hw) (tw134 hw) e7 Vl rfl (by decide) (by decide) (by decide) (by decide) N4 gb_lt (g := (mkF m 80 #[.val (.ref a), .val (.int 1), .val (.int u), .val (.int (y (0 : Int32))), .val (.int 0)] [(.int 0), (.int 3), (.ref lt), (.int 2), (.ref lt)])) rfl (by rw [hml]; rfl) rfl (hb hby d16_80) (by decide) (W := 0) (by show 2 * 0 + _ ≤ _; exact Nat.le_of_eq rfl) (by decide) ?_
 rintro T8 h8 L8 X8 e8 N8 K8 V8
 replace Dep := Dep.keep K8 (ninS ne_pb_lt nin0)
 replace Cst := Cst.keep K8 (ninS ne_pb_lt nin0)
 replace Ft1 := Ft1.keep K8 (ninS ne_t_lt nin0)
 replace Ft2 := Ft2.keep K8 (ninS ne_t_lt nin0)
 replace Rst := Rst.keep K8 (ninS ne_a_lt nin0)
 replace Rp := Rp.keep K8 (ninS ne_a_lt nin0)
 replace Rv := Rv.keep K8 (ninS ne_a_lt nin0)
 replace Rl := Rl.keep K8 (ninS ne_a_lt nin0)
 replace Rs := Rs.keep K8 (ninS ne_a_lt nin0)
 replace Eb := Eb.keep K8
 replace Et := Et.keep K8
 replace E := E.keep K8
 replace Vt := Vt.keep K8 (ninS ne_tc_lt nin0)
 replace Vv := Vv.keep K8 (ninS ne_vs_lt nin0)
 replace hz := Nat.le_trans hz K8.1
 replace K0 := K0.trans K8 (((allS (Or.inl (by simp)) all0)))
 show Go pr ev below _ T8 (mkF m 83 #[.val (.ref a), .val (.int 1), .val (.int u), .val (.int (y (0 : Int32))), .val (.int 0)] [])
 refine Go.of (mkF m 84 #[.val (.ref a), .val (.int 1), .val (.int u), .val (.int (y (0 : Int32))), .val (.int 0)] [(.ref a)]) (fun _ q => XS.aloadN X8.here hx rfl (hb hby d16_83) rfl rfl q) ?_
 obtain ⟨T9, X9, e9, st9⟩ := getF X8 hx hZ hown (host := "") (Or.inl (tw97 hw)) Via.refl e8 Rl (g := (mkF m 84 #[.val (.ref a), .val (.int 1), .val (.int u), .val (.int (y (0 : Int32))), .val (.int 0)] [(.ref a)])) rfl rfl (hb hby d16_84)
 refine Go.of (mkF m 87 #[.val (.ref a), .val (.int 1), .val (.int u), .val (.int (y (0 : Int32))), .val (.int 0)] [(.ref lt)]) (st9) ?_
 refine Go.of (mkF m 88 #[.val (.ref a), .val (.int 1), .val (.int u), .val (.int (y (0 : Int32))), .val (.int 0)] [(.int 1), (.ref lt)]) (fun _ q => XS.iloadN X9.here hx rfl (hb hby d16_87) rfl q) ?_
 refine Go.of (mkF m 89 #[.val (.ref a), .val (.int 1), .val (.int u), .val (.int (y (0 : Int32))), .val (.int 0)] [(.ref a), (.int 1), (.ref lt)]) (fun _ q => XS.aloadN X9.here hx rfl (hb hby d16_88) rfl rfl q) ?_
 obtain ⟨T10, X10, e10, st10⟩ := getF X9 hx hZ hown (host := "") (Or.inl (tw91 hw)) Via.refl e9 Rp (g := (mkF m 89 #[.val (.ref a), .val (.int 1), .val (.int u), .val (.int (y (0 : Int32))), .val (.int 0)] [(.ref a), (.int 1), (.ref lt)])) rfl rfl (hb hby d16_89)
 refine Go.of (mkF m 92 #[.val (.ref a), .val (.int 1), .val (.int u), .val (.int (y (0 : Int32))), .val (.int 0)] [(.ref pb), (.int 1), (.ref lt)]) (st10) ?_
 refine Go.of (mkF m 93 #[.val (.ref a), .val (.int 1), .val (.int u), .val (.int (y (0 : Int32))), .val (.int 0)] [(.int (y (0 : Int32))), (.ref pb), (.int 1), (.ref lt)]) (fun _ q => XS.iloadN X10.here hx rfl (hb hby d16_92) rfl q) ?_
 refine Go.of (mkF m 94 #[.val (.ref a), .val (.int 1), .val (.int u), .val (.int (y (0 : Int32))), .val (.int 0)] [(.int u), (.int (y (0 : Int32))), (.ref pb), (.int 1), (.ref lt)]) (fun _ q => XS.iloadN X10.here hx rfl (hb hby d16_93) rfl q) ?_
 refine Go.virt X10 hx hZ (y := (⟨"com/example/kiriman/kiriman/route/Problem", "cost", "(II)I"⟩ : MethodName)) (z := (⟨"com/example/kiriman/kiriman/route/Problem", "cost", "(II)I"⟩ : MethodName)) (a := pb) (argsL := [(.int (y (0 : Int32))), (.int u)]) (rest := [(.int 1), (.ref lt)]) hown (tw104 hw) (tw105 hw) (notFace_of_selects (args := #[]) (mvT hZ (tw107 hw))) (tw107 hw) (tw106 hw) (tw5 hw) (tw108 hw) (by decide) e10 Eb (rmPC l Z a0 hw [] pb t tc (y (0 : Int32)) u h8 Cst Et Ft1 Ft2 Vt (own_rng hB0 (Or.inr hu))) (g := (mkF m 94 #[.val (.ref a), .val (.int 1), .val (.int u), .val (.int (y (0 : Int32))), .val (.int 0)] [(.int u), (.int (y (0 : Int32))), (.ref pb), (.int 1), (.ref lt)])) rfl (by rw [hml]; rfl) (lenOf pd4 rfl) rfl (W := 2) (by show 2 * 0 + _ ≤ _; exact Nat.le_of_eq rfl) (hb hby d16_94) (by decide) (by decide) (by decide) (by decide) ?_
 rintro T11 L11 v11 X11 ⟨rfl, rfl, hh11⟩
 have N11 := Fr.app N8 (Fr.nil n0)
 show Go pr ev below _ T11 (mkF m 97 #[.val (.ref a), .val (.int 1), .val (.int u), .val (.int (y (0 : Int32))), .val (.int 0)] [(.int 0), (.int 1), (.ref lt)])
 refine Go.iastore X11 hx hZ hh11 V8 (by decide) (by decide) (g := (mkF m 97 #[.val (.ref a), .val (.int 1), .val (.int u), .val (.int (y (0 : Int32))), .val (.int 0)] [(.int 0), (.int 1), (.ref lt)])) rfl rfl (hb hby d16_97) ?_
 rintro T12 h12 X12 e12 W12 V12
 replace Dep := Dep.other W12 (Or.inl ne_pb_lt)
 replace Cst := Cst.other W12 (Or.inl ne_pb_lt)
 replace Ft1 := Ft1.other W12 (Or.inl ne_t_lt)
 replace Ft2 := Ft2.other W12 (Or.inl ne_t_lt)
 replace Rst := Rst.other W12 (Or.inl ne_a_lt)
 replace Rp := Rp.other W12 (Or.inl ne_a_lt)
 replace Rv := Rv.other W12 (Or.inl ne_a_lt)
 replace Rl := Rl.other W12 (Or.inl ne_a_lt)
 replace Rs := Rs.other W12 (Or.inl ne_a_lt)
 replace Eb := Eb.wr W12
 replace Et := Et.wr W12
 replace E := E.wr W12
 replace Vt := Vt.other W12 ne_tc_lt
 replace Vv := Vv.other W12 ne_vs_lt
 replace hz := Nat.le_trans hz (Nat.le_of_eq W12.size.symm)
 replace K0 := K0.wr W12 (Or.inl (by simp))
 replace V8 := V12
 have N12 := Fr.snoc X12 N11 gb_lt
 show Go pr ev below _ T12 (mkF m 98 #[.val (.ref a), .val (.int 1), .val (.int u), .val (.int (y (0 : Int32))), .val (.int 0)] [])
 refine Go.of (mkF m 99 #[.val (.ref a), .val (.int 1), .val (.int u), .val (.int (y (0 : Int32))), .val (.int 0)] [(.ref a)]) (fun _ q => XS.aloadN X12.here hx rfl (hb hby d16_98) rfl rfl q) ?_
 obtain ⟨T13, X13, e13, st13⟩ := getF X12 hx hZ hown (host := "") (Or.inl (tw97 hw)) Via.refl e12 Rl (g := (mkF m 99 #[.val (.ref a), .val (.int 1), .val (.int u), .val (.int (y (0 : Int32))), .val (.int 0)] [(.ref a)])) rfl rfl (hb hby d16_99)
 refine Go.of (mkF m 102 #[.val (.ref a), .val (.int 1), .val (.int u), .val (.int (y (0 : Int32))), .val (.int 0)] [(.ref lt)]) (st13) ?_
 refine Go.of (mkF m 103 #[.val (.ref a), .val (.int 1), .val (.int u), .val (.int (y (0 : Int32))), .val (.int 0)] [(.int 1), (.ref lt)]) (fun _ q => XS.iloadN X13.here hx rfl (hb hby d16_102) rfl q) ?_
 refine Go.of (mkF m 104 #[.val (.ref a), .val (.int 1), .val (.int u), .val (.int (y (0 : Int32))), .val (.int 0)] [(.int 1), (.int 1), (.ref lt)]) (fun _ q => XS.iconst X13.here hx rfl (hb hby d16_103) q) ?_
 refine Go.of (mkF m 105 #[.val (.ref a), .val (.int 1), .val (.int u), .val (.int (y (0 : Int32))), .val (.int 0)] [(.int ((1 : Int32) + (1 : Int32))), (.ref lt)]) (fun _ q => XS.iadd X13.here hx rfl (hb hby d16_104) rfl q) ?_
 rw [show ((1 : Int32) + (1 : Int32)) = (2 : Int32) from by decide]
 refine Go.of (mkF m 106 #[.val (.ref a), .val (.int 1), .val (.int u), .val (.int (y (0 : Int32))), .val (.int 0)] [(.ref a), (.int 2), (.ref lt)]) (fun _ q => XS.aloadN X13.here hx rfl (hb hby d16_105) rfl rfl q) ?_
 obtain ⟨T14, X14, e14, st14⟩ := getF X13 hx hZ hown (host := "") (Or.inl (tw91 hw)) Via.refl e13 Rp (g := (mkF m 106 #[.val (.ref a), .val (.int 1), .val (.int u), .val (.int (y (0 : Int32))), .val (.int 0)] [(.ref a), (.int 2), (.ref lt)])) rfl rfl (hb hby d16_106)
 refine Go.of (mkF m 109 #[.val (.ref a), .val (.int 1), .val (.int u), .val (.int (y (0 : Int32))), .val (.int 0)] [(.ref pb), (.int 2), (.ref lt)]) (st14) ?_
 refine Go.of (mkF m 110 #[.val (.ref a), .val (.int 1), .val (.int u), .val (.int (y (0 : Int32))), .val (.int 0)] [(.int u), (.ref pb), (.int 2), (.ref lt)]) (fun _ q => XS.iloadN X14.here hx rfl (hb hby d16_109) rfl q) ?_
 refine Go.of (mkF m 112 #[.val (.ref a), .val (.int 1), .val (.int u), .val (.int (y (0 : Int32))), .val (.int 0)] [(.int 0), (.int u), (.ref pb), (.int 2), (.ref lt)]) (fun _ q => XS.iload X14.here hx rfl (hb hby d16_110) rfl q) ?_
 refine Go.virt X14 hx hZ (y := (⟨"com/example/kiriman/kiriman/route/Problem", "cost", "(II)I"⟩ : MethodName)) (z := (⟨"com/example/kiriman/kiriman/route/Problem", "cost", "(II)I"⟩ : MethodName)) (a := pb) (argsL := [(.int u), (.int 0)]) (rest := [(.int 2), (.ref lt)]) hown (tw104 hw) (tw105 hw) (notFace_of_selects (args := #[]) (mvT hZ (tw107 hw))) (tw107 hw) (tw106 hw) (tw5 hw) (tw108 hw) (by decide) e14 Eb (rmPC l Z a0 hw [] pb t tc u (0 : Int32) h12 Cst Et Ft1 Ft2 Vt (own_rng (Or.inr hu) (Or.inl rfl))) (g := (mkF m 112 #[.val (.ref a), .val (.int 1), .val (.int u), .val (.int (y (0 : Int32))), .val (.int 0)] [(.int 0), (.int u), (.ref pb), (.int 2), (.ref lt)])) rfl (by rw [hml]; rfl) (lenOf pd4 rfl) rfl (W := 2) (by show 2 * 0 + _ ≤ _; exact Nat.le_of_eq rfl) (hb hby d16_112) (by decide) (by decide) (by decide) (by decide) ?_
 rintro T15 L15 v15 X15 ⟨rfl, rfl, hh15⟩
 have N15 := Fr.app N12 (Fr.nil n0)
 show Go pr ev below _ T15 (mkF m 115 #[.val (.ref a), .val (.int 1), .val (.int u), .val (.int (y (0 : Int32))), .val (.int 0)] [(.int 0), (.int 2), (.ref lt)])
 refine Go.iastore X15 hx hZ hh15 V8 (by decide) (by decide) (g := (mkF m 115 #[.val (.ref a), .val (.int 1), .val (.int u), .val (.int (y (0 : Int32))), .val (.int 0)] [(.int 0), (.int 2), (.ref lt)])) rfl rfl (hb hby d16_115) ?_
 rintro T16 h16 X16 e16 W16 V16
 replace Dep := Dep.other W16 (Or.inl ne_pb_lt)
 replace Cst := Cst.other W16 (Or.inl ne_pb_lt)
 replace Ft1 := Ft1.other W16 (Or.inl ne_t_lt)
 replace Ft2 := Ft2.other W16 (Or.inl ne_t_lt)
 replace Rst := Rst.other W16 (Or.inl ne_a_lt)
 replace Rp := Rp.other W16 (Or.inl ne_a_lt)
 replace Rv := Rv.other W16 (Or.inl ne_a_lt)
 replace Rl := Rl.other W16 (Or.inl ne_a_lt)
 replace Rs := Rs.other W16 (Or.inl ne_a_lt)
 replace Eb := Eb.wr W16
 replace Et := Et.wr W16
 replace E := E.wr W16
 replace Vt := Vt.other W16 ne_tc_lt
 replace Vv := Vv.other W16 ne_vs_lt
 replace hz := Nat.le_trans hz (Nat.le_of_eq W16.size.symm)
 replace K0 := K0.wr W16 (Or.inl (by simp))
 replace V8 := V16
 have N16 := Fr.snoc X16 N15 gb_lt
 show Go pr ev below _ T16 (mkF m 116 #[.val (.ref a), .val (.int 1), .val (.int u), .val (.int (y (0 : Int32))), .val (.int 0)] [])
 refine Go.of (mkF m 117 #[.val (.ref a), .val (.int 1), .val (.int u), .val (.int (y (0 : Int32))), .val (.int 0)] [(.ref a)]) (fun _ q => XS.aloadN X16.here hx rfl (hb hby d16_116) rfl rfl q) ?_
 obtain ⟨T17, X17, e17, st17⟩ := getF X16 hx hZ hown (host := "") (Or.inl (tw95 hw)) Via.refl e16 Rv (g := (mkF m 117 #[.val (.ref a), .val (.int 1), .val (.int u), .val (.int (y (0 : Int32))), .val (.int 0)] [(.ref a)])) rfl rfl (hb hby d16_117)
 refine Go.of (mkF m 120 #[.val (.ref a), .val (.int 1), .val (.int u), .val (.int (y (0 : Int32))), .val (.int 0)] [(.ref vs)]) (st17) ?_
 refine Go.of (mkF m 121 #[.val (.ref a), .val (.int 1), .val (.int u), .val (.int (y (0 : Int32))), .val (.int 0)] [(.int 1), (.ref vs)]) (fun _ q => XS.iloadN X17.here hx rfl (hb hby d16_120) rfl q) ?_
 refine Go.of (mkF m 122 #[.val (.ref a), .val (.int 1), .val (.int u), .val (.int (y (0 : Int32))), .val (.int 0)] [(.ref a), (.int 1), (.ref vs)]) (fun _ q => XS.aloadN X17.here hx rfl (hb hby d16_121) rfl rfl q) ?_
 obtain ⟨T18, X18, e18, st18⟩ := getF X17 hx hZ hown (host := "") (Or.inl (tw95 hw)) Via.refl e17 Rv (g := (mkF m 122 #[.val (.ref a), .val (.int 1), .val (.int u), .val (.int (y (0 : Int32))), .val (.int 0)] [(.ref a), (.int 1), (.ref vs)])) rfl rfl (hb hby d16_122)
 refine Go.of (mkF m 125 #[.val (.ref a), .val (.int 1), .val (.int u), .val (.int (y (0 : Int32))), .val (.int 0)] [(.ref vs), (.int 1), (.ref vs)]) (st18) ?_
 refine Go.of (mkF m 126 #[.val (.ref a), .val (.int 1), .val (.int u), .val (.int (y (0 : Int32))), .val (.int 0)] [(.int 1), (.ref vs), (.int 1), (.ref vs)]) (fun _ q => XS.iloadN X18.here hx rfl (hb hby d16_125) rfl q) ?_
 refine Go.of (mkF m 127 #[.val (.ref a), .val (.int 1), .val (.int u), .val (.int (y (0 : Int32))), .val (.int 0)] [(.int 1), (.int 1), (.ref vs), (.int 1), (.ref vs)]) (fun _ q => XS.iconst X18.here hx rfl (hb hby d16_126) q) ?_
 refine Go.of (mkF m 128 #[.val (.ref a), .val (.int 1), .val (.int u), .val (.int (y (0 : Int32))), .val (.int 0)] [(.int ((1 : Int32) + (1 : Int32))), (.ref vs), (.int 1), (.ref vs)]) (fun _ q => XS.iadd X18.here hx rfl (hb hby d16_127) rfl q) ?_
 rw [show ((1 : Int32) + (1 : Int32)) = (2 : Int32) from by decide]
 refine Go.of (mkF m 129 #[.val (.ref a), .val (.int 1), .val (.int u), .val (.int (y (0 : Int32))), .val (.int 0)] [(.ref a), (.int 2), (.ref vs), (.int 1), (.ref vs)]) (fun _ q => XS.aloadN X18.here hx rfl (hb hby d16_128) rfl rfl q) ?_
 obtain ⟨T19, X19, e19, st19⟩ := getF X18 hx hZ hown (host := "") (Or.inl (tw122 hw)) Via.refl e18 Rs (g := (mkF m 129 #[.val (.ref a), .val (.int 1), .val (.int u), .val (.int (y (0 : Int32))), .val (.int 0)] [(.ref a), (.int 2), (.ref vs), (.int 1), (.ref vs)])) rfl rfl (hb hby d16_129)
 refine Go.of (mkF m 132 #[.val (.ref a), .val (.int 1), .val (.int u), .val (.int (y (0 : Int32))), .val (.int 0)] [(.int 1), (.int 2), (.ref vs), (.int 1), (.ref vs)]) (st19) ?_
 refine Go.of (mkF m 133 #[.val (.ref a), .val (.int 1), .val (.int u), .val (.int (y (0 : Int32))), .val (.int 0)] [(.int 1), (.int 1), (.int 2), (.ref vs), (.int 1), (.ref vs)]) (fun _ q => XS.iloadN X19.here hx rfl (hb hby d16_132) rfl q) ?_
 refine Go.of (mkF m 134 #[.val (.ref a), .val (.int 1), .val (.int u), .val (.int (y (0 : Int32))), .val (.int 0)] [(.int ((1 : Int32) - (1 : Int32))), (.int 2), (.ref vs), (.int 1), (.ref vs)]) (fun _ q => XS.isub X19.here hx rfl (hb hby d16_133) rfl q) ?_
 rw [show ((1 : Int32) - (1 : Int32)) = (0 : Int32) from by decide]
 refine Go.copy0 X19 hx hZ hown (tw132 hw) (tw135 hw) (tw133 hw) (tw134 hw) e19 Vv rfl (by decide) (by decide) (by decide) (by decide) N16 gb_vs (g := (mkF m 134 #[.val (.ref a), .val (.int 1), .val (.int u), .val (.int (y (0 : Int32))), .val (.int 0)] [(.int 0), (.int 2), (.ref vs), (.int 1), (.ref vs)])) rfl (by rw [hml]; rfl) rfl (hb hby d16_134) (by decide) (W := 0) (by show 2 * 0 + _ ≤ _; exact Nat.le_of_eq rfl) (by decide) ?_
 rintro T20 h20 L20 X20 e20 N20 K20 V20
 replace Dep := Dep.keep K20 (ninS ne_pb_vs nin0)
 replace Cst := Cst.keep K20 (ninS ne_pb_vs nin0)
 replace Ft1 := Ft1.keep K20 (ninS ne_t_vs nin0)
 replace Ft2 := Ft2.keep K20 (ninS ne_t_vs nin0)
 replace Rst := Rst.keep K20 (ninS ne_a_vs nin0)
 replace Rp := Rp.keep K20 (ninS ne_a_vs nin0)
 replace Rv := Rv.keep K20 (ninS ne_a_vs nin0)
 replace Rl := Rl.keep K20 (ninS ne_a_vs nin0)
 replace Rs := Rs.keep K20 (ninS ne_a_vs nin0)
 replace Eb := Eb.keep K20
 replace Et := Et.keep K20
 replace E := E.keep K20
 replace Vt := Vt.keep K20 (ninS ne_tc_vs nin0)
 replace V8 := V8.keep K20 (ninS (Ne.symm ne_vs_lt) nin0)
 replace hz := Nat.le_trans hz K20.1
 replace K0 := K0.trans K20 (((allS (Or.inl (by simp)) all0)))
 show Go pr ev below _ T20 (mkF m 137 #[.val (.ref a), .val (.int 1), .val (.int u), .val (.int (y (0 : Int32))), .val (.int 0)] [])
 refine Go.of (mkF m 138 #[.val (.ref a), .val (.int 1), .val (.int u), .val (.int (y (0 : Int32))), .val (.int 0)] [(.ref a)]) (fun _ q => XS.aloadN X20.here hx rfl (hb hby d16_137) rfl rfl q) ?_
 obtain ⟨T21, X21, e21, st21⟩ := getF X20 hx hZ hown (host := "") (Or.inl (tw95 hw)) Via.refl e20 Rv (g := (mkF m 138 #[.val (.ref a), .val (.int 1), .val (.int u), .val (.int (y (0 : Int32))), .val (.int 0)] [(.ref a)])) rfl rfl (hb hby d16_138)
 refine Go.of (mkF m 141 #[.val (.ref a), .val (.int 1), .val (.int u), .val (.int (y (0 : Int32))), .val (.int 0)] [(.ref vs)]) (st21) ?_
 refine Go.of (mkF m 142 #[.val (.ref a), .val (.int 1), .val (.int u), .val (.int (y (0 : Int32))), .val (.int 0)] [(.int 1), (.ref vs)]) (fun _ q => XS.iloadN X21.here hx rfl (hb hby d16_141) rfl q) ?_
 refine Go.of (mkF m 143 #[.val (.ref a), .val (.int 1), .val (.int u), .val (.int (y (0 : Int32))), .val (.int 0)] [(.int u), (.int 1), (.ref vs)]) (fun _ q => XS.iloadN X21.here hx rfl (hb hby d16_142) rfl q) ?_
 refine Go.iastore X21 hx hZ e21 V20 (by decide) (by decide) (g := (mkF m 143 #[.val (.ref a), .val (.int 1), .val (.int u), .val (.int (y (0 : Int32))), .val (.int 0)] [(.int u), (.int 1), (.ref vs)])) rfl rfl (hb hby d16_143) ?_
 rintro T22 h22 X22 e22 W22 V22
 replace Dep := Dep.other W22 (Or.inl ne_pb_vs)
 replace Cst := Cst.other W22 (Or.inl ne_pb_vs)
 replace Ft1 := Ft1.other W22 (Or.inl ne_t_vs)
 replace Ft2 := Ft2.other W22 (Or.inl ne_t_vs)
 replace Rst := Rst.other W22 (Or.inl ne_a_vs)
 replace Rp := Rp.other W22 (Or.inl ne_a_vs)
 replace Rv := Rv.other W22 (Or.inl ne_a_vs)
 replace Rl := Rl.other W22 (Or.inl ne_a_vs)
 replace Rs := Rs.other W22 (Or.inl ne_a_vs)
 replace Eb := Eb.wr W22
 replace Et := Et.wr W22
 replace E := E.wr W22
 replace Vt := Vt.other W22 ne_tc_vs
 replace V8 := V8.other W22 (Ne.symm ne_vs_lt)
 replace hz := Nat.le_trans hz (Nat.le_of_eq W22.size.symm)
 replace K0 := K0.wr W22 (Or.inl (by simp))
 replace V20 := V22
 have N22 := Fr.snoc X22 N20 gb_vs
 show Go pr ev below _ T22 (mkF m 144 #[.val (.ref a), .val (.int 1), .val (.int u), .val (.int (y (0 : Int32))), .val (.int 0)] [])
 refine Go.of (mkF m 145 #[.val (.ref a), .val (.int 1), .val (.int u), .val (.int (y (0 : Int32))), .val (.int 0)] [(.ref a)]) (fun _ q => XS.aloadN X22.here hx rfl (hb hby d16_144) rfl rfl q) ?_
 refine Go.of (mkF m 146 #[.val (.ref a), .val (.int 1), .val (.int u), .val (.int (y (0 : Int32))), .val (.int 0)] [(.ref a), (.ref a)]) (fun _ q => XS.dup X22.here hx rfl (hb hby d16_145) rfl rfl q) ?_
 obtain ⟨T23, X23, e23, st23⟩ := getF X22 hx hZ hown (host := "") (Or.inl (tw122 hw)) Via.refl e22 Rs (g := (mkF m 146 #[.val (.ref a), .val (.int 1), .val (.int u), .val (.int (y (0 : Int32))), .val (.int 0)] [(.ref a), (.ref a)])) rfl rfl (hb hby d16_146)
 refine Go.of (mkF m 149 #[.val (.ref a), .val (.int 1), .val (.int u), .val (.int (y (0 : Int32))), .val (.int 0)] [(.int 1), (.ref a)]) (st23) ?_
 refine Go.of (mkF m 150 #[.val (.ref a), .val (.int 1), .val (.int u), .val (.int (y (0 : Int32))), .val (.int 0)] [(.int 1), (.int 1), (.ref a)]) (fun _ q => XS.iconst X23.here hx rfl (hb hby d16_149) q) ?_
 refine Go.of (mkF m 151 #[.val (.ref a), .val (.int 1), .val (.int u), .val (.int (y (0 : Int32))), .val (.int 0)] [(.int ((1 : Int32) + (1 : Int32))), (.ref a)]) (fun _ q => XS.iadd X23.here hx rfl (hb hby d16_150) rfl q) ?_
 rw [show ((1 : Int32) + (1 : Int32)) = (2 : Int32) from by decide]
 obtain ⟨T24, h24, X24, e24, W24, st24⟩ := putF X23 hx hZ hown (host := "") (Or.inl (tw122 hw)) Via.refl e23 Rs E (Or.inl (tw123 hw)) (tw83 hw) (ty := .int) (by decide) rfl rfl (g := (mkF m 151 #[.val (.ref a), .val (.int 1), .val (.int u), .val (.int (y (0 : Int32))), .val (.int 0)] [(.int 2), (.ref a)])) rfl rfl (hb hby d16_151)
 replace Dep := Dep.other W24 (Or.inl ne_pb_a)
 replace Cst := Cst.other W24 (Or.inl ne_pb_a)
 replace Ft1 := Ft1.other W24 (Or.inl ne_t_a)
 replace Ft2 := Ft2.other W24 (Or.inl ne_t_a)
 replace Rst := Rst.other W24 (Or.inr (slot_ne (Or.inl (tw90 hw)) (Or.inl (tw123 hw)) (by decide) (t := .boolean) (t' := .int) (by decide) (by decide)))
 replace Rp := Rp.other W24 (Or.inr (slot_ne (Or.inr (tw92 hw)) (Or.inl (tw123 hw)) (by decide) (t := (.object "com/example/kiriman/kiriman/route/Problem")) (t' := .int) (by decide) (by decide)))
 replace Rv := Rv.other W24 (Or.inr (slot_ne (Or.inl (tw96 hw)) (Or.inl (tw123 hw)) (by decide) (t := (.array .int)) (t' := .int) (by decide) (by decide)))
 replace Rl := Rl.other W24 (Or.inr (slot_ne (Or.inl (tw98 hw)) (Or.inl (tw123 hw)) (by decide) (t := (.array .int)) (t' := .int) (by decide) (by decide)))
 replace Rs := Rs.same W24
 replace Eb := Eb.wr W24
 replace Et := Et.wr W24
 replace E := E.wr W24
 replace Vt := Vt.other W24 ne_tc_a
 replace V8 := V8.other W24 (Ne.symm ne_a_lt)
 replace V20 := V20.other W24 (Ne.symm ne_a_vs)
 replace hz := Nat.le_trans hz (Nat.le_of_eq W24.size.symm)
 replace K0 := K0.wr W24 (Or.inl (by simp))
 have N24 := Fr.snoc X24 N22 ga
 refine Go.of (mkF m 154 #[.val (.ref a), .val (.int 1), .val (.int u), .val (.int (y (0 : Int32))), .val (.int 0)] []) (st24) ?_
 refine Go.of (mkF m 155 #[.val (.ref a), .val (.int 1), .val (.int u), .val (.int (y (0 : Int32))), .val (.int 0)] [(.ref a)]) (fun _ q => XS.aloadN X24.here hx rfl (hb hby d16_154) rfl rfl q) ?_
 refine Go.of (mkF m 156 #[.val (.ref a), .val (.int 1), .val (.int u), .val (.int (y (0 : Int32))), .val (.int 0)] [(.int 1), (.ref a)]) (fun _ q => XS.iconst X24.here hx rfl (hb hby d16_155) q) ?_
 obtain ⟨T25, h25, X25, e25, W25, st25⟩ := putFN X24 hx hZ hown (tw89 hw) Via.refl e24 Rst E (Or.inl (tw90 hw)) (tw83 hw) (ty := .boolean) (v' := (.int 1)) (by decide) rfl rfl (g := (mkF m 156 #[.val (.ref a), .val (.int 1), .val (.int u), .val (.int (y (0 : Int32))), .val (.int 0)] [(.int 1), (.ref a)])) rfl rfl (hb hby d16_156)
 replace Dep := Dep.other W25 (Or.inl ne_pb_a)
 replace Cst := Cst.other W25 (Or.inl ne_pb_a)
 replace Ft1 := Ft1.other W25 (Or.inl ne_t_a)
 replace Ft2 := Ft2.other W25 (Or.inl ne_t_a)
 replace Rst := Rst.same W25
 replace Rp := Rp.other W25 (Or.inr (slot_ne (Or.inr (tw92 hw)) (Or.inl (tw90 hw)) (by decide) (t := (.object "com/example/kiriman/kiriman/route/Problem")) (t' := .boolean) (by decide) (by decide)))
 replace Rv := Rv.other W25 (Or.inr (slot_ne (Or.inl (tw96 hw)) (Or.inl (tw90 hw)) (by decide) (t := (.array .int)) (t' := .boolean) (by decide) (by decide)))
 replace Rl := Rl.other W25 (Or.inr (slot_ne (Or.inl (tw98 hw)) (Or.inl (tw90 hw)) (by decide) (t := (.array .int)) (t' := .boolean) (by decide) (by decide)))
 replace Rs := Rs.other W25 (Or.inr (slot_ne (Or.inl (tw123 hw)) (Or.inl (tw90 hw)) (by decide) (t := .int) (t' := .boolean) (by decide) (by decide)))
 replace Eb := Eb.wr W25
 replace Et := Et.wr W25
 replace E := E.wr W25
 replace Vt := Vt.other W25 ne_tc_a
 replace V8 := V8.other W25 (Ne.symm ne_a_lt)
 replace V20 := V20.other W25 (Ne.symm ne_a_vs)
 replace hz := Nat.le_trans hz (Nat.le_of_eq W25.size.symm)
 replace K0 := K0.wr W25 (Or.inl (by simp))
 have N25 := Fr.snoc X25 N24 ga
 refine Go.of (mkF m 159 #[.val (.ref a), .val (.int 1), .val (.int u), .val (.int (y (0 : Int32))), .val (.int 0)] []) (st25) ?_
 exact Go.retV X25 hx hret hlk (hb hby d16_159) (by decide) (by decide) (by rw [e25]; exact ⟨rfl, N25, K0, Rst, Rp, Rv, Rl, Rs, V20, (fnup (fnup yl (1 : Int32) (0 : Int32)) (2 : Int32) (0 : Int32)), V8⟩)
theorem ef_rmSI (m : MethodId) (x0 : Addr) (x1 : Int32) : entryFrame m #[(.ref x0), (.int x1)] 2 = mkF m 0 #[.val (.ref x0), .val (.int x1)] [] := by first | (simp [entryFrame, mkF, argsToLocals, Value.category]; done) | rfl
theorem rmSI (l : Launch) (Z : State) (a0 : Array Value) (hw : ∀ d ∈ tables_1, d.before a0 Z = true) (ws : List Jvm.Cond) (po ro : Nat) (h0 : Heap) (n0 : Nat) (hz0 : n0 ≤ h0.size) (ga : n0 ≤ po) (E : Exa Z h0 po "com/example/kiriman/kiriman/route/Positions") (Er : Exa Z h0 ro "com/example/kiriman/kiriman/route/Route") (S1 : Fld Z h0 po "com/example/kiriman/kiriman/route/Positions" "movedCustomers" "[I" .null) (S2 : Fld Z h0 po "com/example/kiriman/kiriman/route/Positions" "keptRoutes" "[Lcom/example/kiriman/kiriman/route/Route;" .null) (S3 : Fld Z h0 po "com/example/kiriman/kiriman/route/Positions" "keptIndexes" "[I" .null) (S4 : Fld Z h0 po "com/example/kiriman/kiriman/route/Positions" "routes" "[Lcom/example/kiriman/kiriman/route/Route;" .null) (S5 : Fld Z h0 po "com/example/kiriman/kiriman/route/Positions" "indexes" "[I" .null) (S6 : Fld Z h0 po "com/example/kiriman/kiriman/route/Positions" "moved" "[Z" .null) (Sk : Fld Z h0 po "com/example/kiriman/kiriman/route/Positions" "movedCount" "I" (.int (0 : Int32))) :
    Met l Z (⟨"com/example/kiriman/kiriman/route/Positions", "<init>", "(I)V"⟩ : MethodName) prog_27_method_1_code 2 none ws ({ frames := 1, cells := 6, slots := 201, locals := 12 } : Room) #[(.ref po), (.int 3)] h0 (fun v h L => ∃ cu kr ki rt ix mv : Nat, v = none ∧ Fr n0 L ∧ Keep h0 h [po] ∧ h0.size ≤ cu ∧ cu < kr ∧ kr < ki ∧ ki < rt ∧ rt < ix ∧ ix < mv ∧ own_St Z h po cu kr ki rt ix mv ro .null .null .null .null 0 0 0 0) := by
 refine Met.intro pn26 ?_
 intro pr ev s m below meth c T0 X0 hx hZ hown hby hml hret hlk hnm e0
 refine Go.cast (ef_rmSI m po (3 : Int32)) ?_
 have N0 := Fr.nil n0
 have hz := hz0
 have K0 : Keep h0 h0 [po] := Keep.refl h0 _
 refine Go.of (mkF m 1 #[.val (.ref po), .val (.int 3)] [(.ref po)]) (fun _ q => XS.aloadN X0.here hx rfl (hb hby d19_0) rfl rfl q) ?_
 obtain ⟨T1, X1, e1, st1⟩ := initO X0 hx hZ hown (tw142 hw) (tw42 hw) (tw43 hw) e0 (g := (mkF m 1 #[.val (.ref po), .val (.int 3)] [(.ref po)])) rfl (by rw [hml]; rfl) rfl (hb hby d19_1) (by decide) (W := 0) (by show 2 * 0 + _ ≤ _; exact Nat.le_of_eq rfl) (by decide)
 refine Go.of (mkF m 4 #[.val (.ref po), .val (.int 3)] []) (st1) ?_
 refine Go.of (mkF m 5 #[.val (.ref po), .val (.int 3)] [(.ref po)]) (fun _ q => XS.aloadN X1.here hx rfl (hb hby d19_4) rfl rfl q) ?_
 refine Go.of (mkF m 7 #[.val (.ref po), .val (.int 3)] [(.int 64), (.ref po)]) (fun _ q => XS.bipush X1.here hx rfl (hb hby d19_5) q) ?_
 obtain ⟨T2, h2, k2, X2, e2, E2, A2, Q2, st2⟩ := newPE X1 hx hZ (aty := .int) (tw2 hw) e1 (g := (mkF m 7 #[.val (.ref po), .val (.int 3)] [(.int 64), (.ref po)])) rfl (hb hby d19_7) rfl (by decide) (cap := 64) (by decide) (by decide) (by decide) (by decide) (ad := "[I") (by decide +kernel)
 obtain ⟨b2, g2⟩ : ∃ z, z = h0.size := ⟨_, rfl⟩
 rw [← g2] at A2 Q2 st2
 have ne_po_b2 : po ≠ b2 := Nat.ne_of_lt (Nat.lt_of_lt_of_le E.lt (Nat.le_of_eq g2.symm))
 have ne_ro_b2 : ro ≠ b2 := Nat.ne_of_lt (Nat.lt_of_lt_of_le Er.lt (Nat.le_of_eq g2.symm))
 have gb_b2 : n0 ≤ b2 := Nat.le_trans hz (Nat.le_of_eq g2.symm)
 have sz_b2 : h0.size ≤ b2 := Nat.le_trans K0.1 (Nat.le_of_eq g2.symm)
 replace Sk := Sk.ext E2
 replace S1 := S1.ext E2
 replace S2 := S2.ext E2
 replace S3 := S3.ext E2
 replace S4 := S4.ext E2
 replace S5 := S5.ext E2
 replace S6 := S6.ext E2
 replace E := E.ext E2
 replace Er := Er.ext E2
 replace hz := Nat.le_trans hz E2.1
 replace K0 := K0.ext E2
 have V_b2 : Fa Z h2 b2 .int (64 : Int32) (fun i => .int ((fun _ => (0 : Int32)) i)) := Fa.new A2 (by decide)
 refine Go.of (mkF m 9 #[.val (.ref po), .val (.int 3)] [(.ref b2), (.ref po)]) (st2) ?_
 obtain ⟨T3, h3, X3, e3, W3, st3⟩ := putF X2 hx hZ hown (host := "") (Or.inl (tw143 hw)) Via.refl e2 S1 E (Or.inl (tw144 hw)) (tw137 hw) (ty := (.array .int)) (by decide) rfl rfl (g := (mkF m 9 #[.val (.ref po), .val (.int 3)] [(.ref b2), (.ref po)])) rfl rfl (hb hby d19_9)
 replace Sk := Sk.other W3 (Or.inr (slot_ne (Or.inl (tw177 hw)) (Or.inl (tw144 hw)) (by decide) (t := .int) (t' := (.array .int)) (by decide) (by decide)))
 replace S1 := S1.same W3
 replace S2 := S2.other W3 (Or.inr (slot_ne (Or.inl (tw147 hw)) (Or.inl (tw144 hw)) (by decide) (t := (.array (.object "com/example/kiriman/kiriman/route/Route"))) (t' := (.array .int)) (by decide) (by decide)))
 replace S3 := S3.other W3 (Or.inr (slot_ne (Or.inl (tw149 hw)) (Or.inl (tw144 hw)) (by decide) (t := (.array .int)) (t' := (.array .int)) (by decide) (by decide)))
 replace S4 := S4.other W3 (Or.inr (slot_ne (Or.inr (tw151 hw)) (Or.inl (tw144 hw)) (by decide) (t := (.array (.object "com/example/kiriman/kiriman/route/Route"))) (t' := (.array .int)) (by decide) (by decide)))
 replace S5 := S5.other W3 (Or.inr (slot_ne (Or.inr (tw153 hw)) (Or.inl (tw144 hw)) (by decide) (t := (.array .int)) (t' := (.array .int)) (by decide) (by decide)))
 replace S6 := S6.other W3 (Or.inr (slot_ne (Or.inr (tw156 hw)) (Or.inl (tw144 hw)) (by decide) (t := (.array .boolean)) (t' := (.array .int)) (by decide) (by decide)))
 replace E := E.wr W3
 replace Er := Er.wr W3
 replace Q2 := Q2.wr W3
 replace V_b2 := V_b2.other W3 (Ne.symm ne_po_b2)
 replace hz := Nat.le_trans hz (Nat.le_of_eq W3.size.symm)
 replace K0 := K0.wr W3 (Or.inl (by simp))
 have N3 := Fr.snoc X3 N0 ga
 refine Go.of (mkF m 12 #[.val (.ref po), .val (.int 3)] []) (st3) ?_
 refine Go.of (mkF m 13 #[.val (.ref po), .val (.int 3)] [(.ref po)]) (fun _ q => XS.aloadN X3.here hx rfl (hb hby d19_12) rfl rfl q) ?_
 refine Go.of (mkF m 15 #[.val (.ref po), .val (.int 3)] [(.int 64), (.ref po)]) (fun _ q => XS.bipush X3.here hx rfl (hb hby d19_13) q) ?_
 have lz0 := V_b2.lt
 obtain ⟨T4, h4, k4, X4, e4, E4, A4, Q4, O4, st4⟩ := newRE X3 hx hZ hown (tw145 hw) (tw1 hw) e3 (g := (mkF m 15 #[.val (.ref po), .val (.int 3)] [(.int 64), (.ref po)])) rfl (hb hby d19_15) rfl (by decide) (cap := 64) (by decide) (by decide) (by decide) (by decide) (ad := "[Lcom/example/kiriman/kiriman/route/Route;") rfl
 obtain ⟨b4, g4⟩ : ∃ z, z = h3.size := ⟨_, rfl⟩
 rw [← g4] at A4 Q4 st4
 have ne_po_b4 : po ≠ b4 := Nat.ne_of_lt (Nat.lt_of_lt_of_le E.lt (Nat.le_of_eq g4.symm))
 have ne_ro_b4 : ro ≠ b4 := Nat.ne_of_lt (Nat.lt_of_lt_of_le Er.lt (Nat.le_of_eq g4.symm))
 have ne_b2_b4 : b2 ≠ b4 := Nat.ne_of_lt (Nat.lt_of_lt_of_le Q2.lt (Nat.le_of_eq g4.symm))
 have gb_b4 : n0 ≤ b4 := Nat.le_trans hz (Nat.le_of_eq g4.symm)
 have sz_b4 : h0.size ≤ b4 := Nat.le_trans K0.1 (Nat.le_of_eq g4.symm)
 replace Sk := Sk.ext E4
 replace S1 := S1.ext E4
 replace S2 := S2.ext E4
 replace S3 := S3.ext E4
 replace S4 := S4.ext E4
 replace S5 := S5.ext E4
 replace S6 := S6.ext E4
 replace E := E.ext E4
 replace Er := Er.ext E4
 replace Q2 := Q2.ext E4
 replace V_b2 := V_b2.ext E4
 replace hz := Nat.le_trans hz E4.1
 replace K0 := K0.ext E4
 have V_b4 : Fa Z h4 b4 (.object "com/example/kiriman/kiriman/route/Route") (64 : Int32) (fun _ => Value.null) := Fa.new A4 (by decide)
 have U_b4 : Uty Z h4 b4 "com/example/kiriman/kiriman/route/Route" := ⟨_, A4.1, O4⟩
 refine Go.of (mkF m 18 #[.val (.ref po), .val (.int 3)] [(.ref b4), (.ref po)]) (st4) ?_
 obtain ⟨T5, h5, X5, e5, W5, st5⟩ := putF X4 hx hZ hown (host := "") (Or.inl (tw146 hw)) Via.refl e4 S2 E (Or.inl (tw147 hw)) (tw137 hw) (ty := (.array (.object "com/example/kiriman/kiriman/route/Route"))) (by decide) rfl rfl (g := (mkF m 18 #[.val (.ref po), .val (.int 3)] [(.ref b4), (.ref po)])) rfl rfl (hb hby d19_18)
 replace Sk := Sk.other W5 (Or.inr (slot_ne (Or.inl (tw177 hw)) (Or.inl (tw147 hw)) (by decide) (t := .int) (t' := (.array (.object "com/example/kiriman/kiriman/route/Route"))) (by decide) (by decide)))
 replace S1 := S1.other W5 (Or.inr (slot_ne (Or.inl (tw144 hw)) (Or.inl (tw147 hw)) (by decide) (t := (.array .int)) (t' := (.array (.object "com/example/kiriman/kiriman/route/Route"))) (by decide) (by decide)))
 replace S2 := S2.same W5
 replace S3 := S3.other W5 (Or.inr (slot_ne (Or.inl (tw149 hw)) (Or.inl (tw147 hw)) (by decide) (t := (.array .int)) (t' := (.array (.object "com/example/kiriman/kiriman/route/Route"))) (by decide) (by decide)))
 replace S4 := S4.other W5 (Or.inr (slot_ne (Or.inr (tw151 hw)) (Or.inl (tw147 hw)) (by decide) (t := (.array (.object "com/example/kiriman/kiriman/route/Route"))) (t' := (.array (.object "com/example/kiriman/kiriman/route/Route"))) (by decide) (by decide)))
 replace S5 := S5.other W5 (Or.inr (slot_ne (Or.inr (tw153 hw)) (Or.inl (tw147 hw)) (by decide) (t := (.array .int)) (t' := (.array (.object "com/example/kiriman/kiriman/route/Route"))) (by decide) (by decide)))
 replace S6 := S6.other W5 (Or.inr (slot_ne (Or.inr (tw156 hw)) (Or.inl (tw147 hw)) (by decide) (t := (.array .boolean)) (t' := (.array (.object "com/example/kiriman/kiriman/route/Route"))) (by decide) (by decide)))
 replace E := E.wr W5
 replace Er := Er.wr W5
 replace Q2 := Q2.wr W5
 replace Q4 := Q4.wr W5
 replace U_b4 := U_b4.wr W5
 replace V_b2 := V_b2.other W5 (Ne.symm ne_po_b2)
 replace V_b4 := V_b4.other W5 (Ne.symm ne_po_b4)
 replace hz := Nat.le_trans hz (Nat.le_of_eq W5.size.symm)
 replace K0 := K0.wr W5 (Or.inl (by simp))
 have N5 := Fr.snoc X5 N3 ga
 refine Go.of (mkF m 21 #[.val (.ref po), .val (.int 3)] []) (st5) ?_
 refine Go.of (mkF m 22 #[.val (.ref po), .val (.int 3)] [(.ref po)]) (fun _ q => XS.aloadN X5.here hx rfl (hb hby d19_21) rfl rfl q) ?_
 refine Go.of (mkF m 24 #[.val (.ref po), .val (.int 3)] [(.int 64), (.ref po)]) (fun _ q => XS.bipush X5.here hx rfl (hb hby d19_22) q) ?_
 have lz1 := V_b4.lt
 obtain ⟨T6, h6, k6, X6, e6, E6, A6, Q6, st6⟩ := newPE X5 hx hZ (aty := .int) (tw2 hw) e5 (g := (mkF m 24 #[.val (.ref po), .val (.int 3)] [(.int 64), (.ref po)])) rfl (hb hby d19_24) rfl (by decide) (cap := 64) (by decide) (by decide) (by decide) (by decide) (ad := "[I") (by decide +kernel)
 obtain ⟨b6, g6⟩ : ∃ z, z = h5.size := ⟨_, rfl⟩
 rw [← g6] at A6 Q6 st6
 have ne_po_b6 : po ≠ b6 := Nat.ne_of_lt (Nat.lt_of_lt_of_le E.lt (Nat.le_of_eq g6.symm))
 have ne_ro_b6 : ro ≠ b6 := Nat.ne_of_lt (Nat.lt_of_lt_of_le Er.lt (Nat.le_of_eq g6.symm))
 have ne_b2_b6 : b2 ≠ b6 := Nat.ne_of_lt (Nat.lt_of_lt_of_le Q2.lt (Nat.le_of_eq g6.symm))
 have ne_b4_b6 : b4 ≠ b6 := Nat.ne_of_lt (Nat.lt_of_lt_of_le Q4.lt (Nat.le_of_eq g6.symm))
 have gb_b6 : n0 ≤ b6 := Nat.le_trans hz (Nat.le_of_eq g6.symm)
 have sz_b6 : h0.size ≤ b6 := Nat.le_trans K0.1 (Nat.le_of_eq g6.symm)
 replace Sk := Sk.ext E6
 replace S1 := S1.ext E6
 replace S2 := S2.ext E6
 replace S3 := S3.ext E6
 replace S4 := S4.ext E6
 replace S5 := S5.ext E6
 replace S6 := S6.ext E6
 replace E := E.ext E6
 replace Er := Er.ext E6
 replace Q2 := Q2.ext E6
 replace Q4 := Q4.ext E6
 replace V_b2 := V_b2.ext E6
 replace V_b4 := V_b4.ext E6
 replace U_b4 := U_b4.ext E6
 replace hz := Nat.le_trans hz E6.1
 replace K0 := K0.ext E6
 have V_b6 : Fa Z h6 b6 .int (64 : Int32) (fun i => .int ((fun _ => (0 : Int32)) i)) := Fa.new A6 (by decide)
 refine Go.of (mkF m 26 #[.val (.ref po), .val (.int 3)] [(.ref b6), (.ref po)]) (st6) ?_
 obtain ⟨T7, h7, X7, e7, W7, st7⟩ := putF X6 hx hZ hown (host := "") (Or.inl (tw148 hw)) Via.refl e6 S3 E (Or.inl (tw149 hw)) (tw137 hw) (ty := (.array .int)) (by decide) rfl rfl (g := (mkF m 26 #[.val (.ref po), .val (.int 3)] [(.ref b6), (.ref po)])) rfl rfl (hb hby d19_26)
 replace Sk := Sk.other W7 (Or.inr (slot_ne (Or.inl (tw177 hw)) (Or.inl (tw149 hw)) (by decide) (t := .int) (t' := (.array .int)) (by decide) (by decide)))
 replace S1 := S1.other W7 (Or.inr (slot_ne (Or.inl (tw144 hw)) (Or.inl (tw149 hw)) (by decide) (t := (.array .int)) (t' := (.array .int)) (by decide) (by decide)))
 replace S2 := S2.other W7 (Or.inr (slot_ne (Or.inl (tw147 hw)) (Or.inl (tw149 hw)) (by decide) (t := (.array (.object "com/example/kiriman/kiriman/route/Route"))) (t' := (.array .int)) (by decide) (by decide)))
 replace S3 := S3.same W7
 replace S4 := S4.other W7 (Or.inr (slot_ne (Or.inr (tw151 hw)) (Or.inl (tw149 hw)) (by decide) (t := (.array (.object "com/example/kiriman/kiriman/route/Route"))) (t' := (.array .int)) (by decide) (by decide)))
 replace S5 := S5.other W7 (Or.inr (slot_ne (Or.inr (tw153 hw)) (Or.inl (tw149 hw)) (by decide) (t := (.array .int)) (t' := (.array .int)) (by decide) (by decide)))
 replace S6 := S6.other W7 (Or.inr (slot_ne (Or.inr (tw156 hw)) (Or.inl (tw149 hw)) (by decide) (t := (.array .boolean)) (t' := (.array .int)) (by decide) (by decide)))
 replace E := E.wr W7
 replace Er := Er.wr W7
 replace Q2 := Q2.wr W7
 replace Q4 := Q4.wr W7
 replace Q6 := Q6.wr W7
 replace U_b4 := U_b4.wr W7
 replace V_b2 := V_b2.other W7 (Ne.symm ne_po_b2)
 replace V_b4 := V_b4.other W7 (Ne.symm ne_po_b4)
 replace V_b6 := V_b6.other W7 (Ne.symm ne_po_b6)
 replace hz := Nat.le_trans hz (Nat.le_of_eq W7.size.symm)
 replace K0 := K0.wr W7 (Or.inl (by simp))
 have N7 := Fr.snoc X7 N5 ga
 refine Go.of (mkF m 29 #[.val (.ref po), .val (.int 3)] []) (st7) ?_
 refine Go.of (mkF m 30 #[.val (.ref po), .val (.int 3)] [(.ref po)]) (fun _ q => XS.aloadN X7.here hx rfl (hb hby d19_29) rfl rfl q) ?_
 refine Go.of (mkF m 31 #[.val (.ref po), .val (.int 3)] [(.int 3), (.ref po)]) (fun _ q => XS.iloadN X7.here hx rfl (hb hby d19_30) rfl q) ?_
 have lz2 := V_b6.lt
 obtain ⟨T8, h8, k8, X8, e8, E8, A8, Q8, O8, st8⟩ := newRE X7 hx hZ hown (tw145 hw) (tw1 hw) e7 (g := (mkF m 31 #[.val (.ref po), .val (.int 3)] [(.int 3), (.ref po)])) rfl (hb hby d19_31) rfl (by decide) (cap := 3) (by decide) (by decide) (by decide) (by decide) (ad := "[Lcom/example/kiriman/kiriman/route/Route;") rfl
 obtain ⟨b8, g8⟩ : ∃ z, z = h7.size := ⟨_, rfl⟩
 rw [← g8] at A8 Q8 st8
 have ne_po_b8 : po ≠ b8 := Nat.ne_of_lt (Nat.lt_of_lt_of_le E.lt (Nat.le_of_eq g8.symm))
 have ne_ro_b8 : ro ≠ b8 := Nat.ne_of_lt (Nat.lt_of_lt_of_le Er.lt (Nat.le_of_eq g8.symm))
 have ne_b2_b8 : b2 ≠ b8 := Nat.ne_of_lt (Nat.lt_of_lt_of_le Q2.lt (Nat.le_of_eq g8.symm))
 have ne_b4_b8 : b4 ≠ b8 := Nat.ne_of_lt (Nat.lt_of_lt_of_le Q4.lt (Nat.le_of_eq g8.symm))
 have ne_b6_b8 : b6 ≠ b8 := Nat.ne_of_lt (Nat.lt_of_lt_of_le Q6.lt (Nat.le_of_eq g8.symm))
 have gb_b8 : n0 ≤ b8 := Nat.le_trans hz (Nat.le_of_eq g8.symm)
 have sz_b8 : h0.size ≤ b8 := Nat.le_trans K0.1 (Nat.le_of_eq g8.symm)
 replace Sk := Sk.ext E8
 replace S1 := S1.ext E8
 replace S2 := S2.ext E8
 replace S3 := S3.ext E8
 replace S4 := S4.ext E8
 replace S5 := S5.ext E8
 replace S6 := S6.ext E8
 replace E := E.ext E8
 replace Er := Er.ext E8
 replace Q2 := Q2.ext E8
 replace Q4 := Q4.ext E8
 replace Q6 := Q6.ext E8
 replace V_b2 := V_b2.ext E8
 replace V_b4 := V_b4.ext E8
 replace V_b6 := V_b6.ext E8
 replace U_b4 := U_b4.ext E8
 replace hz := Nat.le_trans hz E8.1
 replace K0 := K0.ext E8
 have V_b8 : Fa Z h8 b8 (.object "com/example/kiriman/kiriman/route/Route") (3 : Int32) (fun _ => Value.null) := Fa.new A8 (by decide)
 have U_b8 : Uty Z h8 b8 "com/example/kiriman/kiriman/route/Route" := ⟨_, A8.1, O8⟩
 refine Go.of (mkF m 34 #[.val (.ref po), .val (.int 3)] [(.ref b8), (.ref po)]) (st8) ?_
 obtain ⟨T9, h9, X9, e9, W9, st9⟩ := putF X8 hx hZ hown (host := "") (Or.inl (tw150 hw)) Via.refl e8 S4 E (Or.inr ⟨(tw151 hw), rfl, hnm⟩) (tw137 hw) (ty := (.array (.object "com/example/kiriman/kiriman/route/Route"))) (by decide) rfl rfl (g := (mkF m 34 #[.val (.ref po), .val (.int 3)] [(.ref b8), (.ref po)])) rfl rfl (hb hby d19_34)
 replace Sk := Sk.other W9 (Or.inr (slot_ne (Or.inl (tw177 hw)) (Or.inr (tw151 hw)) (by decide) (t := .int) (t' := (.array (.object "com/example/kiriman/kiriman/route/Route"))) (by decide) (by decide)))
 replace S1 := S1.other W9 (Or.inr (slot_ne (Or.inl (tw144 hw)) (Or.inr (tw151 hw)) (by decide) (t := (.array .int)) (t' := (.array (.object "com/example/kiriman/kiriman/route/Route"))) (by decide) (by decide)))
 replace S2 := S2.other W9 (Or.inr (slot_ne (Or.inl (tw147 hw)) (Or.inr (tw151 hw)) (by decide) (t := (.array (.object "com/example/kiriman/kiriman/route/Route"))) (t' := (.array (.object "com/example/kiriman/kiriman/route/Route"))) (by decide) (by decide)))
 replace S3 := S3.other W9 (Or.inr (slot_ne (Or.inl (tw149 hw)) (Or.inr (tw151 hw)) (by decide) (t := (.array .int)) (t' := (.array (.object "com/example/kiriman/kiriman/route/Route"))) (by decide) (by decide)))
 replace S4 := S4.same W9
 replace S5 := S5.other W9 (Or.inr (slot_ne (Or.inr (tw153 hw)) (Or.inr (tw151 hw)) (by decide) (t := (.array .int)) (t' := (.array (.object "com/example/kiriman/kiriman/route/Route"))) (by decide) (by decide)))
 replace S6 := S6.other W9 (Or.inr (slot_ne (Or.inr (tw156 hw)) (Or.inr (tw151 hw)) (by decide) (t := (.array .boolean)) (t' := (.array (.object "com/example/kiriman/kiriman/route/Route"))) (by decide) (by decide)))
 replace E := E.wr W9
 replace Er := Er.wr W9
 replace Q2 := Q2.wr W9
 replace Q4 := Q4.wr W9
 replace Q6 := Q6.wr W9
 replace Q8 := Q8.wr W9
 replace U_b4 := U_b4.wr W9
 replace U_b8 := U_b8.wr W9
 replace V_b2 := V_b2.other W9 (Ne.symm ne_po_b2)
 replace V_b4 := V_b4.other W9 (Ne.symm ne_po_b4)
 replace V_b6 := V_b6.other W9 (Ne.symm ne_po_b6)
 replace V_b8 := V_b8.other W9 (Ne.symm ne_po_b8)
 replace hz := Nat.le_trans hz (Nat.le_of_eq W9.size.symm)
 replace K0 := K0.wr W9 (Or.inl (by simp))
 have N9 := Fr.snoc X9 N7 ga
 refine Go.of (mkF m 37 #[.val (.ref po), .val (.int 3)] []) (st9) ?_
 refine Go.of (mkF m 38 #[.val (.ref po), .val (.int 3)] [(.ref po)]) (fun _ q => XS.aloadN X9.here hx rfl (hb hby d19_37) rfl rfl q) ?_
 refine Go.of (mkF m 39 #[.val (.ref po), .val (.int 3)] [(.int 3), (.ref po)]) (fun _ q => XS.iloadN X9.here hx rfl (hb hby d19_38) rfl q) ?_
 have lz3 := V_b8.lt
 obtain ⟨T10, h10, k10, X10, e10, E10, A10, Q10, st10⟩ := newPE X9 hx hZ (aty := .int) (tw2 hw) e9 (g := (mkF m 39 #[.val (.ref po), .val (.int 3)] [(.int 3), (.ref po)])) rfl (hb hby d19_39) rfl (by decide) (cap := 3) (by decide) (by decide) (by decide) (by decide) (ad := "[I") (by decide +kernel)
 obtain ⟨b10, g10⟩ : ∃ z, z = h9.size := ⟨_, rfl⟩
 rw [← g10] at A10 Q10 st10
 have ne_po_b10 : po ≠ b10 := Nat.ne_of_lt (Nat.lt_of_lt_of_le E.lt (Nat.le_of_eq g10.symm))
 have ne_ro_b10 : ro ≠ b10 := Nat.ne_of_lt (Nat.lt_of_lt_of_le Er.lt (Nat.le_of_eq g10.symm))
 have ne_b2_b10 : b2 ≠ b10 := Nat.ne_of_lt (Nat.lt_of_lt_of_le Q2.lt (Nat.le_of_eq g10.symm))
 have ne_b4_b10 : b4 ≠ b10 := Nat.ne_of_lt (Nat.lt_of_lt_of_le Q4.lt (Nat.le_of_eq g10.symm))
 have ne_b6_b10 : b6 ≠ b10 := Nat.ne_of_lt (Nat.lt_of_lt_of_le Q6.lt (Nat.le_of_eq g10.symm))
 have ne_b8_b10 : b8 ≠ b10 := Nat.ne_of_lt (Nat.lt_of_lt_of_le Q8.lt (Nat.le_of_eq g10.symm))
 have gb_b10 : n0 ≤ b10 := Nat.le_trans hz (Nat.le_of_eq g10.symm)
 have sz_b10 : h0.size ≤ b10 := Nat.le_trans K0.1 (Nat.le_of_eq g10.symm)
 replace Sk := Sk.ext E10
 replace S1 := S1.ext E10
 replace S2 := S2.ext E10
 replace S3 := S3.ext E10
 replace S4 := S4.ext E10
 replace S5 := S5.ext E10
 replace S6 := S6.ext E10
 replace E := E.ext E10
 replace Er := Er.ext E10
 replace Q2 := Q2.ext E10
 replace Q4 := Q4.ext E10
 replace Q6 := Q6.ext E10
 replace Q8 := Q8.ext E10
 replace V_b2 := V_b2.ext E10
 replace V_b4 := V_b4.ext E10
 replace V_b6 := V_b6.ext E10
 replace V_b8 := V_b8.ext E10
 replace U_b4 := U_b4.ext E10
 replace U_b8 := U_b8.ext E10
 replace hz := Nat.le_trans hz E10.1
 replace K0 := K0.ext E10
 have V_b10 : Fa Z h10 b10 .int (3 : Int32) (fun i => .int ((fun _ => (0 : Int32)) i)) := Fa.new A10 (by decide)
 refine Go.of (mkF m 41 #[.val (.ref po), .val (.int 3)] [(.ref b10), (.ref po)]) (st10) ?_
 obtain ⟨T11, h11, X11, e11, W11, st11⟩ := putF X10 hx hZ hown (host := "") (Or.inl (tw152 hw)) Via.refl e10 S5 E (Or.inr ⟨(tw153 hw), rfl, hnm⟩) (tw137 hw) (ty := (.array .int)) (by decide) rfl rfl (g := (mkF m 41 #[.val (.ref po), .val (.int 3)] [(.ref b10), (.ref po)])) rfl rfl (hb hby d19_41)
 replace Sk := Sk.other W11 (Or.inr (slot_ne (Or.inl (tw177 hw)) (Or.inr (tw153 hw)) (by decide) (t := .int) (t' := (.array .int)) (by decide) (by decide)))
 replace S1 := S1.other W11 (Or.inr (slot_ne (Or.inl (tw144 hw)) (Or.inr (tw153 hw)) (by decide) (t := (.array .int)) (t' := (.array .int)) (by decide) (by decide)))
 replace S2 := S2.other W11 (Or.inr (slot_ne (Or.inl (tw147 hw)) (Or.inr (tw153 hw)) (by decide) (t := (.array (.object "com/example/kiriman/kiriman/route/Route"))) (t' := (.array .int)) (by decide) (by decide)))
 replace S3 := S3.other W11 (Or.inr (slot_ne (Or.inl (tw149 hw)) (Or.inr (tw153 hw)) (by decide) (t := (.array .int)) (t' := (.array .int)) (by decide) (by decide)))
 replace S4 := S4.other W11 (Or.inr (slot_ne (Or.inr (tw151 hw)) (Or.inr (tw153 hw)) (by decide) (t := (.array (.object "com/example/kiriman/kiriman/route/Route"))) (t' := (.array .int)) (by decide) (by decide)))
 replace S5 := S5.same W11
 replace S6 := S6.other W11 (Or.inr (slot_ne (Or.inr (tw156 hw)) (Or.inr (tw153 hw)) (by decide) (t := (.array .boolean)) (t' := (.array .int)) (by decide) (by decide)))
 replace E := E.wr W11
 replace Er := Er.wr W11
 replace Q2 := Q2.wr W11
 replace Q4 := Q4.wr W11
 replace Q6 := Q6.wr W11
 replace Q8 := Q8.wr W11
 replace Q10 := Q10.wr W11
 replace U_b4 := U_b4.wr W11
 replace U_b8 := U_b8.wr W11
 replace V_b2 := V_b2.other W11 (Ne.symm ne_po_b2)
 replace V_b4 := V_b4.other W11 (Ne.symm ne_po_b4)
 replace V_b6 := V_b6.other W11 (Ne.symm ne_po_b6)
 replace V_b8 := V_b8.other W11 (Ne.symm ne_po_b8)
 replace V_b10 := V_b10.other W11 (Ne.symm ne_po_b10)
 replace hz := Nat.le_trans hz (Nat.le_of_eq W11.size.symm)
 replace K0 := K0.wr W11 (Or.inl (by simp))
 have N11 := Fr.snoc X11 N9 ga
 refine Go.of (mkF m 44 #[.val (.ref po), .val (.int 3)] []) (st11) ?_
 refine Go.of (mkF m 45 #[.val (.ref po), .val (.int 3)] [(.ref po)]) (fun _ q => XS.aloadN X11.here hx rfl (hb hby d19_44) rfl rfl q) ?_
 refine Go.of (mkF m 46 #[.val (.ref po), .val (.int 3)] [(.int 3), (.ref po)]) (fun _ q => XS.iloadN X11.here hx rfl (hb hby d19_45) rfl q) ?_
 have lz4 := V_b10.lt
 obtain ⟨T12, h12, k12, X12, e12, E12, A12, Q12, st12⟩ := newPE X11 hx hZ (aty := .boolean) (tw154 hw) e11 (g := (mkF m 46 #[.val (.ref po), .val (.int 3)] [(.int 3), (.ref po)])) rfl (hb hby d19_46) rfl (by decide) (cap := 3) (by decide) (by decide) (by decide) (by decide) (ad := "[Z") (by decide +kernel)
 obtain ⟨b12, g12⟩ : ∃ z, z = h11.size := ⟨_, rfl⟩
 rw [← g12] at A12 Q12 st12
 have ne_po_b12 : po ≠ b12 := Nat.ne_of_lt (Nat.lt_of_lt_of_le E.lt (Nat.le_of_eq g12.symm))
 have ne_ro_b12 : ro ≠ b12 := Nat.ne_of_lt (Nat.lt_of_lt_of_le Er.lt (Nat.le_of_eq g12.symm))
 have ne_b2_b12 : b2 ≠ b12 := Nat.ne_of_lt (Nat.lt_of_lt_of_le Q2.lt (Nat.le_of_eq g12.symm))
 have ne_b4_b12 : b4 ≠ b12 := Nat.ne_of_lt (Nat.lt_of_lt_of_le Q4.lt (Nat.le_of_eq g12.symm))
 have ne_b6_b12 : b6 ≠ b12 := Nat.ne_of_lt (Nat.lt_of_lt_of_le Q6.lt (Nat.le_of_eq g12.symm))
 have ne_b8_b12 : b8 ≠ b12 := Nat.ne_of_lt (Nat.lt_of_lt_of_le Q8.lt (Nat.le_of_eq g12.symm))
 have ne_b10_b12 : b10 ≠ b12 := Nat.ne_of_lt (Nat.lt_of_lt_of_le Q10.lt (Nat.le_of_eq g12.symm))
 have gb_b12 : n0 ≤ b12 := Nat.le_trans hz (Nat.le_of_eq g12.symm)
 have sz_b12 : h0.size ≤ b12 := Nat.le_trans K0.1 (Nat.le_of_eq g12.symm)
 replace Sk := Sk.ext E12
 replace S1 := S1.ext E12
 replace S2 := S2.ext E12
 replace S3 := S3.ext E12
 replace S4 := S4.ext E12
 replace S5 := S5.ext E12
 replace S6 := S6.ext E12
 replace E := E.ext E12
 replace Er := Er.ext E12
 replace Q2 := Q2.ext E12
 replace Q4 := Q4.ext E12
 replace Q6 := Q6.ext E12
 replace Q8 := Q8.ext E12
 replace Q10 := Q10.ext E12
 replace V_b2 := V_b2.ext E12
 replace V_b4 := V_b4.ext E12
 replace V_b6 := V_b6.ext E12
 replace V_b8 := V_b8.ext E12
 replace V_b10 := V_b10.ext E12
 replace U_b4 := U_b4.ext E12
 replace U_b8 := U_b8.ext E12
 replace hz := Nat.le_trans hz E12.1
 replace K0 := K0.ext E12
 have V_b12 : Fa Z h12 b12 .boolean (3 : Int32) (fun i => .int ((fun _ => (0 : Int32)) i)) := Fa.new A12 (by decide)
 refine Go.of (mkF m 48 #[.val (.ref po), .val (.int 3)] [(.ref b12), (.ref po)]) (st12) ?_
 obtain ⟨T13, h13, X13, e13, W13, st13⟩ := putF X12 hx hZ hown (host := "") (Or.inl (tw155 hw)) Via.refl e12 S6 E (Or.inr ⟨(tw156 hw), rfl, hnm⟩) (tw137 hw) (ty := (.array .boolean)) (by decide) rfl rfl (g := (mkF m 48 #[.val (.ref po), .val (.int 3)] [(.ref b12), (.ref po)])) rfl rfl (hb hby d19_48)
 replace Sk := Sk.other W13 (Or.inr (slot_ne (Or.inl (tw177 hw)) (Or.inr (tw156 hw)) (by decide) (t := .int) (t' := (.array .boolean)) (by decide) (by decide)))
 replace S1 := S1.other W13 (Or.inr (slot_ne (Or.inl (tw144 hw)) (Or.inr (tw156 hw)) (by decide) (t := (.array .int)) (t' := (.array .boolean)) (by decide) (by decide)))
 replace S2 := S2.other W13 (Or.inr (slot_ne (Or.inl (tw147 hw)) (Or.inr (tw156 hw)) (by decide) (t := (.array (.object "com/example/kiriman/kiriman/route/Route"))) (t' := (.array .boolean)) (by decide) (by decide)))
 replace S3 := S3.other W13 (Or.inr (slot_ne (Or.inl (tw149 hw)) (Or.inr (tw156 hw)) (by decide) (t := (.array .int)) (t' := (.array .boolean)) (by decide) (by decide)))
 replace S4 := S4.other W13 (Or.inr (slot_ne (Or.inr (tw151 hw)) (Or.inr (tw156 hw)) (by decide) (t := (.array (.object "com/example/kiriman/kiriman/route/Route"))) (t' := (.array .boolean)) (by decide) (by decide)))
 replace S5 := S5.other W13 (Or.inr (slot_ne (Or.inr (tw153 hw)) (Or.inr (tw156 hw)) (by decide) (t := (.array .int)) (t' := (.array .boolean)) (by decide) (by decide)))
 replace S6 := S6.same W13
 replace E := E.wr W13
 replace Er := Er.wr W13
 replace Q2 := Q2.wr W13
 replace Q4 := Q4.wr W13
 replace Q6 := Q6.wr W13
 replace Q8 := Q8.wr W13
 replace Q10 := Q10.wr W13
 replace Q12 := Q12.wr W13
 replace U_b4 := U_b4.wr W13
 replace U_b8 := U_b8.wr W13
 replace V_b2 := V_b2.other W13 (Ne.symm ne_po_b2)
 replace V_b4 := V_b4.other W13 (Ne.symm ne_po_b4)
 replace V_b6 := V_b6.other W13 (Ne.symm ne_po_b6)
 replace V_b8 := V_b8.other W13 (Ne.symm ne_po_b8)
 replace V_b10 := V_b10.other W13 (Ne.symm ne_po_b10)
 replace V_b12 := V_b12.other W13 (Ne.symm ne_po_b12)
 replace hz := Nat.le_trans hz (Nat.le_of_eq W13.size.symm)
 replace K0 := K0.wr W13 (Or.inl (by simp))
 have N13 := Fr.snoc X13 N11 ga
 refine Go.of (mkF m 51 #[.val (.ref po), .val (.int 3)] []) (st13) ?_
 exact Go.retV X13 hx hret hlk (hb hby d19_51) (by decide) (by decide) (by rw [e13]; exact ⟨b2, b4, b6, b8, b10, b12, rfl, N13, K0, sz_b2, Nat.lt_of_lt_of_le lz0 (Nat.le_of_eq g4.symm), Nat.lt_of_lt_of_le lz1 (Nat.le_of_eq g6.symm), Nat.lt_of_lt_of_le lz2 (Nat.le_of_eq g8.symm), Nat.lt_of_lt_of_le lz3 (Nat.le_of_eq g10.symm), Nat.lt_of_lt_of_le lz4 (Nat.le_of_eq g12.symm), ⟨(0 : Int32), (fun _ => (0 : Int32)), (fun _ => (0 : Int32)), (fun _ => (0 : Int32)), (fun _ => (0 : Int32)), (fun _ => Value.null), (fun _ => Value.null), E, S1, S2, S3, S4, S5, S6, Sk, V_b2, V_b4, V_b6, V_b8, V_b10, V_b12, U_b4, U_b8, Er, rfl, rfl, rfl, rfl, Or.inl ⟨rfl, rfl, rfl, rfl, rfl, rfl, rfl⟩⟩⟩)
theorem ef_rmMv (m : MethodId) (x0 : Addr) (x1 : Int32) (x2 : Value) (x3 : Int32) (hr2 : x2.isRef = true) : entryFrame m #[(.ref x0), (.int x1), x2, (.int x3)] 4 = mkF m 0 #[.val (.ref x0), .val (.int x1), .val x2, .val (.int x3)] [] := by rcases ref_cases hr2 with rfl | ⟨_, rfl⟩ <;> first | (simp [entryFrame, mkF, argsToLocals, Value.category]; done) | rfl
theorem rmMv (l : Launch) (Z : State) (a0 : Array Value) (hw : ∀ d ∈ tables_1, d.before a0 Z = true) (ws : List Jvm.Cond) (po cu kr ki rt ix mv ro : Nat) (r1 r2 q1 q2 : Value) (i1 i2 j1 j2 : Int32) (h0 : Heap) (n0 : Nat) (hz0 : n0 ≤ h0.size) (ga : n0 ≤ po) (o0 : ro < po) (o1 : po < cu) (o2 : cu < kr) (o3 : kr < ki) (o4 : ki < rt) (o5 : rt < ix) (o6 : ix < mv) (St : own_St Z h0 po cu kr ki rt ix mv ro r1 r2 q1 q2 i1 i2 j1 j2) (wW iI : Int32) (zZ : Value) (hW : wW = 1 ∨ wW = 2) (hzZ : own_V ro zZ) (hv1 : own_V ro r1) (hv2 : own_V ro r2) :
    Met l Z (⟨"com/example/kiriman/kiriman/route/Positions", "move", "(ILcom/example/kiriman/kiriman/route/Route;I)V"⟩ : MethodName) prog_27_method_8_code 4 none ws ({ frames := 0, cells := 0, slots := 0, locals := 0 } : Room) #[(.ref po), (.int wW), zZ, (.int iI)] h0 (fun v h L => v = none ∧ Fr n0 L ∧ Keep h0 h [po, cu, kr, ki, rt, ix, mv] ∧ own_St Z h po cu kr ki rt ix mv ro (if wW = 1 then zZ else r1) (if wW = 2 then zZ else r2) q1 q2 (if wW = 1 then iI else i1) (if wW = 2 then iI else i2) j1 j2) := by
 refine Met.intro pn27 ?_
 intro pr ev s m below meth c T0 X0 hx hZ hown hby hml hret hlk hnm e0
 refine Go.cast (ef_rmMv m po wW zZ iI (own_isR hzZ)) ?_
 have N0 := Fr.nil n0
 have hz := hz0
 have K0 : Keep h0 h0 [po, cu, kr, ki, rt, ix, mv] := Keep.refl h0 _
 obtain ⟨k, yc, yki, yix, ymv, ykr, yrt, E, S1, S2, S3, S4, S5, S6, Sk, Vcu, Vkr, Vki, Vrt, Vix, Vmv, Ukr, Urt, Er, hr1, hr2, hi1, hi2, hD⟩ := St
 have ne_ro_po : ro ≠ po := by omega
 have ne_ro_cu : ro ≠ cu := by omega
 have ne_ro_kr : ro ≠ kr := by omega
 have ne_ro_ki : ro ≠ ki := by omega
 have ne_ro_rt : ro ≠ rt := by omega
 have ne_ro_ix : ro ≠ ix := by omega
 have ne_ro_mv : ro ≠ mv := by omega
 have ne_po_cu : po ≠ cu := by omega
 have ne_po_kr : po ≠ kr := by omega
 have ne_po_ki : po ≠ ki := by omega
 have ne_po_rt : po ≠ rt := by omega
 have ne_po_ix : po ≠ ix := by omega
 have ne_po_mv : po ≠ mv := by omega
 have ne_cu_kr : cu ≠ kr := by omega
 have ne_cu_ki : cu ≠ ki := by omega
 have ne_cu_rt : cu ≠ rt := by omega
 have ne_cu_ix : cu ≠ ix := by omega
 have ne_cu_mv : cu ≠ mv := by omega
 have ne_kr_ki : kr ≠ ki := by omega
 have ne_kr_rt : kr ≠ rt := by omega
 have ne_kr_ix : kr ≠ ix := by omega
 have ne_kr_mv : kr ≠ mv := by omega
 have ne_ki_rt : ki ≠ rt := by omega
 have ne_ki_ix : ki ≠ ix := by omega
 have ne_ki_mv : ki ≠ mv := by omega
 have ne_rt_ix : rt ≠ ix := by omega
 have ne_rt_mv : rt ≠ mv := by omega
 have ne_ix_mv : ix ≠ mv := by omega
 have gb_cu : n0 ≤ cu := by omega
 have gb_kr : n0 ≤ kr := by omega
 have gb_ki : n0 ≤ ki := by omega
 have gb_rt : n0 ≤ rt := by omega
 have gb_ix : n0 ≤ ix := by omega
 have gb_mv : n0 ≤ mv := by omega
 have hk := own_k hD
 have hwr := own_w hW
 have hvw : own_V ro (yrt wW) := own_vw hW hr1 hr2 hv1 hv2
 refine Go.of (mkF m 1 #[.val (.ref po), .val (.int wW), .val zZ, .val (.int iI)] [(.ref po)]) (fun _ q => XS.aloadN X0.here hx rfl (hb hby d23_0) rfl rfl q) ?_
 obtain ⟨T1, X1, e1, st1⟩ := getF X0 hx hZ hown (host := "") (Or.inl (tw155 hw)) Via.refl e0 S6 (g := (mkF m 1 #[.val (.ref po), .val (.int wW), .val zZ, .val (.int iI)] [(.ref po)])) rfl rfl (hb hby d23_1)
 refine Go.of (mkF m 4 #[.val (.ref po), .val (.int wW), .val zZ, .val (.int iI)] [(.ref mv)]) (st1) ?_
 refine Go.of (mkF m 5 #[.val (.ref po), .val (.int wW), .val zZ, .val (.int iI)] [(.int wW), (.ref mv)]) (fun _ q => XS.iloadN X1.here hx rfl (hb hby d23_4) rfl q) ?_
 refine Go.zaload X1 hx hZ e1 Vmv hwr.1 hwr.2 (g := (mkF m 5 #[.val (.ref po), .val (.int wW), .val zZ, .val (.int iI)] [(.int wW), (.ref mv)])) rfl rfl (hb hby d23_5) ?_
 show Go pr ev below _ T1 (mkF m 6 #[.val (.ref po), .val (.int wW), .val zZ, .val (.int iI)] [(.int (ymv wW))])
 by_cases hc6 : (ymv wW) = (0 : Int32)
 ·
  refine Go.of (mkF m 9 #[.val (.ref po), .val (.int wW), .val zZ, .val (.int iI)] []) (fun _ q => XS.ifNo X1.here hx rfl (hb hby d23_6) rfl ((if0 _ _).trans (teq hc6).2) q) ?_
  refine Go.of (mkF m 10 #[.val (.ref po), .val (.int wW), .val zZ, .val (.int iI)] [(.ref po)]) (fun _ q => XS.aloadN X1.here hx rfl (hb hby d23_9) rfl rfl q) ?_
  obtain ⟨T2, X2, e2, st2⟩ := getF X1 hx hZ hown (host := "") (Or.inl (tw176 hw)) Via.refl e1 Sk (g := (mkF m 10 #[.val (.ref po), .val (.int wW), .val zZ, .val (.int iI)] [(.ref po)])) rfl rfl (hb hby d23_10)
  refine Go.of (mkF m 13 #[.val (.ref po), .val (.int wW), .val zZ, .val (.int iI)] [(.int k)]) (st2) ?_
  refine Go.of (mkF m 14 #[.val (.ref po), .val (.int wW), .val zZ, .val (.int iI)] [(.ref po), (.int k)]) (fun _ q => XS.aloadN X2.here hx rfl (hb hby d23_13) rfl rfl q) ?_
  obtain ⟨T3, X3, e3, st3⟩ := getF X2 hx hZ hown (host := "") (Or.inl (tw143 hw)) Via.refl e2 S1 (g := (mkF m 14 #[.val (.ref po), .val (.int wW), .val zZ, .val (.int iI)] [(.ref po), (.int k)])) rfl rfl (hb hby d23_14)
  refine Go.of (mkF m 17 #[.val (.ref po), .val (.int wW), .val zZ, .val (.int iI)] [(.ref cu), (.int k)]) (st3) ?_
  refine Go.arraylength X3 hx hZ e3 Vcu (g := (mkF m 17 #[.val (.ref po), .val (.int wW), .val zZ, .val (.int iI)] [(.ref cu), (.int k)])) rfl rfl (hb hby d23_17) ?_
  show Go pr ev below _ T3 (mkF m 18 #[.val (.ref po), .val (.int wW), .val zZ, .val (.int iI)] [(.int 64), (.int k)])
  refine Go.of (mkF m 75 #[.val (.ref po), .val (.int wW), .val zZ, .val (.int iI)] []) (fun _ q => XS.icmpYes X3.here hx rfl (pc0 := 18) (pc' := 75) rfl (hb hby d23_18) rfl (feq hk.2.2).2 (by decide) (by decide) q) ?_
  refine Go.of (mkF m 76 #[.val (.ref po), .val (.int wW), .val zZ, .val (.int iI)] [(.ref po)]) (fun _ q => XS.aloadN X3.here hx rfl (hb hby d23_75) rfl rfl q) ?_
  obtain ⟨T4, X4, e4, st4⟩ := getF X3 hx hZ hown (host := "") (Or.inl (tw143 hw)) Via.refl e3 S1 (g := (mkF m 76 #[.val (.ref po), .val (.int wW), .val zZ, .val (.int iI)] [(.ref po)])) rfl rfl (hb hby d23_76)
  refine Go.of (mkF m 79 #[.val (.ref po), .val (.int wW), .val zZ, .val (.int iI)] [(.ref cu)]) (st4) ?_
  refine Go.of (mkF m 80 #[.val (.ref po), .val (.int wW), .val zZ, .val (.int iI)] [(.ref po), (.ref cu)]) (fun _ q => XS.aloadN X4.here hx rfl (hb hby d23_79) rfl rfl q) ?_
  obtain ⟨T5, X5, e5, st5⟩ := getF X4 hx hZ hown (host := "") (Or.inl (tw176 hw)) Via.refl e4 Sk (g := (mkF m 80 #[.val (.ref po), .val (.int wW), .val zZ, .val (.int iI)] [(.ref po), (.ref cu)])) rfl rfl (hb hby d23_80)
  refine Go.of (mkF m 83 #[.val (.ref po), .val (.int wW), .val zZ, .val (.int iI)] [(.int k), (.ref cu)]) (st5) ?_
  refine Go.of (mkF m 84 #[.val (.ref po), .val (.int wW), .val zZ, .val (.int iI)] [(.int wW), (.int k), (.ref cu)]) (fun _ q => XS.iloadN X5.here hx rfl (hb hby d23_83) rfl q) ?_
  refine Go.iastore X5 hx hZ e5 Vcu hk.1 hk.2.1 (g := (mkF m 84 #[.val (.ref po), .val (.int wW), .val zZ, .val (.int iI)] [(.int wW), (.int k), (.ref cu)])) rfl rfl (hb hby d23_84) ?_
  rintro T6 h6 X6 e6 W6 V6
  replace S1 := S1.other W6 (Or.inl ne_po_cu)
  replace S2 := S2.other W6 (Or.inl ne_po_cu)
  replace S3 := S3.other W6 (Or.inl ne_po_cu)
  replace S4 := S4.other W6 (Or.inl ne_po_cu)
  replace S5 := S5.other W6 (Or.inl ne_po_cu)
  replace S6 := S6.other W6 (Or.inl ne_po_cu)
  replace Sk := Sk.other W6 (Or.inl ne_po_cu)
  replace E := E.wr W6
  replace Er := Er.wr W6
  replace Ukr := Ukr.wr W6
  replace Urt := Urt.wr W6
  replace Vki := Vki.other W6 (Ne.symm ne_cu_ki)
  replace Vix := Vix.other W6 (Ne.symm ne_cu_ix)
  replace Vmv := Vmv.other W6 (Ne.symm ne_cu_mv)
  replace Vkr := Vkr.other W6 (Ne.symm ne_cu_kr)
  replace Vrt := Vrt.other W6 (Ne.symm ne_cu_rt)
  replace hz := Nat.le_trans hz (Nat.le_of_eq W6.size.symm)
  replace K0 := K0.wr W6 (Or.inl (by simp))
  replace Vcu := V6
  have N6 := Fr.snoc X6 N0 gb_cu
  show Go pr ev below _ T6 (mkF m 85 #[.val (.ref po), .val (.int wW), .val zZ, .val (.int iI)] [])
  refine Go.of (mkF m 86 #[.val (.ref po), .val (.int wW), .val zZ, .val (.int iI)] [(.ref po)]) (fun _ q => XS.aloadN X6.here hx rfl (hb hby d23_85) rfl rfl q) ?_
  obtain ⟨T7, X7, e7, st7⟩ := getF X6 hx hZ hown (host := "") (Or.inl (tw146 hw)) Via.refl e6 S2 (g := (mkF m 86 #[.val (.ref po), .val (.int wW), .val zZ, .val (.int iI)] [(.ref po)])) rfl rfl (hb hby d23_86)
  refine Go.of (mkF m 89 #[.val (.ref po), .val (.int wW), .val zZ, .val (.int iI)] [(.ref kr)]) (st7) ?_
  refine Go.of (mkF m 90 #[.val (.ref po), .val (.int wW), .val zZ, .val (.int iI)] [(.ref po), (.ref kr)]) (fun _ q => XS.aloadN X7.here hx rfl (hb hby d23_89) rfl rfl q) ?_
  obtain ⟨T8, X8, e8, st8⟩ := getF X7 hx hZ hown (host := "") (Or.inl (tw176 hw)) Via.refl e7 Sk (g := (mkF m 90 #[.val (.ref po), .val (.int wW), .val zZ, .val (.int iI)] [(.ref po), (.ref kr)])) rfl rfl (hb hby d23_90)
  refine Go.of (mkF m 93 #[.val (.ref po), .val (.int wW), .val zZ, .val (.int iI)] [(.int k), (.ref kr)]) (st8) ?_
  refine Go.of (mkF m 94 #[.val (.ref po), .val (.int wW), .val zZ, .val (.int iI)] [(.ref po), (.int k), (.ref kr)]) (fun _ q => XS.aloadN X8.here hx rfl (hb hby d23_93) rfl rfl q) ?_
  obtain ⟨T9, X9, e9, st9⟩ := getF X8 hx hZ hown (host := "") (Or.inl (tw150 hw)) Via.refl e8 S4 (g := (mkF m 94 #[.val (.ref po), .val (.int wW), .val zZ, .val (.int iI)] [(.ref po), (.int k), (.ref kr)])) rfl rfl (hb hby d23_94)
  refine Go.of (mkF m 97 #[.val (.ref po), .val (.int wW), .val zZ, .val (.int iI)] [(.ref rt), (.int k), (.ref kr)]) (st9) ?_
  refine Go.of (mkF m 98 #[.val (.ref po), .val (.int wW), .val zZ, .val (.int iI)] [(.int wW), (.ref rt), (.int k), (.ref kr)]) (fun _ q => XS.iloadN X9.here hx rfl (hb hby d23_97) rfl q) ?_
  refine Go.aaload X9 hx hZ e9 Vrt rfl hwr.1 hwr.2 (g := (mkF m 98 #[.val (.ref po), .val (.int wW), .val zZ, .val (.int iI)] [(.int wW), (.ref rt), (.int k), (.ref kr)])) rfl rfl (hb hby d23_98) ?_
  show Go pr ev below _ T9 (mkF m 99 #[.val (.ref po), .val (.int wW), .val zZ, .val (.int iI)] [(yrt wW), (.int k), (.ref kr)])
  refine Go.aastore X9 hx hZ e9 Vkr rfl (own_fit hvw) (own_sto hvw Vkr Ukr Er) hk.1 hk.2.1 (g := (mkF m 99 #[.val (.ref po), .val (.int wW), .val zZ, .val (.int iI)] [(yrt wW), (.int k), (.ref kr)])) rfl rfl (hb hby d23_99) ?_
  rintro T10 h10 X10 e10 W10 V10
  replace S1 := S1.other W10 (Or.inl ne_po_kr)
  replace S2 := S2.other W10 (Or.inl ne_po_kr)
  replace S3 := S3.other W10 (Or.inl ne_po_kr)
  replace S4 := S4.other W10 (Or.inl ne_po_kr)
  replace S5 := S5.other W10 (Or.inl ne_po_kr)
  replace S6 := S6.other W10 (Or.inl ne_po_kr)
  replace Sk := Sk.other W10 (Or.inl ne_po_kr)
  replace E := E.wr W10
  replace Er := Er.wr W10
  replace Ukr := Ukr.wr W10
  replace Urt := Urt.wr W10
  replace Vcu := Vcu.other W10 ne_cu_kr
  replace Vki := Vki.other W10 (Ne.symm ne_kr_ki)
  replace Vix := Vix.other W10 (Ne.symm ne_kr_ix)
  replace Vmv := Vmv.other W10 (Ne.symm ne_kr_mv)
  replace Vrt := Vrt.other W10 (Ne.symm ne_kr_rt)
  replace hz := Nat.le_trans hz (Nat.le_of_eq W10.size.symm)
  replace K0 := K0.wr W10 (Or.inl (by simp))
  replace Vkr := V10
  have N10 := Fr.snoc X10 N6 gb_kr
  show Go pr ev below _ T10 (mkF m 100 #[.val (.ref po), .val (.int wW), .val zZ, .val (.int iI)] [])
  refine Go.of (mkF m 101 #[.val (.ref po), .val (.int wW), .val zZ, .val (.int iI)] [(.ref po)]) (fun _ q => XS.aloadN X10.here hx rfl (hb hby d23_100) rfl rfl q) ?_
  obtain ⟨T11, X11, e11, st11⟩ := getF X10 hx hZ hown (host := "") (Or.inl (tw148 hw)) Via.refl e10 S3 (g := (mkF m 101 #[.val (.ref po), .val (.int wW), .val zZ, .val (.int iI)] [(.ref po)])) rfl rfl (hb hby d23_101)
  refine Go.of (mkF m 104 #[.val (.ref po), .val (.int wW), .val zZ, .val (.int iI)] [(.ref ki)]) (st11) ?_
  refine Go.of (mkF m 105 #[.val (.ref po), .val (.int wW), .val zZ, .val (.int iI)] [(.ref po), (.ref ki)]) (fun _ q => XS.aloadN X11.here hx rfl (hb hby d23_104) rfl rfl q) ?_
  obtain ⟨T12, X12, e12, st12⟩ := getF X11 hx hZ hown (host := "") (Or.inl (tw176 hw)) Via.refl e11 Sk (g := (mkF m 105 #[.val (.ref po), .val (.int wW), .val zZ, .val (.int iI)] [(.ref po), (.ref ki)])) rfl rfl (hb hby d23_105)
  refine Go.of (mkF m 108 #[.val (.ref po), .val (.int wW), .val zZ, .val (.int iI)] [(.int k), (.ref ki)]) (st12) ?_
  refine Go.of (mkF m 109 #[.val (.ref po), .val (.int wW), .val zZ, .val (.int iI)] [(.ref po), (.int k), (.ref ki)]) (fun _ q => XS.aloadN X12.here hx rfl (hb hby d23_108) rfl rfl q) ?_
  obtain ⟨T13, X13, e13, st13⟩ := getF X12 hx hZ hown (host := "") (Or.inl (tw152 hw)) Via.refl e12 S5 (g := (mkF m 109 #[.val (.ref po), .val (.int wW), .val zZ, .val (.int iI)] [(.ref po), (.int k), (.ref ki)])) rfl rfl (hb hby d23_109)
  refine Go.of (mkF m 112 #[.val (.ref po), .val (.int wW), .val zZ, .val (.int iI)] [(.ref ix), (.int k), (.ref ki)]) (st13) ?_
  refine Go.of (mkF m 113 #[.val (.ref po), .val (.int wW), .val zZ, .val (.int iI)] [(.int wW), (.ref ix), (.int k), (.ref ki)]) (fun _ q => XS.iloadN X13.here hx rfl (hb hby d23_112) rfl q) ?_
  refine Go.iaload X13 hx hZ e13 Vix hwr.1 hwr.2 (g := (mkF m 113 #[.val (.ref po), .val (.int wW), .val zZ, .val (.int iI)] [(.int wW), (.ref ix), (.int k), (.ref ki)])) rfl rfl (hb hby d23_113) ?_
  show Go pr ev below _ T13 (mkF m 114 #[.val (.ref po), .val (.int wW), .val zZ, .val (.int iI)] [(.int (yix wW)), (.int k), (.ref ki)])
  refine Go.iastore X13 hx hZ e13 Vki hk.1 hk.2.1 (g := (mkF m 114 #[.val (.ref po), .val (.int wW), .val zZ, .val (.int iI)] [(.int (yix wW)), (.int k), (.ref ki)])) rfl rfl (hb hby d23_114) ?_
  rintro T14 h14 X14 e14 W14 V14
  replace S1 := S1.other W14 (Or.inl ne_po_ki)
  replace S2 := S2.other W14 (Or.inl ne_po_ki)
  replace S3 := S3.other W14 (Or.inl ne_po_ki)
  replace S4 := S4.other W14 (Or.inl ne_po_ki)
  replace S5 := S5.other W14 (Or.inl ne_po_ki)
  replace S6 := S6.other W14 (Or.inl ne_po_ki)
  replace Sk := Sk.other W14 (Or.inl ne_po_ki)
  replace E := E.wr W14
  replace Er := Er.wr W14
  replace Ukr := Ukr.wr W14
  replace Urt := Urt.wr W14
  replace Vcu := Vcu.other W14 ne_cu_ki
  replace Vix := Vix.other W14 (Ne.symm ne_ki_ix)
  replace Vmv := Vmv.other W14 (Ne.symm ne_ki_mv)
  replace Vkr := Vkr.other W14 ne_kr_ki
  replace Vrt := Vrt.other W14 (Ne.symm ne_ki_rt)
  replace hz := Nat.le_trans hz (Nat.le_of_eq W14.size.symm)
  replace K0 := K0.wr W14 (Or.inl (by simp))
  replace Vki := V14
  have N14 := Fr.snoc X14 N10 gb_ki
  show Go pr ev below _ T14 (mkF m 115 #[.val (.ref po), .val (.int wW), .val zZ, .val (.int iI)] [])
  refine Go.of (mkF m 116 #[.val (.ref po), .val (.int wW), .val zZ, .val (.int iI)] [(.ref po)]) (fun _ q => XS.aloadN X14.here hx rfl (hb hby d23_115) rfl rfl q) ?_
  refine Go.of (mkF m 117 #[.val (.ref po), .val (.int wW), .val zZ, .val (.int iI)] [(.ref po), (.ref po)]) (fun _ q => XS.dup X14.here hx rfl (hb hby d23_116) rfl rfl q) ?_
  obtain ⟨T15, X15, e15, st15⟩ := getF X14 hx hZ hown (host := "") (Or.inl (tw176 hw)) Via.refl e14 Sk (g := (mkF m 117 #[.val (.ref po), .val (.int wW), .val zZ, .val (.int iI)] [(.ref po), (.ref po)])) rfl rfl (hb hby d23_117)
  refine Go.of (mkF m 120 #[.val (.ref po), .val (.int wW), .val zZ, .val (.int iI)] [(.int k), (.ref po)]) (st15) ?_
  refine Go.of (mkF m 121 #[.val (.ref po), .val (.int wW), .val zZ, .val (.int iI)] [(.int 1), (.int k), (.ref po)]) (fun _ q => XS.iconst X15.here hx rfl (hb hby d23_120) q) ?_
  refine Go.of (mkF m 122 #[.val (.ref po), .val (.int wW), .val zZ, .val (.int iI)] [(.int (k + (1 : Int32))), (.ref po)]) (fun _ q => XS.iadd X15.here hx rfl (hb hby d23_121) rfl q) ?_
  obtain ⟨T16, h16, X16, e16, W16, st16⟩ := putF X15 hx hZ hown (host := "") (Or.inl (tw176 hw)) Via.refl e15 Sk E (Or.inl (tw177 hw)) (tw137 hw) (ty := .int) (by decide) rfl rfl (g := (mkF m 122 #[.val (.ref po), .val (.int wW), .val zZ, .val (.int iI)] [(.int (k + (1 : Int32))), (.ref po)])) rfl rfl (hb hby d23_122)
  replace S1 := S1.other W16 (Or.inr (slot_ne (Or.inl (tw144 hw)) (Or.inl (tw177 hw)) (by decide) (t := (.array .int)) (t' := .int) (by decide) (by decide)))
  replace S2 := S2.other W16 (Or.inr (slot_ne (Or.inl (tw147 hw)) (Or.inl (tw177 hw)) (by decide) (t := (.array (.object "com/example/kiriman/kiriman/route/Route"))) (t' := .int) (by decide) (by decide)))
  replace S3 := S3.other W16 (Or.inr (slot_ne (Or.inl (tw149 hw)) (Or.inl (tw177 hw)) (by decide) (t := (.array .int)) (t' := .int) (by decide) (by decide)))
  replace S4 := S4.other W16 (Or.inr (slot_ne (Or.inr (tw151 hw)) (Or.inl (tw177 hw)) (by decide) (t := (.array (.object "com/example/kiriman/kiriman/route/Route"))) (t' := .int) (by decide) (by decide)))
  replace S5 := S5.other W16 (Or.inr (slot_ne (Or.inr (tw153 hw)) (Or.inl (tw177 hw)) (by decide) (t := (.array .int)) (t' := .int) (by decide) (by decide)))
  replace S6 := S6.other W16 (Or.inr (slot_ne (Or.inr (tw156 hw)) (Or.inl (tw177 hw)) (by decide) (t := (.array .boolean)) (t' := .int) (by decide) (by decide)))
  replace Sk := Sk.same W16
  replace E := E.wr W16
  replace Er := Er.wr W16
  replace Ukr := Ukr.wr W16
  replace Urt := Urt.wr W16
  replace Vcu := Vcu.other W16 (Ne.symm ne_po_cu)
  replace Vki := Vki.other W16 (Ne.symm ne_po_ki)
  replace Vix := Vix.other W16 (Ne.symm ne_po_ix)
  replace Vmv := Vmv.other W16 (Ne.symm ne_po_mv)
  replace Vkr := Vkr.other W16 (Ne.symm ne_po_kr)
  replace Vrt := Vrt.other W16 (Ne.symm ne_po_rt)
  replace hz := Nat.le_trans hz (Nat.le_of_eq W16.size.symm)
  replace K0 := K0.wr W16 (Or.inl (by simp))
  have N16 := Fr.snoc X16 N14 ga
  refine Go.of (mkF m 125 #[.val (.ref po), .val (.int wW), .val zZ, .val (.int iI)] []) (st16) ?_
  refine Go.of (mkF m 126 #[.val (.ref po), .val (.int wW), .val zZ, .val (.int iI)] [(.ref po)]) (fun _ q => XS.aloadN X16.here hx rfl (hb hby d23_125) rfl rfl q) ?_
  obtain ⟨T17, X17, e17, st17⟩ := getF X16 hx hZ hown (host := "") (Or.inl (tw155 hw)) Via.refl e16 S6 (g := (mkF m 126 #[.val (.ref po), .val (.int wW), .val zZ, .val (.int iI)] [(.ref po)])) rfl rfl (hb hby d23_126)
  refine Go.of (mkF m 129 #[.val (.ref po), .val (.int wW), .val zZ, .val (.int iI)] [(.ref mv)]) (st17) ?_
  refine Go.of (mkF m 130 #[.val (.ref po), .val (.int wW), .val zZ, .val (.int iI)] [(.int wW), (.ref mv)]) (fun _ q => XS.iloadN X17.here hx rfl (hb hby d23_129) rfl q) ?_
  refine Go.of (mkF m 131 #[.val (.ref po), .val (.int wW), .val zZ, .val (.int iI)] [(.int 1), (.int wW), (.ref mv)]) (fun _ q => XS.iconst X17.here hx rfl (hb hby d23_130) q) ?_
  refine Go.zastore X17 hx hZ e17 Vmv hwr.1 hwr.2 (g := (mkF m 131 #[.val (.ref po), .val (.int wW), .val zZ, .val (.int iI)] [(.int 1), (.int wW), (.ref mv)])) rfl rfl (hb hby d23_131) ?_
  rintro T18 h18 X18 e18 W18 V18
  replace S1 := S1.other W18 (Or.inl ne_po_mv)
  replace S2 := S2.other W18 (Or.inl ne_po_mv)
  replace S3 := S3.other W18 (Or.inl ne_po_mv)
  replace S4 := S4.other W18 (Or.inl ne_po_mv)
  replace S5 := S5.other W18 (Or.inl ne_po_mv)
  replace S6 := S6.other W18 (Or.inl ne_po_mv)
  replace Sk := Sk.other W18 (Or.inl ne_po_mv)
  replace E := E.wr W18
  replace Er := Er.wr W18
  replace Ukr := Ukr.wr W18
  replace Urt := Urt.wr W18
  replace Vcu := Vcu.other W18 ne_cu_mv
  replace Vki := Vki.other W18 ne_ki_mv
  replace Vix := Vix.other W18 ne_ix_mv
  replace Vkr := Vkr.other W18 ne_kr_mv
  replace Vrt := Vrt.other W18 ne_rt_mv
  replace hz := Nat.le_trans hz (Nat.le_of_eq W18.size.symm)
  replace K0 := K0.wr W18 (Or.inl (by simp))
  replace Vmv := V18
  rw [show nar .boolean (1 : Int32) = (1 : Int32) from by decide] at Vmv
  have N18 := Fr.snoc X18 N16 gb_mv
  show Go pr ev below _ T18 (mkF m 132 #[.val (.ref po), .val (.int wW), .val zZ, .val (.int iI)] [])
  refine Go.of (mkF m 133 #[.val (.ref po), .val (.int wW), .val zZ, .val (.int iI)] [(.ref po)]) (fun _ q => XS.aloadN X18.here hx rfl (hb hby d23_132) rfl rfl q) ?_
  obtain ⟨T19, X19, e19, st19⟩ := getF X18 hx hZ hown (host := "") (Or.inl (tw150 hw)) Via.refl e18 S4 (g := (mkF m 133 #[.val (.ref po), .val (.int wW), .val zZ, .val (.int iI)] [(.ref po)])) rfl rfl (hb hby d23_133)
  refine Go.of (mkF m 136 #[.val (.ref po), .val (.int wW), .val zZ, .val (.int iI)] [(.ref rt)]) (st19) ?_
  refine Go.of (mkF m 137 #[.val (.ref po), .val (.int wW), .val zZ, .val (.int iI)] [(.int wW), (.ref rt)]) (fun _ q => XS.iloadN X19.here hx rfl (hb hby d23_136) rfl q) ?_
  refine Go.of (mkF m 138 #[.val (.ref po), .val (.int wW), .val zZ, .val (.int iI)] [zZ, (.int wW), (.ref rt)]) (fun _ q => XS.aloadN X19.here hx rfl (hb hby d23_137) rfl (own_isR hzZ) q) ?_
  refine Go.aastore X19 hx hZ e19 Vrt rfl (own_fit hzZ) (own_sto hzZ Vrt Urt Er) hwr.1 hwr.2 (g := (mkF m 138 #[.val (.ref po), .val (.int wW), .val zZ, .val (.int iI)] [zZ, (.int wW), (.ref rt)])) rfl rfl (hb hby d23_138) ?_
  rintro T20 h20 X20 e20 W20 V20
  replace S1 := S1.other W20 (Or.inl ne_po_rt)
  replace S2 := S2.other W20 (Or.inl ne_po_rt)
  replace S3 := S3.other W20 (Or.inl ne_po_rt)
  replace S4 := S4.other W20 (Or.inl ne_po_rt)
  replace S5 := S5.other W20 (Or.inl ne_po_rt)
  replace S6 := S6.other W20 (Or.inl ne_po_rt)
  replace Sk := Sk.other W20 (Or.inl ne_po_rt)
  replace E := E.wr W20
  replace Er := Er.wr W20
  replace Ukr := Ukr.wr W20
  replace Urt := Urt.wr W20
  replace Vcu := Vcu.other W20 ne_cu_rt
  replace Vki := Vki.other W20 ne_ki_rt
  replace Vix := Vix.other W20 (Ne.symm ne_rt_ix)
  replace Vmv := Vmv.other W20 (Ne.symm ne_rt_mv)
  replace Vkr := Vkr.other W20 ne_kr_rt
  replace hz := Nat.le_trans hz (Nat.le_of_eq W20.size.symm)
  replace K0 := K0.wr W20 (Or.inl (by simp))
  replace Vrt := V20
  have N20 := Fr.snoc X20 N18 gb_rt
  show Go pr ev below _ T20 (mkF m 139 #[.val (.ref po), .val (.int wW), .val zZ, .val (.int iI)] [])
  refine Go.of (mkF m 140 #[.val (.ref po), .val (.int wW), .val zZ, .val (.int iI)] [(.ref po)]) (fun _ q => XS.aloadN X20.here hx rfl (hb hby d23_139) rfl rfl q) ?_
  obtain ⟨T21, X21, e21, st21⟩ := getF X20 hx hZ hown (host := "") (Or.inl (tw152 hw)) Via.refl e20 S5 (g := (mkF m 140 #[.val (.ref po), .val (.int wW), .val zZ, .val (.int iI)] [(.ref po)])) rfl rfl (hb hby d23_140)
  refine Go.of (mkF m 143 #[.val (.ref po), .val (.int wW), .val zZ, .val (.int iI)] [(.ref ix)]) (st21) ?_
  refine Go.of (mkF m 144 #[.val (.ref po), .val (.int wW), .val zZ, .val (.int iI)] [(.int wW), (.ref ix)]) (fun _ q => XS.iloadN X21.here hx rfl (hb hby d23_143) rfl q) ?_
  refine Go.of (mkF m 145 #[.val (.ref po), .val (.int wW), .val zZ, .val (.int iI)] [(.int iI), (.int wW), (.ref ix)]) (fun _ q => XS.iloadN X21.here hx rfl (hb hby d23_144) rfl q) ?_
  refine Go.iastore X21 hx hZ e21 Vix hwr.1 hwr.2 (g := (mkF m 145 #[.val (.ref po), .val (.int wW), .val zZ, .val (.int iI)] [(.int iI), (.int wW), (.ref ix)])) rfl rfl (hb hby d23_145) ?_
  rintro T22 h22 X22 e22 W22 V22
  replace S1 := S1.other W22 (Or.inl ne_po_ix)
  replace S2 := S2.other W22 (Or.inl ne_po_ix)
  replace S3 := S3.other W22 (Or.inl ne_po_ix)
  replace S4 := S4.other W22 (Or.inl ne_po_ix)
  replace S5 := S5.other W22 (Or.inl ne_po_ix)
  replace S6 := S6.other W22 (Or.inl ne_po_ix)
  replace Sk := Sk.other W22 (Or.inl ne_po_ix)
  replace E := E.wr W22
  replace Er := Er.wr W22
  replace Ukr := Ukr.wr W22
  replace Urt := Urt.wr W22
  replace Vcu := Vcu.other W22 ne_cu_ix
  replace Vki := Vki.other W22 ne_ki_ix
  replace Vmv := Vmv.other W22 (Ne.symm ne_ix_mv)
  replace Vkr := Vkr.other W22 ne_kr_ix
  replace Vrt := Vrt.other W22 ne_rt_ix
  replace hz := Nat.le_trans hz (Nat.le_of_eq W22.size.symm)
  replace K0 := K0.wr W22 (Or.inl (by simp))
  replace Vix := V22
  have N22 := Fr.snoc X22 N20 gb_ix
  show Go pr ev below _ T22 (mkF m 146 #[.val (.ref po), .val (.int wW), .val zZ, .val (.int iI)] [])
  exact Go.retV X22 hx hret hlk (hb hby d23_146) (by decide) (by decide) (by rw [e22]; exact ⟨rfl, N22, K0, ⟨(k + (1 : Int32)), (fnup yc k wW), (fnup yki k (yix wW)), (fnup yix wW iI), (fnup ymv wW (1 : Int32)), (fnup ykr k (yrt wW)), (fnup yrt wW zZ), E, S1, S2, S3, S4, S5, S6, Sk, Vcu, Vkr, Vki, Vrt, Vix, Vmv, Ukr, Urt, Er, own_up hr1, own_up hr2, own_up hi1, own_up hi2, own_mvF hr1 hr2 hi1 hi2 hW hc6 hD⟩⟩)
 ·
  refine Go.of (mkF m 132 #[.val (.ref po), .val (.int wW), .val zZ, .val (.int iI)] []) (fun _ q => XS.ifYes X1.here hx rfl (pc0 := 6) (pc' := 132) rfl (hb hby d23_6) rfl ((if0 _ _).trans (feq hc6).2) (by decide) (by decide) q) ?_
  refine Go.of (mkF m 133 #[.val (.ref po), .val (.int wW), .val zZ, .val (.int iI)] [(.ref po)]) (fun _ q => XS.aloadN X1.here hx rfl (hb hby d23_132) rfl rfl q) ?_
  obtain ⟨T23, X23, e23, st23⟩ := getF X1 hx hZ hown (host := "") (Or.inl (tw150 hw)) Via.refl e1 S4 (g := (mkF m 133 #[.val (.ref po), .val (.int wW), .val zZ, .val (.int iI)] [(.ref po)])) rfl rfl (hb hby d23_133)
  refine Go.of (mkF m 136 #[.val (.ref po), .val (.int wW), .val zZ, .val (.int iI)] [(.ref rt)]) (st23) ?_
  refine Go.of (mkF m 137 #[.val (.ref po), .val (.int wW), .val zZ, .val (.int iI)] [(.int wW), (.ref rt)]) (fun _ q => XS.iloadN X23.here hx rfl (hb hby d23_136) rfl q) ?_
  refine Go.of (mkF m 138 #[.val (.ref po), .val (.int wW), .val zZ, .val (.int iI)] [zZ, (.int wW), (.ref rt)]) (fun _ q => XS.aloadN X23.here hx rfl (hb hby d23_137) rfl (own_isR hzZ) q) ?_
  refine Go.aastore X23 hx hZ e23 Vrt rfl (own_fit hzZ) (own_sto hzZ Vrt Urt Er) hwr.1 hwr.2 (g := (mkF m 138 #[.val (.ref po), .val (.int wW), .val zZ, .val (.int iI)] [zZ, (.int wW), (.ref rt)])) rfl rfl (hb hby d23_138) ?_
  rintro T24 h24 X24 e24 W24 V24
  replace S1 := S1.other W24 (Or.inl ne_po_rt)
  replace S2 := S2.other W24 (Or.inl ne_po_rt)
  replace S3 := S3.other W24 (Or.inl ne_po_rt)
  replace S4 := S4.other W24 (Or.inl ne_po_rt)
  replace S5 := S5.other W24 (Or.inl ne_po_rt)
  replace S6 := S6.other W24 (Or.inl ne_po_rt)
  replace Sk := Sk.other W24 (Or.inl ne_po_rt)
  replace E := E.wr W24
  replace Er := Er.wr W24
  replace Ukr := Ukr.wr W24
  replace Urt := Urt.wr W24
  replace Vcu := Vcu.other W24 ne_cu_rt
  replace Vki := Vki.other W24 ne_ki_rt
  replace Vix := Vix.other W24 (Ne.symm ne_rt_ix)
  replace Vmv := Vmv.other W24 (Ne.symm ne_rt_mv)
  replace Vkr := Vkr.other W24 ne_kr_rt
  replace hz := Nat.le_trans hz (Nat.le_of_eq W24.size.symm)
  replace K0 := K0.wr W24 (Or.inl (by simp))
  replace Vrt := V24
  have N24 := Fr.snoc X24 N0 gb_rt
  show Go pr ev below _ T24 (mkF m 139 #[.val (.ref po), .val (.int wW), .val zZ, .val (.int iI)] [])
  refine Go.of (mkF m 140 #[.val (.ref po), .val (.int wW), .val zZ, .val (.int iI)] [(.ref po)]) (fun _ q => XS.aloadN X24.here hx rfl (hb hby d23_139) rfl rfl q) ?_
  obtain ⟨T25, X25, e25, st25⟩ := getF X24 hx hZ hown (host := "") (Or.inl (tw152 hw)) Via.refl e24 S5 (g := (mkF m 140 #[.val (.ref po), .val (.int wW), .val zZ, .val (.int iI)] [(.ref po)])) rfl rfl (hb hby d23_140)
  refine Go.of (mkF m 143 #[.val (.ref po), .val (.int wW), .val zZ, .val (.int iI)] [(.ref ix)]) (st25) ?_
  refine Go.of (mkF m 144 #[.val (.ref po), .val (.int wW), .val zZ, .val (.int iI)] [(.int wW), (.ref ix)]) (fun _ q => XS.iloadN X25.here hx rfl (hb hby d23_143) rfl q) ?_
  refine Go.of (mkF m 145 #[.val (.ref po), .val (.int wW), .val zZ, .val (.int iI)] [(.int iI), (.int wW), (.ref ix)]) (fun _ q => XS.iloadN X25.here hx rfl (hb hby d23_144) rfl q) ?_
  refine Go.iastore X25 hx hZ e25 Vix hwr.1 hwr.2 (g := (mkF m 145 #[.val (.ref po), .val (.int wW), .val zZ, .val (.int iI)] [(.int iI), (.int wW), (.ref ix)])) rfl rfl (hb hby d23_145) ?_
  rintro T26 h26 X26 e26 W26 V26
  replace S1 := S1.other W26 (Or.inl ne_po_ix)
  replace S2 := S2.other W26 (Or.inl ne_po_ix)
  replace S3 := S3.other W26 (Or.inl ne_po_ix)
  replace S4 := S4.other W26 (Or.inl ne_po_ix)
  replace S5 := S5.other W26 (Or.inl ne_po_ix)
  replace S6 := S6.other W26 (Or.inl ne_po_ix)
  replace Sk := Sk.other W26 (Or.inl ne_po_ix)
  replace E := E.wr W26
  replace Er := Er.wr W26
  replace Ukr := Ukr.wr W26
  replace Urt := Urt.wr W26
  replace Vcu := Vcu.other W26 ne_cu_ix
  replace Vki := Vki.other W26 ne_ki_ix
  replace Vmv := Vmv.other W26 (Ne.symm ne_ix_mv)
  replace Vkr := Vkr.other W26 ne_kr_ix
  replace Vrt := Vrt.other W26 ne_rt_ix
  replace hz := Nat.le_trans hz (Nat.le_of_eq W26.size.symm)
  replace K0 := K0.wr W26 (Or.inl (by simp))
  replace Vix := V26
  have N26 := Fr.snoc X26 N24 gb_ix
  show Go pr ev below _ T26 (mkF m 146 #[.val (.ref po), .val (.int wW), .val zZ, .val (.int iI)] [])
  exact Go.retV X26 hx hret hlk (hb hby d23_146) (by decide) (by decide) (by rw [e26]; exact ⟨rfl, N26, K0, ⟨k, yc, yki, (fnup yix wW iI), ymv, ykr, (fnup yrt wW zZ), E, S1, S2, S3, S4, S5, S6, Sk, Vcu, Vkr, Vki, Vrt, Vix, Vmv, Ukr, Urt, Er, own_up hr1, own_up hr2, own_up hi1, own_up hi2, own_mvA hW hc6 hD⟩⟩)
theorem ef_rmKe (m : MethodId) (x0 : Addr) : entryFrame m #[(.ref x0)] 2 = mkF m 0 #[.val (.ref x0), .unset] [] := by first | (simp [entryFrame, mkF, argsToLocals, Value.category]; done) | rfl
theorem rmKe (l : Launch) (Z : State) (a0 : Array Value) (hw : ∀ d ∈ tables_1, d.before a0 Z = true) (ws : List Jvm.Cond) (po cu kr ki rt ix mv ro : Nat) (r1 r2 q1 q2 : Value) (i1 i2 j1 j2 : Int32) (h0 : Heap) (n0 : Nat) (hz0 : n0 ≤ h0.size) (ga : n0 ≤ po) (o0 : ro < po) (o1 : po < cu) (o2 : cu < kr) (o3 : kr < ki) (o4 : ki < rt) (o5 : rt < ix) (o6 : ix < mv) (St : own_St Z h0 po cu kr ki rt ix mv ro r1 r2 q1 q2 i1 i2 j1 j2) :
    Met l Z (⟨"com/example/kiriman/kiriman/route/Positions", "keep", "()V"⟩ : MethodName) prog_27_method_6_code 2 none ws ({ frames := 0, cells := 0, slots := 0, locals := 0 } : Room) #[(.ref po)] h0 (fun v h L => v = none ∧ Fr n0 L ∧ Keep h0 h [po, cu, kr, ki, rt, ix, mv] ∧ own_St Z h po cu kr ki rt ix mv ro r1 r2 r1 r2 i1 i2 i1 i2) := by
 refine Met.intro pn28 ?_
 intro pr ev s m below meth c T0 X0 hx hZ hown hby hml hret hlk hnm e0
 refine Go.cast (ef_rmKe m po) ?_
 have N0 := Fr.nil n0
 have hz := hz0
 have K0 : Keep h0 h0 [po, cu, kr, ki, rt, ix, mv] := Keep.refl h0 _
 obtain ⟨k, yc, yki, yix, ymv, ykr, yrt, E, S1, S2, S3, S4, S5, S6, Sk, Vcu, Vkr, Vki, Vrt, Vix, Vmv, Ukr, Urt, Er, hr1, hr2, hi1, hi2, hD⟩ := St
 have ne_ro_po : ro ≠ po := by omega
 have ne_ro_cu : ro ≠ cu := by omega
 have ne_ro_kr : ro ≠ kr := by omega
 have ne_ro_ki : ro ≠ ki := by omega
 have ne_ro_rt : ro ≠ rt := by omega
 have ne_ro_ix : ro ≠ ix := by omega
 have ne_ro_mv : ro ≠ mv := by omega
 have ne_po_cu : po ≠ cu := by omega
 have ne_po_kr : po ≠ kr := by omega
 have ne_po_ki : po ≠ ki := by omega
 have ne_po_rt : po ≠ rt := by omega
 have ne_po_ix : po ≠ ix := by omega
 have ne_po_mv : po ≠ mv := by omega
 have ne_cu_kr : cu ≠ kr := by omega
 have ne_cu_ki : cu ≠ ki := by omega
 have ne_cu_rt : cu ≠ rt := by omega
 have ne_cu_ix : cu ≠ ix := by omega
 have ne_cu_mv : cu ≠ mv := by omega
 have ne_kr_ki : kr ≠ ki := by omega
 have ne_kr_rt : kr ≠ rt := by omega
 have ne_kr_ix : kr ≠ ix := by omega
 have ne_kr_mv : kr ≠ mv := by omega
 have ne_ki_rt : ki ≠ rt := by omega
 have ne_ki_ix : ki ≠ ix := by omega
 have ne_ki_mv : ki ≠ mv := by omega
 have ne_rt_ix : rt ≠ ix := by omega
 have ne_rt_mv : rt ≠ mv := by omega
 have ne_ix_mv : ix ≠ mv := by omega
 have gb_cu : n0 ≤ cu := by omega
 have gb_kr : n0 ≤ kr := by omega
 have gb_ki : n0 ≤ ki := by omega
 have gb_rt : n0 ≤ rt := by omega
 have gb_ix : n0 ≤ ix := by omega
 have gb_mv : n0 ≤ mv := by omega
 rcases own_k3 hD with rfl | rfl | rfl
 ·
  refine Go.of (mkF m 1 #[.val (.ref po), .unset] [(.int 0)]) (fun _ q => XS.iconst X0.here hx rfl (hb hby d25_0) q) ?_
  refine Go.of (mkF m 2 #[.val (.ref po), .val (.int 0)] []) (fun _ q => XS.istoreN X0.here hx rfl (hb hby d25_1) rfl (l' := #[.val (.ref po), .val (.int 0)]) rfl q) ?_
  refine Go.of (mkF m 3 #[.val (.ref po), .val (.int 0)] [(.int 0)]) (fun _ q => XS.iloadN X0.here hx rfl (hb hby d25_2) rfl q) ?_
  refine Go.of (mkF m 4 #[.val (.ref po), .val (.int 0)] [(.ref po), (.int 0)]) (fun _ q => XS.aloadN X0.here hx rfl (hb hby d25_3) rfl rfl q) ?_
  obtain ⟨T1, X1, e1, st1⟩ := getF X0 hx hZ hown (host := "") (Or.inl (tw176 hw)) Via.refl e0 Sk (g := (mkF m 4 #[.val (.ref po), .val (.int 0)] [(.ref po), (.int 0)])) rfl rfl (hb hby d25_4)
  refine Go.of (mkF m 7 #[.val (.ref po), .val (.int 0)] [(.int 0), (.int 0)]) (st1) ?_
  refine Go.of (mkF m 35 #[.val (.ref po), .val (.int 0)] []) (fun _ q => XS.icmpYes X1.here hx rfl (pc0 := 7) (pc' := 35) rfl (hb hby d25_7) rfl (flt (by decide)).2.1 (by decide) (by decide) q) ?_
  refine Go.of (mkF m 36 #[.val (.ref po), .val (.int 0)] [(.ref po)]) (fun _ q => XS.aloadN X1.here hx rfl (hb hby d25_35) rfl rfl q) ?_
  refine Go.of (mkF m 37 #[.val (.ref po), .val (.int 0)] [(.int 0), (.ref po)]) (fun _ q => XS.iconst X1.here hx rfl (hb hby d25_36) q) ?_
  obtain ⟨T2, h2, X2, e2, W2, st2⟩ := putF X1 hx hZ hown (host := "") (Or.inl (tw176 hw)) Via.refl e1 Sk E (Or.inl (tw177 hw)) (tw137 hw) (ty := .int) (by decide) rfl rfl (g := (mkF m 37 #[.val (.ref po), .val (.int 0)] [(.int 0), (.ref po)])) rfl rfl (hb hby d25_37)
  replace S1 := S1.other W2 (Or.inr (slot_ne (Or.inl (tw144 hw)) (Or.inl (tw177 hw)) (by decide) (t := (.array .int)) (t' := .int) (by decide) (by decide)))
  replace S2 := S2.other W2 (Or.inr (slot_ne (Or.inl (tw147 hw)) (Or.inl (tw177 hw)) (by decide) (t := (.array (.object "com/example/kiriman/kiriman/route/Route"))) (t' := .int) (by decide) (by decide)))
  replace S3 := S3.other W2 (Or.inr (slot_ne (Or.inl (tw149 hw)) (Or.inl (tw177 hw)) (by decide) (t := (.array .int)) (t' := .int) (by decide) (by decide)))
  replace S4 := S4.other W2 (Or.inr (slot_ne (Or.inr (tw151 hw)) (Or.inl (tw177 hw)) (by decide) (t := (.array (.object "com/example/kiriman/kiriman/route/Route"))) (t' := .int) (by decide) (by decide)))
  replace S5 := S5.other W2 (Or.inr (slot_ne (Or.inr (tw153 hw)) (Or.inl (tw177 hw)) (by decide) (t := (.array .int)) (t' := .int) (by decide) (by decide)))
  replace S6 := S6.other W2 (Or.inr (slot_ne (Or.inr (tw156 hw)) (Or.inl (tw177 hw)) (by decide) (t := (.array .boolean)) (t' := .int) (by decide) (by decide)))
  replace Sk := Sk.same W2
  replace E := E.wr W2
  replace Er := Er.wr W2
  replace Ukr := Ukr.wr W2
  replace Urt := Urt.wr W2
  replace Vcu := Vcu.other W2 (Ne.symm ne_po_cu)
  replace Vki := Vki.other W2 (Ne.symm ne_po_ki)
  replace Vix := Vix.other W2 (Ne.symm ne_po_ix)
  replace Vmv := Vmv.other W2 (Ne.symm ne_po_mv)
  replace Vkr := Vkr.other W2 (Ne.symm ne_po_kr)
  replace Vrt := Vrt.other W2 (Ne.symm ne_po_rt)
  replace hz := Nat.le_trans hz (Nat.le_of_eq W2.size.symm)
  replace K0 := K0.wr W2 (Or.inl (by simp))
  have N2 := Fr.snoc X2 N0 ga
  refine Go.of (mkF m 40 #[.val (.ref po), .val (.int 0)] []) (st2) ?_
  exact Go.retV X2 hx hret hlk (hb hby d25_40) (by decide) (by decide) (by rw [e2]; exact ⟨rfl, N2, K0, ⟨(0 : Int32), yc, yki, yix, ymv, ykr, yrt, E, S1, S2, S3, S4, S5, S6, Sk, Vcu, Vkr, Vki, Vrt, Vix, Vmv, Ukr, Urt, Er, hr1, hr2, hi1, hi2, own_ke0 hD⟩⟩)
 ·
  have hc0 := own_w (own_c0 (by decide) hD)
  refine Go.of (mkF m 1 #[.val (.ref po), .unset] [(.int 0)]) (fun _ q => XS.iconst X0.here hx rfl (hb hby d25_0) q) ?_
  refine Go.of (mkF m 2 #[.val (.ref po), .val (.int 0)] []) (fun _ q => XS.istoreN X0.here hx rfl (hb hby d25_1) rfl (l' := #[.val (.ref po), .val (.int 0)]) rfl q) ?_
  refine Go.of (mkF m 3 #[.val (.ref po), .val (.int 0)] [(.int 0)]) (fun _ q => XS.iloadN X0.here hx rfl (hb hby d25_2) rfl q) ?_
  refine Go.of (mkF m 4 #[.val (.ref po), .val (.int 0)] [(.ref po), (.int 0)]) (fun _ q => XS.aloadN X0.here hx rfl (hb hby d25_3) rfl rfl q) ?_
  obtain ⟨T3, X3, e3, st3⟩ := getF X0 hx hZ hown (host := "") (Or.inl (tw176 hw)) Via.refl e0 Sk (g := (mkF m 4 #[.val (.ref po), .val (.int 0)] [(.ref po), (.int 0)])) rfl rfl (hb hby d25_4)
  refine Go.of (mkF m 7 #[.val (.ref po), .val (.int 0)] [(.int 1), (.int 0)]) (st3) ?_
  refine Go.of (mkF m 10 #[.val (.ref po), .val (.int 0)] []) (fun _ q => XS.icmpNo X3.here hx rfl (hb hby d25_7) rfl (tlt (by decide)).2.1 q) ?_
  refine Go.of (mkF m 11 #[.val (.ref po), .val (.int 0)] [(.ref po)]) (fun _ q => XS.aloadN X3.here hx rfl (hb hby d25_10) rfl rfl q) ?_
  obtain ⟨T4, X4, e4, st4⟩ := getF X3 hx hZ hown (host := "") (Or.inl (tw155 hw)) Via.refl e3 S6 (g := (mkF m 11 #[.val (.ref po), .val (.int 0)] [(.ref po)])) rfl rfl (hb hby d25_11)
  refine Go.of (mkF m 14 #[.val (.ref po), .val (.int 0)] [(.ref mv)]) (st4) ?_
  refine Go.of (mkF m 15 #[.val (.ref po), .val (.int 0)] [(.ref po), (.ref mv)]) (fun _ q => XS.aloadN X4.here hx rfl (hb hby d25_14) rfl rfl q) ?_
  obtain ⟨T5, X5, e5, st5⟩ := getF X4 hx hZ hown (host := "") (Or.inl (tw143 hw)) Via.refl e4 S1 (g := (mkF m 15 #[.val (.ref po), .val (.int 0)] [(.ref po), (.ref mv)])) rfl rfl (hb hby d25_15)
  refine Go.of (mkF m 18 #[.val (.ref po), .val (.int 0)] [(.ref cu), (.ref mv)]) (st5) ?_
  refine Go.of (mkF m 19 #[.val (.ref po), .val (.int 0)] [(.int 0), (.ref cu), (.ref mv)]) (fun _ q => XS.iloadN X5.here hx rfl (hb hby d25_18) rfl q) ?_
  refine Go.iaload X5 hx hZ e5 Vcu (by decide) (by decide) (g := (mkF m 19 #[.val (.ref po), .val (.int 0)] [(.int 0), (.ref cu), (.ref mv)])) rfl rfl (hb hby d25_19) ?_
  show Go pr ev below _ T5 (mkF m 20 #[.val (.ref po), .val (.int 0)] [(.int (yc (0 : Int32))), (.ref mv)])
  show Go pr ev below _ T5 (mkF m 20 #[.val (.ref po), .val (.int 0)] [(.int (yc (0 : Int32))), (.ref mv)])
  refine Go.of (mkF m 21 #[.val (.ref po), .val (.int 0)] [(.int 0), (.int (yc (0 : Int32))), (.ref mv)]) (fun _ q => XS.iconst X5.here hx rfl (hb hby d25_20) q) ?_
  refine Go.zastore X5 hx hZ e5 Vmv hc0.1 hc0.2 (g := (mkF m 21 #[.val (.ref po), .val (.int 0)] [(.int 0), (.int (yc (0 : Int32))), (.ref mv)])) rfl rfl (hb hby d25_21) ?_
  rintro T6 h6 X6 e6 W6 V6
  replace S1 := S1.other W6 (Or.inl ne_po_mv)
  replace S2 := S2.other W6 (Or.inl ne_po_mv)
  replace S3 := S3.other W6 (Or.inl ne_po_mv)
  replace S4 := S4.other W6 (Or.inl ne_po_mv)
  replace S5 := S5.other W6 (Or.inl ne_po_mv)
  replace S6 := S6.other W6 (Or.inl ne_po_mv)
  replace Sk := Sk.other W6 (Or.inl ne_po_mv)
  replace E := E.wr W6
  replace Er := Er.wr W6
  replace Ukr := Ukr.wr W6
  replace Urt := Urt.wr W6
  replace Vcu := Vcu.other W6 ne_cu_mv
  replace Vki := Vki.other W6 ne_ki_mv
  replace Vix := Vix.other W6 ne_ix_mv
  replace Vkr := Vkr.other W6 ne_kr_mv
  replace Vrt := Vrt.other W6 ne_rt_mv
  replace hz := Nat.le_trans hz (Nat.le_of_eq W6.size.symm)
  replace K0 := K0.wr W6 (Or.inl (by simp))
  replace Vmv := V6
  rw [show nar .boolean (0 : Int32) = (0 : Int32) from by decide] at Vmv
  have N6 := Fr.snoc X6 N0 gb_mv
  show Go pr ev below _ T6 (mkF m 22 #[.val (.ref po), .val (.int 0)] [])
  refine Go.of (mkF m 23 #[.val (.ref po), .val (.int 0)] [(.ref po)]) (fun _ q => XS.aloadN X6.here hx rfl (hb hby d25_22) rfl rfl q) ?_
  obtain ⟨T7, X7, e7, st7⟩ := getF X6 hx hZ hown (host := "") (Or.inl (tw146 hw)) Via.refl e6 S2 (g := (mkF m 23 #[.val (.ref po), .val (.int 0)] [(.ref po)])) rfl rfl (hb hby d25_23)
  refine Go.of (mkF m 26 #[.val (.ref po), .val (.int 0)] [(.ref kr)]) (st7) ?_
  refine Go.of (mkF m 27 #[.val (.ref po), .val (.int 0)] [(.int 0), (.ref kr)]) (fun _ q => XS.iloadN X7.here hx rfl (hb hby d25_26) rfl q) ?_
  refine Go.of (mkF m 28 #[.val (.ref po), .val (.int 0)] [.null, (.int 0), (.ref kr)]) (fun _ q => XS.aconstNull X7.here hx rfl (hb hby d25_27) q) ?_
  refine Go.aastore X7 hx hZ e7 Vkr rfl rfl (Or.inl rfl) (by decide) (by decide) (g := (mkF m 28 #[.val (.ref po), .val (.int 0)] [.null, (.int 0), (.ref kr)])) rfl rfl (hb hby d25_28) ?_
  rintro T8 h8 X8 e8 W8 V8
  replace S1 := S1.other W8 (Or.inl ne_po_kr)
  replace S2 := S2.other W8 (Or.inl ne_po_kr)
  replace S3 := S3.other W8 (Or.inl ne_po_kr)
  replace S4 := S4.other W8 (Or.inl ne_po_kr)
  replace S5 := S5.other W8 (Or.inl ne_po_kr)
  replace S6 := S6.other W8 (Or.inl ne_po_kr)
  replace Sk := Sk.other W8 (Or.inl ne_po_kr)
  replace E := E.wr W8
  replace Er := Er.wr W8
  replace Ukr := Ukr.wr W8
  replace Urt := Urt.wr W8
  replace Vcu := Vcu.other W8 ne_cu_kr
  replace Vki := Vki.other W8 (Ne.symm ne_kr_ki)
  replace Vix := Vix.other W8 (Ne.symm ne_kr_ix)
  replace Vmv := Vmv.other W8 (Ne.symm ne_kr_mv)
  replace Vrt := Vrt.other W8 (Ne.symm ne_kr_rt)
  replace hz := Nat.le_trans hz (Nat.le_of_eq W8.size.symm)
  replace K0 := K0.wr W8 (Or.inl (by simp))
  replace Vkr := V8
  have N8 := Fr.snoc X8 N6 gb_kr
  show Go pr ev below _ T8 (mkF m 29 #[.val (.ref po), .val (.int 0)] [])
  refine Go.of (mkF m 32 #[.val (.ref po), .val (.int ((0 : Int32) + (1 : Int32)))] []) (fun _ q => XS.iinc X8.here hx rfl (hb hby d25_29) rfl (l' := #[.val (.ref po), .val (.int ((0 : Int32) + (1 : Int32)))]) rfl q) ?_
  rw [show ((0 : Int32) + (1 : Int32)) = (1 : Int32) from by decide]
  refine Go.of (mkF m 2 #[.val (.ref po), .val (.int 1)] []) (fun _ q => XS.goto X8.here hx rfl (pc0 := 32) (pc' := 2) rfl (hb hby d25_32) (by decide) (by decide) q) ?_
  refine Go.of (mkF m 3 #[.val (.ref po), .val (.int 1)] [(.int 1)]) (fun _ q => XS.iloadN X8.here hx rfl (hb hby d25_2) rfl q) ?_
  refine Go.of (mkF m 4 #[.val (.ref po), .val (.int 1)] [(.ref po), (.int 1)]) (fun _ q => XS.aloadN X8.here hx rfl (hb hby d25_3) rfl rfl q) ?_
  obtain ⟨T9, X9, e9, st9⟩ := getF X8 hx hZ hown (host := "") (Or.inl (tw176 hw)) Via.refl e8 Sk (g := (mkF m 4 #[.val (.ref po), .val (.int 1)] [(.ref po), (.int 1)])) rfl rfl (hb hby d25_4)
  refine Go.of (mkF m 7 #[.val (.ref po), .val (.int 1)] [(.int 1), (.int 1)]) (st9) ?_
  refine Go.of (mkF m 35 #[.val (.ref po), .val (.int 1)] []) (fun _ q => XS.icmpYes X9.here hx rfl (pc0 := 7) (pc' := 35) rfl (hb hby d25_7) rfl (flt (by decide)).2.1 (by decide) (by decide) q) ?_
  refine Go.of (mkF m 36 #[.val (.ref po), .val (.int 1)] [(.ref po)]) (fun _ q => XS.aloadN X9.here hx rfl (hb hby d25_35) rfl rfl q) ?_
  refine Go.of (mkF m 37 #[.val (.ref po), .val (.int 1)] [(.int 0), (.ref po)]) (fun _ q => XS.iconst X9.here hx rfl (hb hby d25_36) q) ?_
  obtain ⟨T10, h10, X10, e10, W10, st10⟩ := putF X9 hx hZ hown (host := "") (Or.inl (tw176 hw)) Via.refl e9 Sk E (Or.inl (tw177 hw)) (tw137 hw) (ty := .int) (by decide) rfl rfl (g := (mkF m 37 #[.val (.ref po), .val (.int 1)] [(.int 0), (.ref po)])) rfl rfl (hb hby d25_37)
  replace S1 := S1.other W10 (Or.inr (slot_ne (Or.inl (tw144 hw)) (Or.inl (tw177 hw)) (by decide) (t := (.array .int)) (t' := .int) (by decide) (by decide)))
  replace S2 := S2.other W10 (Or.inr (slot_ne (Or.inl (tw147 hw)) (Or.inl (tw177 hw)) (by decide) (t := (.array (.object "com/example/kiriman/kiriman/route/Route"))) (t' := .int) (by decide) (by decide)))
  replace S3 := S3.other W10 (Or.inr (slot_ne (Or.inl (tw149 hw)) (Or.inl (tw177 hw)) (by decide) (t := (.array .int)) (t' := .int) (by decide) (by decide)))
  replace S4 := S4.other W10 (Or.inr (slot_ne (Or.inr (tw151 hw)) (Or.inl (tw177 hw)) (by decide) (t := (.array (.object "com/example/kiriman/kiriman/route/Route"))) (t' := .int) (by decide) (by decide)))
  replace S5 := S5.other W10 (Or.inr (slot_ne (Or.inr (tw153 hw)) (Or.inl (tw177 hw)) (by decide) (t := (.array .int)) (t' := .int) (by decide) (by decide)))
  replace S6 := S6.other W10 (Or.inr (slot_ne (Or.inr (tw156 hw)) (Or.inl (tw177 hw)) (by decide) (t := (.array .boolean)) (t' := .int) (by decide) (by decide)))
  replace Sk := Sk.same W10
  replace E := E.wr W10
  replace Er := Er.wr W10
  replace Ukr := Ukr.wr W10
  replace Urt := Urt.wr W10
  replace Vcu := Vcu.other W10 (Ne.symm ne_po_cu)
  replace Vki := Vki.other W10 (Ne.symm ne_po_ki)
  replace Vix := Vix.other W10 (Ne.symm ne_po_ix)
  replace Vmv := Vmv.other W10 (Ne.symm ne_po_mv)
  replace Vkr := Vkr.other W10 (Ne.symm ne_po_kr)
  replace Vrt := Vrt.other W10 (Ne.symm ne_po_rt)
  replace hz := Nat.le_trans hz (Nat.le_of_eq W10.size.symm)
  replace K0 := K0.wr W10 (Or.inl (by simp))
  have N10 := Fr.snoc X10 N8 ga
  refine Go.of (mkF m 40 #[.val (.ref po), .val (.int 1)] []) (st10) ?_
  exact Go.retV X10 hx hret hlk (hb hby d25_40) (by decide) (by decide) (by rw [e10]; exact ⟨rfl, N10, K0, ⟨(0 : Int32), yc, yki, yix, (fnup ymv (yc (0 : Int32)) (0 : Int32)), (fnup ykr (0 : Int32) .null), yrt, E, S1, S2, S3, S4, S5, S6, Sk, Vcu, Vkr, Vki, Vrt, Vix, Vmv, Ukr, Urt, Er, hr1, hr2, hi1, hi2, own_ke1 hD⟩⟩)
 ·
  have hc0 := own_w (own_c0 (by decide) hD)
  have hc1 := own_w (own_c1 hD)
  refine Go.of (mkF m 1 #[.val (.ref po), .unset] [(.int 0)]) (fun _ q => XS.iconst X0.here hx rfl (hb hby d25_0) q) ?_
  refine Go.of (mkF m 2 #[.val (.ref po), .val (.int 0)] []) (fun _ q => XS.istoreN X0.here hx rfl (hb hby d25_1) rfl (l' := #[.val (.ref po), .val (.int 0)]) rfl q) ?_
  refine Go.of (mkF m 3 #[.val (.ref po), .val (.int 0)] [(.int 0)]) (fun _ q => XS.iloadN X0.here hx rfl (hb hby d25_2) rfl q) ?_
  refine Go.of (mkF m 4 #[.val (.ref po), .val (.int 0)] [(.ref po), (.int 0)]) (fun _ q => XS.aloadN X0.here hx rfl (hb hby d25_3) rfl rfl q) ?_
  obtain ⟨T11, X11, e11, st11⟩ := getF X0 hx hZ hown (host := "") (Or.inl (tw176 hw)) Via.refl e0 Sk (g := (mkF m 4 #[.val (.ref po), .val (.int 0)] [(.ref po), (.int 0)])) rfl rfl (hb hby d25_4)
  refine Go.of (mkF m 7 #[.val (.ref po), .val (.int 0)] [(.int 2), (.int 0)]) (st11) ?_
  refine Go.of (mkF m 10 #[.val (.ref po), .val (.int 0)] []) (fun _ q => XS.icmpNo X11.here hx rfl (hb hby d25_7) rfl (tlt (by decide)).2.1 q) ?_
  refine Go.of (mkF m 11 #[.val (.ref po), .val (.int 0)] [(.ref po)]) (fun _ q => XS.aloadN X11.here hx rfl (hb hby d25_10) rfl rfl q) ?_
  obtain ⟨T12, X12, e12, st12⟩ := getF X11 hx hZ hown (host := "") (Or.inl (tw155 hw)) Via.refl e11 S6 (g := (mkF m 11 #[.val (.ref po), .val (.int 0)] [(.ref po)])) rfl rfl (hb hby d25_11)
  refine Go.of (mkF m 14 #[.val (.ref po), .val (.int 0)] [(.ref mv)]) (st12) ?_
  refine Go.of (mkF m 15 #[.val (.ref po), .val (.int 0)] [(.ref po), (.ref mv)]) (fun _ q => XS.aloadN X12.here hx rfl (hb hby d25_14) rfl rfl q) ?_
  obtain ⟨T13, X13, e13, st13⟩ := getF X12 hx hZ hown (host := "") (Or.inl (tw143 hw)) Via.refl e12 S1 (g := (mkF m 15 #[.val (.ref po), .val (.int 0)] [(.ref po), (.ref mv)])) rfl rfl (hb hby d25_15)
  refine Go.of (mkF m 18 #[.val (.ref po), .val (.int 0)] [(.ref cu), (.ref mv)]) (st13) ?_
  refine Go.of (mkF m 19 #[.val (.ref po), .val (.int 0)] [(.int 0), (.ref cu), (.ref mv)]) (fun _ q => XS.iloadN X13.here hx rfl (hb hby d25_18) rfl q) ?_
  refine Go.iaload X13 hx hZ e13 Vcu (by decide) (by decide) (g := (mkF m 19 #[.val (.ref po), .val (.int 0)] [(.int 0), (.ref cu), (.ref mv)])) rfl rfl (hb hby d25_19) ?_
  show Go pr ev below _ T13 (mkF m 20 #[.val (.ref po), .val (.int 0)] [(.int (yc (0 : Int32))), (.ref mv)])
  show Go pr ev below _ T13 (mkF m 20 #[.val (.ref po), .val (.int 0)] [(.int (yc (0 : Int32))), (.ref mv)])
  refine Go.of (mkF m 21 #[.val (.ref po), .val (.int 0)] [(.int 0), (.int (yc (0 : Int32))), (.ref mv)]) (fun _ q => XS.iconst X13.here hx rfl (hb hby d25_20) q) ?_
  refine Go.zastore X13 hx hZ e13 Vmv hc0.1 hc0.2 (g := (mkF m 21 #[.val (.ref po), .val (.int 0)] [(.int 0), (.int (yc (0 : Int32))), (.ref mv)])) rfl rfl (hb hby d25_21) ?_
  rintro T14 h14 X14 e14 W14 V14
  replace S1 := S1.other W14 (Or.inl ne_po_mv)
  replace S2 := S2.other W14 (Or.inl ne_po_mv)
  replace S3 := S3.other W14 (Or.inl ne_po_mv)
  replace S4 := S4.other W14 (Or.inl ne_po_mv)
  replace S5 := S5.other W14 (Or.inl ne_po_mv)
  replace S6 := S6.other W14 (Or.inl ne_po_mv)
  replace Sk := Sk.other W14 (Or.inl ne_po_mv)
  replace E := E.wr W14
  replace Er := Er.wr W14
  replace Ukr := Ukr.wr W14
  replace Urt := Urt.wr W14
  replace Vcu := Vcu.other W14 ne_cu_mv
  replace Vki := Vki.other W14 ne_ki_mv
  replace Vix := Vix.other W14 ne_ix_mv
  replace Vkr := Vkr.other W14 ne_kr_mv
  replace Vrt := Vrt.other W14 ne_rt_mv
  replace hz := Nat.le_trans hz (Nat.le_of_eq W14.size.symm)
  replace K0 := K0.wr W14 (Or.inl (by simp))
  replace Vmv := V14
  rw [show nar .boolean (0 : Int32) = (0 : Int32) from by decide] at Vmv
  have N14 := Fr.snoc X14 N0 gb_mv
  show Go pr ev below _ T14 (mkF m 22 #[.val (.ref po), .val (.int 0)] [])
  refine Go.of (mkF m 23 #[.val (.ref po), .val (.int 0)] [(.ref po)]) (fun _ q => XS.aloadN X14.here hx rfl (hb hby d25_22) rfl rfl q) ?_
  obtain ⟨T15, X15, e15, st15⟩ := getF X14 hx hZ hown (host := "") (Or.inl (tw146 hw)) Via.refl e14 S2 (g := (mkF m 23 #[.val (.ref po), .val (.int 0)] [(.ref po)])) rfl rfl (hb hby d25_23)
  refine Go.of (mkF m 26 #[.val (.ref po), .val (.int 0)] [(.ref kr)]) (st15) ?_
  refine Go.of (mkF m 27 #[.val (.ref po), .val (.int 0)] [(.int 0), (.ref kr)]) (fun _ q => XS.iloadN X15.here hx rfl (hb hby d25_26) rfl q) ?_
  refine Go.of (mkF m 28 #[.val (.ref po), .val (.int 0)] [.null, (.int 0), (.ref kr)]) (fun _ q => XS.aconstNull X15.here hx rfl (hb hby d25_27) q) ?_
  refine Go.aastore X15 hx hZ e15 Vkr rfl rfl (Or.inl rfl) (by decide) (by decide) (g := (mkF m 28 #[.val (.ref po), .val (.int 0)] [.null, (.int 0), (.ref kr)])) rfl rfl (hb hby d25_28) ?_
  rintro T16 h16 X16 e16 W16 V16
  replace S1 := S1.other W16 (Or.inl ne_po_kr)
  replace S2 := S2.other W16 (Or.inl ne_po_kr)
  replace S3 := S3.other W16 (Or.inl ne_po_kr)
  replace S4 := S4.other W16 (Or.inl ne_po_kr)
  replace S5 := S5.other W16 (Or.inl ne_po_kr)
  replace S6 := S6.other W16 (Or.inl ne_po_kr)
  replace Sk := Sk.other W16 (Or.inl ne_po_kr)
  replace E := E.wr W16
  replace Er := Er.wr W16
  replace Ukr := Ukr.wr W16
  replace Urt := Urt.wr W16
  replace Vcu := Vcu.other W16 ne_cu_kr
  replace Vki := Vki.other W16 (Ne.symm ne_kr_ki)
  replace Vix := Vix.other W16 (Ne.symm ne_kr_ix)
  replace Vmv := Vmv.other W16 (Ne.symm ne_kr_mv)
  replace Vrt := Vrt.other W16 (Ne.symm ne_kr_rt)
  replace hz := Nat.le_trans hz (Nat.le_of_eq W16.size.symm)
  replace K0 := K0.wr W16 (Or.inl (by simp))
  replace Vkr := V16
  have N16 := Fr.snoc X16 N14 gb_kr
  show Go pr ev below _ T16 (mkF m 29 #[.val (.ref po), .val (.int 0)] [])
  refine Go.of (mkF m 32 #[.val (.ref po), .val (.int ((0 : Int32) + (1 : Int32)))] []) (fun _ q => XS.iinc X16.here hx rfl (hb hby d25_29) rfl (l' := #[.val (.ref po), .val (.int ((0 : Int32) + (1 : Int32)))]) rfl q) ?_
  rw [show ((0 : Int32) + (1 : Int32)) = (1 : Int32) from by decide]
  refine Go.of (mkF m 2 #[.val (.ref po), .val (.int 1)] []) (fun _ q => XS.goto X16.here hx rfl (pc0 := 32) (pc' := 2) rfl (hb hby d25_32) (by decide) (by decide) q) ?_
  refine Go.of (mkF m 3 #[.val (.ref po), .val (.int 1)] [(.int 1)]) (fun _ q => XS.iloadN X16.here hx rfl (hb hby d25_2) rfl q) ?_
  refine Go.of (mkF m 4 #[.val (.ref po), .val (.int 1)] [(.ref po), (.int 1)]) (fun _ q => XS.aloadN X16.here hx rfl (hb hby d25_3) rfl rfl q) ?_
  obtain ⟨T17, X17, e17, st17⟩ := getF X16 hx hZ hown (host := "") (Or.inl (tw176 hw)) Via.refl e16 Sk (g := (mkF m 4 #[.val (.ref po), .val (.int 1)] [(.ref po), (.int 1)])) rfl rfl (hb hby d25_4)
  refine Go.of (mkF m 7 #[.val (.ref po), .val (.int 1)] [(.int 2), (.int 1)]) (st17) ?_
  refine Go.of (mkF m 10 #[.val (.ref po), .val (.int 1)] []) (fun _ q => XS.icmpNo X17.here hx rfl (hb hby d25_7) rfl (tlt (by decide)).2.1 q) ?_
  refine Go.of (mkF m 11 #[.val (.ref po), .val (.int 1)] [(.ref po)]) (fun _ q => XS.aloadN X17.here hx rfl (hb hby d25_10) rfl rfl q) ?_
  obtain ⟨T18, X18, e18, st18⟩ := getF X17 hx hZ hown (host := "") (Or.inl (tw155 hw)) Via.refl e17 S6 (g := (mkF m 11 #[.val (.ref po), .val (.int 1)] [(.ref po)])) rfl rfl (hb hby d25_11)
  refine Go.of (mkF m 14 #[.val (.ref po), .val (.int 1)] [(.ref mv)]) (st18) ?_
  refine Go.of (mkF m 15 #[.val (.ref po), .val (.int 1)] [(.ref po), (.ref mv)]) (fun _ q => XS.aloadN X18.here hx rfl (hb hby d25_14) rfl rfl q) ?_
  obtain ⟨T19, X19, e19, st19⟩ := getF X18 hx hZ hown (host := "") (Or.inl (tw143 hw)) Via.refl e18 S1 (g := (mkF m 15 #[.val (.ref po), .val (.int 1)] [(.ref po), (.ref mv)])) rfl rfl (hb hby d25_15)
  refine Go.of (mkF m 18 #[.val (.ref po), .val (.int 1)] [(.ref cu), (.ref mv)]) (st19) ?_
  refine Go.of (mkF m 19 #[.val (.ref po), .val (.int 1)] [(.int 1), (.ref cu), (.ref mv)]) (fun _ q => XS.iloadN X19.here hx rfl (hb hby d25_18) rfl q) ?_
  refine Go.iaload X19 hx hZ e19 Vcu (by decide) (by decide) (g := (mkF m 19 #[.val (.ref po), .val (.int 1)] [(.int 1), (.ref cu), (.ref mv)])) rfl rfl (hb hby d25_19) ?_
  show Go pr ev below _ T19 (mkF m 20 #[.val (.ref po), .val (.int 1)] [(.int (yc (1 : Int32))), (.ref mv)])
  show Go pr ev below _ T19 (mkF m 20 #[.val (.ref po), .val (.int 1)] [(.int (yc (1 : Int32))), (.ref mv)])
  refine Go.of (mkF m 21 #[.val (.ref po), .val (.int 1)] [(.int 0), (.int (yc (1 : Int32))), (.ref mv)]) (fun _ q => XS.iconst X19.here hx rfl (hb hby d25_20) q) ?_
  refine Go.zastore X19 hx hZ e19 Vmv hc1.1 hc1.2 (g := (mkF m 21 #[.val (.ref po), .val (.int 1)] [(.int 0), (.int (yc (1 : Int32))), (.ref mv)])) rfl rfl (hb hby d25_21) ?_
  rintro T20 h20 X20 e20 W20 V20
  replace S1 := S1.other W20 (Or.inl ne_po_mv)
  replace S2 := S2.other W20 (Or.inl ne_po_mv)
  replace S3 := S3.other W20 (Or.inl ne_po_mv)
  replace S4 := S4.other W20 (Or.inl ne_po_mv)
  replace S5 := S5.other W20 (Or.inl ne_po_mv)
  replace S6 := S6.other W20 (Or.inl ne_po_mv)
  replace Sk := Sk.other W20 (Or.inl ne_po_mv)
  replace E := E.wr W20
  replace Er := Er.wr W20
  replace Ukr := Ukr.wr W20
  replace Urt := Urt.wr W20
  replace Vcu := Vcu.other W20 ne_cu_mv
  replace Vki := Vki.other W20 ne_ki_mv
  replace Vix := Vix.other W20 ne_ix_mv
  replace Vkr := Vkr.other W20 ne_kr_mv
  replace Vrt := Vrt.other W20 ne_rt_mv
  replace hz := Nat.le_trans hz (Nat.le_of_eq W20.size.symm)
  replace K0 := K0.wr W20 (Or.inl (by simp))
  replace Vmv := V20
  rw [show nar .boolean (0 : Int32) = (0 : Int32) from by decide] at Vmv
  have N20 := Fr.snoc X20 N16 gb_mv
  show Go pr ev below _ T20 (mkF m 22 #[.val (.ref po), .val (.int 1)] [])
  refine Go.of (mkF m 23 #[.val (.ref po), .val (.int 1)] [(.ref po)]) (fun _ q => XS.aloadN X20.here hx rfl (hb hby d25_22) rfl rfl q) ?_
  obtain ⟨T21, X21, e21, st21⟩ := getF X20 hx hZ hown (host := "") (Or.inl (tw146 hw)) Via.refl e20 S2 (g := (mkF m 23 #[.val (.ref po), .val (.int 1)] [(.ref po)])) rfl rfl (hb hby d25_23)
  refine Go.of (mkF m 26 #[.val (.ref po), .val (.int 1)] [(.ref kr)]) (st21) ?_
  refine Go.of (mkF m 27 #[.val (.ref po), .val (.int 1)] [(.int 1), (.ref kr)]) (fun _ q => XS.iloadN X21.here hx rfl (hb hby d25_26) rfl q) ?_
  refine Go.of (mkF m 28 #[.val (.ref po), .val (.int 1)] [.null, (.int 1), (.ref kr)]) (fun _ q => XS.aconstNull X21.here hx rfl (hb hby d25_27) q) ?_
  refine Go.aastore X21 hx hZ e21 Vkr rfl rfl (Or.inl rfl) (by decide) (by decide) (g := (mkF m 28 #[.val (.ref po), .val (.int 1)] [.null, (.int 1), (.ref kr)])) rfl rfl (hb hby d25_28) ?_
  rintro T22 h22 X22 e22 W22 V22
  replace S1 := S1.other W22 (Or.inl ne_po_kr)
  replace S2 := S2.other W22 (Or.inl ne_po_kr)
  replace S3 := S3.other W22 (Or.inl ne_po_kr)
  replace S4 := S4.other W22 (Or.inl ne_po_kr)
  replace S5 := S5.other W22 (Or.inl ne_po_kr)
  replace S6 := S6.other W22 (Or.inl ne_po_kr)
  replace Sk := Sk.other W22 (Or.inl ne_po_kr)
  replace E := E.wr W22
  replace Er := Er.wr W22
  replace Ukr := Ukr.wr W22
  replace Urt := Urt.wr W22
  replace Vcu := Vcu.other W22 ne_cu_kr
  replace Vki := Vki.other W22 (Ne.symm ne_kr_ki)
  replace Vix := Vix.other W22 (Ne.symm ne_kr_ix)
  replace Vmv := Vmv.other W22 (Ne.symm ne_kr_mv)
  replace Vrt := Vrt.other W22 (Ne.symm ne_kr_rt)
  replace hz := Nat.le_trans hz (Nat.le_of_eq W22.size.symm)
  replace K0 := K0.wr W22 (Or.inl (by simp))
  replace Vkr := V22
  have N22 := Fr.snoc X22 N20 gb_kr
  show Go pr ev below _ T22 (mkF m 29 #[.val (.ref po), .val (.int 1)] [])
  refine Go.of (mkF m 32 #[.val (.ref po), .val (.int ((1 : Int32) + (1 : Int32)))] []) (fun _ q => XS.iinc X22.here hx rfl (hb hby d25_29) rfl (l' := #[.val (.ref po), .val (.int ((1 : Int32) + (1 : Int32)))]) rfl q) ?_
  rw [show ((1 : Int32) + (1 : Int32)) = (2 : Int32) from by decide]
  refine Go.of (mkF m 2 #[.val (.ref po), .val (.int 2)] []) (fun _ q => XS.goto X22.here hx rfl (pc0 := 32) (pc' := 2) rfl (hb hby d25_32) (by decide) (by decide) q) ?_
  refine Go.of (mkF m 3 #[.val (.ref po), .val (.int 2)] [(.int 2)]) (fun _ q => XS.iloadN X22.here hx rfl (hb hby d25_2) rfl q) ?_
  refine Go.of (mkF m 4 #[.val (.ref po), .val (.int 2)] [(.ref po), (.int 2)]) (fun _ q => XS.aloadN X22.here hx rfl (hb hby d25_3) rfl rfl q) ?_
  obtain ⟨T23, X23, e23, st23⟩ := getF X22 hx hZ hown (host := "") (Or.inl (tw176 hw)) Via.refl e22 Sk (g := (mkF m 4 #[.val (.ref po), .val (.int 2)] [(.ref po), (.int 2)])) rfl rfl (hb hby d25_4)
  refine Go.of (mkF m 7 #[.val (.ref po), .val (.int 2)] [(.int 2), (.int 2)]) (st23) ?_
  refine Go.of (mkF m 35 #[.val (.ref po), .val (.int 2)] []) (fun _ q => XS.icmpYes X23.here hx rfl (pc0 := 7) (pc' := 35) rfl (hb hby d25_7) rfl (flt (by decide)).2.1 (by decide) (by decide) q) ?_
  refine Go.of (mkF m 36 #[.val (.ref po), .val (.int 2)] [(.ref po)]) (fun _ q => XS.aloadN X23.here hx rfl (hb hby d25_35) rfl rfl q) ?_
  refine Go.of (mkF m 37 #[.val (.ref po), .val (.int 2)] [(.int 0), (.ref po)]) (fun _ q => XS.iconst X23.here hx rfl (hb hby d25_36) q) ?_
  obtain ⟨T24, h24, X24, e24, W24, st24⟩ := putF X23 hx hZ hown (host := "") (Or.inl (tw176 hw)) Via.refl e23 Sk E (Or.inl (tw177 hw)) (tw137 hw) (ty := .int) (by decide) rfl rfl (g := (mkF m 37 #[.val (.ref po), .val (.int 2)] [(.int 0), (.ref po)])) rfl rfl (hb hby d25_37)
  replace S1 := S1.other W24 (Or.inr (slot_ne (Or.inl (tw144 hw)) (Or.inl (tw177 hw)) (by decide) (t := (.array .int)) (t' := .int) (by decide) (by decide)))
  replace S2 := S2.other W24 (Or.inr (slot_ne (Or.inl (tw147 hw)) (Or.inl (tw177 hw)) (by decide) (t := (.array (.object "com/example/kiriman/kiriman/route/Route"))) (t' := .int) (by decide) (by decide)))
  replace S3 := S3.other W24 (Or.inr (slot_ne (Or.inl (tw149 hw)) (Or.inl (tw177 hw)) (by decide) (t := (.array .int)) (t' := .int) (by decide) (by decide)))
  replace S4 := S4.other W24 (Or.inr (slot_ne (Or.inr (tw151 hw)) (Or.inl (tw177 hw)) (by decide) (t := (.array (.object "com/example/kiriman/kiriman/route/Route"))) (t' := .int) (by decide) (by decide)))
  replace S5 := S5.other W24 (Or.inr (slot_ne (Or.inr (tw153 hw)) (Or.inl (tw177 hw)) (by decide) (t := (.array .int)) (t' := .int) (by decide) (by decide)))
  replace S6 := S6.other W24 (Or.inr (slot_ne (Or.inr (tw156 hw)) (Or.inl (tw177 hw)) (by decide) (t := (.array .boolean)) (t' := .int) (by decide) (by decide)))
  replace Sk := Sk.same W24
  replace E := E.wr W24
  replace Er := Er.wr W24
  replace Ukr := Ukr.wr W24
  replace Urt := Urt.wr W24
  replace Vcu := Vcu.other W24 (Ne.symm ne_po_cu)
  replace Vki := Vki.other W24 (Ne.symm ne_po_ki)
  replace Vix := Vix.other W24 (Ne.symm ne_po_ix)
  replace Vmv := Vmv.other W24 (Ne.symm ne_po_mv)
  replace Vkr := Vkr.other W24 (Ne.symm ne_po_kr)
  replace Vrt := Vrt.other W24 (Ne.symm ne_po_rt)
  replace hz := Nat.le_trans hz (Nat.le_of_eq W24.size.symm)
  replace K0 := K0.wr W24 (Or.inl (by simp))
  have N24 := Fr.snoc X24 N22 ga
  refine Go.of (mkF m 40 #[.val (.ref po), .val (.int 2)] []) (st24) ?_
  exact Go.retV X24 hx hret hlk (hb hby d25_40) (by decide) (by decide) (by rw [e24]; exact ⟨rfl, N24, K0, ⟨(0 : Int32), yc, yki, yix, (fnup (fnup ymv (yc (0 : Int32)) (0 : Int32)) (yc (1 : Int32)) (0 : Int32)), (fnup (fnup ykr (0 : Int32) .null) (1 : Int32) .null), yrt, E, S1, S2, S3, S4, S5, S6, Sk, Vcu, Vkr, Vki, Vrt, Vix, Vmv, Ukr, Urt, Er, hr1, hr2, hi1, hi2, own_ke2 hD⟩⟩)
theorem ef_rmUn (m : MethodId) (x0 : Addr) : entryFrame m #[(.ref x0)] 2 = mkF m 0 #[.val (.ref x0), .unset] [] := by first | (simp [entryFrame, mkF, argsToLocals, Value.category]; done) | rfl
theorem rmUn (l : Launch) (Z : State) (a0 : Array Value) (hw : ∀ d ∈ tables_1, d.before a0 Z = true) (ws : List Jvm.Cond) (po cu kr ki rt ix mv ro : Nat) (r1 r2 q1 q2 : Value) (i1 i2 j1 j2 : Int32) (h0 : Heap) (n0 : Nat) (hz0 : n0 ≤ h0.size) (ga : n0 ≤ po) (o0 : ro < po) (o1 : po < cu) (o2 : cu < kr) (o3 : kr < ki) (o4 : ki < rt) (o5 : rt < ix) (o6 : ix < mv) (St : own_St Z h0 po cu kr ki rt ix mv ro r1 r2 q1 q2 i1 i2 j1 j2) (hv1 : own_V ro q1) (hv2 : own_V ro q2) :
    Met l Z (⟨"com/example/kiriman/kiriman/route/Positions", "undo", "()V"⟩ : MethodName) prog_27_method_7_code 2 none ws ({ frames := 1, cells := 0, slots := 0, locals := 13 } : Room) #[(.ref po)] h0 (fun v h L => v = none ∧ Fr n0 L ∧ Keep h0 h [po, cu, kr, ki, rt, ix, mv] ∧ own_St Z h po cu kr ki rt ix mv ro q1 q2 q1 q2 j1 j2 j1 j2) := by
 refine Met.intro pn29 ?_
 intro pr ev s m below meth c T0 X0 hx hZ hown hby hml hret hlk hnm e0
 refine Go.cast (ef_rmUn m po) ?_
 have N0 := Fr.nil n0
 have hz := hz0
 have K0 : Keep h0 h0 [po, cu, kr, ki, rt, ix, mv] := Keep.refl h0 _
 obtain ⟨k, yc, yki, yix, ymv, ykr, yrt, E, S1, S2, S3, S4, S5, S6, Sk, Vcu, Vkr, Vki, Vrt, Vix, Vmv, Ukr, Urt, Er, hr1, hr2, hi1, hi2, hD⟩ := St
 have ne_ro_po : ro ≠ po := by omega
 have ne_ro_cu : ro ≠ cu := by omega
 have ne_ro_kr : ro ≠ kr := by omega
 have ne_ro_ki : ro ≠ ki := by omega
 have ne_ro_rt : ro ≠ rt := by omega
 have ne_ro_ix : ro ≠ ix := by omega
 have ne_ro_mv : ro ≠ mv := by omega
 have ne_po_cu : po ≠ cu := by omega
 have ne_po_kr : po ≠ kr := by omega
 have ne_po_ki : po ≠ ki := by omega
 have ne_po_rt : po ≠ rt := by omega
 have ne_po_ix : po ≠ ix := by omega
 have ne_po_mv : po ≠ mv := by omega
 have ne_cu_kr : cu ≠ kr := by omega
 have ne_cu_ki : cu ≠ ki := by omega
 have ne_cu_rt : cu ≠ rt := by omega
 have ne_cu_ix : cu ≠ ix := by omega
 have ne_cu_mv : cu ≠ mv := by omega
 have ne_kr_ki : kr ≠ ki := by omega
 have ne_kr_rt : kr ≠ rt := by omega
 have ne_kr_ix : kr ≠ ix := by omega
 have ne_kr_mv : kr ≠ mv := by omega
 have ne_ki_rt : ki ≠ rt := by omega
 have ne_ki_ix : ki ≠ ix := by omega
 have ne_ki_mv : ki ≠ mv := by omega
 have ne_rt_ix : rt ≠ ix := by omega
 have ne_rt_mv : rt ≠ mv := by omega
 have ne_ix_mv : ix ≠ mv := by omega
 have gb_cu : n0 ≤ cu := by omega
 have gb_kr : n0 ≤ kr := by omega
 have gb_ki : n0 ≤ ki := by omega
 have gb_rt : n0 ≤ rt := by omega
 have gb_ix : n0 ≤ ix := by omega
 have gb_mv : n0 ≤ mv := by omega
 rcases own_k3 hD with rfl | rfl | rfl
 ·
  have hu := own_un0 hr1 hr2 hi1 hi2 hD
  refine Go.of (mkF m 1 #[.val (.ref po), .unset] [(.int 0)]) (fun _ q => XS.iconst X0.here hx rfl (hb hby d24_0) q) ?_
  refine Go.of (mkF m 2 #[.val (.ref po), .val (.int 0)] []) (fun _ q => XS.istoreN X0.here hx rfl (hb hby d24_1) rfl (l' := #[.val (.ref po), .val (.int 0)]) rfl q) ?_
  refine Go.of (mkF m 3 #[.val (.ref po), .val (.int 0)] [(.int 0)]) (fun _ q => XS.iloadN X0.here hx rfl (hb hby d24_2) rfl q) ?_
  refine Go.of (mkF m 4 #[.val (.ref po), .val (.int 0)] [(.ref po), (.int 0)]) (fun _ q => XS.aloadN X0.here hx rfl (hb hby d24_3) rfl rfl q) ?_
  obtain ⟨T1, X1, e1, st1⟩ := getF X0 hx hZ hown (host := "") (Or.inl (tw176 hw)) Via.refl e0 Sk (g := (mkF m 4 #[.val (.ref po), .val (.int 0)] [(.ref po), (.int 0)])) rfl rfl (hb hby d24_4)
  refine Go.of (mkF m 7 #[.val (.ref po), .val (.int 0)] [(.int 0), (.int 0)]) (st1) ?_
  refine Go.of (mkF m 50 #[.val (.ref po), .val (.int 0)] []) (fun _ q => XS.icmpYes X1.here hx rfl (pc0 := 7) (pc' := 50) rfl (hb hby d24_7) rfl (flt (by decide)).2.1 (by decide) (by decide) q) ?_
  refine Go.of (mkF m 51 #[.val (.ref po), .val (.int 0)] [(.ref po)]) (fun _ q => XS.aloadN X1.here hx rfl (hb hby d24_50) rfl rfl q) ?_
  have SX : own_St Z h0 po cu kr ki rt ix mv ro q1 q2 q1 q2 j1 j2 j1 j2 := ⟨(0 : Int32), yc, yki, yix, ymv, ykr, yrt, E, S1, S2, S3, S4, S5, S6, Sk, Vcu, Vkr, Vki, Vrt, Vix, Vmv, Ukr, Urt, Er, hu.1, hu.2.1, hu.2.2.1, hu.2.2.2, own_un hD⟩
  refine Go.virt X1 hx hZ (y := (⟨"com/example/kiriman/kiriman/route/Positions", "keep", "()V"⟩ : MethodName)) (z := (⟨"com/example/kiriman/kiriman/route/Positions", "keep", "()V"⟩ : MethodName)) (a := po) (argsL := []) (rest := []) hown (tw184 hw) (tw185 hw) (notFace_of_selects (args := #[]) (mvT hZ (tw187 hw))) (tw187 hw) (tw186 hw) (tw138 hw) (tw188 hw) (by decide) e1 E (rmKe l Z a0 hw [] po cu kr ki rt ix mv ro q1 q2 q1 q2 j1 j2 j1 j2 h0 n0 hz ga o0 o1 o2 o3 o4 o5 o6 SX) (g := (mkF m 51 #[.val (.ref po), .val (.int 0)] [(.ref po)])) rfl (by rw [hml]; rfl) (lenOf pd30 rfl) rfl (W := 0) (by show 2 * 0 + _ ≤ _; exact Nat.le_of_eq rfl) (hb hby d24_51) (by decide) (by decide) (by decide) (by decide) ?_
  rintro T2 L2 v2 X2 ⟨rfl, NL2, K2, SY⟩
  have N2 := Fr.app N0 NL2
  replace E := E.keep K2
  replace Er := Er.keep K2
  replace Ukr := Ukr.keep K2
  replace Urt := Urt.keep K2
  replace hz := Nat.le_trans hz K2.1
  replace K0 := K0.trans K2 (((allS (Or.inl (by simp)) (allS (Or.inl (by simp)) (allS (Or.inl (by simp)) (allS (Or.inl (by simp)) (allS (Or.inl (by simp)) (allS (Or.inl (by simp)) (allS (Or.inl (by simp)) all0)))))))))
  show Go pr ev below _ T2 (mkF m 54 #[.val (.ref po), .val (.int 0)] [])
  exact Go.retV X2 hx hret hlk (hb hby d24_54) (by decide) (by decide) ⟨rfl, N2, K0, SY⟩
 ·
  have hc0 := own_w (own_c0 (by decide) hD)
  have hx0 := own_v0 (by decide) hv1 hv2 hD
  have hu := own_un1 hr1 hr2 hi1 hi2 hD
  refine Go.of (mkF m 1 #[.val (.ref po), .unset] [(.int 0)]) (fun _ q => XS.iconst X0.here hx rfl (hb hby d24_0) q) ?_
  refine Go.of (mkF m 2 #[.val (.ref po), .val (.int 0)] []) (fun _ q => XS.istoreN X0.here hx rfl (hb hby d24_1) rfl (l' := #[.val (.ref po), .val (.int 0)]) rfl q) ?_
  refine Go.of (mkF m 3 #[.val (.ref po), .val (.int 0)] [(.int 0)]) (fun _ q => XS.iloadN X0.here hx rfl (hb hby d24_2) rfl q) ?_
  refine Go.of (mkF m 4 #[.val (.ref po), .val (.int 0)] [(.ref po), (.int 0)]) (fun _ q => XS.aloadN X0.here hx rfl (hb hby d24_3) rfl rfl q) ?_
  obtain ⟨T3, X3, e3, st3⟩ := getF X0 hx hZ hown (host := "") (Or.inl (tw176 hw)) Via.refl e0 Sk (g := (mkF m 4 #[.val (.ref po), .val (.int 0)] [(.ref po), (.int 0)])) rfl rfl (hb hby d24_4)
  refine Go.of (mkF m 7 #[.val (.ref po), .val (.int 0)] [(.int 1), (.int 0)]) (st3) ?_
  refine Go.of (mkF m 10 #[.val (.ref po), .val (.int 0)] []) (fun _ q => XS.icmpNo X3.here hx rfl (hb hby d24_7) rfl (tlt (by decide)).2.1 q) ?_
  refine Go.of (mkF m 11 #[.val (.ref po), .val (.int 0)] [(.ref po)]) (fun _ q => XS.aloadN X3.here hx rfl (hb hby d24_10) rfl rfl q) ?_
  obtain ⟨T4, X4, e4, st4⟩ := getF X3 hx hZ hown (host := "") (Or.inl (tw150 hw)) Via.refl e3 S4 (g := (mkF m 11 #[.val (.ref po), .val (.int 0)] [(.ref po)])) rfl rfl (hb hby d24_11)
  refine Go.of (mkF m 14 #[.val (.ref po), .val (.int 0)] [(.ref rt)]) (st4) ?_
  refine Go.of (mkF m 15 #[.val (.ref po), .val (.int 0)] [(.ref po), (.ref rt)]) (fun _ q => XS.aloadN X4.here hx rfl (hb hby d24_14) rfl rfl q) ?_
  obtain ⟨T5, X5, e5, st5⟩ := getF X4 hx hZ hown (host := "") (Or.inl (tw143 hw)) Via.refl e4 S1 (g := (mkF m 15 #[.val (.ref po), .val (.int 0)] [(.ref po), (.ref rt)])) rfl rfl (hb hby d24_15)
  refine Go.of (mkF m 18 #[.val (.ref po), .val (.int 0)] [(.ref cu), (.ref rt)]) (st5) ?_
  refine Go.of (mkF m 19 #[.val (.ref po), .val (.int 0)] [(.int 0), (.ref cu), (.ref rt)]) (fun _ q => XS.iloadN X5.here hx rfl (hb hby d24_18) rfl q) ?_
  refine Go.iaload X5 hx hZ e5 Vcu (by decide) (by decide) (g := (mkF m 19 #[.val (.ref po), .val (.int 0)] [(.int 0), (.ref cu), (.ref rt)])) rfl rfl (hb hby d24_19) ?_
  show Go pr ev below _ T5 (mkF m 20 #[.val (.ref po), .val (.int 0)] [(.int (yc (0 : Int32))), (.ref rt)])
  show Go pr ev below _ T5 (mkF m 20 #[.val (.ref po), .val (.int 0)] [(.int (yc (0 : Int32))), (.ref rt)])
  refine Go.of (mkF m 21 #[.val (.ref po), .val (.int 0)] [(.ref po), (.int (yc (0 : Int32))), (.ref rt)]) (fun _ q => XS.aloadN X5.here hx rfl (hb hby d24_20) rfl rfl q) ?_
  obtain ⟨T6, X6, e6, st6⟩ := getF X5 hx hZ hown (host := "") (Or.inl (tw146 hw)) Via.refl e5 S2 (g := (mkF m 21 #[.val (.ref po), .val (.int 0)] [(.ref po), (.int (yc (0 : Int32))), (.ref rt)])) rfl rfl (hb hby d24_21)
  refine Go.of (mkF m 24 #[.val (.ref po), .val (.int 0)] [(.ref kr), (.int (yc (0 : Int32))), (.ref rt)]) (st6) ?_
  refine Go.of (mkF m 25 #[.val (.ref po), .val (.int 0)] [(.int 0), (.ref kr), (.int (yc (0 : Int32))), (.ref rt)]) (fun _ q => XS.iloadN X6.here hx rfl (hb hby d24_24) rfl q) ?_
  refine Go.aaload X6 hx hZ e6 Vkr rfl (by decide) (by decide) (g := (mkF m 25 #[.val (.ref po), .val (.int 0)] [(.int 0), (.ref kr), (.int (yc (0 : Int32))), (.ref rt)])) rfl rfl (hb hby d24_25) ?_
  show Go pr ev below _ T6 (mkF m 26 #[.val (.ref po), .val (.int 0)] [(ykr (0 : Int32)), (.int (yc (0 : Int32))), (.ref rt)])
  refine Go.aastore X6 hx hZ e6 Vrt rfl (own_fit hx0) (own_sto hx0 Vrt Urt Er) hc0.1 hc0.2 (g := (mkF m 26 #[.val (.ref po), .val (.int 0)] [(ykr (0 : Int32)), (.int (yc (0 : Int32))), (.ref rt)])) rfl rfl (hb hby d24_26) ?_
  rintro T7 h7 X7 e7 W7 V7
  replace S1 := S1.other W7 (Or.inl ne_po_rt)
  replace S2 := S2.other W7 (Or.inl ne_po_rt)
  replace S3 := S3.other W7 (Or.inl ne_po_rt)
  replace S4 := S4.other W7 (Or.inl ne_po_rt)
  replace S5 := S5.other W7 (Or.inl ne_po_rt)
  replace S6 := S6.other W7 (Or.inl ne_po_rt)
  replace Sk := Sk.other W7 (Or.inl ne_po_rt)
  replace E := E.wr W7
  replace Er := Er.wr W7
  replace Ukr := Ukr.wr W7
  replace Urt := Urt.wr W7
  replace Vcu := Vcu.other W7 ne_cu_rt
  replace Vki := Vki.other W7 ne_ki_rt
  replace Vix := Vix.other W7 (Ne.symm ne_rt_ix)
  replace Vmv := Vmv.other W7 (Ne.symm ne_rt_mv)
  replace Vkr := Vkr.other W7 ne_kr_rt
  replace hz := Nat.le_trans hz (Nat.le_of_eq W7.size.symm)
  replace K0 := K0.wr W7 (Or.inl (by simp))
  replace Vrt := V7
  have N7 := Fr.snoc X7 N0 gb_rt
  show Go pr ev below _ T7 (mkF m 27 #[.val (.ref po), .val (.int 0)] [])
  refine Go.of (mkF m 28 #[.val (.ref po), .val (.int 0)] [(.ref po)]) (fun _ q => XS.aloadN X7.here hx rfl (hb hby d24_27) rfl rfl q) ?_
  obtain ⟨T8, X8, e8, st8⟩ := getF X7 hx hZ hown (host := "") (Or.inl (tw152 hw)) Via.refl e7 S5 (g := (mkF m 28 #[.val (.ref po), .val (.int 0)] [(.ref po)])) rfl rfl (hb hby d24_28)
  refine Go.of (mkF m 31 #[.val (.ref po), .val (.int 0)] [(.ref ix)]) (st8) ?_
  refine Go.of (mkF m 32 #[.val (.ref po), .val (.int 0)] [(.ref po), (.ref ix)]) (fun _ q => XS.aloadN X8.here hx rfl (hb hby d24_31) rfl rfl q) ?_
  obtain ⟨T9, X9, e9, st9⟩ := getF X8 hx hZ hown (host := "") (Or.inl (tw143 hw)) Via.refl e8 S1 (g := (mkF m 32 #[.val (.ref po), .val (.int 0)] [(.ref po), (.ref ix)])) rfl rfl (hb hby d24_32)
  refine Go.of (mkF m 35 #[.val (.ref po), .val (.int 0)] [(.ref cu), (.ref ix)]) (st9) ?_
  refine Go.of (mkF m 36 #[.val (.ref po), .val (.int 0)] [(.int 0), (.ref cu), (.ref ix)]) (fun _ q => XS.iloadN X9.here hx rfl (hb hby d24_35) rfl q) ?_
  refine Go.iaload X9 hx hZ e9 Vcu (by decide) (by decide) (g := (mkF m 36 #[.val (.ref po), .val (.int 0)] [(.int 0), (.ref cu), (.ref ix)])) rfl rfl (hb hby d24_36) ?_
  show Go pr ev below _ T9 (mkF m 37 #[.val (.ref po), .val (.int 0)] [(.int (yc (0 : Int32))), (.ref ix)])
  show Go pr ev below _ T9 (mkF m 37 #[.val (.ref po), .val (.int 0)] [(.int (yc (0 : Int32))), (.ref ix)])
  refine Go.of (mkF m 38 #[.val (.ref po), .val (.int 0)] [(.ref po), (.int (yc (0 : Int32))), (.ref ix)]) (fun _ q => XS.aloadN X9.here hx rfl (hb hby d24_37) rfl rfl q) ?_
  obtain ⟨T10, X10, e10, st10⟩ := getF X9 hx hZ hown (host := "") (Or.inl (tw148 hw)) Via.refl e9 S3 (g := (mkF m 38 #[.val (.ref po), .val (.int 0)] [(.ref po), (.int (yc (0 : Int32))), (.ref ix)])) rfl rfl (hb hby d24_38)
  refine Go.of (mkF m 41 #[.val (.ref po), .val (.int 0)] [(.ref ki), (.int (yc (0 : Int32))), (.ref ix)]) (st10) ?_
  refine Go.of (mkF m 42 #[.val (.ref po), .val (.int 0)] [(.int 0), (.ref ki), (.int (yc (0 : Int32))), (.ref ix)]) (fun _ q => XS.iloadN X10.here hx rfl (hb hby d24_41) rfl q) ?_
  refine Go.iaload X10 hx hZ e10 Vki (by decide) (by decide) (g := (mkF m 42 #[.val (.ref po), .val (.int 0)] [(.int 0), (.ref ki), (.int (yc (0 : Int32))), (.ref ix)])) rfl rfl (hb hby d24_42) ?_
  show Go pr ev below _ T10 (mkF m 43 #[.val (.ref po), .val (.int 0)] [(.int (yki (0 : Int32))), (.int (yc (0 : Int32))), (.ref ix)])
  show Go pr ev below _ T10 (mkF m 43 #[.val (.ref po), .val (.int 0)] [(.int (yki (0 : Int32))), (.int (yc (0 : Int32))), (.ref ix)])
  refine Go.iastore X10 hx hZ e10 Vix hc0.1 hc0.2 (g := (mkF m 43 #[.val (.ref po), .val (.int 0)] [(.int (yki (0 : Int32))), (.int (yc (0 : Int32))), (.ref ix)])) rfl rfl (hb hby d24_43) ?_
  rintro T11 h11 X11 e11 W11 V11
  replace S1 := S1.other W11 (Or.inl ne_po_ix)
  replace S2 := S2.other W11 (Or.inl ne_po_ix)
  replace S3 := S3.other W11 (Or.inl ne_po_ix)
  replace S4 := S4.other W11 (Or.inl ne_po_ix)
  replace S5 := S5.other W11 (Or.inl ne_po_ix)
  replace S6 := S6.other W11 (Or.inl ne_po_ix)
  replace Sk := Sk.other W11 (Or.inl ne_po_ix)
  replace E := E.wr W11
  replace Er := Er.wr W11
  replace Ukr := Ukr.wr W11
  replace Urt := Urt.wr W11
  replace Vcu := Vcu.other W11 ne_cu_ix
  replace Vki := Vki.other W11 ne_ki_ix
  replace Vmv := Vmv.other W11 (Ne.symm ne_ix_mv)
  replace Vkr := Vkr.other W11 ne_kr_ix
  replace Vrt := Vrt.other W11 ne_rt_ix
  replace hz := Nat.le_trans hz (Nat.le_of_eq W11.size.symm)
  replace K0 := K0.wr W11 (Or.inl (by simp))
  replace Vix := V11
  have N11 := Fr.snoc X11 N7 gb_ix
  show Go pr ev below _ T11 (mkF m 44 #[.val (.ref po), .val (.int 0)] [])
  refine Go.of (mkF m 47 #[.val (.ref po), .val (.int ((0 : Int32) + (1 : Int32)))] []) (fun _ q => XS.iinc X11.here hx rfl (hb hby d24_44) rfl (l' := #[.val (.ref po), .val (.int ((0 : Int32) + (1 : Int32)))]) rfl q) ?_
  rw [show ((0 : Int32) + (1 : Int32)) = (1 : Int32) from by decide]
  refine Go.of (mkF m 2 #[.val (.ref po), .val (.int 1)] []) (fun _ q => XS.goto X11.here hx rfl (pc0 := 47) (pc' := 2) rfl (hb hby d24_47) (by decide) (by decide) q) ?_
  refine Go.of (mkF m 3 #[.val (.ref po), .val (.int 1)] [(.int 1)]) (fun _ q => XS.iloadN X11.here hx rfl (hb hby d24_2) rfl q) ?_
  refine Go.of (mkF m 4 #[.val (.ref po), .val (.int 1)] [(.ref po), (.int 1)]) (fun _ q => XS.aloadN X11.here hx rfl (hb hby d24_3) rfl rfl q) ?_
  obtain ⟨T12, X12, e12, st12⟩ := getF X11 hx hZ hown (host := "") (Or.inl (tw176 hw)) Via.refl e11 Sk (g := (mkF m 4 #[.val (.ref po), .val (.int 1)] [(.ref po), (.int 1)])) rfl rfl (hb hby d24_4)
  refine Go.of (mkF m 7 #[.val (.ref po), .val (.int 1)] [(.int 1), (.int 1)]) (st12) ?_
  refine Go.of (mkF m 50 #[.val (.ref po), .val (.int 1)] []) (fun _ q => XS.icmpYes X12.here hx rfl (pc0 := 7) (pc' := 50) rfl (hb hby d24_7) rfl (flt (by decide)).2.1 (by decide) (by decide) q) ?_
  refine Go.of (mkF m 51 #[.val (.ref po), .val (.int 1)] [(.ref po)]) (fun _ q => XS.aloadN X12.here hx rfl (hb hby d24_50) rfl rfl q) ?_
  have SX : own_St Z h11 po cu kr ki rt ix mv ro q1 q2 q1 q2 j1 j2 j1 j2 := ⟨(1 : Int32), yc, yki, (fnup yix (yc (0 : Int32)) (yki (0 : Int32))), ymv, ykr, (fnup yrt (yc (0 : Int32)) (ykr (0 : Int32))), E, S1, S2, S3, S4, S5, S6, Sk, Vcu, Vkr, Vki, Vrt, Vix, Vmv, Ukr, Urt, Er, hu.1, hu.2.1, hu.2.2.1, hu.2.2.2, own_un hD⟩
  refine Go.virt X12 hx hZ (y := (⟨"com/example/kiriman/kiriman/route/Positions", "keep", "()V"⟩ : MethodName)) (z := (⟨"com/example/kiriman/kiriman/route/Positions", "keep", "()V"⟩ : MethodName)) (a := po) (argsL := []) (rest := []) hown (tw184 hw) (tw185 hw) (notFace_of_selects (args := #[]) (mvT hZ (tw187 hw))) (tw187 hw) (tw186 hw) (tw138 hw) (tw188 hw) (by decide) e12 E (rmKe l Z a0 hw [] po cu kr ki rt ix mv ro q1 q2 q1 q2 j1 j2 j1 j2 h11 n0 hz ga o0 o1 o2 o3 o4 o5 o6 SX) (g := (mkF m 51 #[.val (.ref po), .val (.int 1)] [(.ref po)])) rfl (by rw [hml]; rfl) (lenOf pd30 rfl) rfl (W := 0) (by show 2 * 0 + _ ≤ _; exact Nat.le_of_eq rfl) (hb hby d24_51) (by decide) (by decide) (by decide) (by decide) ?_
  rintro T13 L13 v13 X13 ⟨rfl, NL13, K13, SY⟩
  have N13 := Fr.app N11 NL13
  replace E := E.keep K13
  replace Er := Er.keep K13
  replace Ukr := Ukr.keep K13
  replace Urt := Urt.keep K13
  replace hz := Nat.le_trans hz K13.1
  replace K0 := K0.trans K13 (((allS (Or.inl (by simp)) (allS (Or.inl (by simp)) (allS (Or.inl (by simp)) (allS (Or.inl (by simp)) (allS (Or.inl (by simp)) (allS (Or.inl (by simp)) (allS (Or.inl (by simp)) all0)))))))))
  show Go pr ev below _ T13 (mkF m 54 #[.val (.ref po), .val (.int 1)] [])
  exact Go.retV X13 hx hret hlk (hb hby d24_54) (by decide) (by decide) ⟨rfl, N13, K0, SY⟩
 ·
  have hc0 := own_w (own_c0 (by decide) hD)
  have hc1 := own_w (own_c1 hD)
  have hx0 := own_v0 (by decide) hv1 hv2 hD
  have hx1 := own_v1 hv1 hv2 hD
  have hu := own_un2 hr1 hr2 hi1 hi2 hD
  refine Go.of (mkF m 1 #[.val (.ref po), .unset] [(.int 0)]) (fun _ q => XS.iconst X0.here hx rfl (hb hby d24_0) q) ?_
  refine Go.of (mkF m 2 #[.val (.ref po), .val (.int 0)] []) (fun _ q => XS.istoreN X0.here hx rfl (hb hby d24_1) rfl (l' := #[.val (.ref po), .val (.int 0)]) rfl q) ?_
  refine Go.of (mkF m 3 #[.val (.ref po), .val (.int 0)] [(.int 0)]) (fun _ q => XS.iloadN X0.here hx rfl (hb hby d24_2) rfl q) ?_
  refine Go.of (mkF m 4 #[.val (.ref po), .val (.int 0)] [(.ref po), (.int 0)]) (fun _ q => XS.aloadN X0.here hx rfl (hb hby d24_3) rfl rfl q) ?_
  obtain ⟨T14, X14, e14, st14⟩ := getF X0 hx hZ hown (host := "") (Or.inl (tw176 hw)) Via.refl e0 Sk (g := (mkF m 4 #[.val (.ref po), .val (.int 0)] [(.ref po), (.int 0)])) rfl rfl (hb hby d24_4)
  refine Go.of (mkF m 7 #[.val (.ref po), .val (.int 0)] [(.int 2), (.int 0)]) (st14) ?_
  refine Go.of (mkF m 10 #[.val (.ref po), .val (.int 0)] []) (fun _ q => XS.icmpNo X14.here hx rfl (hb hby d24_7) rfl (tlt (by decide)).2.1 q) ?_
  refine Go.of (mkF m 11 #[.val (.ref po), .val (.int 0)] [(.ref po)]) (fun _ q => XS.aloadN X14.here hx rfl (hb hby d24_10) rfl rfl q) ?_
  obtain ⟨T15, X15, e15, st15⟩ := getF X14 hx hZ hown (host := "") (Or.inl (tw150 hw)) Via.refl e14 S4 (g := (mkF m 11 #[.val (.ref po), .val (.int 0)] [(.ref po)])) rfl rfl (hb hby d24_11)
  refine Go.of (mkF m 14 #[.val (.ref po), .val (.int 0)] [(.ref rt)]) (st15) ?_
  refine Go.of (mkF m 15 #[.val (.ref po), .val (.int 0)] [(.ref po), (.ref rt)]) (fun _ q => XS.aloadN X15.here hx rfl (hb hby d24_14) rfl rfl q) ?_
  obtain ⟨T16, X16, e16, st16⟩ := getF X15 hx hZ hown (host := "") (Or.inl (tw143 hw)) Via.refl e15 S1 (g := (mkF m 15 #[.val (.ref po), .val (.int 0)] [(.ref po), (.ref rt)])) rfl rfl (hb hby d24_15)
  refine Go.of (mkF m 18 #[.val (.ref po), .val (.int 0)] [(.ref cu), (.ref rt)]) (st16) ?_
  refine Go.of (mkF m 19 #[.val (.ref po), .val (.int 0)] [(.int 0), (.ref cu), (.ref rt)]) (fun _ q => XS.iloadN X16.here hx rfl (hb hby d24_18) rfl q) ?_
  refine Go.iaload X16 hx hZ e16 Vcu (by decide) (by decide) (g := (mkF m 19 #[.val (.ref po), .val (.int 0)] [(.int 0), (.ref cu), (.ref rt)])) rfl rfl (hb hby d24_19) ?_
  show Go pr ev below _ T16 (mkF m 20 #[.val (.ref po), .val (.int 0)] [(.int (yc (0 : Int32))), (.ref rt)])
  show Go pr ev below _ T16 (mkF m 20 #[.val (.ref po), .val (.int 0)] [(.int (yc (0 : Int32))), (.ref rt)])
  refine Go.of (mkF m 21 #[.val (.ref po), .val (.int 0)] [(.ref po), (.int (yc (0 : Int32))), (.ref rt)]) (fun _ q => XS.aloadN X16.here hx rfl (hb hby d24_20) rfl rfl q) ?_
  obtain ⟨T17, X17, e17, st17⟩ := getF X16 hx hZ hown (host := "") (Or.inl (tw146 hw)) Via.refl e16 S2 (g := (mkF m 21 #[.val (.ref po), .val (.int 0)] [(.ref po), (.int (yc (0 : Int32))), (.ref rt)])) rfl rfl (hb hby d24_21)
  refine Go.of (mkF m 24 #[.val (.ref po), .val (.int 0)] [(.ref kr), (.int (yc (0 : Int32))), (.ref rt)]) (st17) ?_
  refine Go.of (mkF m 25 #[.val (.ref po), .val (.int 0)] [(.int 0), (.ref kr), (.int (yc (0 : Int32))), (.ref rt)]) (fun _ q => XS.iloadN X17.here hx rfl (hb hby d24_24) rfl q) ?_
  refine Go.aaload X17 hx hZ e17 Vkr rfl (by decide) (by decide) (g := (mkF m 25 #[.val (.ref po), .val (.int 0)] [(.int 0), (.ref kr), (.int (yc (0 : Int32))), (.ref rt)])) rfl rfl (hb hby d24_25) ?_
  show Go pr ev below _ T17 (mkF m 26 #[.val (.ref po), .val (.int 0)] [(ykr (0 : Int32)), (.int (yc (0 : Int32))), (.ref rt)])
  refine Go.aastore X17 hx hZ e17 Vrt rfl (own_fit hx0) (own_sto hx0 Vrt Urt Er) hc0.1 hc0.2 (g := (mkF m 26 #[.val (.ref po), .val (.int 0)] [(ykr (0 : Int32)), (.int (yc (0 : Int32))), (.ref rt)])) rfl rfl (hb hby d24_26) ?_
  rintro T18 h18 X18 e18 W18 V18
  replace S1 := S1.other W18 (Or.inl ne_po_rt)
  replace S2 := S2.other W18 (Or.inl ne_po_rt)
  replace S3 := S3.other W18 (Or.inl ne_po_rt)
  replace S4 := S4.other W18 (Or.inl ne_po_rt)
  replace S5 := S5.other W18 (Or.inl ne_po_rt)
  replace S6 := S6.other W18 (Or.inl ne_po_rt)
  replace Sk := Sk.other W18 (Or.inl ne_po_rt)
  replace E := E.wr W18
  replace Er := Er.wr W18
  replace Ukr := Ukr.wr W18
  replace Urt := Urt.wr W18
  replace Vcu := Vcu.other W18 ne_cu_rt
  replace Vki := Vki.other W18 ne_ki_rt
  replace Vix := Vix.other W18 (Ne.symm ne_rt_ix)
  replace Vmv := Vmv.other W18 (Ne.symm ne_rt_mv)
  replace Vkr := Vkr.other W18 ne_kr_rt
  replace hz := Nat.le_trans hz (Nat.le_of_eq W18.size.symm)
  replace K0 := K0.wr W18 (Or.inl (by simp))
  replace Vrt := V18
  have N18 := Fr.snoc X18 N0 gb_rt
  show Go pr ev below _ T18 (mkF m 27 #[.val (.ref po), .val (.int 0)] [])
  refine Go.of (mkF m 28 #[.val (.ref po), .val (.int 0)] [(.ref po)]) (fun _ q => XS.aloadN X18.here hx rfl (hb hby d24_27) rfl rfl q) ?_
  obtain ⟨T19, X19, e19, st19⟩ := getF X18 hx hZ hown (host := "") (Or.inl (tw152 hw)) Via.refl e18 S5 (g := (mkF m 28 #[.val (.ref po), .val (.int 0)] [(.ref po)])) rfl rfl (hb hby d24_28)
  refine Go.of (mkF m 31 #[.val (.ref po), .val (.int 0)] [(.ref ix)]) (st19) ?_
  refine Go.of (mkF m 32 #[.val (.ref po), .val (.int 0)] [(.ref po), (.ref ix)]) (fun _ q => XS.aloadN X19.here hx rfl (hb hby d24_31) rfl rfl q) ?_
  obtain ⟨T20, X20, e20, st20⟩ := getF X19 hx hZ hown (host := "") (Or.inl (tw143 hw)) Via.refl e19 S1 (g := (mkF m 32 #[.val (.ref po), .val (.int 0)] [(.ref po), (.ref ix)])) rfl rfl (hb hby d24_32)
  refine Go.of (mkF m 35 #[.val (.ref po), .val (.int 0)] [(.ref cu), (.ref ix)]) (st20) ?_
  refine Go.of (mkF m 36 #[.val (.ref po), .val (.int 0)] [(.int 0), (.ref cu), (.ref ix)]) (fun _ q => XS.iloadN X20.here hx rfl (hb hby d24_35) rfl q) ?_
  refine Go.iaload X20 hx hZ e20 Vcu (by decide) (by decide) (g := (mkF m 36 #[.val (.ref po), .val (.int 0)] [(.int 0), (.ref cu), (.ref ix)])) rfl rfl (hb hby d24_36) ?_
  show Go pr ev below _ T20 (mkF m 37 #[.val (.ref po), .val (.int 0)] [(.int (yc (0 : Int32))), (.ref ix)])
  show Go pr ev below _ T20 (mkF m 37 #[.val (.ref po), .val (.int 0)] [(.int (yc (0 : Int32))), (.ref ix)])
  refine Go.of (mkF m 38 #[.val (.ref po), .val (.int 0)] [(.ref po), (.int (yc (0 : Int32))), (.ref ix)]) (fun _ q => XS.aloadN X20.here hx rfl (hb hby d24_37) rfl rfl q) ?_
  obtain ⟨T21, X21, e21, st21⟩ := getF X20 hx hZ hown (host := "") (Or.inl (tw148 hw)) Via.refl e20 S3 (g := (mkF m 38 #[.val (.ref po), .val (.int 0)] [(.ref po), (.int (yc (0 : Int32))), (.ref ix)])) rfl rfl (hb hby d24_38)
  refine Go.of (mkF m 41 #[.val (.ref po), .val (.int 0)] [(.ref ki), (.int (yc (0 : Int32))), (.ref ix)]) (st21) ?_
  refine Go.of (mkF m 42 #[.val (.ref po), .val (.int 0)] [(.int 0), (.ref ki), (.int (yc (0 : Int32))), (.ref ix)]) (fun _ q => XS.iloadN X21.here hx rfl (hb hby d24_41) rfl q) ?_
  refine Go.iaload X21 hx hZ e21 Vki (by decide) (by decide) (g := (mkF m 42 #[.val (.ref po), .val (.int 0)] [(.int 0), (.ref ki), (.int (yc (0 : Int32))), (.ref ix)])) rfl rfl (hb hby d24_42) ?_
  show Go pr ev below _ T21 (mkF m 43 #[.val (.ref po), .val (.int 0)] [(.int (yki (0 : Int32))), (.int (yc (0 : Int32))), (.ref ix)])
  show Go pr ev below _ T21 (mkF m 43 #[.val (.ref po), .val (.int 0)] [(.int (yki (0 : Int32))), (.int (yc (0 : Int32))), (.ref ix)])
  refine Go.iastore X21 hx hZ e21 Vix hc0.1 hc0.2 (g := (mkF m 43 #[.val (.ref po), .val (.int 0)] [(.int (yki (0 : Int32))), (.int (yc (0 : Int32))), (.ref ix)])) rfl rfl (hb hby d24_43) ?_
  rintro T22 h22 X22 e22 W22 V22
  replace S1 := S1.other W22 (Or.inl ne_po_ix)
  replace S2 := S2.other W22 (Or.inl ne_po_ix)
  replace S3 := S3.other W22 (Or.inl ne_po_ix)
  replace S4 := S4.other W22 (Or.inl ne_po_ix)
  replace S5 := S5.other W22 (Or.inl ne_po_ix)
  replace S6 := S6.other W22 (Or.inl ne_po_ix)
  replace Sk := Sk.other W22 (Or.inl ne_po_ix)
  replace E := E.wr W22
  replace Er := Er.wr W22
  replace Ukr := Ukr.wr W22
  replace Urt := Urt.wr W22
  replace Vcu := Vcu.other W22 ne_cu_ix
  replace Vki := Vki.other W22 ne_ki_ix
  replace Vmv := Vmv.other W22 (Ne.symm ne_ix_mv)
  replace Vkr := Vkr.other W22 ne_kr_ix
  replace Vrt := Vrt.other W22 ne_rt_ix
  replace hz := Nat.le_trans hz (Nat.le_of_eq W22.size.symm)
  replace K0 := K0.wr W22 (Or.inl (by simp))
  replace Vix := V22
  have N22 := Fr.snoc X22 N18 gb_ix
  show Go pr ev below _ T22 (mkF m 44 #[.val (.ref po), .val (.int 0)] [])
  refine Go.of (mkF m 47 #[.val (.ref po), .val (.int ((0 : Int32) + (1 : Int32)))] []) (fun _ q => XS.iinc X22.here hx rfl (hb hby d24_44) rfl (l' := #[.val (.ref po), .val (.int ((0 : Int32) + (1 : Int32)))]) rfl q) ?_
  rw [show ((0 : Int32) + (1 : Int32)) = (1 : Int32) from by decide]
  refine Go.of (mkF m 2 #[.val (.ref po), .val (.int 1)] []) (fun _ q => XS.goto X22.here hx rfl (pc0 := 47) (pc' := 2) rfl (hb hby d24_47) (by decide) (by decide) q) ?_
  refine Go.of (mkF m 3 #[.val (.ref po), .val (.int 1)] [(.int 1)]) (fun _ q => XS.iloadN X22.here hx rfl (hb hby d24_2) rfl q) ?_
  refine Go.of (mkF m 4 #[.val (.ref po), .val (.int 1)] [(.ref po), (.int 1)]) (fun _ q => XS.aloadN X22.here hx rfl (hb hby d24_3) rfl rfl q) ?_
  obtain ⟨T23, X23, e23, st23⟩ := getF X22 hx hZ hown (host := "") (Or.inl (tw176 hw)) Via.refl e22 Sk (g := (mkF m 4 #[.val (.ref po), .val (.int 1)] [(.ref po), (.int 1)])) rfl rfl (hb hby d24_4)
  refine Go.of (mkF m 7 #[.val (.ref po), .val (.int 1)] [(.int 2), (.int 1)]) (st23) ?_
  refine Go.of (mkF m 10 #[.val (.ref po), .val (.int 1)] []) (fun _ q => XS.icmpNo X23.here hx rfl (hb hby d24_7) rfl (tlt (by decide)).2.1 q) ?_
  refine Go.of (mkF m 11 #[.val (.ref po), .val (.int 1)] [(.ref po)]) (fun _ q => XS.aloadN X23.here hx rfl (hb hby d24_10) rfl rfl q) ?_
  obtain ⟨T24, X24, e24, st24⟩ := getF X23 hx hZ hown (host := "") (Or.inl (tw150 hw)) Via.refl e23 S4 (g := (mkF m 11 #[.val (.ref po), .val (.int 1)] [(.ref po)])) rfl rfl (hb hby d24_11)
  refine Go.of (mkF m 14 #[.val (.ref po), .val (.int 1)] [(.ref rt)]) (st24) ?_
  refine Go.of (mkF m 15 #[.val (.ref po), .val (.int 1)] [(.ref po), (.ref rt)]) (fun _ q => XS.aloadN X24.here hx rfl (hb hby d24_14) rfl rfl q) ?_
  obtain ⟨T25, X25, e25, st25⟩ := getF X24 hx hZ hown (host := "") (Or.inl (tw143 hw)) Via.refl e24 S1 (g := (mkF m 15 #[.val (.ref po), .val (.int 1)] [(.ref po), (.ref rt)])) rfl rfl (hb hby d24_15)
  refine Go.of (mkF m 18 #[.val (.ref po), .val (.int 1)] [(.ref cu), (.ref rt)]) (st25) ?_
  refine Go.of (mkF m 19 #[.val (.ref po), .val (.int 1)] [(.int 1), (.ref cu), (.ref rt)]) (fun _ q => XS.iloadN X25.here hx rfl (hb hby d24_18) rfl q) ?_
  refine Go.iaload X25 hx hZ e25 Vcu (by decide) (by decide) (g := (mkF m 19 #[.val (.ref po), .val (.int 1)] [(.int 1), (.ref cu), (.ref rt)])) rfl rfl (hb hby d24_19) ?_
  show Go pr ev below _ T25 (mkF m 20 #[.val (.ref po), .val (.int 1)] [(.int (yc (1 : Int32))), (.ref rt)])
  show Go pr ev below _ T25 (mkF m 20 #[.val (.ref po), .val (.int 1)] [(.int (yc (1 : Int32))), (.ref rt)])
  refine Go.of (mkF m 21 #[.val (.ref po), .val (.int 1)] [(.ref po), (.int (yc (1 : Int32))), (.ref rt)]) (fun _ q => XS.aloadN X25.here hx rfl (hb hby d24_20) rfl rfl q) ?_
  obtain ⟨T26, X26, e26, st26⟩ := getF X25 hx hZ hown (host := "") (Or.inl (tw146 hw)) Via.refl e25 S2 (g := (mkF m 21 #[.val (.ref po), .val (.int 1)] [(.ref po), (.int (yc (1 : Int32))), (.ref rt)])) rfl rfl (hb hby d24_21)
  refine Go.of (mkF m 24 #[.val (.ref po), .val (.int 1)] [(.ref kr), (.int (yc (1 : Int32))), (.ref rt)]) (st26) ?_
  refine Go.of (mkF m 25 #[.val (.ref po), .val (.int 1)] [(.int 1), (.ref kr), (.int (yc (1 : Int32))), (.ref rt)]) (fun _ q => XS.iloadN X26.here hx rfl (hb hby d24_24) rfl q) ?_
  refine Go.aaload X26 hx hZ e26 Vkr rfl (by decide) (by decide) (g := (mkF m 25 #[.val (.ref po), .val (.int 1)] [(.int 1), (.ref kr), (.int (yc (1 : Int32))), (.ref rt)])) rfl rfl (hb hby d24_25) ?_
  show Go pr ev below _ T26 (mkF m 26 #[.val (.ref po), .val (.int 1)] [(ykr (1 : Int32)), (.int (yc (1 : Int32))), (.ref rt)])
  refine Go.aastore X26 hx hZ e26 Vrt rfl (own_fit hx1) (own_sto hx1 Vrt Urt Er) hc1.1 hc1.2 (g := (mkF m 26 #[.val (.ref po), .val (.int 1)] [(ykr (1 : Int32)), (.int (yc (1 : Int32))), (.ref rt)])) rfl rfl (hb hby d24_26) ?_
  rintro T27 h27 X27 e27 W27 V27
  replace S1 := S1.other W27 (Or.inl ne_po_rt)
  replace S2 := S2.other W27 (Or.inl ne_po_rt)
  replace S3 := S3.other W27 (Or.inl ne_po_rt)
  replace S4 := S4.other W27 (Or.inl ne_po_rt)
  replace S5 := S5.other W27 (Or.inl ne_po_rt)
  replace S6 := S6.other W27 (Or.inl ne_po_rt)
  replace Sk := Sk.other W27 (Or.inl ne_po_rt)
  replace E := E.wr W27
  replace Er := Er.wr W27
  replace Ukr := Ukr.wr W27
  replace Urt := Urt.wr W27
  replace Vcu := Vcu.other W27 ne_cu_rt
  replace Vki := Vki.other W27 ne_ki_rt
  replace Vix := Vix.other W27 (Ne.symm ne_rt_ix)
  replace Vmv := Vmv.other W27 (Ne.symm ne_rt_mv)
  replace Vkr := Vkr.other W27 ne_kr_rt
  replace hz := Nat.le_trans hz (Nat.le_of_eq W27.size.symm)
  replace K0 := K0.wr W27 (Or.inl (by simp))
  replace Vrt := V27
  have N27 := Fr.snoc X27 N22 gb_rt
  show Go pr ev below _ T27 (mkF m 27 #[.val (.ref po), .val (.int 1)] [])
  refine Go.of (mkF m 28 #[.val (.ref po), .val (.int 1)] [(.ref po)]) (fun _ q => XS.aloadN X27.here hx rfl (hb hby d24_27) rfl rfl q) ?_
  obtain ⟨T28, X28, e28, st28⟩ := getF X27 hx hZ hown (host := "") (Or.inl (tw152 hw)) Via.refl e27 S5 (g := (mkF m 28 #[.val (.ref po), .val (.int 1)] [(.ref po)])) rfl rfl (hb hby d24_28)
  refine Go.of (mkF m 31 #[.val (.ref po), .val (.int 1)] [(.ref ix)]) (st28) ?_
  refine Go.of (mkF m 32 #[.val (.ref po), .val (.int 1)] [(.ref po), (.ref ix)]) (fun _ q => XS.aloadN X28.here hx rfl (hb hby d24_31) rfl rfl q) ?_
  obtain ⟨T29, X29, e29, st29⟩ := getF X28 hx hZ hown (host := "") (Or.inl (tw143 hw)) Via.refl e28 S1 (g := (mkF m 32 #[.val (.ref po), .val (.int 1)] [(.ref po), (.ref ix)])) rfl rfl (hb hby d24_32)
  refine Go.of (mkF m 35 #[.val (.ref po), .val (.int 1)] [(.ref cu), (.ref ix)]) (st29) ?_
  refine Go.of (mkF m 36 #[.val (.ref po), .val (.int 1)] [(.int 1), (.ref cu), (.ref ix)]) (fun _ q => XS.iloadN X29.here hx rfl (hb hby d24_35) rfl q) ?_
  refine Go.iaload X29 hx hZ e29 Vcu (by decide) (by decide) (g := (mkF m 36 #[.val (.ref po), .val (.int 1)] [(.int 1), (.ref cu), (.ref ix)])) rfl rfl (hb hby d24_36) ?_
  show Go pr ev below _ T29 (mkF m 37 #[.val (.ref po), .val (.int 1)] [(.int (yc (1 : Int32))), (.ref ix)])
  show Go pr ev below _ T29 (mkF m 37 #[.val (.ref po), .val (.int 1)] [(.int (yc (1 : Int32))), (.ref ix)])
  refine Go.of (mkF m 38 #[.val (.ref po), .val (.int 1)] [(.ref po), (.int (yc (1 : Int32))), (.ref ix)]) (fun _ q => XS.aloadN X29.here hx rfl (hb hby d24_37) rfl rfl q) ?_
  obtain ⟨T30, X30, e30, st30⟩ := getF X29 hx hZ hown (host := "") (Or.inl (tw148 hw)) Via.refl e29 S3 (g := (mkF m 38 #[.val (.ref po), .val (.int 1)] [(.ref po), (.int (yc (1 : Int32))), (.ref ix)])) rfl rfl (hb hby d24_38)
  refine Go.of (mkF m 41 #[.val (.ref po), .val (.int 1)] [(.ref ki), (.int (yc (1 : Int32))), (.ref ix)]) (st30) ?_
  refine Go.of (mkF m 42 #[.val (.ref po), .val (.int 1)] [(.int 1), (.ref ki), (.int (yc (1 : Int32))), (.ref ix)]) (fun _ q => XS.iloadN X30.here hx rfl (hb hby d24_41) rfl q) ?_
  refine Go.iaload X30 hx hZ e30 Vki (by decide) (by decide) (g := (mkF m 42 #[.val (.ref po), .val (.int 1)] [(.int 1), (.ref ki), (.int (yc (1 : Int32))), (.ref ix)])) rfl rfl (hb hby d24_42) ?_
  show Go pr ev below _ T30 (mkF m 43 #[.val (.ref po), .val (.int 1)] [(.int (yki (1 : Int32))), (.int (yc (1 : Int32))), (.ref ix)])
  show Go pr ev below _ T30 (mkF m 43 #[.val (.ref po), .val (.int 1)] [(.int (yki (1 : Int32))), (.int (yc (1 : Int32))), (.ref ix)])
  refine Go.iastore X30 hx hZ e30 Vix hc1.1 hc1.2 (g := (mkF m 43 #[.val (.ref po), .val (.int 1)] [(.int (yki (1 : Int32))), (.int (yc (1 : Int32))), (.ref ix)])) rfl rfl (hb hby d24_43) ?_
  rintro T31 h31 X31 e31 W31 V31
  replace S1 := S1.other W31 (Or.inl ne_po_ix)
  replace S2 := S2.other W31 (Or.inl ne_po_ix)
  replace S3 := S3.other W31 (Or.inl ne_po_ix)
  replace S4 := S4.other W31 (Or.inl ne_po_ix)
  replace S5 := S5.other W31 (Or.inl ne_po_ix)
  replace S6 := S6.other W31 (Or.inl ne_po_ix)
  replace Sk := Sk.other W31 (Or.inl ne_po_ix)
  replace E := E.wr W31
  replace Er := Er.wr W31
  replace Ukr := Ukr.wr W31
  replace Urt := Urt.wr W31
  replace Vcu := Vcu.other W31 ne_cu_ix
  replace Vki := Vki.other W31 ne_ki_ix
  replace Vmv := Vmv.other W31 (Ne.symm ne_ix_mv)
  replace Vkr := Vkr.other W31 ne_kr_ix
  replace Vrt := Vrt.other W31 ne_rt_ix
  replace hz := Nat.le_trans hz (Nat.le_of_eq W31.size.symm)
  replace K0 := K0.wr W31 (Or.inl (by simp))
  replace Vix := V31
  have N31 := Fr.snoc X31 N27 gb_ix
  show Go pr ev below _ T31 (mkF m 44 #[.val (.ref po), .val (.int 1)] [])
  refine Go.of (mkF m 47 #[.val (.ref po), .val (.int ((1 : Int32) + (1 : Int32)))] []) (fun _ q => XS.iinc X31.here hx rfl (hb hby d24_44) rfl (l' := #[.val (.ref po), .val (.int ((1 : Int32) + (1 : Int32)))]) rfl q) ?_
  rw [show ((1 : Int32) + (1 : Int32)) = (2 : Int32) from by decide]
  refine Go.of (mkF m 2 #[.val (.ref po), .val (.int 2)] []) (fun _ q => XS.goto X31.here hx rfl (pc0 := 47) (pc' := 2) rfl (hb hby d24_47) (by decide) (by decide) q) ?_
  refine Go.of (mkF m 3 #[.val (.ref po), .val (.int 2)] [(.int 2)]) (fun _ q => XS.iloadN X31.here hx rfl (hb hby d24_2) rfl q) ?_
  refine Go.of (mkF m 4 #[.val (.ref po), .val (.int 2)] [(.ref po), (.int 2)]) (fun _ q => XS.aloadN X31.here hx rfl (hb hby d24_3) rfl rfl q) ?_
  obtain ⟨T32, X32, e32, st32⟩ := getF X31 hx hZ hown (host := "") (Or.inl (tw176 hw)) Via.refl e31 Sk (g := (mkF m 4 #[.val (.ref po), .val (.int 2)] [(.ref po), (.int 2)])) rfl rfl (hb hby d24_4)
  refine Go.of (mkF m 7 #[.val (.ref po), .val (.int 2)] [(.int 2), (.int 2)]) (st32) ?_
  refine Go.of (mkF m 50 #[.val (.ref po), .val (.int 2)] []) (fun _ q => XS.icmpYes X32.here hx rfl (pc0 := 7) (pc' := 50) rfl (hb hby d24_7) rfl (flt (by decide)).2.1 (by decide) (by decide) q) ?_
  refine Go.of (mkF m 51 #[.val (.ref po), .val (.int 2)] [(.ref po)]) (fun _ q => XS.aloadN X32.here hx rfl (hb hby d24_50) rfl rfl q) ?_
  have SX : own_St Z h31 po cu kr ki rt ix mv ro q1 q2 q1 q2 j1 j2 j1 j2 := ⟨(2 : Int32), yc, yki, (fnup (fnup yix (yc (0 : Int32)) (yki (0 : Int32))) (yc (1 : Int32)) (yki (1 : Int32))), ymv, ykr, (fnup (fnup yrt (yc (0 : Int32)) (ykr (0 : Int32))) (yc (1 : Int32)) (ykr (1 : Int32))), E, S1, S2, S3, S4, S5, S6, Sk, Vcu, Vkr, Vki, Vrt, Vix, Vmv, Ukr, Urt, Er, hu.1, hu.2.1, hu.2.2.1, hu.2.2.2, own_un hD⟩
  refine Go.virt X32 hx hZ (y := (⟨"com/example/kiriman/kiriman/route/Positions", "keep", "()V"⟩ : MethodName)) (z := (⟨"com/example/kiriman/kiriman/route/Positions", "keep", "()V"⟩ : MethodName)) (a := po) (argsL := []) (rest := []) hown (tw184 hw) (tw185 hw) (notFace_of_selects (args := #[]) (mvT hZ (tw187 hw))) (tw187 hw) (tw186 hw) (tw138 hw) (tw188 hw) (by decide) e32 E (rmKe l Z a0 hw [] po cu kr ki rt ix mv ro q1 q2 q1 q2 j1 j2 j1 j2 h31 n0 hz ga o0 o1 o2 o3 o4 o5 o6 SX) (g := (mkF m 51 #[.val (.ref po), .val (.int 2)] [(.ref po)])) rfl (by rw [hml]; rfl) (lenOf pd30 rfl) rfl (W := 0) (by show 2 * 0 + _ ≤ _; exact Nat.le_of_eq rfl) (hb hby d24_51) (by decide) (by decide) (by decide) (by decide) ?_
  rintro T33 L33 v33 X33 ⟨rfl, NL33, K33, SY⟩
  have N33 := Fr.app N31 NL33
  replace E := E.keep K33
  replace Er := Er.keep K33
  replace Ukr := Ukr.keep K33
  replace Urt := Urt.keep K33
  replace hz := Nat.le_trans hz K33.1
  replace K0 := K0.trans K33 (((allS (Or.inl (by simp)) (allS (Or.inl (by simp)) (allS (Or.inl (by simp)) (allS (Or.inl (by simp)) (allS (Or.inl (by simp)) (allS (Or.inl (by simp)) (allS (Or.inl (by simp)) all0)))))))))
  show Go pr ev below _ T33 (mkF m 54 #[.val (.ref po), .val (.int 2)] [])
  exact Go.retV X33 hx hret hlk (hb hby d24_54) (by decide) (by decide) ⟨rfl, N33, K0, SY⟩
theorem ef_rmRm (m : MethodId) (x0 : Addr) (x1 : Int32) : entryFrame m #[(.ref x0), (.int x1)] 2 = mkF m 0 #[.val (.ref x0), .val (.int x1)] [] := by first | (simp [entryFrame, mkF, argsToLocals, Value.category]; done) | rfl
theorem rmRm (l : Launch) (Z : State) (a0 : Array Value) (hw : ∀ d ∈ tables_1, d.before a0 Z = true) (ws : List Jvm.Cond) (po cu kr ki rt ix mv ro : Nat) (r1 r2 q1 q2 : Value) (i1 i2 j1 j2 : Int32) (h0 : Heap) (n0 : Nat) (hz0 : n0 ≤ h0.size) (ga : n0 ≤ po) (o0 : ro < po) (o1 : po < cu) (o2 : cu < kr) (o3 : kr < ki) (o4 : ki < rt) (o5 : rt < ix) (o6 : ix < mv) (St : own_St Z h0 po cu kr ki rt ix mv ro r1 r2 q1 q2 i1 i2 j1 j2) (wW : Int32) (hW : wW = 1 ∨ wW = 2) (hv1 : own_V ro r1) (hv2 : own_V ro r2) :
    Met l Z (⟨"com/example/kiriman/kiriman/route/Positions", "remove", "(I)V"⟩ : MethodName) prog_27_method_5_code 2 none ws ({ frames := 1, cells := 0, slots := 0, locals := 15 } : Room) #[(.ref po), (.int wW)] h0 (fun v h L => v = none ∧ Fr n0 L ∧ Keep h0 h [po, cu, kr, ki, rt, ix, mv] ∧ own_St Z h po cu kr ki rt ix mv ro (if wW = 1 then .null else r1) (if wW = 2 then .null else r2) q1 q2 (if wW = 1 then (-1) else i1) (if wW = 2 then (-1) else i2) j1 j2) := by
 refine Met.intro pn31 ?_
 intro pr ev s m below meth c T0 X0 hx hZ hown hby hml hret hlk hnm e0
 refine Go.cast (ef_rmRm m po wW) ?_
 have N0 := Fr.nil n0
 have hz := hz0
 have K0 : Keep h0 h0 [po, cu, kr, ki, rt, ix, mv] := Keep.refl h0 _
 have E : Exa Z h0 po "com/example/kiriman/kiriman/route/Positions" := by obtain ⟨_, _, _, _, _, _, _, E, -⟩ := St; exact E
 have ne_ro_po : ro ≠ po := by omega
 have ne_ro_cu : ro ≠ cu := by omega
 have ne_ro_kr : ro ≠ kr := by omega
 have ne_ro_ki : ro ≠ ki := by omega
 have ne_ro_rt : ro ≠ rt := by omega
 have ne_ro_ix : ro ≠ ix := by omega
 have ne_ro_mv : ro ≠ mv := by omega
 have ne_po_cu : po ≠ cu := by omega
 have ne_po_kr : po ≠ kr := by omega
 have ne_po_ki : po ≠ ki := by omega
 have ne_po_rt : po ≠ rt := by omega
 have ne_po_ix : po ≠ ix := by omega
 have ne_po_mv : po ≠ mv := by omega
 have ne_cu_kr : cu ≠ kr := by omega
 have ne_cu_ki : cu ≠ ki := by omega
 have ne_cu_rt : cu ≠ rt := by omega
 have ne_cu_ix : cu ≠ ix := by omega
 have ne_cu_mv : cu ≠ mv := by omega
 have ne_kr_ki : kr ≠ ki := by omega
 have ne_kr_rt : kr ≠ rt := by omega
 have ne_kr_ix : kr ≠ ix := by omega
 have ne_kr_mv : kr ≠ mv := by omega
 have ne_ki_rt : ki ≠ rt := by omega
 have ne_ki_ix : ki ≠ ix := by omega
 have ne_ki_mv : ki ≠ mv := by omega
 have ne_rt_ix : rt ≠ ix := by omega
 have ne_rt_mv : rt ≠ mv := by omega
 have ne_ix_mv : ix ≠ mv := by omega
 refine Go.of (mkF m 1 #[.val (.ref po), .val (.int wW)] [(.ref po)]) (fun _ q => XS.aloadN X0.here hx rfl (hb hby d28_0) rfl rfl q) ?_
 refine Go.of (mkF m 2 #[.val (.ref po), .val (.int wW)] [(.int wW), (.ref po)]) (fun _ q => XS.iloadN X0.here hx rfl (hb hby d28_1) rfl q) ?_
 refine Go.of (mkF m 3 #[.val (.ref po), .val (.int wW)] [.null, (.int wW), (.ref po)]) (fun _ q => XS.aconstNull X0.here hx rfl (hb hby d28_2) q) ?_
 refine Go.of (mkF m 4 #[.val (.ref po), .val (.int wW)] [(.int (-1)), .null, (.int wW), (.ref po)]) (fun _ q => XS.iconst X0.here hx rfl (hb hby d28_3) q) ?_
 refine Go.priv X0 hx hZ (y := (⟨"com/example/kiriman/kiriman/route/Positions", "move", "(ILcom/example/kiriman/kiriman/route/Route;I)V"⟩ : MethodName)) (a := po) (argsL := [(.int wW), .null, (.int (-1))]) (rest := []) hown (tw172 hw) (tw173 hw) (Jvm.Kit.selects_private (by decide) (tw137 hw) (tw174 hw) (tw173 hw)) (tw174 hw) (tw138 hw) (tw175 hw) (by decide) e0 E (rmMv l Z a0 hw [] po cu kr ki rt ix mv ro r1 r2 q1 q2 i1 i2 j1 j2 h0 n0 hz ga o0 o1 o2 o3 o4 o5 o6 St wW (-1) .null hW (Or.inl rfl) hv1 hv2) (g := (mkF m 4 #[.val (.ref po), .val (.int wW)] [(.int (-1)), .null, (.int wW), (.ref po)])) rfl (by rw [hml]; rfl) (lenOf pd32 rfl) rfl (W := 0) (by show 2 * 0 + _ ≤ _; exact Nat.le_of_eq rfl) (hb hby d28_4) (by decide) (by decide) (by decide) (by decide) ?_
 rintro T1 L1 v1 X1 ⟨rfl, NL1, K1, SY⟩
 have N1 := Fr.app N0 NL1
 replace E := E.keep K1
 replace hz := Nat.le_trans hz K1.1
 replace K0 := K0.trans K1 (((allS (Or.inl (by simp)) (allS (Or.inl (by simp)) (allS (Or.inl (by simp)) (allS (Or.inl (by simp)) (allS (Or.inl (by simp)) (allS (Or.inl (by simp)) (allS (Or.inl (by simp)) all0)))))))))
 show Go pr ev below _ T1 (mkF m 7 #[.val (.ref po), .val (.int wW)] [])
 exact Go.retV X1 hx hret hlk (hb hby d28_7) (by decide) (by decide) ⟨rfl, N1, K0, SY⟩
theorem ef_rmSz (m : MethodId) (x0 : Addr) : entryFrame m #[(.ref x0)] 1 = mkF m 0 #[.val (.ref x0)] [] := by first | (simp [entryFrame, mkF, argsToLocals, Value.category]; done) | rfl
theorem rmSz (l : Launch) (Z : State) (a0 : Array Value) (hw : ∀ d ∈ tables_1, d.before a0 Z = true) (ws : List Jvm.Cond) (a : Nat) (h0 : Heap) (Rs : Fld Z h0 a "com/example/kiriman/kiriman/route/Route" "size" "I" (.int (2 : Int32))) :
    Met l Z (⟨"com/example/kiriman/kiriman/route/Route", "size", "()I"⟩ : MethodName) prog_30_method_5_code 1 (some .int) ws ({ frames := 0, cells := 0, slots := 0, locals := 0 } : Room) #[(.ref a)] h0 (fun v h L => v = some (.int 2) ∧ L = [] ∧ h = h0) := by
 refine Met.intro pn33 ?_
 intro pr ev s m below meth c T0 X0 hx hZ hown hby hml hret hlk hnm e0
 refine Go.cast (ef_rmSz m a) ?_
 refine Go.of (mkF m 1 #[.val (.ref a)] [(.ref a)]) (fun _ q => XS.aloadN X0.here hx rfl (hb hby d21_0) rfl rfl q) ?_
 obtain ⟨T1, X1, e1, st1⟩ := getF X0 hx hZ hown (host := "") (Or.inl (tw122 hw)) Via.refl e0 Rs (g := (mkF m 1 #[.val (.ref a)] [(.ref a)])) rfl rfl (hb hby d21_1)
 refine Go.of (mkF m 4 #[.val (.ref a)] [(.int 2)]) (st1) ?_
 exact Go.retW X1 hx (t := .int) hret hlk rfl (Or.inl ⟨rfl, by simp, _, rfl⟩) (hb hby d21_4) (by decide) (by decide) ⟨rfl, rfl, e1⟩
theorem ef_rmVi0 (m : MethodId) (x0 : Addr) (x1 : Int32) : entryFrame m #[(.ref x0), (.int x1)] 2 = mkF m 0 #[.val (.ref x0), .val (.int x1)] [] := by first | (simp [entryFrame, mkF, argsToLocals, Value.category]; done) | rfl
theorem rmVi0 (l : Launch) (Z : State) (a0 : Array Value) (hw : ∀ d ∈ tables_1, d.before a0 Z = true) (ws : List Jvm.Cond) (a vs : Nat) (y : Int32 → Int32) (h0 : Heap) (Rv : Fld Z h0 a "com/example/kiriman/kiriman/route/Route" "visits" "[I" (.ref vs)) (Vv : Fa Z h0 vs .int 8 (fun i => .int (y i))) :
    Met l Z (⟨"com/example/kiriman/kiriman/route/Route", "visit", "(I)I"⟩ : MethodName) prog_30_method_6_code 2 (some .int) ws ({ frames := 0, cells := 0, slots := 0, locals := 0 } : Room) #[(.ref a), (.int 0)] h0 (fun v h L => v = some (.int (y 0)) ∧ L = [] ∧ h = h0) := by
 refine Met.intro pn34 ?_
 intro pr ev s m below meth c T0 X0 hx hZ hown hby hml hret hlk hnm e0
 refine Go.cast (ef_rmVi0 m a (0 : Int32)) ?_
 refine Go.of (mkF m 1 #[.val (.ref a), .val (.int 0)] [(.ref a)]) (fun _ q => XS.aloadN X0.here hx rfl (hb hby d22_0) rfl rfl q) ?_
 obtain ⟨T1, X1, e1, st1⟩ := getF X0 hx hZ hown (host := "") (Or.inl (tw95 hw)) Via.refl e0 Rv (g := (mkF m 1 #[.val (.ref a), .val (.int 0)] [(.ref a)])) rfl rfl (hb hby d22_1)
 refine Go.of (mkF m 4 #[.val (.ref a), .val (.int 0)] [(.ref vs)]) (st1) ?_
 refine Go.of (mkF m 5 #[.val (.ref a), .val (.int 0)] [(.int 0), (.ref vs)]) (fun _ q => XS.iloadN X1.here hx rfl (hb hby d22_4) rfl q) ?_
 refine Go.iaload X1 hx hZ e1 Vv (by decide) (by decide) (g := (mkF m 5 #[.val (.ref a), .val (.int 0)] [(.int 0), (.ref vs)])) rfl rfl (hb hby d22_5) ?_
 show Go pr ev below _ T1 (mkF m 6 #[.val (.ref a), .val (.int 0)] [(.int (y (0 : Int32)))])
 show Go pr ev below _ T1 (mkF m 6 #[.val (.ref a), .val (.int 0)] [(.int (y (0 : Int32)))])
 exact Go.retW X1 hx (t := .int) hret hlk rfl (Or.inl ⟨rfl, by simp, _, rfl⟩) (hb hby d22_6) (by decide) (by decide) ⟨rfl, rfl, e1⟩
theorem ef_rmVi1 (m : MethodId) (x0 : Addr) (x1 : Int32) : entryFrame m #[(.ref x0), (.int x1)] 2 = mkF m 0 #[.val (.ref x0), .val (.int x1)] [] := by first | (simp [entryFrame, mkF, argsToLocals, Value.category]; done) | rfl
theorem rmVi1 (l : Launch) (Z : State) (a0 : Array Value) (hw : ∀ d ∈ tables_1, d.before a0 Z = true) (ws : List Jvm.Cond) (a vs : Nat) (y : Int32 → Int32) (h0 : Heap) (Rv : Fld Z h0 a "com/example/kiriman/kiriman/route/Route" "visits" "[I" (.ref vs)) (Vv : Fa Z h0 vs .int 8 (fun i => .int (y i))) :
    Met l Z (⟨"com/example/kiriman/kiriman/route/Route", "visit", "(I)I"⟩ : MethodName) prog_30_method_6_code 2 (some .int) ws ({ frames := 0, cells := 0, slots := 0, locals := 0 } : Room) #[(.ref a), (.int 1)] h0 (fun v h L => v = some (.int (y 1)) ∧ L = [] ∧ h = h0) := by
 refine Met.intro pn34 ?_
 intro pr ev s m below meth c T0 X0 hx hZ hown hby hml hret hlk hnm e0
 refine Go.cast (ef_rmVi1 m a (1 : Int32)) ?_
 refine Go.of (mkF m 1 #[.val (.ref a), .val (.int 1)] [(.ref a)]) (fun _ q => XS.aloadN X0.here hx rfl (hb hby d22_0) rfl rfl q) ?_
 obtain ⟨T1, X1, e1, st1⟩ := getF X0 hx hZ hown (host := "") (Or.inl (tw95 hw)) Via.refl e0 Rv (g := (mkF m 1 #[.val (.ref a), .val (.int 1)] [(.ref a)])) rfl rfl (hb hby d22_1)
 refine Go.of (mkF m 4 #[.val (.ref a), .val (.int 1)] [(.ref vs)]) (st1) ?_
 refine Go.of (mkF m 5 #[.val (.ref a), .val (.int 1)] [(.int 1), (.ref vs)]) (fun _ q => XS.iloadN X1.here hx rfl (hb hby d22_4) rfl q) ?_
 refine Go.iaload X1 hx hZ e1 Vv (by decide) (by decide) (g := (mkF m 5 #[.val (.ref a), .val (.int 1)] [(.int 1), (.ref vs)])) rfl rfl (hb hby d22_5) ?_
 show Go pr ev below _ T1 (mkF m 6 #[.val (.ref a), .val (.int 1)] [(.int (y (1 : Int32)))])
 show Go pr ev below _ T1 (mkF m 6 #[.val (.ref a), .val (.int 1)] [(.int (y (1 : Int32)))])
 exact Go.retW X1 hx (t := .int) hret hlk rfl (Or.inl ⟨rfl, by simp, _, rfl⟩) (hb hby d22_6) (by decide) (by decide) ⟨rfl, rfl, e1⟩
theorem ef_rmUp (m : MethodId) (x0 : Addr) (x1 : Addr) (x2 : Int32) : entryFrame m #[(.ref x0), (.ref x1), (.int x2)] 4 = mkF m 0 #[.val (.ref x0), .val (.ref x1), .val (.int x2), .unset] [] := by first | (simp [entryFrame, mkF, argsToLocals, Value.category]; done) | rfl
theorem rmUp (l : Launch) (Z : State) (a0 : Array Value) (hw : ∀ d ∈ tables_1, d.before a0 Z = true) (ws : List Jvm.Cond) (po cu kr ki rt ix mv ro vs : Nat) (fF u v : Int32) (y : Int32 → Int32) (h0 : Heap) (n0 : Nat) (hz0 : n0 ≤ h0.size) (ga : n0 ≤ po) (o0 : ro < po) (o1 : po < cu) (o2 : cu < kr) (o3 : kr < ki) (o4 : ki < rt) (o5 : rt < ix) (o6 : ix < mv) (ov : vs < po) (St : own_St Z h0 po cu kr ki rt ix mv ro .null .null .null .null 0 0 0 0) (Rs : Fld Z h0 ro "com/example/kiriman/kiriman/route/Route" "size" "I" (.int (2 : Int32))) (Rv : Fld Z h0 ro "com/example/kiriman/kiriman/route/Route" "visits" "[I" (.ref vs)) (Vv : Fa Z h0 vs .int 8 (fun i => .int (y i))) (hy0 : y 0 = u) (hy1 : y 1 = v) (hu : u = 1 ∨ u = 2) (hv : v = 1 ∨ v = 2) (hf : fF = 0 ∨ fF = 1 ∨ fF = 2) :
    Met l Z (⟨"com/example/kiriman/kiriman/route/Positions", "update", "(Lcom/example/kiriman/kiriman/route/Route;I)V"⟩ : MethodName) prog_27_method_4_code 4 none ws ({ frames := 1, cells := 0, slots := 0, locals := 15 } : Room) #[(.ref po), (.ref ro), (.int fF)] h0 (fun v' h L => v' = none ∧ Fr n0 L ∧ Keep h0 h [po, cu, kr, ki, rt, ix, mv] ∧ own_St Z h po cu kr ki rt ix mv ro (own_R fF u v 1 ro) (own_R fF u v 2 ro) .null .null (own_I fF u v 1) (own_I fF u v 2) 0 0) := by
 refine Met.intro pn35 ?_
 intro pr ev s m below meth c T0 X0 hx hZ hown hby hml hret hlk hnm e0
 refine Go.cast (ef_rmUp m po ro fF) ?_
 have N0 := Fr.nil n0
 have hz := hz0
 have K0 : Keep h0 h0 [po, cu, kr, ki, rt, ix, mv] := Keep.refl h0 _
 obtain ⟨E, Er⟩ : Exa Z h0 po "com/example/kiriman/kiriman/route/Positions" ∧ Exa Z h0 ro "com/example/kiriman/kiriman/route/Route" := by obtain ⟨_, _, _, _, _, _, _, E, _, _, _, _, _, _, _, _, _, _, _, _, _, _, _, Er, _⟩ := St; exact ⟨E, Er⟩
 have ne_ro_po : ro ≠ po := by omega
 have ne_ro_cu : ro ≠ cu := by omega
 have ne_ro_kr : ro ≠ kr := by omega
 have ne_ro_ki : ro ≠ ki := by omega
 have ne_ro_rt : ro ≠ rt := by omega
 have ne_ro_ix : ro ≠ ix := by omega
 have ne_ro_mv : ro ≠ mv := by omega
 have ne_po_cu : po ≠ cu := by omega
 have ne_po_kr : po ≠ kr := by omega
 have ne_po_ki : po ≠ ki := by omega
 have ne_po_rt : po ≠ rt := by omega
 have ne_po_ix : po ≠ ix := by omega
 have ne_po_mv : po ≠ mv := by omega
 have ne_cu_kr : cu ≠ kr := by omega
 have ne_cu_ki : cu ≠ ki := by omega
 have ne_cu_rt : cu ≠ rt := by omega
 have ne_cu_ix : cu ≠ ix := by omega
 have ne_cu_mv : cu ≠ mv := by omega
 have ne_kr_ki : kr ≠ ki := by omega
 have ne_kr_rt : kr ≠ rt := by omega
 have ne_kr_ix : kr ≠ ix := by omega
 have ne_kr_mv : kr ≠ mv := by omega
 have ne_ki_rt : ki ≠ rt := by omega
 have ne_ki_ix : ki ≠ ix := by omega
 have ne_ki_mv : ki ≠ mv := by omega
 have ne_rt_ix : rt ≠ ix := by omega
 have ne_rt_mv : rt ≠ mv := by omega
 have ne_ix_mv : ix ≠ mv := by omega
 have ne_vs_po : vs ≠ po := by omega
 have ne_vs_cu : vs ≠ cu := by omega
 have ne_vs_kr : vs ≠ kr := by omega
 have ne_vs_ki : vs ≠ ki := by omega
 have ne_vs_rt : vs ≠ rt := by omega
 have ne_vs_ix : vs ≠ ix := by omega
 have ne_vs_mv : vs ≠ mv := by omega
 rcases hf with rfl | rfl | rfl
 ·
  refine Go.of (mkF m 1 #[.val (.ref po), .val (.ref ro), .val (.int 0), .unset] [(.int 0)]) (fun _ q => XS.iloadN X0.here hx rfl (hb hby d20_0) rfl q) ?_
  refine Go.of (mkF m 2 #[.val (.ref po), .val (.ref ro), .val (.int 0), .val (.int 0)] []) (fun _ q => XS.istoreN X0.here hx rfl (hb hby d20_1) rfl (l' := #[.val (.ref po), .val (.ref ro), .val (.int 0), .val (.int 0)]) rfl q) ?_
  refine Go.of (mkF m 3 #[.val (.ref po), .val (.ref ro), .val (.int 0), .val (.int 0)] [(.int 0)]) (fun _ q => XS.iloadN X0.here hx rfl (hb hby d20_2) rfl q) ?_
  refine Go.of (mkF m 4 #[.val (.ref po), .val (.ref ro), .val (.int 0), .val (.int 0)] [(.ref ro), (.int 0)]) (fun _ q => XS.aloadN X0.here hx rfl (hb hby d20_3) rfl rfl q) ?_
  refine Go.virt X0 hx hZ (y := (⟨"com/example/kiriman/kiriman/route/Route", "size", "()I"⟩ : MethodName)) (z := (⟨"com/example/kiriman/kiriman/route/Route", "size", "()I"⟩ : MethodName)) (a := ro) (argsL := []) (rest := [(.int 0)]) hown (tw162 hw) (tw163 hw) (notFace_of_selects (args := #[]) (mvT hZ (tw165 hw))) (tw165 hw) (tw164 hw) (tw84 hw) (tw166 hw) (by decide) e0 Er (rmSz l Z a0 hw [] ro h0 Rs) (g := (mkF m 4 #[.val (.ref po), .val (.ref ro), .val (.int 0), .val (.int 0)] [(.ref ro), (.int 0)])) rfl (by rw [hml]; rfl) (lenOf pd12 rfl) rfl (W := 1) (by show 2 * 0 + _ ≤ _; exact Nat.le_of_eq rfl) (hb hby d20_4) (by decide) (by decide) (by decide) (by decide) ?_
  rintro T1 L1 v1 X1 ⟨rfl, rfl, hh1⟩
  have N1 := Fr.app N0 (Fr.nil n0)
  show Go pr ev below _ T1 (mkF m 7 #[.val (.ref po), .val (.ref ro), .val (.int 0), .val (.int 0)] [(.int 2), (.int 0)])
  refine Go.of (mkF m 10 #[.val (.ref po), .val (.ref ro), .val (.int 0), .val (.int 0)] []) (fun _ q => XS.icmpNo X1.here hx rfl (hb hby d20_7) rfl (tlt (by decide)).2.1 q) ?_
  refine Go.of (mkF m 11 #[.val (.ref po), .val (.ref ro), .val (.int 0), .val (.int 0)] [(.ref po)]) (fun _ q => XS.aloadN X1.here hx rfl (hb hby d20_10) rfl rfl q) ?_
  refine Go.of (mkF m 12 #[.val (.ref po), .val (.ref ro), .val (.int 0), .val (.int 0)] [(.ref ro), (.ref po)]) (fun _ q => XS.aloadN X1.here hx rfl (hb hby d20_11) rfl rfl q) ?_
  refine Go.of (mkF m 13 #[.val (.ref po), .val (.ref ro), .val (.int 0), .val (.int 0)] [(.int 0), (.ref ro), (.ref po)]) (fun _ q => XS.iloadN X1.here hx rfl (hb hby d20_12) rfl q) ?_
  refine Go.virt X1 hx hZ (y := (⟨"com/example/kiriman/kiriman/route/Route", "visit", "(I)I"⟩ : MethodName)) (z := (⟨"com/example/kiriman/kiriman/route/Route", "visit", "(I)I"⟩ : MethodName)) (a := ro) (argsL := [(.int 0)]) (rest := [(.ref po)]) hown (tw167 hw) (tw168 hw) (notFace_of_selects (args := #[]) (mvT hZ (tw170 hw))) (tw170 hw) (tw169 hw) (tw84 hw) (tw171 hw) (by decide) hh1 Er (rmVi0 l Z a0 hw [] ro vs y h0 Rv Vv) (g := (mkF m 13 #[.val (.ref po), .val (.ref ro), .val (.int 0), .val (.int 0)] [(.int 0), (.ref ro), (.ref po)])) rfl (by rw [hml]; rfl) (lenOf pd25 rfl) rfl (W := 1) (by show 2 * 0 + _ ≤ _; exact Nat.le_of_eq rfl) (hb hby d20_13) (by decide) (by decide) (by decide) (by decide) ?_
  rintro T2 L2 v2 X2 ⟨rfl, rfl, hh2⟩
  have N2 := Fr.app N1 (Fr.nil n0)
  show Go pr ev below _ T2 (mkF m 16 #[.val (.ref po), .val (.ref ro), .val (.int 0), .val (.int 0)] [(.int (y (0 : Int32))), (.ref po)])
  rw [show (y (0 : Int32)) = u from hy0]
  refine Go.of (mkF m 17 #[.val (.ref po), .val (.ref ro), .val (.int 0), .val (.int 0)] [(.ref ro), (.int u), (.ref po)]) (fun _ q => XS.aloadN X2.here hx rfl (hb hby d20_16) rfl rfl q) ?_
  refine Go.of (mkF m 18 #[.val (.ref po), .val (.ref ro), .val (.int 0), .val (.int 0)] [(.int 0), (.ref ro), (.int u), (.ref po)]) (fun _ q => XS.iloadN X2.here hx rfl (hb hby d20_17) rfl q) ?_
  refine Go.priv X2 hx hZ (y := (⟨"com/example/kiriman/kiriman/route/Positions", "move", "(ILcom/example/kiriman/kiriman/route/Route;I)V"⟩ : MethodName)) (a := po) (argsL := [(.int u), (.ref ro), (.int 0)]) (rest := []) hown (tw172 hw) (tw173 hw) (Jvm.Kit.selects_private (by decide) (tw137 hw) (tw174 hw) (tw173 hw)) (tw174 hw) (tw138 hw) (tw175 hw) (by decide) hh2 E (rmMv l Z a0 hw [] po cu kr ki rt ix mv ro .null .null .null .null 0 0 0 0 h0 n0 hz ga o0 o1 o2 o3 o4 o5 o6 St u (0 : Int32) (.ref ro) hu (Or.inr rfl) (Or.inl rfl) (Or.inl rfl)) (g := (mkF m 18 #[.val (.ref po), .val (.ref ro), .val (.int 0), .val (.int 0)] [(.int 0), (.ref ro), (.int u), (.ref po)])) rfl (by rw [hml]; rfl) (lenOf pd32 rfl) rfl (W := 0) (by show 2 * 0 + _ ≤ _; exact Nat.le_of_eq rfl) (hb hby d20_18) (by decide) (by decide) (by decide) (by decide) ?_
  rintro T3 L3 v3 X3 ⟨rfl, NL3, K3, SY0⟩
  have N3 := Fr.app N2 NL3
  replace Rs := Rs.keep K3 (ninS ne_ro_po (ninS ne_ro_cu (ninS ne_ro_kr (ninS ne_ro_ki (ninS ne_ro_rt (ninS ne_ro_ix (ninS ne_ro_mv nin0)))))))
  replace Rv := Rv.keep K3 (ninS ne_ro_po (ninS ne_ro_cu (ninS ne_ro_kr (ninS ne_ro_ki (ninS ne_ro_rt (ninS ne_ro_ix (ninS ne_ro_mv nin0)))))))
  replace E := E.keep K3
  replace Er := Er.keep K3
  replace Vv := Vv.keep K3 (ninS ne_vs_po (ninS ne_vs_cu (ninS ne_vs_kr (ninS ne_vs_ki (ninS ne_vs_rt (ninS ne_vs_ix (ninS ne_vs_mv nin0)))))))
  replace hz := Nat.le_trans hz K3.1
  replace K0 := K0.trans K3 (((allS (Or.inl (by simp)) (allS (Or.inl (by simp)) (allS (Or.inl (by simp)) (allS (Or.inl (by simp)) (allS (Or.inl (by simp)) (allS (Or.inl (by simp)) (allS (Or.inl (by simp)) all0)))))))))
  show Go pr ev below _ T3 (mkF m 21 #[.val (.ref po), .val (.ref ro), .val (.int 0), .val (.int 0)] [])
  refine Go.of (mkF m 24 #[.val (.ref po), .val (.ref ro), .val (.int 0), .val (.int ((0 : Int32) + (1 : Int32)))] []) (fun _ q => XS.iinc X3.here hx rfl (hb hby d20_21) rfl (l' := #[.val (.ref po), .val (.ref ro), .val (.int 0), .val (.int ((0 : Int32) + (1 : Int32)))]) rfl q) ?_
  rw [show ((0 : Int32) + (1 : Int32)) = (1 : Int32) from by decide]
  refine Go.of (mkF m 2 #[.val (.ref po), .val (.ref ro), .val (.int 0), .val (.int 1)] []) (fun _ q => XS.goto X3.here hx rfl (pc0 := 24) (pc' := 2) rfl (hb hby d20_24) (by decide) (by decide) q) ?_
  refine Go.of (mkF m 3 #[.val (.ref po), .val (.ref ro), .val (.int 0), .val (.int 1)] [(.int 1)]) (fun _ q => XS.iloadN X3.here hx rfl (hb hby d20_2) rfl q) ?_
  refine Go.of (mkF m 4 #[.val (.ref po), .val (.ref ro), .val (.int 0), .val (.int 1)] [(.ref ro), (.int 1)]) (fun _ q => XS.aloadN X3.here hx rfl (hb hby d20_3) rfl rfl q) ?_
  refine Go.virt X3 hx hZ (y := (⟨"com/example/kiriman/kiriman/route/Route", "size", "()I"⟩ : MethodName)) (z := (⟨"com/example/kiriman/kiriman/route/Route", "size", "()I"⟩ : MethodName)) (a := ro) (argsL := []) (rest := [(.int 1)]) hown (tw162 hw) (tw163 hw) (notFace_of_selects (args := #[]) (mvT hZ (tw165 hw))) (tw165 hw) (tw164 hw) (tw84 hw) (tw166 hw) (by decide) rfl Er (rmSz l Z a0 hw [] ro T3.heap Rs) (g := (mkF m 4 #[.val (.ref po), .val (.ref ro), .val (.int 0), .val (.int 1)] [(.ref ro), (.int 1)])) rfl (by rw [hml]; rfl) (lenOf pd12 rfl) rfl (W := 1) (by show 2 * 0 + _ ≤ _; exact Nat.le_of_eq rfl) (hb hby d20_4) (by decide) (by decide) (by decide) (by decide) ?_
  rintro T4 L4 v4 X4 ⟨rfl, rfl, hh4⟩
  have N4 := Fr.app N3 (Fr.nil n0)
  show Go pr ev below _ T4 (mkF m 7 #[.val (.ref po), .val (.ref ro), .val (.int 0), .val (.int 1)] [(.int 2), (.int 1)])
  refine Go.of (mkF m 10 #[.val (.ref po), .val (.ref ro), .val (.int 0), .val (.int 1)] []) (fun _ q => XS.icmpNo X4.here hx rfl (hb hby d20_7) rfl (tlt (by decide)).2.1 q) ?_
  refine Go.of (mkF m 11 #[.val (.ref po), .val (.ref ro), .val (.int 0), .val (.int 1)] [(.ref po)]) (fun _ q => XS.aloadN X4.here hx rfl (hb hby d20_10) rfl rfl q) ?_
  refine Go.of (mkF m 12 #[.val (.ref po), .val (.ref ro), .val (.int 0), .val (.int 1)] [(.ref ro), (.ref po)]) (fun _ q => XS.aloadN X4.here hx rfl (hb hby d20_11) rfl rfl q) ?_
  refine Go.of (mkF m 13 #[.val (.ref po), .val (.ref ro), .val (.int 0), .val (.int 1)] [(.int 1), (.ref ro), (.ref po)]) (fun _ q => XS.iloadN X4.here hx rfl (hb hby d20_12) rfl q) ?_
  refine Go.virt X4 hx hZ (y := (⟨"com/example/kiriman/kiriman/route/Route", "visit", "(I)I"⟩ : MethodName)) (z := (⟨"com/example/kiriman/kiriman/route/Route", "visit", "(I)I"⟩ : MethodName)) (a := ro) (argsL := [(.int 1)]) (rest := [(.ref po)]) hown (tw167 hw) (tw168 hw) (notFace_of_selects (args := #[]) (mvT hZ (tw170 hw))) (tw170 hw) (tw169 hw) (tw84 hw) (tw171 hw) (by decide) hh4 Er (rmVi1 l Z a0 hw [] ro vs y T3.heap Rv Vv) (g := (mkF m 13 #[.val (.ref po), .val (.ref ro), .val (.int 0), .val (.int 1)] [(.int 1), (.ref ro), (.ref po)])) rfl (by rw [hml]; rfl) (lenOf pd25 rfl) rfl (W := 1) (by show 2 * 0 + _ ≤ _; exact Nat.le_of_eq rfl) (hb hby d20_13) (by decide) (by decide) (by decide) (by decide) ?_
  rintro T5 L5 v5 X5 ⟨rfl, rfl, hh5⟩
  have N5 := Fr.app N4 (Fr.nil n0)
  show Go pr ev below _ T5 (mkF m 16 #[.val (.ref po), .val (.ref ro), .val (.int 0), .val (.int 1)] [(.int (y (1 : Int32))), (.ref po)])
  rw [show (y (1 : Int32)) = v from hy1]
  refine Go.of (mkF m 17 #[.val (.ref po), .val (.ref ro), .val (.int 0), .val (.int 1)] [(.ref ro), (.int v), (.ref po)]) (fun _ q => XS.aloadN X5.here hx rfl (hb hby d20_16) rfl rfl q) ?_
  refine Go.of (mkF m 18 #[.val (.ref po), .val (.ref ro), .val (.int 0), .val (.int 1)] [(.int 1), (.ref ro), (.int v), (.ref po)]) (fun _ q => XS.iloadN X5.here hx rfl (hb hby d20_17) rfl q) ?_
  refine Go.priv X5 hx hZ (y := (⟨"com/example/kiriman/kiriman/route/Positions", "move", "(ILcom/example/kiriman/kiriman/route/Route;I)V"⟩ : MethodName)) (a := po) (argsL := [(.int v), (.ref ro), (.int 1)]) (rest := []) hown (tw172 hw) (tw173 hw) (Jvm.Kit.selects_private (by decide) (tw137 hw) (tw174 hw) (tw173 hw)) (tw174 hw) (tw138 hw) (tw175 hw) (by decide) hh5 E (rmMv l Z a0 hw [] po cu kr ki rt ix mv ro (if u = 1 then (.ref ro) else .null) (if u = 2 then (.ref ro) else .null) .null .null (if u = 1 then (0 : Int32) else 0) (if u = 2 then (0 : Int32) else 0) 0 0 T3.heap n0 hz ga o0 o1 o2 o3 o4 o5 o6 SY0 v (1 : Int32) (.ref ro) hv (Or.inr rfl) (own_VI (Or.inr rfl) (Or.inl rfl)) (own_VI (Or.inr rfl) (Or.inl rfl))) (g := (mkF m 18 #[.val (.ref po), .val (.ref ro), .val (.int 0), .val (.int 1)] [(.int 1), (.ref ro), (.int v), (.ref po)])) rfl (by rw [hml]; rfl) (lenOf pd32 rfl) rfl (W := 0) (by show 2 * 0 + _ ≤ _; exact Nat.le_of_eq rfl) (hb hby d20_18) (by decide) (by decide) (by decide) (by decide) ?_
  rintro T6 L6 v6 X6 ⟨rfl, NL6, K6, SY1⟩
  have N6 := Fr.app N5 NL6
  replace Rs := Rs.keep K6 (ninS ne_ro_po (ninS ne_ro_cu (ninS ne_ro_kr (ninS ne_ro_ki (ninS ne_ro_rt (ninS ne_ro_ix (ninS ne_ro_mv nin0)))))))
  replace Rv := Rv.keep K6 (ninS ne_ro_po (ninS ne_ro_cu (ninS ne_ro_kr (ninS ne_ro_ki (ninS ne_ro_rt (ninS ne_ro_ix (ninS ne_ro_mv nin0)))))))
  replace E := E.keep K6
  replace Er := Er.keep K6
  replace Vv := Vv.keep K6 (ninS ne_vs_po (ninS ne_vs_cu (ninS ne_vs_kr (ninS ne_vs_ki (ninS ne_vs_rt (ninS ne_vs_ix (ninS ne_vs_mv nin0)))))))
  replace hz := Nat.le_trans hz K6.1
  replace K0 := K0.trans K6 (((allS (Or.inl (by simp)) (allS (Or.inl (by simp)) (allS (Or.inl (by simp)) (allS (Or.inl (by simp)) (allS (Or.inl (by simp)) (allS (Or.inl (by simp)) (allS (Or.inl (by simp)) all0)))))))))
  show Go pr ev below _ T6 (mkF m 21 #[.val (.ref po), .val (.ref ro), .val (.int 0), .val (.int 1)] [])
  refine Go.of (mkF m 24 #[.val (.ref po), .val (.ref ro), .val (.int 0), .val (.int ((1 : Int32) + (1 : Int32)))] []) (fun _ q => XS.iinc X6.here hx rfl (hb hby d20_21) rfl (l' := #[.val (.ref po), .val (.ref ro), .val (.int 0), .val (.int ((1 : Int32) + (1 : Int32)))]) rfl q) ?_
  rw [show ((1 : Int32) + (1 : Int32)) = (2 : Int32) from by decide]
  refine Go.of (mkF m 2 #[.val (.ref po), .val (.ref ro), .val (.int 0), .val (.int 2)] []) (fun _ q => XS.goto X6.here hx rfl (pc0 := 24) (pc' := 2) rfl (hb hby d20_24) (by decide) (by decide) q) ?_
  refine Go.of (mkF m 3 #[.val (.ref po), .val (.ref ro), .val (.int 0), .val (.int 2)] [(.int 2)]) (fun _ q => XS.iloadN X6.here hx rfl (hb hby d20_2) rfl q) ?_
  refine Go.of (mkF m 4 #[.val (.ref po), .val (.ref ro), .val (.int 0), .val (.int 2)] [(.ref ro), (.int 2)]) (fun _ q => XS.aloadN X6.here hx rfl (hb hby d20_3) rfl rfl q) ?_
  refine Go.virt X6 hx hZ (y := (⟨"com/example/kiriman/kiriman/route/Route", "size", "()I"⟩ : MethodName)) (z := (⟨"com/example/kiriman/kiriman/route/Route", "size", "()I"⟩ : MethodName)) (a := ro) (argsL := []) (rest := [(.int 2)]) hown (tw162 hw) (tw163 hw) (notFace_of_selects (args := #[]) (mvT hZ (tw165 hw))) (tw165 hw) (tw164 hw) (tw84 hw) (tw166 hw) (by decide) rfl Er (rmSz l Z a0 hw [] ro T6.heap Rs) (g := (mkF m 4 #[.val (.ref po), .val (.ref ro), .val (.int 0), .val (.int 2)] [(.ref ro), (.int 2)])) rfl (by rw [hml]; rfl) (lenOf pd12 rfl) rfl (W := 1) (by show 2 * 0 + _ ≤ _; exact Nat.le_of_eq rfl) (hb hby d20_4) (by decide) (by decide) (by decide) (by decide) ?_
  rintro T7 L7 v7 X7 ⟨rfl, rfl, hh7⟩
  have N7 := Fr.app N6 (Fr.nil n0)
  show Go pr ev below _ T7 (mkF m 7 #[.val (.ref po), .val (.ref ro), .val (.int 0), .val (.int 2)] [(.int 2), (.int 2)])
  refine Go.of (mkF m 27 #[.val (.ref po), .val (.ref ro), .val (.int 0), .val (.int 2)] []) (fun _ q => XS.icmpYes X7.here hx rfl (pc0 := 7) (pc' := 27) rfl (hb hby d20_7) rfl (flt (by decide)).2.1 (by decide) (by decide) q) ?_
  exact Go.retV X7 hx hret hlk (hb hby d20_27) (by decide) (by decide) (by rw [hh7]; exact ⟨rfl, N7, K0, (by rcases hu with rfl | rfl <;> rcases hv with rfl | rfl <;> simpa [own_R, own_I] using SY1)⟩)
 ·
  refine Go.of (mkF m 1 #[.val (.ref po), .val (.ref ro), .val (.int 1), .unset] [(.int 1)]) (fun _ q => XS.iloadN X0.here hx rfl (hb hby d20_0) rfl q) ?_
  refine Go.of (mkF m 2 #[.val (.ref po), .val (.ref ro), .val (.int 1), .val (.int 1)] []) (fun _ q => XS.istoreN X0.here hx rfl (hb hby d20_1) rfl (l' := #[.val (.ref po), .val (.ref ro), .val (.int 1), .val (.int 1)]) rfl q) ?_
  refine Go.of (mkF m 3 #[.val (.ref po), .val (.ref ro), .val (.int 1), .val (.int 1)] [(.int 1)]) (fun _ q => XS.iloadN X0.here hx rfl (hb hby d20_2) rfl q) ?_
  refine Go.of (mkF m 4 #[.val (.ref po), .val (.ref ro), .val (.int 1), .val (.int 1)] [(.ref ro), (.int 1)]) (fun _ q => XS.aloadN X0.here hx rfl (hb hby d20_3) rfl rfl q) ?_
  refine Go.virt X0 hx hZ (y := (⟨"com/example/kiriman/kiriman/route/Route", "size", "()I"⟩ : MethodName)) (z := (⟨"com/example/kiriman/kiriman/route/Route", "size", "()I"⟩ : MethodName)) (a := ro) (argsL := []) (rest := [(.int 1)]) hown (tw162 hw) (tw163 hw) (notFace_of_selects (args := #[]) (mvT hZ (tw165 hw))) (tw165 hw) (tw164 hw) (tw84 hw) (tw166 hw) (by decide) e0 Er (rmSz l Z a0 hw [] ro h0 Rs) (g := (mkF m 4 #[.val (.ref po), .val (.ref ro), .val (.int 1), .val (.int 1)] [(.ref ro), (.int 1)])) rfl (by rw [hml]; rfl) (lenOf pd12 rfl) rfl (W := 1) (by show 2 * 0 + _ ≤ _; exact Nat.le_of_eq rfl) (hb hby d20_4) (by decide) (by decide) (by decide) (by decide) ?_
  rintro T8 L8 v8 X8 ⟨rfl, rfl, hh8⟩
  have N8 := Fr.app N0 (Fr.nil n0)
  show Go pr ev below _ T8 (mkF m 7 #[.val (.ref po), .val (.ref ro), .val (.int 1), .val (.int 1)] [(.int 2), (.int 1)])
  refine Go.of (mkF m 10 #[.val (.ref po), .val (.ref ro), .val (.int 1), .val (.int 1)] []) (fun _ q => XS.icmpNo X8.here hx rfl (hb hby d20_7) rfl (tlt (by decide)).2.1 q) ?_
  refine Go.of (mkF m 11 #[.val (.ref po), .val (.ref ro), .val (.int 1), .val (.int 1)] [(.ref po)]) (fun _ q => XS.aloadN X8.here hx rfl (hb hby d20_10) rfl rfl q) ?_
  refine Go.of (mkF m 12 #[.val (.ref po), .val (.ref ro), .val (.int 1), .val (.int 1)] [(.ref ro), (.ref po)]) (fun _ q => XS.aloadN X8.here hx rfl (hb hby d20_11) rfl rfl q) ?_
  refine Go.of (mkF m 13 #[.val (.ref po), .val (.ref ro), .val (.int 1), .val (.int 1)] [(.int 1), (.ref ro), (.ref po)]) (fun _ q => XS.iloadN X8.here hx rfl (hb hby d20_12) rfl q) ?_
  refine Go.virt X8 hx hZ (y := (⟨"com/example/kiriman/kiriman/route/Route", "visit", "(I)I"⟩ : MethodName)) (z := (⟨"com/example/kiriman/kiriman/route/Route", "visit", "(I)I"⟩ : MethodName)) (a := ro) (argsL := [(.int 1)]) (rest := [(.ref po)]) hown (tw167 hw) (tw168 hw) (notFace_of_selects (args := #[]) (mvT hZ (tw170 hw))) (tw170 hw) (tw169 hw) (tw84 hw) (tw171 hw) (by decide) hh8 Er (rmVi1 l Z a0 hw [] ro vs y h0 Rv Vv) (g := (mkF m 13 #[.val (.ref po), .val (.ref ro), .val (.int 1), .val (.int 1)] [(.int 1), (.ref ro), (.ref po)])) rfl (by rw [hml]; rfl) (lenOf pd25 rfl) rfl (W := 1) (by show 2 * 0 + _ ≤ _; exact Nat.le_of_eq rfl) (hb hby d20_13) (by decide) (by decide) (by decide) (by decide) ?_
  rintro T9 L9 v9 X9 ⟨rfl, rfl, hh9⟩
  have N9 := Fr.app N8 (Fr.nil n0)
  show Go pr ev below _ T9 (mkF m 16 #[.val (.ref po), .val (.ref ro), .val (.int 1), .val (.int 1)] [(.int (y (1 : Int32))), (.ref po)])
  rw [show (y (1 : Int32)) = v from hy1]
  refine Go.of (mkF m 17 #[.val (.ref po), .val (.ref ro), .val (.int 1), .val (.int 1)] [(.ref ro), (.int v), (.ref po)]) (fun _ q => XS.aloadN X9.here hx rfl (hb hby d20_16) rfl rfl q) ?_
  refine Go.of (mkF m 18 #[.val (.ref po), .val (.ref ro), .val (.int 1), .val (.int 1)] [(.int 1), (.ref ro), (.int v), (.ref po)]) (fun _ q => XS.iloadN X9.here hx rfl (hb hby d20_17) rfl q) ?_
  refine Go.priv X9 hx hZ (y := (⟨"com/example/kiriman/kiriman/route/Positions", "move", "(ILcom/example/kiriman/kiriman/route/Route;I)V"⟩ : MethodName)) (a := po) (argsL := [(.int v), (.ref ro), (.int 1)]) (rest := []) hown (tw172 hw) (tw173 hw) (Jvm.Kit.selects_private (by decide) (tw137 hw) (tw174 hw) (tw173 hw)) (tw174 hw) (tw138 hw) (tw175 hw) (by decide) hh9 E (rmMv l Z a0 hw [] po cu kr ki rt ix mv ro .null .null .null .null 0 0 0 0 h0 n0 hz ga o0 o1 o2 o3 o4 o5 o6 St v (1 : Int32) (.ref ro) hv (Or.inr rfl) (Or.inl rfl) (Or.inl rfl)) (g := (mkF m 18 #[.val (.ref po), .val (.ref ro), .val (.int 1), .val (.int 1)] [(.int 1), (.ref ro), (.int v), (.ref po)])) rfl (by rw [hml]; rfl) (lenOf pd32 rfl) rfl (W := 0) (by show 2 * 0 + _ ≤ _; exact Nat.le_of_eq rfl) (hb hby d20_18) (by decide) (by decide) (by decide) (by decide) ?_
  rintro T10 L10 v10 X10 ⟨rfl, NL10, K10, SY1⟩
  have N10 := Fr.app N9 NL10
  replace Rs := Rs.keep K10 (ninS ne_ro_po (ninS ne_ro_cu (ninS ne_ro_kr (ninS ne_ro_ki (ninS ne_ro_rt (ninS ne_ro_ix (ninS ne_ro_mv nin0)))))))
  replace Rv := Rv.keep K10 (ninS ne_ro_po (ninS ne_ro_cu (ninS ne_ro_kr (ninS ne_ro_ki (ninS ne_ro_rt (ninS ne_ro_ix (ninS ne_ro_mv nin0)))))))
  replace E := E.keep K10
  replace Er := Er.keep K10
  replace Vv := Vv.keep K10 (ninS ne_vs_po (ninS ne_vs_cu (ninS ne_vs_kr (ninS ne_vs_ki (ninS ne_vs_rt (ninS ne_vs_ix (ninS ne_vs_mv nin0)))))))
  replace hz := Nat.le_trans hz K10.1
  replace K0 := K0.trans K10 (((allS (Or.inl (by simp)) (allS (Or.inl (by simp)) (allS (Or.inl (by simp)) (allS (Or.inl (by simp)) (allS (Or.inl (by simp)) (allS (Or.inl (by simp)) (allS (Or.inl (by simp)) all0)))))))))
  show Go pr ev below _ T10 (mkF m 21 #[.val (.ref po), .val (.ref ro), .val (.int 1), .val (.int 1)] [])
  refine Go.of (mkF m 24 #[.val (.ref po), .val (.ref ro), .val (.int 1), .val (.int ((1 : Int32) + (1 : Int32)))] []) (fun _ q => XS.iinc X10.here hx rfl (hb hby d20_21) rfl (l' := #[.val (.ref po), .val (.ref ro), .val (.int 1), .val (.int ((1 : Int32) + (1 : Int32)))]) rfl q) ?_
  rw [show ((1 : Int32) + (1 : Int32)) = (2 : Int32) from by decide]
  refine Go.of (mkF m 2 #[.val (.ref po), .val (.ref ro), .val (.int 1), .val (.int 2)] []) (fun _ q => XS.goto X10.here hx rfl (pc0 := 24) (pc' := 2) rfl (hb hby d20_24) (by decide) (by decide) q) ?_
  refine Go.of (mkF m 3 #[.val (.ref po), .val (.ref ro), .val (.int 1), .val (.int 2)] [(.int 2)]) (fun _ q => XS.iloadN X10.here hx rfl (hb hby d20_2) rfl q) ?_
  refine Go.of (mkF m 4 #[.val (.ref po), .val (.ref ro), .val (.int 1), .val (.int 2)] [(.ref ro), (.int 2)]) (fun _ q => XS.aloadN X10.here hx rfl (hb hby d20_3) rfl rfl q) ?_
  refine Go.virt X10 hx hZ (y := (⟨"com/example/kiriman/kiriman/route/Route", "size", "()I"⟩ : MethodName)) (z := (⟨"com/example/kiriman/kiriman/route/Route", "size", "()I"⟩ : MethodName)) (a := ro) (argsL := []) (rest := [(.int 2)]) hown (tw162 hw) (tw163 hw) (notFace_of_selects (args := #[]) (mvT hZ (tw165 hw))) (tw165 hw) (tw164 hw) (tw84 hw) (tw166 hw) (by decide) rfl Er (rmSz l Z a0 hw [] ro T10.heap Rs) (g := (mkF m 4 #[.val (.ref po), .val (.ref ro), .val (.int 1), .val (.int 2)] [(.ref ro), (.int 2)])) rfl (by rw [hml]; rfl) (lenOf pd12 rfl) rfl (W := 1) (by show 2 * 0 + _ ≤ _; exact Nat.le_of_eq rfl) (hb hby d20_4) (by decide) (by decide) (by decide) (by decide) ?_
  rintro T11 L11 v11 X11 ⟨rfl, rfl, hh11⟩
  have N11 := Fr.app N10 (Fr.nil n0)
  show Go pr ev below _ T11 (mkF m 7 #[.val (.ref po), .val (.ref ro), .val (.int 1), .val (.int 2)] [(.int 2), (.int 2)])
  refine Go.of (mkF m 27 #[.val (.ref po), .val (.ref ro), .val (.int 1), .val (.int 2)] []) (fun _ q => XS.icmpYes X11.here hx rfl (pc0 := 7) (pc' := 27) rfl (hb hby d20_7) rfl (flt (by decide)).2.1 (by decide) (by decide) q) ?_
  exact Go.retV X11 hx hret hlk (hb hby d20_27) (by decide) (by decide) (by rw [hh11]; exact ⟨rfl, N11, K0, (by rcases hu with rfl | rfl <;> rcases hv with rfl | rfl <;> simpa [own_R, own_I] using SY1)⟩)
 ·
  refine Go.of (mkF m 1 #[.val (.ref po), .val (.ref ro), .val (.int 2), .unset] [(.int 2)]) (fun _ q => XS.iloadN X0.here hx rfl (hb hby d20_0) rfl q) ?_
  refine Go.of (mkF m 2 #[.val (.ref po), .val (.ref ro), .val (.int 2), .val (.int 2)] []) (fun _ q => XS.istoreN X0.here hx rfl (hb hby d20_1) rfl (l' := #[.val (.ref po), .val (.ref ro), .val (.int 2), .val (.int 2)]) rfl q) ?_
  refine Go.of (mkF m 3 #[.val (.ref po), .val (.ref ro), .val (.int 2), .val (.int 2)] [(.int 2)]) (fun _ q => XS.iloadN X0.here hx rfl (hb hby d20_2) rfl q) ?_
  refine Go.of (mkF m 4 #[.val (.ref po), .val (.ref ro), .val (.int 2), .val (.int 2)] [(.ref ro), (.int 2)]) (fun _ q => XS.aloadN X0.here hx rfl (hb hby d20_3) rfl rfl q) ?_
  refine Go.virt X0 hx hZ (y := (⟨"com/example/kiriman/kiriman/route/Route", "size", "()I"⟩ : MethodName)) (z := (⟨"com/example/kiriman/kiriman/route/Route", "size", "()I"⟩ : MethodName)) (a := ro) (argsL := []) (rest := [(.int 2)]) hown (tw162 hw) (tw163 hw) (notFace_of_selects (args := #[]) (mvT hZ (tw165 hw))) (tw165 hw) (tw164 hw) (tw84 hw) (tw166 hw) (by decide) e0 Er (rmSz l Z a0 hw [] ro h0 Rs) (g := (mkF m 4 #[.val (.ref po), .val (.ref ro), .val (.int 2), .val (.int 2)] [(.ref ro), (.int 2)])) rfl (by rw [hml]; rfl) (lenOf pd12 rfl) rfl (W := 1) (by show 2 * 0 + _ ≤ _; exact Nat.le_of_eq rfl) (hb hby d20_4) (by decide) (by decide) (by decide) (by decide) ?_
  rintro T12 L12 v12 X12 ⟨rfl, rfl, hh12⟩
  have N12 := Fr.app N0 (Fr.nil n0)
  show Go pr ev below _ T12 (mkF m 7 #[.val (.ref po), .val (.ref ro), .val (.int 2), .val (.int 2)] [(.int 2), (.int 2)])
  refine Go.of (mkF m 27 #[.val (.ref po), .val (.ref ro), .val (.int 2), .val (.int 2)] []) (fun _ q => XS.icmpYes X12.here hx rfl (pc0 := 7) (pc' := 27) rfl (hb hby d20_7) rfl (flt (by decide)).2.1 (by decide) (by decide) q) ?_
  exact Go.retV X12 hx hret hlk (hb hby d20_27) (by decide) (by decide) (by rw [hh12]; exact ⟨rfl, N12, K0, (by rcases hu with rfl | rfl <;> rcases hv with rfl | rfl <;> simpa [own_R, own_I] using St)⟩)
theorem ef_rmRo1R (m : MethodId) (x0 : Addr) (x1 : Int32) : entryFrame m #[(.ref x0), (.int x1)] 2 = mkF m 0 #[.val (.ref x0), .val (.int x1)] [] := by first | (simp [entryFrame, mkF, argsToLocals, Value.category]; done) | rfl
theorem rmRo1R (l : Launch) (Z : State) (a0 : Array Value) (hw : ∀ d ∈ tables_1, d.before a0 Z = true) (ws : List Jvm.Cond) (po rt ro : Nat) (yrt : Int32 → Value) (h0 : Heap) (S4 : Fld Z h0 po "com/example/kiriman/kiriman/route/Positions" "routes" "[Lcom/example/kiriman/kiriman/route/Route;" (.ref rt)) (Vrt : Fa Z h0 rt (.object "com/example/kiriman/kiriman/route/Route") 3 yrt) (hq : yrt 1 = (.ref ro)) :
    Met l Z (⟨"com/example/kiriman/kiriman/route/Positions", "route", "(I)Lcom/example/kiriman/kiriman/route/Route;"⟩ : MethodName) prog_27_method_2_code 2 (some (.object "com/example/kiriman/kiriman/route/Route")) ws ({ frames := 0, cells := 0, slots := 0, locals := 0 } : Room) #[(.ref po), (.int 1)] h0 (fun v h L => v = some (.ref ro) ∧ L = [] ∧ h = h0) := by
 refine Met.intro pn36 ?_
 intro pr ev s m below meth c T0 X0 hx hZ hown hby hml hret hlk hnm e0
 refine Go.cast (ef_rmRo1R m po (1 : Int32)) ?_
 refine Go.of (mkF m 1 #[.val (.ref po), .val (.int 1)] [(.ref po)]) (fun _ q => XS.aloadN X0.here hx rfl (hb hby d26_0) rfl rfl q) ?_
 obtain ⟨T1, X1, e1, st1⟩ := getF X0 hx hZ hown (host := "") (Or.inl (tw150 hw)) Via.refl e0 S4 (g := (mkF m 1 #[.val (.ref po), .val (.int 1)] [(.ref po)])) rfl rfl (hb hby d26_1)
 refine Go.of (mkF m 4 #[.val (.ref po), .val (.int 1)] [(.ref rt)]) (st1) ?_
 refine Go.of (mkF m 5 #[.val (.ref po), .val (.int 1)] [(.int 1), (.ref rt)]) (fun _ q => XS.iloadN X1.here hx rfl (hb hby d26_4) rfl q) ?_
 refine Go.aaload X1 hx hZ e1 Vrt rfl (by decide) (by decide) (g := (mkF m 5 #[.val (.ref po), .val (.int 1)] [(.int 1), (.ref rt)])) rfl rfl (hb hby d26_5) ?_
 show Go pr ev below _ T1 (mkF m 6 #[.val (.ref po), .val (.int 1)] [(yrt (1 : Int32))])
 rw [show (yrt (1 : Int32)) = (.ref ro) from hq]
 exact Go.retW X1 hx (t := (.object "com/example/kiriman/kiriman/route/Route")) hret hlk rfl (Or.inr (Or.inr (Or.inr (Or.inr ⟨rfl, rfl, rfl⟩)))) (hb hby d26_6) (by decide) (by decide) ⟨rfl, rfl, e1⟩
theorem ef_rmRo1N (m : MethodId) (x0 : Addr) (x1 : Int32) : entryFrame m #[(.ref x0), (.int x1)] 2 = mkF m 0 #[.val (.ref x0), .val (.int x1)] [] := by first | (simp [entryFrame, mkF, argsToLocals, Value.category]; done) | rfl
theorem rmRo1N (l : Launch) (Z : State) (a0 : Array Value) (hw : ∀ d ∈ tables_1, d.before a0 Z = true) (ws : List Jvm.Cond) (po rt ro : Nat) (yrt : Int32 → Value) (h0 : Heap) (S4 : Fld Z h0 po "com/example/kiriman/kiriman/route/Positions" "routes" "[Lcom/example/kiriman/kiriman/route/Route;" (.ref rt)) (Vrt : Fa Z h0 rt (.object "com/example/kiriman/kiriman/route/Route") 3 yrt) (hq : yrt 1 = .null) :
    Met l Z (⟨"com/example/kiriman/kiriman/route/Positions", "route", "(I)Lcom/example/kiriman/kiriman/route/Route;"⟩ : MethodName) prog_27_method_2_code 2 (some (.object "com/example/kiriman/kiriman/route/Route")) ws ({ frames := 0, cells := 0, slots := 0, locals := 0 } : Room) #[(.ref po), (.int 1)] h0 (fun v h L => v = some .null ∧ L = [] ∧ h = h0) := by
 refine Met.intro pn36 ?_
 intro pr ev s m below meth c T0 X0 hx hZ hown hby hml hret hlk hnm e0
 refine Go.cast (ef_rmRo1N m po (1 : Int32)) ?_
 refine Go.of (mkF m 1 #[.val (.ref po), .val (.int 1)] [(.ref po)]) (fun _ q => XS.aloadN X0.here hx rfl (hb hby d26_0) rfl rfl q) ?_
 obtain ⟨T1, X1, e1, st1⟩ := getF X0 hx hZ hown (host := "") (Or.inl (tw150 hw)) Via.refl e0 S4 (g := (mkF m 1 #[.val (.ref po), .val (.int 1)] [(.ref po)])) rfl rfl (hb hby d26_1)
 refine Go.of (mkF m 4 #[.val (.ref po), .val (.int 1)] [(.ref rt)]) (st1) ?_
 refine Go.of (mkF m 5 #[.val (.ref po), .val (.int 1)] [(.int 1), (.ref rt)]) (fun _ q => XS.iloadN X1.here hx rfl (hb hby d26_4) rfl q) ?_
 refine Go.aaload X1 hx hZ e1 Vrt rfl (by decide) (by decide) (g := (mkF m 5 #[.val (.ref po), .val (.int 1)] [(.int 1), (.ref rt)])) rfl rfl (hb hby d26_5) ?_
 show Go pr ev below _ T1 (mkF m 6 #[.val (.ref po), .val (.int 1)] [(yrt (1 : Int32))])
 rw [show (yrt (1 : Int32)) = .null from hq]
 exact Go.retW X1 hx (t := (.object "com/example/kiriman/kiriman/route/Route")) hret hlk rfl (Or.inr (Or.inr (Or.inr (Or.inr ⟨rfl, rfl, rfl⟩)))) (hb hby d26_6) (by decide) (by decide) ⟨rfl, rfl, e1⟩
theorem ef_rmIx1 (m : MethodId) (x0 : Addr) (x1 : Int32) : entryFrame m #[(.ref x0), (.int x1)] 2 = mkF m 0 #[.val (.ref x0), .val (.int x1)] [] := by first | (simp [entryFrame, mkF, argsToLocals, Value.category]; done) | rfl
theorem rmIx1 (l : Launch) (Z : State) (a0 : Array Value) (hw : ∀ d ∈ tables_1, d.before a0 Z = true) (ws : List Jvm.Cond) (po ix : Nat) (j : Int32) (yix : Int32 → Int32) (h0 : Heap) (S5 : Fld Z h0 po "com/example/kiriman/kiriman/route/Positions" "indexes" "[I" (.ref ix)) (Vix : Fa Z h0 ix .int 3 (fun i => .int (yix i))) (hq : yix 1 = j) :
    Met l Z (⟨"com/example/kiriman/kiriman/route/Positions", "index", "(I)I"⟩ : MethodName) prog_27_method_3_code 2 (some .int) ws ({ frames := 0, cells := 0, slots := 0, locals := 0 } : Room) #[(.ref po), (.int 1)] h0 (fun v h L => v = some (.int j) ∧ L = [] ∧ h = h0) := by
 refine Met.intro pn37 ?_
 intro pr ev s m below meth c T0 X0 hx hZ hown hby hml hret hlk hnm e0
 refine Go.cast (ef_rmIx1 m po (1 : Int32)) ?_
 refine Go.of (mkF m 1 #[.val (.ref po), .val (.int 1)] [(.ref po)]) (fun _ q => XS.aloadN X0.here hx rfl (hb hby d27_0) rfl rfl q) ?_
 obtain ⟨T1, X1, e1, st1⟩ := getF X0 hx hZ hown (host := "") (Or.inl (tw152 hw)) Via.refl e0 S5 (g := (mkF m 1 #[.val (.ref po), .val (.int 1)] [(.ref po)])) rfl rfl (hb hby d27_1)
 refine Go.of (mkF m 4 #[.val (.ref po), .val (.int 1)] [(.ref ix)]) (st1) ?_
 refine Go.of (mkF m 5 #[.val (.ref po), .val (.int 1)] [(.int 1), (.ref ix)]) (fun _ q => XS.iloadN X1.here hx rfl (hb hby d27_4) rfl q) ?_
 refine Go.iaload X1 hx hZ e1 Vix (by decide) (by decide) (g := (mkF m 5 #[.val (.ref po), .val (.int 1)] [(.int 1), (.ref ix)])) rfl rfl (hb hby d27_5) ?_
 show Go pr ev below _ T1 (mkF m 6 #[.val (.ref po), .val (.int 1)] [(.int (yix (1 : Int32)))])
 rw [show (yix (1 : Int32)) = j from hq]
 exact Go.retW X1 hx (t := .int) hret hlk rfl (Or.inl ⟨rfl, by simp, _, rfl⟩) (hb hby d27_6) (by decide) (by decide) ⟨rfl, rfl, e1⟩
theorem ef_rmRo2R (m : MethodId) (x0 : Addr) (x1 : Int32) : entryFrame m #[(.ref x0), (.int x1)] 2 = mkF m 0 #[.val (.ref x0), .val (.int x1)] [] := by first | (simp [entryFrame, mkF, argsToLocals, Value.category]; done) | rfl
theorem rmRo2R (l : Launch) (Z : State) (a0 : Array Value) (hw : ∀ d ∈ tables_1, d.before a0 Z = true) (ws : List Jvm.Cond) (po rt ro : Nat) (yrt : Int32 → Value) (h0 : Heap) (S4 : Fld Z h0 po "com/example/kiriman/kiriman/route/Positions" "routes" "[Lcom/example/kiriman/kiriman/route/Route;" (.ref rt)) (Vrt : Fa Z h0 rt (.object "com/example/kiriman/kiriman/route/Route") 3 yrt) (hq : yrt 2 = (.ref ro)) :
    Met l Z (⟨"com/example/kiriman/kiriman/route/Positions", "route", "(I)Lcom/example/kiriman/kiriman/route/Route;"⟩ : MethodName) prog_27_method_2_code 2 (some (.object "com/example/kiriman/kiriman/route/Route")) ws ({ frames := 0, cells := 0, slots := 0, locals := 0 } : Room) #[(.ref po), (.int 2)] h0 (fun v h L => v = some (.ref ro) ∧ L = [] ∧ h = h0) := by
 refine Met.intro pn36 ?_
 intro pr ev s m below meth c T0 X0 hx hZ hown hby hml hret hlk hnm e0
 refine Go.cast (ef_rmRo2R m po (2 : Int32)) ?_
 refine Go.of (mkF m 1 #[.val (.ref po), .val (.int 2)] [(.ref po)]) (fun _ q => XS.aloadN X0.here hx rfl (hb hby d26_0) rfl rfl q) ?_
 obtain ⟨T1, X1, e1, st1⟩ := getF X0 hx hZ hown (host := "") (Or.inl (tw150 hw)) Via.refl e0 S4 (g := (mkF m 1 #[.val (.ref po), .val (.int 2)] [(.ref po)])) rfl rfl (hb hby d26_1)
 refine Go.of (mkF m 4 #[.val (.ref po), .val (.int 2)] [(.ref rt)]) (st1) ?_
 refine Go.of (mkF m 5 #[.val (.ref po), .val (.int 2)] [(.int 2), (.ref rt)]) (fun _ q => XS.iloadN X1.here hx rfl (hb hby d26_4) rfl q) ?_
 refine Go.aaload X1 hx hZ e1 Vrt rfl (by decide) (by decide) (g := (mkF m 5 #[.val (.ref po), .val (.int 2)] [(.int 2), (.ref rt)])) rfl rfl (hb hby d26_5) ?_
 show Go pr ev below _ T1 (mkF m 6 #[.val (.ref po), .val (.int 2)] [(yrt (2 : Int32))])
 rw [show (yrt (2 : Int32)) = (.ref ro) from hq]
 exact Go.retW X1 hx (t := (.object "com/example/kiriman/kiriman/route/Route")) hret hlk rfl (Or.inr (Or.inr (Or.inr (Or.inr ⟨rfl, rfl, rfl⟩)))) (hb hby d26_6) (by decide) (by decide) ⟨rfl, rfl, e1⟩
theorem ef_rmRo2N (m : MethodId) (x0 : Addr) (x1 : Int32) : entryFrame m #[(.ref x0), (.int x1)] 2 = mkF m 0 #[.val (.ref x0), .val (.int x1)] [] := by first | (simp [entryFrame, mkF, argsToLocals, Value.category]; done) | rfl
theorem rmRo2N (l : Launch) (Z : State) (a0 : Array Value) (hw : ∀ d ∈ tables_1, d.before a0 Z = true) (ws : List Jvm.Cond) (po rt ro : Nat) (yrt : Int32 → Value) (h0 : Heap) (S4 : Fld Z h0 po "com/example/kiriman/kiriman/route/Positions" "routes" "[Lcom/example/kiriman/kiriman/route/Route;" (.ref rt)) (Vrt : Fa Z h0 rt (.object "com/example/kiriman/kiriman/route/Route") 3 yrt) (hq : yrt 2 = .null) :
    Met l Z (⟨"com/example/kiriman/kiriman/route/Positions", "route", "(I)Lcom/example/kiriman/kiriman/route/Route;"⟩ : MethodName) prog_27_method_2_code 2 (some (.object "com/example/kiriman/kiriman/route/Route")) ws ({ frames := 0, cells := 0, slots := 0, locals := 0 } : Room) #[(.ref po), (.int 2)] h0 (fun v h L => v = some .null ∧ L = [] ∧ h = h0) := by
 refine Met.intro pn36 ?_
 intro pr ev s m below meth c T0 X0 hx hZ hown hby hml hret hlk hnm e0
 refine Go.cast (ef_rmRo2N m po (2 : Int32)) ?_
 refine Go.of (mkF m 1 #[.val (.ref po), .val (.int 2)] [(.ref po)]) (fun _ q => XS.aloadN X0.here hx rfl (hb hby d26_0) rfl rfl q) ?_
 obtain ⟨T1, X1, e1, st1⟩ := getF X0 hx hZ hown (host := "") (Or.inl (tw150 hw)) Via.refl e0 S4 (g := (mkF m 1 #[.val (.ref po), .val (.int 2)] [(.ref po)])) rfl rfl (hb hby d26_1)
 refine Go.of (mkF m 4 #[.val (.ref po), .val (.int 2)] [(.ref rt)]) (st1) ?_
 refine Go.of (mkF m 5 #[.val (.ref po), .val (.int 2)] [(.int 2), (.ref rt)]) (fun _ q => XS.iloadN X1.here hx rfl (hb hby d26_4) rfl q) ?_
 refine Go.aaload X1 hx hZ e1 Vrt rfl (by decide) (by decide) (g := (mkF m 5 #[.val (.ref po), .val (.int 2)] [(.int 2), (.ref rt)])) rfl rfl (hb hby d26_5) ?_
 show Go pr ev below _ T1 (mkF m 6 #[.val (.ref po), .val (.int 2)] [(yrt (2 : Int32))])
 rw [show (yrt (2 : Int32)) = .null from hq]
 exact Go.retW X1 hx (t := (.object "com/example/kiriman/kiriman/route/Route")) hret hlk rfl (Or.inr (Or.inr (Or.inr (Or.inr ⟨rfl, rfl, rfl⟩)))) (hb hby d26_6) (by decide) (by decide) ⟨rfl, rfl, e1⟩
theorem ef_rmIx2 (m : MethodId) (x0 : Addr) (x1 : Int32) : entryFrame m #[(.ref x0), (.int x1)] 2 = mkF m 0 #[.val (.ref x0), .val (.int x1)] [] := by first | (simp [entryFrame, mkF, argsToLocals, Value.category]; done) | rfl
theorem rmIx2 (l : Launch) (Z : State) (a0 : Array Value) (hw : ∀ d ∈ tables_1, d.before a0 Z = true) (ws : List Jvm.Cond) (po ix : Nat) (j : Int32) (yix : Int32 → Int32) (h0 : Heap) (S5 : Fld Z h0 po "com/example/kiriman/kiriman/route/Positions" "indexes" "[I" (.ref ix)) (Vix : Fa Z h0 ix .int 3 (fun i => .int (yix i))) (hq : yix 2 = j) :
    Met l Z (⟨"com/example/kiriman/kiriman/route/Positions", "index", "(I)I"⟩ : MethodName) prog_27_method_3_code 2 (some .int) ws ({ frames := 0, cells := 0, slots := 0, locals := 0 } : Room) #[(.ref po), (.int 2)] h0 (fun v h L => v = some (.int j) ∧ L = [] ∧ h = h0) := by
 refine Met.intro pn37 ?_
 intro pr ev s m below meth c T0 X0 hx hZ hown hby hml hret hlk hnm e0
 refine Go.cast (ef_rmIx2 m po (2 : Int32)) ?_
 refine Go.of (mkF m 1 #[.val (.ref po), .val (.int 2)] [(.ref po)]) (fun _ q => XS.aloadN X0.here hx rfl (hb hby d27_0) rfl rfl q) ?_
 obtain ⟨T1, X1, e1, st1⟩ := getF X0 hx hZ hown (host := "") (Or.inl (tw152 hw)) Via.refl e0 S5 (g := (mkF m 1 #[.val (.ref po), .val (.int 2)] [(.ref po)])) rfl rfl (hb hby d27_1)
 refine Go.of (mkF m 4 #[.val (.ref po), .val (.int 2)] [(.ref ix)]) (st1) ?_
 refine Go.of (mkF m 5 #[.val (.ref po), .val (.int 2)] [(.int 2), (.ref ix)]) (fun _ q => XS.iloadN X1.here hx rfl (hb hby d27_4) rfl q) ?_
 refine Go.iaload X1 hx hZ e1 Vix (by decide) (by decide) (g := (mkF m 5 #[.val (.ref po), .val (.int 2)] [(.int 2), (.ref ix)])) rfl rfl (hb hby d27_5) ?_
 show Go pr ev below _ T1 (mkF m 6 #[.val (.ref po), .val (.int 2)] [(.int (yix (2 : Int32)))])
 rw [show (yix (2 : Int32)) = j from hq]
 exact Go.retW X1 hx (t := .int) hret hlk rfl (Or.inl ⟨rfl, by simp, _, rfl⟩) (hb hby d27_6) (by decide) (by decide) ⟨rfl, rfl, e1⟩
theorem ef_rm0 (m : MethodId) (x0 : Int32) : entryFrame m #[(.int x0)] maxLocals = mkF m 0 #[.val (.int x0), .unset, .unset, .unset, .unset, .unset, .unset, .unset, .unset, .unset, .unset, .unset] [] := by first | (simp [entryFrame, mkF, argsToLocals, Value.category, maxLocals]; done) | rfl
theorem rm0 (l : Launch) (Z : State) (a0 : Array Value) (hw : ∀ d ∈ tables_1, d.before a0 Z = true) (ws : List Jvm.Cond) (aA : Int32) (h0 : Heap) (n0 : Nat) (hz0 : n0 ≤ h0.size) :
    Met l Z x code maxLocals ret ws room_1 #[(.int aA)] h0 (fun v h L => v = some (.int 1) ∧ Fr n0 L) := by
 refine Met.intro pn38 ?_
 intro pr ev s m below meth c T0 X0 hx hZ hown hby hml hret hlk hnm e0
 refine Go.cast (ef_rm0 m aA) ?_
 have N0 := Fr.nil n0
 have hz := hz0
 refine Go.of (mkF m 1 #[.val (.int aA), .unset, .unset, .unset, .unset, .unset, .unset, .unset, .unset, .unset, .unset, .unset] [(.int 1)]) (fun _ q => XS.iconst X0.here hx rfl (hb hby at_0) q) ?_
 refine Go.of (mkF m 2 #[.val (.int aA), .unset, .unset, .unset, .unset, .unset, .unset, .unset, .unset, .unset, .unset, .unset] [(.int aA), (.int 1)]) (fun _ q => XS.iloadN X0.here hx rfl (hb hby at_1) rfl q) ?_
 refine Go.of (mkF m 3 #[.val (.int aA), .unset, .unset, .unset, .unset, .unset, .unset, .unset, .unset, .unset, .unset, .unset] [(.int 1), (.int aA), (.int 1)]) (fun _ q => XS.iconst X0.here hx rfl (hb hby at_2) q) ?_
 refine Go.of (mkF m 4 #[.val (.int aA), .unset, .unset, .unset, .unset, .unset, .unset, .unset, .unset, .unset, .unset, .unset] [(.int (aA &&& (1 : Int32))), (.int 1)]) (fun _ q => XS.iand X0.here hx rfl (hb hby at_3) rfl q) ?_
 refine Go.of (mkF m 5 #[.val (.int aA), .unset, .unset, .unset, .unset, .unset, .unset, .unset, .unset, .unset, .unset, .unset] [(.int ((1 : Int32) + (aA &&& (1 : Int32))))]) (fun _ q => XS.iadd X0.here hx rfl (hb hby at_4) rfl q) ?_
 refine Go.of (mkF m 6 #[.val (.int aA), .val (.int ((1 : Int32) + (aA &&& (1 : Int32)))), .unset, .unset, .unset, .unset, .unset, .unset, .unset, .unset, .unset, .unset] []) (fun _ q => XS.istoreN X0.here hx rfl (hb hby at_5) rfl (l' := #[.val (.int aA), .val (.int ((1 : Int32) + (aA &&& (1 : Int32)))), .unset, .unset, .unset, .unset, .unset, .unset, .unset, .unset, .unset, .unset]) rfl q) ?_
 refine Go.of (mkF m 7 #[.val (.int aA), .val (.int ((1 : Int32) + (aA &&& (1 : Int32)))), .unset, .unset, .unset, .unset, .unset, .unset, .unset, .unset, .unset, .unset] [(.int 1)]) (fun _ q => XS.iconst X0.here hx rfl (hb hby at_6) q) ?_
 refine Go.of (mkF m 8 #[.val (.int aA), .val (.int ((1 : Int32) + (aA &&& (1 : Int32)))), .unset, .unset, .unset, .unset, .unset, .unset, .unset, .unset, .unset, .unset] [(.int aA), (.int 1)]) (fun _ q => XS.iloadN X0.here hx rfl (hb hby at_7) rfl q) ?_
 refine Go.of (mkF m 9 #[.val (.int aA), .val (.int ((1 : Int32) + (aA &&& (1 : Int32)))), .unset, .unset, .unset, .unset, .unset, .unset, .unset, .unset, .unset, .unset] [(.int 1), (.int aA), (.int 1)]) (fun _ q => XS.iconst X0.here hx rfl (hb hby at_8) q) ?_
 refine Go.of (mkF m 10 #[.val (.int aA), .val (.int ((1 : Int32) + (aA &&& (1 : Int32)))), .unset, .unset, .unset, .unset, .unset, .unset, .unset, .unset, .unset, .unset] [(.int ((aA.toUInt32 >>> ((1 : Int32) &&& 31).toUInt32).toInt32)), (.int 1)]) (fun _ q => XS.iushr X0.here hx rfl (hb hby at_9) rfl q) ?_
 refine Go.of (mkF m 11 #[.val (.int aA), .val (.int ((1 : Int32) + (aA &&& (1 : Int32)))), .unset, .unset, .unset, .unset, .unset, .unset, .unset, .unset, .unset, .unset] [(.int 1), (.int ((aA.toUInt32 >>> ((1 : Int32) &&& 31).toUInt32).toInt32)), (.int 1)]) (fun _ q => XS.iconst X0.here hx rfl (hb hby at_10) q) ?_
 refine Go.of (mkF m 12 #[.val (.int aA), .val (.int ((1 : Int32) + (aA &&& (1 : Int32)))), .unset, .unset, .unset, .unset, .unset, .unset, .unset, .unset, .unset, .unset] [(.int (((aA.toUInt32 >>> ((1 : Int32) &&& 31).toUInt32).toInt32) &&& (1 : Int32))), (.int 1)]) (fun _ q => XS.iand X0.here hx rfl (hb hby at_11) rfl q) ?_
 refine Go.of (mkF m 13 #[.val (.int aA), .val (.int ((1 : Int32) + (aA &&& (1 : Int32)))), .unset, .unset, .unset, .unset, .unset, .unset, .unset, .unset, .unset, .unset] [(.int ((1 : Int32) + (((aA.toUInt32 >>> ((1 : Int32) &&& 31).toUInt32).toInt32) &&& (1 : Int32))))]) (fun _ q => XS.iadd X0.here hx rfl (hb hby at_12) rfl q) ?_
 refine Go.of (mkF m 14 #[.val (.int aA), .val (.int ((1 : Int32) + (aA &&& (1 : Int32)))), .val (.int ((1 : Int32) + (((aA.toUInt32 >>> ((1 : Int32) &&& 31).toUInt32).toInt32) &&& (1 : Int32)))), .unset, .unset, .unset, .unset, .unset, .unset, .unset, .unset, .unset] []) (fun _ q => XS.istoreN X0.here hx rfl (hb hby at_13) rfl (l' := #[.val (.int aA), .val (.int ((1 : Int32) + (aA &&& (1 : Int32)))), .val (.int ((1 : Int32) + (((aA.toUInt32 >>> ((1 : Int32) &&& 31).toUInt32).toInt32) &&& (1 : Int32)))), .unset, .unset, .unset, .unset, .unset, .unset, .unset, .unset, .unset]) rfl q) ?_
 refine Go.of (mkF m 15 #[.val (.int aA), .val (.int ((1 : Int32) + (aA &&& (1 : Int32)))), .val (.int ((1 : Int32) + (((aA.toUInt32 >>> ((1 : Int32) &&& 31).toUInt32).toInt32) &&& (1 : Int32)))), .unset, .unset, .unset, .unset, .unset, .unset, .unset, .unset, .unset] [(.int 1)]) (fun _ q => XS.iconst X0.here hx rfl (hb hby at_14) q) ?_
 refine Go.of (mkF m 16 #[.val (.int aA), .val (.int ((1 : Int32) + (aA &&& (1 : Int32)))), .val (.int ((1 : Int32) + (((aA.toUInt32 >>> ((1 : Int32) &&& 31).toUInt32).toInt32) &&& (1 : Int32)))), .unset, .unset, .unset, .unset, .unset, .unset, .unset, .unset, .unset] [(.int aA), (.int 1)]) (fun _ q => XS.iloadN X0.here hx rfl (hb hby at_15) rfl q) ?_
 refine Go.of (mkF m 17 #[.val (.int aA), .val (.int ((1 : Int32) + (aA &&& (1 : Int32)))), .val (.int ((1 : Int32) + (((aA.toUInt32 >>> ((1 : Int32) &&& 31).toUInt32).toInt32) &&& (1 : Int32)))), .unset, .unset, .unset, .unset, .unset, .unset, .unset, .unset, .unset] [(.int 2), (.int aA), (.int 1)]) (fun _ q => XS.iconst X0.here hx rfl (hb hby at_16) q) ?_
 refine Go.of (mkF m 18 #[.val (.int aA), .val (.int ((1 : Int32) + (aA &&& (1 : Int32)))), .val (.int ((1 : Int32) + (((aA.toUInt32 >>> ((1 : Int32) &&& 31).toUInt32).toInt32) &&& (1 : Int32)))), .unset, .unset, .unset, .unset, .unset, .unset, .unset, .unset, .unset] [(.int ((aA.toUInt32 >>> ((2 : Int32) &&& 31).toUInt32).toInt32)), (.int 1)]) (fun _ q => XS.iushr X0.here hx rfl (hb hby at_17) rfl q) ?_
 refine Go.of (mkF m 19 #[.val (.int aA), .val (.int ((1 : Int32) + (aA &&& (1 : Int32)))), .val (.int ((1 : Int32) + (((aA.toUInt32 >>> ((1 : Int32) &&& 31).toUInt32).toInt32) &&& (1 : Int32)))), .unset, .unset, .unset, .unset, .unset, .unset, .unset, .unset, .unset] [(.int 1), (.int ((aA.toUInt32 >>> ((2 : Int32) &&& 31).toUInt32).toInt32)), (.int 1)]) (fun _ q => XS.iconst X0.here hx rfl (hb hby at_18) q) ?_
 refine Go.of (mkF m 20 #[.val (.int aA), .val (.int ((1 : Int32) + (aA &&& (1 : Int32)))), .val (.int ((1 : Int32) + (((aA.toUInt32 >>> ((1 : Int32) &&& 31).toUInt32).toInt32) &&& (1 : Int32)))), .unset, .unset, .unset, .unset, .unset, .unset, .unset, .unset, .unset] [(.int (((aA.toUInt32 >>> ((2 : Int32) &&& 31).toUInt32).toInt32) &&& (1 : Int32))), (.int 1)]) (fun _ q => XS.iand X0.here hx rfl (hb hby at_19) rfl q) ?_
 refine Go.of (mkF m 21 #[.val (.int aA), .val (.int ((1 : Int32) + (aA &&& (1 : Int32)))), .val (.int ((1 : Int32) + (((aA.toUInt32 >>> ((1 : Int32) &&& 31).toUInt32).toInt32) &&& (1 : Int32)))), .unset, .unset, .unset, .unset, .unset, .unset, .unset, .unset, .unset] [(.int ((1 : Int32) + (((aA.toUInt32 >>> ((2 : Int32) &&& 31).toUInt32).toInt32) &&& (1 : Int32))))]) (fun _ q => XS.iadd X0.here hx rfl (hb hby at_20) rfl q) ?_
 refine Go.of (mkF m 22 #[.val (.int aA), .val (.int ((1 : Int32) + (aA &&& (1 : Int32)))), .val (.int ((1 : Int32) + (((aA.toUInt32 >>> ((1 : Int32) &&& 31).toUInt32).toInt32) &&& (1 : Int32)))), .val (.int ((1 : Int32) + (((aA.toUInt32 >>> ((2 : Int32) &&& 31).toUInt32).toInt32) &&& (1 : Int32)))), .unset, .unset, .unset, .unset, .unset, .unset, .unset, .unset] []) (fun _ q => XS.istoreN X0.here hx rfl (hb hby at_21) rfl (l' := #[.val (.int aA), .val (.int ((1 : Int32) + (aA &&& (1 : Int32)))), .val (.int ((1 : Int32) + (((aA.toUInt32 >>> ((1 : Int32) &&& 31).toUInt32).toInt32) &&& (1 : Int32)))), .val (.int ((1 : Int32) + (((aA.toUInt32 >>> ((2 : Int32) &&& 31).toUInt32).toInt32) &&& (1 : Int32)))), .unset, .unset, .unset, .unset, .unset, .unset, .unset, .unset]) rfl q) ?_
 refine Go.of (mkF m 23 #[.val (.int aA), .val (.int ((1 : Int32) + (aA &&& (1 : Int32)))), .val (.int ((1 : Int32) + (((aA.toUInt32 >>> ((1 : Int32) &&& 31).toUInt32).toInt32) &&& (1 : Int32)))), .val (.int ((1 : Int32) + (((aA.toUInt32 >>> ((2 : Int32) &&& 31).toUInt32).toInt32) &&& (1 : Int32)))), .unset, .unset, .unset, .unset, .unset, .unset, .unset, .unset] [(.int aA)]) (fun _ q => XS.iloadN X0.here hx rfl (hb hby at_22) rfl q) ?_
 refine Go.of (mkF m 24 #[.val (.int aA), .val (.int ((1 : Int32) + (aA &&& (1 : Int32)))), .val (.int ((1 : Int32) + (((aA.toUInt32 >>> ((1 : Int32) &&& 31).toUInt32).toInt32) &&& (1 : Int32)))), .val (.int ((1 : Int32) + (((aA.toUInt32 >>> ((2 : Int32) &&& 31).toUInt32).toInt32) &&& (1 : Int32)))), .unset, .unset, .unset, .unset, .unset, .unset, .unset, .unset] [(.int 3), (.int aA)]) (fun _ q => XS.iconst X0.here hx rfl (hb hby at_23) q) ?_
 refine Go.of (mkF m 25 #[.val (.int aA), .val (.int ((1 : Int32) + (aA &&& (1 : Int32)))), .val (.int ((1 : Int32) + (((aA.toUInt32 >>> ((1 : Int32) &&& 31).toUInt32).toInt32) &&& (1 : Int32)))), .val (.int ((1 : Int32) + (((aA.toUInt32 >>> ((2 : Int32) &&& 31).toUInt32).toInt32) &&& (1 : Int32)))), .unset, .unset, .unset, .unset, .unset, .unset, .unset, .unset] [(.int ((aA.toUInt32 >>> ((3 : Int32) &&& 31).toUInt32).toInt32))]) (fun _ q => XS.iushr X0.here hx rfl (hb hby at_24) rfl q) ?_
 refine Go.of (mkF m 26 #[.val (.int aA), .val (.int ((1 : Int32) + (aA &&& (1 : Int32)))), .val (.int ((1 : Int32) + (((aA.toUInt32 >>> ((1 : Int32) &&& 31).toUInt32).toInt32) &&& (1 : Int32)))), .val (.int ((1 : Int32) + (((aA.toUInt32 >>> ((2 : Int32) &&& 31).toUInt32).toInt32) &&& (1 : Int32)))), .unset, .unset, .unset, .unset, .unset, .unset, .unset, .unset] [(.int 3), (.int ((aA.toUInt32 >>> ((3 : Int32) &&& 31).toUInt32).toInt32))]) (fun _ q => XS.iconst X0.here hx rfl (hb hby at_25) q) ?_
 refine Go.of (mkF m 27 #[.val (.int aA), .val (.int ((1 : Int32) + (aA &&& (1 : Int32)))), .val (.int ((1 : Int32) + (((aA.toUInt32 >>> ((1 : Int32) &&& 31).toUInt32).toInt32) &&& (1 : Int32)))), .val (.int ((1 : Int32) + (((aA.toUInt32 >>> ((2 : Int32) &&& 31).toUInt32).toInt32) &&& (1 : Int32)))), .unset, .unset, .unset, .unset, .unset, .unset, .unset, .unset] [(.int (((aA.toUInt32 >>> ((3 : Int32) &&& 31).toUInt32).toInt32) &&& (3 : Int32)))]) (fun _ q => XS.iand X0.here hx rfl (hb hby at_26) rfl q) ?_
 refine Go.of (mkF m 28 #[.val (.int aA), .val (.int ((1 : Int32) + (aA &&& (1 : Int32)))), .val (.int ((1 : Int32) + (((aA.toUInt32 >>> ((1 : Int32) &&& 31).toUInt32).toInt32) &&& (1 : Int32)))), .val (.int ((1 : Int32) + (((aA.toUInt32 >>> ((2 : Int32) &&& 31).toUInt32).toInt32) &&& (1 : Int32)))), .unset, .unset, .unset, .unset, .unset, .unset, .unset, .unset] [(.int 3), (.int (((aA.toUInt32 >>> ((3 : Int32) &&& 31).toUInt32).toInt32) &&& (3 : Int32)))]) (fun _ q => XS.iconst X0.here hx rfl (hb hby at_27) q) ?_
 refine Go.of (mkF m 29 #[.val (.int aA), .val (.int ((1 : Int32) + (aA &&& (1 : Int32)))), .val (.int ((1 : Int32) + (((aA.toUInt32 >>> ((1 : Int32) &&& 31).toUInt32).toInt32) &&& (1 : Int32)))), .val (.int ((1 : Int32) + (((aA.toUInt32 >>> ((2 : Int32) &&& 31).toUInt32).toInt32) &&& (1 : Int32)))), .unset, .unset, .unset, .unset, .unset, .unset, .unset, .unset] [(.int ((((aA.toUInt32 >>> ((3 : Int32) &&& 31).toUInt32).toInt32) &&& (3 : Int32)) % (3 : Int32)))]) (fun _ q => iremM X0 hx rfl (hb hby at_28) rfl (by decide) q) ?_
 refine Go.of (mkF m 31 #[.val (.int aA), .val (.int ((1 : Int32) + (aA &&& (1 : Int32)))), .val (.int ((1 : Int32) + (((aA.toUInt32 >>> ((1 : Int32) &&& 31).toUInt32).toInt32) &&& (1 : Int32)))), .val (.int ((1 : Int32) + (((aA.toUInt32 >>> ((2 : Int32) &&& 31).toUInt32).toInt32) &&& (1 : Int32)))), .val (.int ((((aA.toUInt32 >>> ((3 : Int32) &&& 31).toUInt32).toInt32) &&& (3 : Int32)) % (3 : Int32))), .unset, .unset, .unset, .unset, .unset, .unset, .unset] []) (fun _ q => XS.istore X0.here hx rfl (hb hby at_29) rfl (l' := #[.val (.int aA), .val (.int ((1 : Int32) + (aA &&& (1 : Int32)))), .val (.int ((1 : Int32) + (((aA.toUInt32 >>> ((1 : Int32) &&& 31).toUInt32).toInt32) &&& (1 : Int32)))), .val (.int ((1 : Int32) + (((aA.toUInt32 >>> ((2 : Int32) &&& 31).toUInt32).toInt32) &&& (1 : Int32)))), .val (.int ((((aA.toUInt32 >>> ((3 : Int32) &&& 31).toUInt32).toInt32) &&& (3 : Int32)) % (3 : Int32))), .unset, .unset, .unset, .unset, .unset, .unset, .unset]) rfl q) ?_
 refine Go.of (mkF m 32 #[.val (.int aA), .val (.int ((1 : Int32) + (aA &&& (1 : Int32)))), .val (.int ((1 : Int32) + (((aA.toUInt32 >>> ((1 : Int32) &&& 31).toUInt32).toInt32) &&& (1 : Int32)))), .val (.int ((1 : Int32) + (((aA.toUInt32 >>> ((2 : Int32) &&& 31).toUInt32).toInt32) &&& (1 : Int32)))), .val (.int ((((aA.toUInt32 >>> ((3 : Int32) &&& 31).toUInt32).toInt32) &&& (3 : Int32)) % (3 : Int32))), .unset, .unset, .unset, .unset, .unset, .unset, .unset] [(.int aA)]) (fun _ q => XS.iloadN X0.here hx rfl (hb hby at_31) rfl q) ?_
 refine Go.of (mkF m 33 #[.val (.int aA), .val (.int ((1 : Int32) + (aA &&& (1 : Int32)))), .val (.int ((1 : Int32) + (((aA.toUInt32 >>> ((1 : Int32) &&& 31).toUInt32).toInt32) &&& (1 : Int32)))), .val (.int ((1 : Int32) + (((aA.toUInt32 >>> ((2 : Int32) &&& 31).toUInt32).toInt32) &&& (1 : Int32)))), .val (.int ((((aA.toUInt32 >>> ((3 : Int32) &&& 31).toUInt32).toInt32) &&& (3 : Int32)) % (3 : Int32))), .unset, .unset, .unset, .unset, .unset, .unset, .unset] [(.int 5), (.int aA)]) (fun _ q => XS.iconst X0.here hx rfl (hb hby at_32) q) ?_
 refine Go.of (mkF m 34 #[.val (.int aA), .val (.int ((1 : Int32) + (aA &&& (1 : Int32)))), .val (.int ((1 : Int32) + (((aA.toUInt32 >>> ((1 : Int32) &&& 31).toUInt32).toInt32) &&& (1 : Int32)))), .val (.int ((1 : Int32) + (((aA.toUInt32 >>> ((2 : Int32) &&& 31).toUInt32).toInt32) &&& (1 : Int32)))), .val (.int ((((aA.toUInt32 >>> ((3 : Int32) &&& 31).toUInt32).toInt32) &&& (3 : Int32)) % (3 : Int32))), .unset, .unset, .unset, .unset, .unset, .unset, .unset] [(.int ((aA.toUInt32 >>> ((5 : Int32) &&& 31).toUInt32).toInt32))]) (fun _ q => XS.iushr X0.here hx rfl (hb hby at_33) rfl q) ?_
 refine Go.of (mkF m 35 #[.val (.int aA), .val (.int ((1 : Int32) + (aA &&& (1 : Int32)))), .val (.int ((1 : Int32) + (((aA.toUInt32 >>> ((1 : Int32) &&& 31).toUInt32).toInt32) &&& (1 : Int32)))), .val (.int ((1 : Int32) + (((aA.toUInt32 >>> ((2 : Int32) &&& 31).toUInt32).toInt32) &&& (1 : Int32)))), .val (.int ((((aA.toUInt32 >>> ((3 : Int32) &&& 31).toUInt32).toInt32) &&& (3 : Int32)) % (3 : Int32))), .unset, .unset, .unset, .unset, .unset, .unset, .unset] [(.int 3), (.int ((aA.toUInt32 >>> ((5 : Int32) &&& 31).toUInt32).toInt32))]) (fun _ q => XS.iconst X0.here hx rfl (hb hby at_34) q) ?_
 refine Go.of (mkF m 36 #[.val (.int aA), .val (.int ((1 : Int32) + (aA &&& (1 : Int32)))), .val (.int ((1 : Int32) + (((aA.toUInt32 >>> ((1 : Int32) &&& 31).toUInt32).toInt32) &&& (1 : Int32)))), .val (.int ((1 : Int32) + (((aA.toUInt32 >>> ((2 : Int32) &&& 31).toUInt32).toInt32) &&& (1 : Int32)))), .val (.int ((((aA.toUInt32 >>> ((3 : Int32) &&& 31).toUInt32).toInt32) &&& (3 : Int32)) % (3 : Int32))), .unset, .unset, .unset, .unset, .unset, .unset, .unset] [(.int (((aA.toUInt32 >>> ((5 : Int32) &&& 31).toUInt32).toInt32) &&& (3 : Int32)))]) (fun _ q => XS.iand X0.here hx rfl (hb hby at_35) rfl q) ?_
 refine Go.of (mkF m 38 #[.val (.int aA), .val (.int ((1 : Int32) + (aA &&& (1 : Int32)))), .val (.int ((1 : Int32) + (((aA.toUInt32 >>> ((1 : Int32) &&& 31).toUInt32).toInt32) &&& (1 : Int32)))), .val (.int ((1 : Int32) + (((aA.toUInt32 >>> ((2 : Int32) &&& 31).toUInt32).toInt32) &&& (1 : Int32)))), .val (.int ((((aA.toUInt32 >>> ((3 : Int32) &&& 31).toUInt32).toInt32) &&& (3 : Int32)) % (3 : Int32))), .val (.int (((aA.toUInt32 >>> ((5 : Int32) &&& 31).toUInt32).toInt32) &&& (3 : Int32))), .unset, .unset, .unset, .unset, .unset, .unset] []) (fun _ q => XS.istore X0.here hx rfl (hb hby at_36) rfl (l' := #[.val (.int aA), .val (.int ((1 : Int32) + (aA &&& (1 : Int32)))), .val (.int ((1 : Int32) + (((aA.toUInt32 >>> ((1 : Int32) &&& 31).toUInt32).toInt32) &&& (1 : Int32)))), .val (.int ((1 : Int32) + (((aA.toUInt32 >>> ((2 : Int32) &&& 31).toUInt32).toInt32) &&& (1 : Int32)))), .val (.int ((((aA.toUInt32 >>> ((3 : Int32) &&& 31).toUInt32).toInt32) &&& (3 : Int32)) % (3 : Int32))), .val (.int (((aA.toUInt32 >>> ((5 : Int32) &&& 31).toUInt32).toInt32) &&& (3 : Int32))), .unset, .unset, .unset, .unset, .unset, .unset]) rfl q) ?_
 generalize g_uU : ((1 : Int32) + (aA &&& (1 : Int32))) = uU
 have huU : uU = 1 ∨ uU = 2 := by rw [← g_uU]; exact own_u _
 generalize g_vV : ((1 : Int32) + (((aA.toUInt32 >>> ((1 : Int32) &&& 31).toUInt32).toInt32) &&& (1 : Int32))) = vV
 have hvV : vV = 1 ∨ vV = 2 := by rw [← g_vV]; exact own_u _
 generalize g_wW : ((1 : Int32) + (((aA.toUInt32 >>> ((2 : Int32) &&& 31).toUInt32).toInt32) &&& (1 : Int32))) = wW
 have hwW : wW = 1 ∨ wW = 2 := by rw [← g_wW]; exact own_u _
 generalize g_fF : ((((aA.toUInt32 >>> ((3 : Int32) &&& 31).toUInt32).toInt32) &&& (3 : Int32)) % (3 : Int32)) = fF
 have hfF : fF = 0 ∨ fF = 1 ∨ fF = 2 := by rw [← g_fF]; exact own_f3 _
 generalize g_kp : (((aA.toUInt32 >>> ((5 : Int32) &&& 31).toUInt32).toInt32) &&& (3 : Int32)) = kp
 refine Go.of (mkF m 39 #[.val (.int aA), .val (.int uU), .val (.int vV), .val (.int wW), .val (.int fF), .val (.int kp), .unset, .unset, .unset, .unset, .unset, .unset] [(.int aA)]) (fun _ q => XS.iloadN X0.here hx rfl (hb hby at_38) rfl q) ?_
 refine Go.of (mkF m 41 #[.val (.int aA), .val (.int uU), .val (.int vV), .val (.int wW), .val (.int fF), .val (.int kp), .unset, .unset, .unset, .unset, .unset, .unset] [(.int 7), (.int aA)]) (fun _ q => XS.bipush X0.here hx rfl (hb hby at_39) q) ?_
 refine Go.of (mkF m 42 #[.val (.int aA), .val (.int uU), .val (.int vV), .val (.int wW), .val (.int fF), .val (.int kp), .unset, .unset, .unset, .unset, .unset, .unset] [(.int ((aA.toUInt32 >>> ((7 : Int32) &&& 31).toUInt32).toInt32))]) (fun _ q => XS.iushr X0.here hx rfl (hb hby at_41) rfl q) ?_
 refine Go.of (mkF m 43 #[.val (.int aA), .val (.int uU), .val (.int vV), .val (.int wW), .val (.int fF), .val (.int kp), .unset, .unset, .unset, .unset, .unset, .unset] [(.int 1), (.int ((aA.toUInt32 >>> ((7 : Int32) &&& 31).toUInt32).toInt32))]) (fun _ q => XS.iconst X0.here hx rfl (hb hby at_42) q) ?_
 refine Go.of (mkF m 44 #[.val (.int aA), .val (.int uU), .val (.int vV), .val (.int wW), .val (.int fF), .val (.int kp), .unset, .unset, .unset, .unset, .unset, .unset] [(.int (((aA.toUInt32 >>> ((7 : Int32) &&& 31).toUInt32).toInt32) &&& (1 : Int32)))]) (fun _ q => XS.iand X0.here hx rfl (hb hby at_43) rfl q) ?_
 have J52 : ∀ (TJ : State) (LJ : List Loc) (dD : Int32), Stand pr l ev room_1 s m #[(.int aA)] below meth c TJ LJ 0 0 → TJ.heap = h0 → Fr n0 LJ → Go pr ev below (EndP s room_1 (fun v h L => v = some (.int 1) ∧ Fr n0 L)) TJ (mkF m 52 #[.val (.int aA), .val (.int uU), .val (.int vV), .val (.int wW), .val (.int fF), .val (.int kp), .unset, .unset, .unset, .unset, .unset, .unset] [(.int dD)]) := by
  intro TJ LJ dD XJ eJ NJ 
  refine Go.of (mkF m 54 #[.val (.int aA), .val (.int uU), .val (.int vV), .val (.int wW), .val (.int fF), .val (.int kp), .val (.int dD), .unset, .unset, .unset, .unset, .unset] []) (fun _ q => XS.istore XJ.here hx rfl (hb hby at_52) rfl (l' := #[.val (.int aA), .val (.int uU), .val (.int vV), .val (.int wW), .val (.int fF), .val (.int kp), .val (.int dD), .unset, .unset, .unset, .unset, .unset]) rfl q) ?_
  refine Go.of (mkF m 55 #[.val (.int aA), .val (.int uU), .val (.int vV), .val (.int wW), .val (.int fF), .val (.int kp), .val (.int dD), .unset, .unset, .unset, .unset, .unset] [(.int 3)]) (fun _ q => XS.iconst XJ.here hx rfl (hb hby at_54) q) ?_
  obtain ⟨T1, h1, k1, X1, e1, E1, A1, Q1, O1, st1⟩ := newRE XJ hx hZ hown (tw0 hw) (tw1 hw) eJ (g := (mkF m 55 #[.val (.int aA), .val (.int uU), .val (.int vV), .val (.int wW), .val (.int fF), .val (.int kp), .val (.int dD), .unset, .unset, .unset, .unset, .unset] [(.int 3)])) rfl (hb hby at_55) rfl (by decide) (cap := 3) (by decide) (by decide) (by decide) (by decide) (ad := "[Lcom/example/kiriman/kiriman/route/Route;") rfl
  obtain ⟨b1, g1⟩ : ∃ z, z = h0.size := ⟨_, rfl⟩
  rw [← g1] at A1 Q1 st1
  have gb_b1 : n0 ≤ b1 := Nat.le_trans hz (Nat.le_of_eq g1.symm)
  replace hz := Nat.le_trans hz E1.1
  have V_b1 : Fa Z h1 b1 (.object "com/example/kiriman/kiriman/route/Route") (3 : Int32) (fun _ => Value.null) := Fa.new A1 (by decide)
  have U_b1 : Uty Z h1 b1 "com/example/kiriman/kiriman/route/Route" := ⟨_, A1.1, O1⟩
  refine Go.of (mkF m 58 #[.val (.int aA), .val (.int uU), .val (.int vV), .val (.int wW), .val (.int fF), .val (.int kp), .val (.int dD), .unset, .unset, .unset, .unset, .unset] [(.ref b1)]) (st1) ?_
  refine Go.of (mkF m 60 #[.val (.int aA), .val (.int uU), .val (.int vV), .val (.int wW), .val (.int fF), .val (.int kp), .val (.int dD), .val (.ref b1), .unset, .unset, .unset, .unset] []) (fun _ q => XS.astore X1.here hx rfl (hb hby at_58) rfl rfl (l' := #[.val (.int aA), .val (.int uU), .val (.int vV), .val (.int wW), .val (.int fF), .val (.int kp), .val (.int dD), .val (.ref b1), .unset, .unset, .unset, .unset]) rfl q) ?_
  refine Go.of (mkF m 61 #[.val (.int aA), .val (.int uU), .val (.int vV), .val (.int wW), .val (.int fF), .val (.int kp), .val (.int dD), .val (.ref b1), .unset, .unset, .unset, .unset] [(.int 3)]) (fun _ q => XS.iconst X1.here hx rfl (hb hby at_60) q) ?_
  obtain ⟨T2, h2, k2, X2, e2, E2, A2, Q2, st2⟩ := newPE X1 hx hZ (aty := .int) (tw2 hw) e1 (g := (mkF m 61 #[.val (.int aA), .val (.int uU), .val (.int vV), .val (.int wW), .val (.int fF), .val (.int kp), .val (.int dD), .val (.ref b1), .unset, .unset, .unset, .unset] [(.int 3)])) rfl (hb hby at_61) rfl (by decide) (cap := 3) (by decide) (by decide) (by decide) (by decide) (ad := "[I") (by decide +kernel)
  obtain ⟨b2, g2⟩ : ∃ z, z = h1.size := ⟨_, rfl⟩
  rw [← g2] at A2 Q2 st2
  have ne_b1_b2 : b1 ≠ b2 := Nat.ne_of_lt (Nat.lt_of_lt_of_le Q1.lt (Nat.le_of_eq g2.symm))
  have gb_b2 : n0 ≤ b2 := Nat.le_trans hz (Nat.le_of_eq g2.symm)
  replace Q1 := Q1.ext E2
  replace V_b1 := V_b1.ext E2
  replace U_b1 := U_b1.ext E2
  replace hz := Nat.le_trans hz E2.1
  have V_b2 : Fa Z h2 b2 .int (3 : Int32) (fun i => .int ((fun _ => (0 : Int32)) i)) := Fa.new A2 (by decide)
  refine Go.of (mkF m 63 #[.val (.int aA), .val (.int uU), .val (.int vV), .val (.int wW), .val (.int fF), .val (.int kp), .val (.int dD), .val (.ref b1), .unset, .unset, .unset, .unset] [(.ref b2)]) (st2) ?_
  refine Go.of (mkF m 65 #[.val (.int aA), .val (.int uU), .val (.int vV), .val (.int wW), .val (.int fF), .val (.int kp), .val (.int dD), .val (.ref b1), .val (.ref b2), .unset, .unset, .unset] []) (fun _ q => XS.astore X2.here hx rfl (hb hby at_63) rfl rfl (l' := #[.val (.int aA), .val (.int uU), .val (.int vV), .val (.int wW), .val (.int fF), .val (.int kp), .val (.int dD), .val (.ref b1), .val (.ref b2), .unset, .unset, .unset]) rfl q) ?_
  obtain ⟨T3, h3, X3, e3, E3, A3, D3, -, st3⟩ := newO X2 hx hZ hown (tw3 hw) (tw4 hw) (tw5 hw) e2 (g := (mkF m 65 #[.val (.int aA), .val (.int uU), .val (.int vV), .val (.int wW), .val (.int fF), .val (.int kp), .val (.int dD), .val (.ref b1), .val (.ref b2), .unset, .unset, .unset] [])) rfl (hb hby at_65) (by decide) (by decide)
  obtain ⟨b3, g3⟩ : ∃ z, z = h2.size := ⟨_, rfl⟩
  rw [← g3] at A3 D3 st3
  have ne_b1_b3 : b1 ≠ b3 := Nat.ne_of_lt (Nat.lt_of_lt_of_le Q1.lt (Nat.le_of_eq g3.symm))
  have ne_b2_b3 : b2 ≠ b3 := Nat.ne_of_lt (Nat.lt_of_lt_of_le Q2.lt (Nat.le_of_eq g3.symm))
  have gb_b3 : n0 ≤ b3 := Nat.le_trans hz (Nat.le_of_eq g3.symm)
  replace Q1 := Q1.ext E3
  replace Q2 := Q2.ext E3
  replace V_b1 := V_b1.ext E3
  replace V_b2 := V_b2.ext E3
  replace U_b1 := U_b1.ext E3
  replace hz := Nat.le_trans hz E3.1
  have F_b3_nodes : Fld Z h3 b3 "com/example/kiriman/kiriman/route/Problem" "nodes" "I" (.int 0) := D3 (Or.inr (tw65 hw)) (ty := .int) (by decide)
  have F_b3_depot : Fld Z h3 b3 "com/example/kiriman/kiriman/route/Problem" "depot" "I" (.int 0) := D3 (Or.inr (tw67 hw)) (ty := .int) (by decide)
  have F_b3_capacities : Fld Z h3 b3 "com/example/kiriman/kiriman/route/Problem" "capacities" "[I" .null := D3 (Or.inr (tw69 hw)) (ty := (.array .int)) (by decide)
  have F_b3_deliveries : Fld Z h3 b3 "com/example/kiriman/kiriman/route/Problem" "deliveries" "[I" .null := D3 (Or.inr (tw71 hw)) (ty := (.array .int)) (by decide)
  have F_b3_pickups : Fld Z h3 b3 "com/example/kiriman/kiriman/route/Problem" "pickups" "[I" .null := D3 (Or.inr (tw73 hw)) (ty := (.array .int)) (by decide)
  have F_b3_costs : Fld Z h3 b3 "com/example/kiriman/kiriman/route/Problem" "costs" "Lcom/example/kiriman/kiriman/route/Costs;" .null := D3 (Or.inr (tw75 hw)) (ty := (.object "com/example/kiriman/kiriman/route/Costs")) (by decide)
  have F_b3_service : Fld Z h3 b3 "com/example/kiriman/kiriman/route/Problem" "service" "[I" .null := D3 (Or.inr (tw77 hw)) (ty := (.array .int)) (by decide)
  have F_b3_longest : Fld Z h3 b3 "com/example/kiriman/kiriman/route/Problem" "longest" "J" (.long 0) := D3 (Or.inr (tw80 hw)) (ty := .long) (by decide)
  have F_b3_latest : Fld Z h3 b3 "com/example/kiriman/kiriman/route/Problem" "latest" "J" (.long 0) := D3 (Or.inr (tw82 hw)) (ty := .long) (by decide)
  refine Go.of (mkF m 68 #[.val (.int aA), .val (.int uU), .val (.int vV), .val (.int wW), .val (.int fF), .val (.int kp), .val (.int dD), .val (.ref b1), .val (.ref b2), .unset, .unset, .unset] [(.ref b3)]) (st3) ?_
  refine Go.of (mkF m 69 #[.val (.int aA), .val (.int uU), .val (.int vV), .val (.int wW), .val (.int fF), .val (.int kp), .val (.int dD), .val (.ref b1), .val (.ref b2), .unset, .unset, .unset] [(.ref b3), (.ref b3)]) (fun _ q => XS.dup X3.here hx rfl (hb hby at_68) rfl rfl q) ?_
  refine Go.of (mkF m 70 #[.val (.int aA), .val (.int uU), .val (.int vV), .val (.int wW), .val (.int fF), .val (.int kp), .val (.int dD), .val (.ref b1), .val (.ref b2), .unset, .unset, .unset] [(.int 0), (.ref b3), (.ref b3)]) (fun _ q => XS.iconst X3.here hx rfl (hb hby at_69) q) ?_
  refine Go.of (mkF m 71 #[.val (.int aA), .val (.int uU), .val (.int vV), .val (.int wW), .val (.int fF), .val (.int kp), .val (.int dD), .val (.ref b1), .val (.ref b2), .unset, .unset, .unset] [(.int 0), (.int 0), (.ref b3), (.ref b3)]) (fun _ q => XS.iconst X3.here hx rfl (hb hby at_70) q) ?_
  refine Go.of (mkF m 72 #[.val (.int aA), .val (.int uU), .val (.int vV), .val (.int wW), .val (.int fF), .val (.int kp), .val (.int dD), .val (.ref b1), .val (.ref b2), .unset, .unset, .unset] [(.int 3), (.int 0), (.int 0), (.ref b3), (.ref b3)]) (fun _ q => XS.iconst X3.here hx rfl (hb hby at_71) q) ?_
  obtain ⟨T4, h4, k4, X4, e4, E4, A4, Q4, st4⟩ := newPE X3 hx hZ (aty := .int) (tw2 hw) e3 (g := (mkF m 72 #[.val (.int aA), .val (.int uU), .val (.int vV), .val (.int wW), .val (.int fF), .val (.int kp), .val (.int dD), .val (.ref b1), .val (.ref b2), .unset, .unset, .unset] [(.int 3), (.int 0), (.int 0), (.ref b3), (.ref b3)])) rfl (hb hby at_72) rfl (by decide) (cap := 3) (by decide) (by decide) (by decide) (by decide) (ad := "[I") (by decide +kernel)
  obtain ⟨b4, g4⟩ : ∃ z, z = h3.size := ⟨_, rfl⟩
  rw [← g4] at A4 Q4 st4
  have ne_b1_b4 : b1 ≠ b4 := Nat.ne_of_lt (Nat.lt_of_lt_of_le Q1.lt (Nat.le_of_eq g4.symm))
  have ne_b2_b4 : b2 ≠ b4 := Nat.ne_of_lt (Nat.lt_of_lt_of_le Q2.lt (Nat.le_of_eq g4.symm))
  have ne_b3_b4 : b3 ≠ b4 := Nat.ne_of_lt (Nat.lt_of_lt_of_le A3.lt (Nat.le_of_eq g4.symm))
  have gb_b4 : n0 ≤ b4 := Nat.le_trans hz (Nat.le_of_eq g4.symm)
  replace F_b3_nodes := F_b3_nodes.ext E4
  replace F_b3_depot := F_b3_depot.ext E4
  replace F_b3_capacities := F_b3_capacities.ext E4
  replace F_b3_deliveries := F_b3_deliveries.ext E4
  replace F_b3_pickups := F_b3_pickups.ext E4
  replace F_b3_costs := F_b3_costs.ext E4
  replace F_b3_service := F_b3_service.ext E4
  replace F_b3_longest := F_b3_longest.ext E4
  replace F_b3_latest := F_b3_latest.ext E4
  replace Q1 := Q1.ext E4
  replace Q2 := Q2.ext E4
  replace A3 := A3.ext E4
  replace V_b1 := V_b1.ext E4
  replace V_b2 := V_b2.ext E4
  replace U_b1 := U_b1.ext E4
  replace hz := Nat.le_trans hz E4.1
  have V_b4 : Fa Z h4 b4 .int (3 : Int32) (fun i => .int ((fun _ => (0 : Int32)) i)) := Fa.new A4 (by decide)
  refine Go.of (mkF m 74 #[.val (.int aA), .val (.int uU), .val (.int vV), .val (.int wW), .val (.int fF), .val (.int kp), .val (.int dD), .val (.ref b1), .val (.ref b2), .unset, .unset, .unset] [(.ref b4), (.int 0), (.int 0), (.ref b3), (.ref b3)]) (st4) ?_
  refine Go.of (mkF m 75 #[.val (.int aA), .val (.int uU), .val (.int vV), .val (.int wW), .val (.int fF), .val (.int kp), .val (.int dD), .val (.ref b1), .val (.ref b2), .unset, .unset, .unset] [(.int 3), (.ref b4), (.int 0), (.int 0), (.ref b3), (.ref b3)]) (fun _ q => XS.iconst X4.here hx rfl (hb hby at_74) q) ?_
  obtain ⟨T5, h5, k5, X5, e5, E5, A5, Q5, st5⟩ := newPE X4 hx hZ (aty := .int) (tw2 hw) e4 (g := (mkF m 75 #[.val (.int aA), .val (.int uU), .val (.int vV), .val (.int wW), .val (.int fF), .val (.int kp), .val (.int dD), .val (.ref b1), .val (.ref b2), .unset, .unset, .unset] [(.int 3), (.ref b4), (.int 0), (.int 0), (.ref b3), (.ref b3)])) rfl (hb hby at_75) rfl (by decide) (cap := 3) (by decide) (by decide) (by decide) (by decide) (ad := "[I") (by decide +kernel)
  obtain ⟨b5, g5⟩ : ∃ z, z = h4.size := ⟨_, rfl⟩
  rw [← g5] at A5 Q5 st5
  have ne_b1_b5 : b1 ≠ b5 := Nat.ne_of_lt (Nat.lt_of_lt_of_le Q1.lt (Nat.le_of_eq g5.symm))
  have ne_b2_b5 : b2 ≠ b5 := Nat.ne_of_lt (Nat.lt_of_lt_of_le Q2.lt (Nat.le_of_eq g5.symm))
  have ne_b3_b5 : b3 ≠ b5 := Nat.ne_of_lt (Nat.lt_of_lt_of_le A3.lt (Nat.le_of_eq g5.symm))
  have ne_b4_b5 : b4 ≠ b5 := Nat.ne_of_lt (Nat.lt_of_lt_of_le Q4.lt (Nat.le_of_eq g5.symm))
  have gb_b5 : n0 ≤ b5 := Nat.le_trans hz (Nat.le_of_eq g5.symm)
  replace F_b3_nodes := F_b3_nodes.ext E5
  replace F_b3_depot := F_b3_depot.ext E5
  replace F_b3_capacities := F_b3_capacities.ext E5
  replace F_b3_deliveries := F_b3_deliveries.ext E5
  replace F_b3_pickups := F_b3_pickups.ext E5
  replace F_b3_costs := F_b3_costs.ext E5
  replace F_b3_service := F_b3_service.ext E5
  replace F_b3_longest := F_b3_longest.ext E5
  replace F_b3_latest := F_b3_latest.ext E5
  replace Q1 := Q1.ext E5
  replace Q2 := Q2.ext E5
  replace A3 := A3.ext E5
  replace Q4 := Q4.ext E5
  replace V_b1 := V_b1.ext E5
  replace V_b2 := V_b2.ext E5
  replace V_b4 := V_b4.ext E5
  replace U_b1 := U_b1.ext E5
  replace hz := Nat.le_trans hz E5.1
  have V_b5 : Fa Z h5 b5 .int (3 : Int32) (fun i => .int ((fun _ => (0 : Int32)) i)) := Fa.new A5 (by decide)
  refine Go.of (mkF m 77 #[.val (.int aA), .val (.int uU), .val (.int vV), .val (.int wW), .val (.int fF), .val (.int kp), .val (.int dD), .val (.ref b1), .val (.ref b2), .unset, .unset, .unset] [(.ref b5), (.ref b4), (.int 0), (.int 0), (.ref b3), (.ref b3)]) (st5) ?_
  refine Go.of (mkF m 79 #[.val (.int aA), .val (.int uU), .val (.int vV), .val (.int wW), .val (.int fF), .val (.int kp), .val (.int dD), .val (.ref b1), .val (.ref b2), .unset, .unset, .unset] [(.int 9), (.ref b5), (.ref b4), (.int 0), (.int 0), (.ref b3), (.ref b3)]) (fun _ q => XS.bipush X5.here hx rfl (hb hby at_77) q) ?_
  obtain ⟨T6, h6, k6, X6, e6, E6, A6, Q6, st6⟩ := newPE X5 hx hZ (aty := .int) (tw2 hw) e5 (g := (mkF m 79 #[.val (.int aA), .val (.int uU), .val (.int vV), .val (.int wW), .val (.int fF), .val (.int kp), .val (.int dD), .val (.ref b1), .val (.ref b2), .unset, .unset, .unset] [(.int 9), (.ref b5), (.ref b4), (.int 0), (.int 0), (.ref b3), (.ref b3)])) rfl (hb hby at_79) rfl (by decide) (cap := 9) (by decide) (by decide) (by decide) (by decide) (ad := "[I") (by decide +kernel)
  obtain ⟨b6, g6⟩ : ∃ z, z = h5.size := ⟨_, rfl⟩
  rw [← g6] at A6 Q6 st6
  have ne_b1_b6 : b1 ≠ b6 := Nat.ne_of_lt (Nat.lt_of_lt_of_le Q1.lt (Nat.le_of_eq g6.symm))
  have ne_b2_b6 : b2 ≠ b6 := Nat.ne_of_lt (Nat.lt_of_lt_of_le Q2.lt (Nat.le_of_eq g6.symm))
  have ne_b3_b6 : b3 ≠ b6 := Nat.ne_of_lt (Nat.lt_of_lt_of_le A3.lt (Nat.le_of_eq g6.symm))
  have ne_b4_b6 : b4 ≠ b6 := Nat.ne_of_lt (Nat.lt_of_lt_of_le Q4.lt (Nat.le_of_eq g6.symm))
  have ne_b5_b6 : b5 ≠ b6 := Nat.ne_of_lt (Nat.lt_of_lt_of_le Q5.lt (Nat.le_of_eq g6.symm))
  have gb_b6 : n0 ≤ b6 := Nat.le_trans hz (Nat.le_of_eq g6.symm)
  replace F_b3_nodes := F_b3_nodes.ext E6
  replace F_b3_depot := F_b3_depot.ext E6
  replace F_b3_capacities := F_b3_capacities.ext E6
  replace F_b3_deliveries := F_b3_deliveries.ext E6
  replace F_b3_pickups := F_b3_pickups.ext E6
  replace F_b3_costs := F_b3_costs.ext E6
  replace F_b3_service := F_b3_service.ext E6
  replace F_b3_longest := F_b3_longest.ext E6
  replace F_b3_latest := F_b3_latest.ext E6
  replace Q1 := Q1.ext E6
  replace Q2 := Q2.ext E6
  replace A3 := A3.ext E6
  replace Q4 := Q4.ext E6
  replace Q5 := Q5.ext E6
  replace V_b1 := V_b1.ext E6
  replace V_b2 := V_b2.ext E6
  replace V_b4 := V_b4.ext E6
  replace V_b5 := V_b5.ext E6
  replace U_b1 := U_b1.ext E6
  replace hz := Nat.le_trans hz E6.1
  have V_b6 : Fa Z h6 b6 .int (9 : Int32) (fun i => .int ((fun _ => (0 : Int32)) i)) := Fa.new A6 (by decide)
  refine Go.of (mkF m 81 #[.val (.int aA), .val (.int uU), .val (.int vV), .val (.int wW), .val (.int fF), .val (.int kp), .val (.int dD), .val (.ref b1), .val (.ref b2), .unset, .unset, .unset] [(.ref b6), (.ref b5), (.ref b4), (.int 0), (.int 0), (.ref b3), (.ref b3)]) (st6) ?_
  have lpb := A3.lt
  refine Go.init X6 hx hZ (y := (⟨"com/example/kiriman/kiriman/route/Problem", "<init>", "(II[I[I[I)V"⟩ : MethodName)) (a := b3) (argsL := [(.int 0), (.int 0), (.ref b4), (.ref b5), (.ref b6)]) (rest := [(.ref b3)]) hown rfl (tw6 hw) (tw7 hw) (tw5 hw) (tw8 hw) (by decide) e6 (rmP1 l Z a0 hw [] b3 b4 b5 b6 h6 n0 hz A3 gb_b3 F_b3_nodes F_b3_depot F_b3_capacities F_b3_deliveries F_b3_pickups F_b3_costs F_b3_service F_b3_longest F_b3_latest V_b4 Q4 V_b5 Q5 V_b6 Q6 (Ne.symm ne_b3_b4) (Ne.symm ne_b3_b5) (Ne.symm ne_b3_b6)) (g := (mkF m 81 #[.val (.int aA), .val (.int uU), .val (.int vV), .val (.int wW), .val (.int fF), .val (.int kp), .val (.int dD), .val (.ref b1), .val (.ref b2), .unset, .unset, .unset] [(.ref b6), (.ref b5), (.ref b4), (.int 0), (.int 0), (.ref b3), (.ref b3)])) rfl (by rw [hml]; rfl) (lenOf pd39 rfl) rfl (W := 1) (by show 2 * 0 + _ ≤ _; exact Nat.le_of_eq rfl) (hb hby at_81) (by decide) (by decide) (by decide) (by decide) ?_
  rintro T7 L7 v7 X7 ⟨t, tc, rfl, NL7, K7, szt, ltt, G1, Dep, Cst, Et, Ft1, Ft2, Vt⟩
  have N7 := Fr.app NJ NL7
  have ne_b1_t : b1 ≠ t := Nat.ne_of_lt (Nat.lt_of_lt_of_le Q1.lt szt)
  have ne_b2_t : b2 ≠ t := Nat.ne_of_lt (Nat.lt_of_lt_of_le Q2.lt szt)
  have ne_b3_t : b3 ≠ t := Nat.ne_of_lt (Nat.lt_of_lt_of_le A3.lt szt)
  have ne_b4_t : b4 ≠ t := Nat.ne_of_lt (Nat.lt_of_lt_of_le Q4.lt szt)
  have ne_b5_t : b5 ≠ t := Nat.ne_of_lt (Nat.lt_of_lt_of_le Q5.lt szt)
  have ne_b6_t : b6 ≠ t := Nat.ne_of_lt (Nat.lt_of_lt_of_le Q6.lt szt)
  have gb_t : n0 ≤ t := Nat.le_trans hz szt
  have ne_b1_tc : b1 ≠ tc := Nat.ne_of_lt (Nat.lt_of_lt_of_le Q1.lt (Nat.le_trans szt (Nat.le_of_lt ltt)))
  have ne_b2_tc : b2 ≠ tc := Nat.ne_of_lt (Nat.lt_of_lt_of_le Q2.lt (Nat.le_trans szt (Nat.le_of_lt ltt)))
  have ne_b3_tc : b3 ≠ tc := Nat.ne_of_lt (Nat.lt_of_lt_of_le A3.lt (Nat.le_trans szt (Nat.le_of_lt ltt)))
  have ne_b4_tc : b4 ≠ tc := Nat.ne_of_lt (Nat.lt_of_lt_of_le Q4.lt (Nat.le_trans szt (Nat.le_of_lt ltt)))
  have ne_b5_tc : b5 ≠ tc := Nat.ne_of_lt (Nat.lt_of_lt_of_le Q5.lt (Nat.le_trans szt (Nat.le_of_lt ltt)))
  have ne_b6_tc : b6 ≠ tc := Nat.ne_of_lt (Nat.lt_of_lt_of_le Q6.lt (Nat.le_trans szt (Nat.le_of_lt ltt)))
  have gb_tc : n0 ≤ tc := Nat.le_trans hz (Nat.le_trans szt (Nat.le_of_lt ltt))
  replace Q1 := Q1.keep K7
  replace Q2 := Q2.keep K7
  replace A3 := A3.keep K7
  replace Q4 := Q4.keep K7
  replace Q5 := Q5.keep K7
  replace Q6 := Q6.keep K7
  replace U_b1 := U_b1.keep K7
  replace V_b1 := V_b1.keep K7 (ninS ne_b1_b3 nin0)
  replace V_b2 := V_b2.keep K7 (ninS ne_b2_b3 nin0)
  replace V_b4 := V_b4.keep K7 (ninS (Ne.symm ne_b3_b4) nin0)
  replace V_b5 := V_b5.keep K7 (ninS (Ne.symm ne_b3_b5) nin0)
  replace V_b6 := V_b6.keep K7 (ninS (Ne.symm ne_b3_b6) nin0)
  replace hz := Nat.le_trans hz K7.1
  show Go pr ev below _ T7 (mkF m 84 #[.val (.int aA), .val (.int uU), .val (.int vV), .val (.int wW), .val (.int fF), .val (.int kp), .val (.int dD), .val (.ref b1), .val (.ref b2), .unset, .unset, .unset] [(.ref b3)])
  have o_pb : b3 < t := Nat.lt_of_lt_of_le lpb szt
  have ltc := Vt.lt
  refine Go.of (mkF m 86 #[.val (.int aA), .val (.int uU), .val (.int vV), .val (.int wW), .val (.int fF), .val (.int kp), .val (.int dD), .val (.ref b1), .val (.ref b2), .val (.ref b3), .unset, .unset] []) (fun _ q => XS.astore X7.here hx rfl (hb hby at_84) rfl rfl (l' := #[.val (.int aA), .val (.int uU), .val (.int vV), .val (.int wW), .val (.int fF), .val (.int kp), .val (.int dD), .val (.ref b1), .val (.ref b2), .val (.ref b3), .unset, .unset]) rfl q) ?_
  obtain ⟨T8, h8, X8, e8, E8, A8, D8, -, st8⟩ := newO X7 hx hZ hown (tw0 hw) (tw83 hw) (tw84 hw) rfl (g := (mkF m 86 #[.val (.int aA), .val (.int uU), .val (.int vV), .val (.int wW), .val (.int fF), .val (.int kp), .val (.int dD), .val (.ref b1), .val (.ref b2), .val (.ref b3), .unset, .unset] [])) rfl (hb hby at_86) (by decide) (by decide)
  obtain ⟨b8, g8⟩ : ∃ z, z = T7.heap.size := ⟨_, rfl⟩
  rw [← g8] at A8 D8 st8
  have ne_b1_b8 : b1 ≠ b8 := Nat.ne_of_lt (Nat.lt_of_lt_of_le Q1.lt (Nat.le_of_eq g8.symm))
  have ne_b2_b8 : b2 ≠ b8 := Nat.ne_of_lt (Nat.lt_of_lt_of_le Q2.lt (Nat.le_of_eq g8.symm))
  have ne_b3_b8 : b3 ≠ b8 := Nat.ne_of_lt (Nat.lt_of_lt_of_le A3.lt (Nat.le_of_eq g8.symm))
  have ne_t_b8 : t ≠ b8 := Nat.ne_of_lt (Nat.lt_of_lt_of_le Et.lt (Nat.le_of_eq g8.symm))
  have ne_tc_b8 : tc ≠ b8 := Nat.ne_of_lt (Nat.lt_of_lt_of_le Vt.lt (Nat.le_of_eq g8.symm))
  have gb_b8 : n0 ≤ b8 := Nat.le_trans hz (Nat.le_of_eq g8.symm)
  replace Dep := Dep.ext E8
  replace Cst := Cst.ext E8
  replace Ft1 := Ft1.ext E8
  replace Ft2 := Ft2.ext E8
  replace Q1 := Q1.ext E8
  replace Q2 := Q2.ext E8
  replace A3 := A3.ext E8
  replace Et := Et.ext E8
  replace V_b1 := V_b1.ext E8
  replace V_b2 := V_b2.ext E8
  replace Vt := Vt.ext E8
  replace U_b1 := U_b1.ext E8
  replace hz := Nat.le_trans hz E8.1
  have F_b8_stale : Fld Z h8 b8 "com/example/kiriman/kiriman/route/Route" "stale" "Z" (.int 0) := D8 (Or.inl (tw90 hw)) (ty := .boolean) (by decide)
  have F_b8_problem : Fld Z h8 b8 "com/example/kiriman/kiriman/route/Route" "problem" "Lcom/example/kiriman/kiriman/route/Problem;" .null := D8 (Or.inr (tw92 hw)) (ty := (.object "com/example/kiriman/kiriman/route/Problem")) (by decide)
  have F_b8_vehicle : Fld Z h8 b8 "com/example/kiriman/kiriman/route/Route" "vehicle" "I" (.int 0) := D8 (Or.inr (tw94 hw)) (ty := .int) (by decide)
  have F_b8_visits : Fld Z h8 b8 "com/example/kiriman/kiriman/route/Route" "visits" "[I" .null := D8 (Or.inl (tw96 hw)) (ty := (.array .int)) (by decide)
  have F_b8_legTo : Fld Z h8 b8 "com/example/kiriman/kiriman/route/Route" "legTo" "[I" .null := D8 (Or.inl (tw98 hw)) (ty := (.array .int)) (by decide)
  have F_b8_size : Fld Z h8 b8 "com/example/kiriman/kiriman/route/Route" "size" "I" (.int 0) := D8 (Or.inl (tw123 hw)) (ty := .int) (by decide)
  refine Go.of (mkF m 89 #[.val (.int aA), .val (.int uU), .val (.int vV), .val (.int wW), .val (.int fF), .val (.int kp), .val (.int dD), .val (.ref b1), .val (.ref b2), .val (.ref b3), .unset, .unset] [(.ref b8)]) (st8) ?_
  refine Go.of (mkF m 90 #[.val (.int aA), .val (.int uU), .val (.int vV), .val (.int wW), .val (.int fF), .val (.int kp), .val (.int dD), .val (.ref b1), .val (.ref b2), .val (.ref b3), .unset, .unset] [(.ref b8), (.ref b8)]) (fun _ q => XS.dup X8.here hx rfl (hb hby at_89) rfl rfl q) ?_
  refine Go.of (mkF m 92 #[.val (.int aA), .val (.int uU), .val (.int vV), .val (.int wW), .val (.int fF), .val (.int kp), .val (.int dD), .val (.ref b1), .val (.ref b2), .val (.ref b3), .unset, .unset] [(.ref b3), (.ref b8), (.ref b8)]) (fun _ q => XS.aload X8.here hx rfl (hb hby at_90) rfl rfl q) ?_
  refine Go.of (mkF m 93 #[.val (.int aA), .val (.int uU), .val (.int vV), .val (.int wW), .val (.int fF), .val (.int kp), .val (.int dD), .val (.ref b1), .val (.ref b2), .val (.ref b3), .unset, .unset] [(.int 0), (.ref b3), (.ref b8), (.ref b8)]) (fun _ q => XS.iconst X8.here hx rfl (hb hby at_92) q) ?_
  have o_tc : tc < b8 := Nat.lt_of_lt_of_le ltc (Nat.le_of_eq g8.symm)
  have lro := A8.lt
  refine Go.init X8 hx hZ (y := (⟨"com/example/kiriman/kiriman/route/Route", "<init>", "(Lcom/example/kiriman/kiriman/route/Problem;I)V"⟩ : MethodName)) (a := b8) (argsL := [(.ref b3), (.int 0)]) (rest := [(.ref b8)]) hown rfl (tw85 hw) (tw86 hw) (tw84 hw) (tw87 hw) (by decide) e8 (rmRI l Z a0 hw [] b8 b3 t tc h8 n0 hz A8 gb_b8 F_b8_stale F_b8_problem F_b8_vehicle F_b8_visits F_b8_legTo F_b8_size A3 Dep Cst Et Ft1 Ft2 Vt ne_b3_b8 ne_t_b8 ne_tc_b8) (g := (mkF m 93 #[.val (.int aA), .val (.int uU), .val (.int vV), .val (.int wW), .val (.int fF), .val (.int kp), .val (.int dD), .val (.ref b1), .val (.ref b2), .val (.ref b3), .unset, .unset] [(.int 0), (.ref b3), (.ref b8), (.ref b8)])) rfl (by rw [hml]; rfl) (lenOf pd40 rfl) rfl (W := 1) (by show 2 * 0 + _ ≤ _; exact Nat.le_of_eq rfl) (hb hby at_93) (by decide) (by decide) (by decide) (by decide) ?_
  rintro T9 L9 v9 X9 ⟨vs, lt, rfl, NL9, K9, szv, lvl, Rst, Rp, Rv, Rl, Rs, Vv, yla, Vl⟩
  have N9 := Fr.app N7 NL9
  have ne_b1_vs : b1 ≠ vs := Nat.ne_of_lt (Nat.lt_of_lt_of_le Q1.lt szv)
  have ne_b2_vs : b2 ≠ vs := Nat.ne_of_lt (Nat.lt_of_lt_of_le Q2.lt szv)
  have ne_b3_vs : b3 ≠ vs := Nat.ne_of_lt (Nat.lt_of_lt_of_le A3.lt szv)
  have ne_t_vs : t ≠ vs := Nat.ne_of_lt (Nat.lt_of_lt_of_le Et.lt szv)
  have ne_b8_vs : b8 ≠ vs := Nat.ne_of_lt (Nat.lt_of_lt_of_le A8.lt szv)
  have ne_tc_vs : tc ≠ vs := Nat.ne_of_lt (Nat.lt_of_lt_of_le Vt.lt szv)
  have gb_vs : n0 ≤ vs := Nat.le_trans hz szv
  have ne_b1_lt : b1 ≠ lt := Nat.ne_of_lt (Nat.lt_of_lt_of_le Q1.lt (Nat.le_trans szv (Nat.le_of_lt lvl)))
  have ne_b2_lt : b2 ≠ lt := Nat.ne_of_lt (Nat.lt_of_lt_of_le Q2.lt (Nat.le_trans szv (Nat.le_of_lt lvl)))
  have ne_b3_lt : b3 ≠ lt := Nat.ne_of_lt (Nat.lt_of_lt_of_le A3.lt (Nat.le_trans szv (Nat.le_of_lt lvl)))
  have ne_t_lt : t ≠ lt := Nat.ne_of_lt (Nat.lt_of_lt_of_le Et.lt (Nat.le_trans szv (Nat.le_of_lt lvl)))
  have ne_b8_lt : b8 ≠ lt := Nat.ne_of_lt (Nat.lt_of_lt_of_le A8.lt (Nat.le_trans szv (Nat.le_of_lt lvl)))
  have ne_tc_lt : tc ≠ lt := Nat.ne_of_lt (Nat.lt_of_lt_of_le Vt.lt (Nat.le_trans szv (Nat.le_of_lt lvl)))
  have gb_lt : n0 ≤ lt := Nat.le_trans hz (Nat.le_trans szv (Nat.le_of_lt lvl))
  replace Dep := Dep.keep K9 (ninS ne_b3_b8 nin0)
  replace Cst := Cst.keep K9 (ninS ne_b3_b8 nin0)
  replace Ft1 := Ft1.keep K9 (ninS ne_t_b8 nin0)
  replace Ft2 := Ft2.keep K9 (ninS ne_t_b8 nin0)
  replace Q1 := Q1.keep K9
  replace Q2 := Q2.keep K9
  replace A3 := A3.keep K9
  replace Et := Et.keep K9
  replace A8 := A8.keep K9
  replace U_b1 := U_b1.keep K9
  replace V_b1 := V_b1.keep K9 (ninS ne_b1_b8 nin0)
  replace V_b2 := V_b2.keep K9 (ninS ne_b2_b8 nin0)
  replace Vt := Vt.keep K9 (ninS ne_tc_b8 nin0)
  replace hz := Nat.le_trans hz K9.1
  show Go pr ev below _ T9 (mkF m 96 #[.val (.int aA), .val (.int uU), .val (.int vV), .val (.int wW), .val (.int fF), .val (.int kp), .val (.int dD), .val (.ref b1), .val (.ref b2), .val (.ref b3), .unset, .unset] [(.ref b8)])
  have o_ro : b8 < vs := Nat.lt_of_lt_of_le lro szv
  have ne_vs_lt : vs ≠ lt := Nat.ne_of_lt lvl
  refine Go.of (mkF m 98 #[.val (.int aA), .val (.int uU), .val (.int vV), .val (.int wW), .val (.int fF), .val (.int kp), .val (.int dD), .val (.ref b1), .val (.ref b2), .val (.ref b3), .val (.ref b8), .unset] []) (fun _ q => XS.astore X9.here hx rfl (hb hby at_96) rfl rfl (l' := #[.val (.int aA), .val (.int uU), .val (.int vV), .val (.int wW), .val (.int fF), .val (.int kp), .val (.int dD), .val (.ref b1), .val (.ref b2), .val (.ref b3), .val (.ref b8), .unset]) rfl q) ?_
  refine Go.of (mkF m 100 #[.val (.int aA), .val (.int uU), .val (.int vV), .val (.int wW), .val (.int fF), .val (.int kp), .val (.int dD), .val (.ref b1), .val (.ref b2), .val (.ref b3), .val (.ref b8), .unset] [(.ref b8)]) (fun _ q => XS.aload X9.here hx rfl (hb hby at_98) rfl rfl q) ?_
  refine Go.of (mkF m 101 #[.val (.int aA), .val (.int uU), .val (.int vV), .val (.int wW), .val (.int fF), .val (.int kp), .val (.int dD), .val (.ref b1), .val (.ref b2), .val (.ref b3), .val (.ref b8), .unset] [(.int 0), (.ref b8)]) (fun _ q => XS.iconst X9.here hx rfl (hb hby at_100) q) ?_
  refine Go.of (mkF m 102 #[.val (.int aA), .val (.int uU), .val (.int vV), .val (.int wW), .val (.int fF), .val (.int kp), .val (.int dD), .val (.ref b1), .val (.ref b2), .val (.ref b3), .val (.ref b8), .unset] [(.int uU), (.int 0), (.ref b8)]) (fun _ q => XS.iloadN X9.here hx rfl (hb hby at_101) rfl q) ?_
  refine Go.virt X9 hx hZ (y := (⟨"com/example/kiriman/kiriman/route/Route", "insert", "(II)V"⟩ : MethodName)) (z := (⟨"com/example/kiriman/kiriman/route/Route", "insert", "(II)V"⟩ : MethodName)) (a := b8) (argsL := [(.int 0), (.int uU)]) (rest := []) hown (tw117 hw) (tw118 hw) (notFace_of_selects (args := #[]) (mvT hZ (tw120 hw))) (tw120 hw) (tw119 hw) (tw84 hw) (tw121 hw) (by decide) rfl A8 (rmI0 l Z a0 hw [] b8 b3 t tc vs lt uU (fun _ => (0 : Int32)) yla T9.heap n0 hz A8 gb_b8 o_pb ltt o_tc o_ro lvl A3 Dep Cst Et Ft1 Ft2 Vt Rst Rp Rv Rl Rs Vv Vl huU (Or.inl rfl)) (g := (mkF m 102 #[.val (.int aA), .val (.int uU), .val (.int vV), .val (.int wW), .val (.int fF), .val (.int kp), .val (.int dD), .val (.ref b1), .val (.ref b2), .val (.ref b3), .val (.ref b8), .unset] [(.int uU), (.int 0), (.ref b8)])) rfl (by rw [hml]; rfl) (lenOf pd41 rfl) rfl (W := 0) (by show 2 * 0 + _ ≤ _; exact Nat.le_of_eq rfl) (hb hby at_102) (by decide) (by decide) (by decide) (by decide) ?_
  rintro T10 L10 v10 X10 ⟨rfl, NL10, K10, Rst, Rp, Rv, Rl, Rs, Vv, ylb, Vl⟩
  have N10 := Fr.app N9 NL10
  replace Dep := Dep.keep K10 (ninS ne_b3_b8 (ninS ne_b3_vs (ninS ne_b3_lt nin0)))
  replace Cst := Cst.keep K10 (ninS ne_b3_b8 (ninS ne_b3_vs (ninS ne_b3_lt nin0)))
  replace Ft1 := Ft1.keep K10 (ninS ne_t_b8 (ninS ne_t_vs (ninS ne_t_lt nin0)))
  replace Ft2 := Ft2.keep K10 (ninS ne_t_b8 (ninS ne_t_vs (ninS ne_t_lt nin0)))
  replace Q1 := Q1.keep K10
  replace Q2 := Q2.keep K10
  replace A3 := A3.keep K10
  replace Et := Et.keep K10
  replace A8 := A8.keep K10
  replace U_b1 := U_b1.keep K10
  replace V_b1 := V_b1.keep K10 (ninS ne_b1_b8 (ninS ne_b1_vs (ninS ne_b1_lt nin0)))
  replace V_b2 := V_b2.keep K10 (ninS ne_b2_b8 (ninS ne_b2_vs (ninS ne_b2_lt nin0)))
  replace Vt := Vt.keep K10 (ninS ne_tc_b8 (ninS ne_tc_vs (ninS ne_tc_lt nin0)))
  replace hz := Nat.le_trans hz K10.1
  show Go pr ev below _ T10 (mkF m 105 #[.val (.int aA), .val (.int uU), .val (.int vV), .val (.int wW), .val (.int fF), .val (.int kp), .val (.int dD), .val (.ref b1), .val (.ref b2), .val (.ref b3), .val (.ref b8), .unset] [])
  refine Go.of (mkF m 107 #[.val (.int aA), .val (.int uU), .val (.int vV), .val (.int wW), .val (.int fF), .val (.int kp), .val (.int dD), .val (.ref b1), .val (.ref b2), .val (.ref b3), .val (.ref b8), .unset] [(.ref b8)]) (fun _ q => XS.aload X10.here hx rfl (hb hby at_105) rfl rfl q) ?_
  refine Go.of (mkF m 108 #[.val (.int aA), .val (.int uU), .val (.int vV), .val (.int wW), .val (.int fF), .val (.int kp), .val (.int dD), .val (.ref b1), .val (.ref b2), .val (.ref b3), .val (.ref b8), .unset] [(.int 1), (.ref b8)]) (fun _ q => XS.iconst X10.here hx rfl (hb hby at_107) q) ?_
  refine Go.of (mkF m 109 #[.val (.int aA), .val (.int uU), .val (.int vV), .val (.int wW), .val (.int fF), .val (.int kp), .val (.int dD), .val (.ref b1), .val (.ref b2), .val (.ref b3), .val (.ref b8), .unset] [(.int vV), (.int 1), (.ref b8)]) (fun _ q => XS.iloadN X10.here hx rfl (hb hby at_108) rfl q) ?_
  refine Go.virt X10 hx hZ (y := (⟨"com/example/kiriman/kiriman/route/Route", "insert", "(II)V"⟩ : MethodName)) (z := (⟨"com/example/kiriman/kiriman/route/Route", "insert", "(II)V"⟩ : MethodName)) (a := b8) (argsL := [(.int 1), (.int vV)]) (rest := []) hown (tw117 hw) (tw118 hw) (notFace_of_selects (args := #[]) (mvT hZ (tw120 hw))) (tw120 hw) (tw119 hw) (tw84 hw) (tw121 hw) (by decide) rfl A8 (rmI1 l Z a0 hw [] b8 b3 t tc vs lt vV (fnup (fun _ => (0 : Int32)) (0 : Int32) uU) ylb T10.heap n0 hz A8 gb_b8 o_pb ltt o_tc o_ro lvl A3 Dep Cst Et Ft1 Ft2 Vt Rst Rp Rv Rl Rs Vv Vl hvV (by simpa [fnup] using (Or.inr huU : uU = 0 ∨ uU = 1 ∨ uU = 2))) (g := (mkF m 109 #[.val (.int aA), .val (.int uU), .val (.int vV), .val (.int wW), .val (.int fF), .val (.int kp), .val (.int dD), .val (.ref b1), .val (.ref b2), .val (.ref b3), .val (.ref b8), .unset] [(.int vV), (.int 1), (.ref b8)])) rfl (by rw [hml]; rfl) (lenOf pd41 rfl) rfl (W := 0) (by show 2 * 0 + _ ≤ _; exact Nat.le_of_eq rfl) (hb hby at_109) (by decide) (by decide) (by decide) (by decide) ?_
  rintro T11 L11 v11 X11 ⟨rfl, NL11, K11, Rst, Rp, Rv, Rl, Rs, Vv, ylc, Vl⟩
  have N11 := Fr.app N10 NL11
  replace Dep := Dep.keep K11 (ninS ne_b3_b8 (ninS ne_b3_vs (ninS ne_b3_lt nin0)))
  replace Cst := Cst.keep K11 (ninS ne_b3_b8 (ninS ne_b3_vs (ninS ne_b3_lt nin0)))
  replace Ft1 := Ft1.keep K11 (ninS ne_t_b8 (ninS ne_t_vs (ninS ne_t_lt nin0)))
  replace Ft2 := Ft2.keep K11 (ninS ne_t_b8 (ninS ne_t_vs (ninS ne_t_lt nin0)))
  replace Q1 := Q1.keep K11
  replace Q2 := Q2.keep K11
  replace A3 := A3.keep K11
  replace Et := Et.keep K11
  replace A8 := A8.keep K11
  replace U_b1 := U_b1.keep K11
  replace V_b1 := V_b1.keep K11 (ninS ne_b1_b8 (ninS ne_b1_vs (ninS ne_b1_lt nin0)))
  replace V_b2 := V_b2.keep K11 (ninS ne_b2_b8 (ninS ne_b2_vs (ninS ne_b2_lt nin0)))
  replace Vt := Vt.keep K11 (ninS ne_tc_b8 (ninS ne_tc_vs (ninS ne_tc_lt nin0)))
  replace hz := Nat.le_trans hz K11.1
  show Go pr ev below _ T11 (mkF m 112 #[.val (.int aA), .val (.int uU), .val (.int vV), .val (.int wW), .val (.int fF), .val (.int kp), .val (.int dD), .val (.ref b1), .val (.ref b2), .val (.ref b3), .val (.ref b8), .unset] [])
  have lvs := Vv.lt
  have lr2 := A8.lt
  obtain ⟨T12, h12, X12, e12, E12, A12, D12, -, st12⟩ := newO X11 hx hZ hown (tw136 hw) (tw137 hw) (tw138 hw) rfl (g := (mkF m 112 #[.val (.int aA), .val (.int uU), .val (.int vV), .val (.int wW), .val (.int fF), .val (.int kp), .val (.int dD), .val (.ref b1), .val (.ref b2), .val (.ref b3), .val (.ref b8), .unset] [])) rfl (hb hby at_112) (by decide) (by decide)
  obtain ⟨b12, g12⟩ : ∃ z, z = T11.heap.size := ⟨_, rfl⟩
  rw [← g12] at A12 D12 st12
  have ne_b1_b12 : b1 ≠ b12 := Nat.ne_of_lt (Nat.lt_of_lt_of_le Q1.lt (Nat.le_of_eq g12.symm))
  have ne_b2_b12 : b2 ≠ b12 := Nat.ne_of_lt (Nat.lt_of_lt_of_le Q2.lt (Nat.le_of_eq g12.symm))
  have ne_b8_b12 : b8 ≠ b12 := Nat.ne_of_lt (Nat.lt_of_lt_of_le A8.lt (Nat.le_of_eq g12.symm))
  have ne_vs_b12 : vs ≠ b12 := Nat.ne_of_lt (Nat.lt_of_lt_of_le Vv.lt (Nat.le_of_eq g12.symm))
  have gb_b12 : n0 ≤ b12 := Nat.le_trans hz (Nat.le_of_eq g12.symm)
  replace Rv := Rv.ext E12
  replace Rs := Rs.ext E12
  replace Q1 := Q1.ext E12
  replace Q2 := Q2.ext E12
  replace A8 := A8.ext E12
  replace V_b1 := V_b1.ext E12
  replace V_b2 := V_b2.ext E12
  replace Vv := Vv.ext E12
  replace U_b1 := U_b1.ext E12
  replace hz := Nat.le_trans hz E12.1
  have F_b12_movedCustomers : Fld Z h12 b12 "com/example/kiriman/kiriman/route/Positions" "movedCustomers" "[I" .null := D12 (Or.inl (tw144 hw)) (ty := (.array .int)) (by decide)
  have F_b12_keptRoutes : Fld Z h12 b12 "com/example/kiriman/kiriman/route/Positions" "keptRoutes" "[Lcom/example/kiriman/kiriman/route/Route;" .null := D12 (Or.inl (tw147 hw)) (ty := (.array (.object "com/example/kiriman/kiriman/route/Route"))) (by decide)
  have F_b12_keptIndexes : Fld Z h12 b12 "com/example/kiriman/kiriman/route/Positions" "keptIndexes" "[I" .null := D12 (Or.inl (tw149 hw)) (ty := (.array .int)) (by decide)
  have F_b12_routes : Fld Z h12 b12 "com/example/kiriman/kiriman/route/Positions" "routes" "[Lcom/example/kiriman/kiriman/route/Route;" .null := D12 (Or.inr (tw151 hw)) (ty := (.array (.object "com/example/kiriman/kiriman/route/Route"))) (by decide)
  have F_b12_indexes : Fld Z h12 b12 "com/example/kiriman/kiriman/route/Positions" "indexes" "[I" .null := D12 (Or.inr (tw153 hw)) (ty := (.array .int)) (by decide)
  have F_b12_moved : Fld Z h12 b12 "com/example/kiriman/kiriman/route/Positions" "moved" "[Z" .null := D12 (Or.inr (tw156 hw)) (ty := (.array .boolean)) (by decide)
  have F_b12_movedCount : Fld Z h12 b12 "com/example/kiriman/kiriman/route/Positions" "movedCount" "I" (.int 0) := D12 (Or.inl (tw177 hw)) (ty := .int) (by decide)
  refine Go.of (mkF m 115 #[.val (.int aA), .val (.int uU), .val (.int vV), .val (.int wW), .val (.int fF), .val (.int kp), .val (.int dD), .val (.ref b1), .val (.ref b2), .val (.ref b3), .val (.ref b8), .unset] [(.ref b12)]) (st12) ?_
  refine Go.of (mkF m 116 #[.val (.int aA), .val (.int uU), .val (.int vV), .val (.int wW), .val (.int fF), .val (.int kp), .val (.int dD), .val (.ref b1), .val (.ref b2), .val (.ref b3), .val (.ref b8), .unset] [(.ref b12), (.ref b12)]) (fun _ q => XS.dup X12.here hx rfl (hb hby at_115) rfl rfl q) ?_
  refine Go.of (mkF m 117 #[.val (.int aA), .val (.int uU), .val (.int vV), .val (.int wW), .val (.int fF), .val (.int kp), .val (.int dD), .val (.ref b1), .val (.ref b2), .val (.ref b3), .val (.ref b8), .unset] [(.int 3), (.ref b12), (.ref b12)]) (fun _ q => XS.iconst X12.here hx rfl (hb hby at_116) q) ?_
  have o_vs : vs < b12 := Nat.lt_of_lt_of_le lvs (Nat.le_of_eq g12.symm)
  have o0 : b8 < b12 := Nat.lt_of_lt_of_le lr2 (Nat.le_of_eq g12.symm)
  have lpo := A12.lt
  refine Go.init X12 hx hZ (y := (⟨"com/example/kiriman/kiriman/route/Positions", "<init>", "(I)V"⟩ : MethodName)) (a := b12) (argsL := [(.int 3)]) (rest := [(.ref b12)]) hown rfl (tw139 hw) (tw140 hw) (tw138 hw) (tw141 hw) (by decide) e12 (rmSI l Z a0 hw [] b12 b8 h12 n0 hz gb_b12 A12 A8 F_b12_movedCustomers F_b12_keptRoutes F_b12_keptIndexes F_b12_routes F_b12_indexes F_b12_moved F_b12_movedCount) (g := (mkF m 117 #[.val (.int aA), .val (.int uU), .val (.int vV), .val (.int wW), .val (.int fF), .val (.int kp), .val (.int dD), .val (.ref b1), .val (.ref b2), .val (.ref b3), .val (.ref b8), .unset] [(.int 3), (.ref b12), (.ref b12)])) rfl (by rw [hml]; rfl) (lenOf pd42 rfl) rfl (W := 1) (by show 2 * 0 + _ ≤ _; exact Nat.le_of_eq rfl) (hb hby at_117) (by decide) (by decide) (by decide) (by decide) ?_
  rintro T13 L13 v13 X13 ⟨cu, kr, ki, rt, ix, mv, rfl, NL13, K13, szcu, o2, o3, o4, o5, o6, St0⟩
  have N13 := Fr.app N11 NL13
  have ne_b1_cu : b1 ≠ cu := Nat.ne_of_lt (Nat.lt_of_lt_of_le Q1.lt szcu)
  have ne_b2_cu : b2 ≠ cu := Nat.ne_of_lt (Nat.lt_of_lt_of_le Q2.lt szcu)
  have ne_b8_cu : b8 ≠ cu := Nat.ne_of_lt (Nat.lt_of_lt_of_le A8.lt szcu)
  have ne_b12_cu : b12 ≠ cu := Nat.ne_of_lt (Nat.lt_of_lt_of_le A12.lt szcu)
  have ne_vs_cu : vs ≠ cu := Nat.ne_of_lt (Nat.lt_of_lt_of_le Vv.lt szcu)
  have gb_cu : n0 ≤ cu := Nat.le_trans hz szcu
  have ne_b1_kr : b1 ≠ kr := Nat.ne_of_lt (Nat.lt_of_lt_of_le Q1.lt (Nat.le_trans szcu (Nat.le_of_lt o2)))
  have ne_b2_kr : b2 ≠ kr := Nat.ne_of_lt (Nat.lt_of_lt_of_le Q2.lt (Nat.le_trans szcu (Nat.le_of_lt o2)))
  have ne_b8_kr : b8 ≠ kr := Nat.ne_of_lt (Nat.lt_of_lt_of_le A8.lt (Nat.le_trans szcu (Nat.le_of_lt o2)))
  have ne_b12_kr : b12 ≠ kr := Nat.ne_of_lt (Nat.lt_of_lt_of_le A12.lt (Nat.le_trans szcu (Nat.le_of_lt o2)))
  have ne_vs_kr : vs ≠ kr := Nat.ne_of_lt (Nat.lt_of_lt_of_le Vv.lt (Nat.le_trans szcu (Nat.le_of_lt o2)))
  have gb_kr : n0 ≤ kr := Nat.le_trans hz (Nat.le_trans szcu (Nat.le_of_lt o2))
  have ne_b1_ki : b1 ≠ ki := Nat.ne_of_lt (Nat.lt_of_lt_of_le Q1.lt (Nat.le_trans (Nat.le_trans szcu (Nat.le_of_lt o2)) (Nat.le_of_lt o3)))
  have ne_b2_ki : b2 ≠ ki := Nat.ne_of_lt (Nat.lt_of_lt_of_le Q2.lt (Nat.le_trans (Nat.le_trans szcu (Nat.le_of_lt o2)) (Nat.le_of_lt o3)))
  have ne_b8_ki : b8 ≠ ki := Nat.ne_of_lt (Nat.lt_of_lt_of_le A8.lt (Nat.le_trans (Nat.le_trans szcu (Nat.le_of_lt o2)) (Nat.le_of_lt o3)))
  have ne_b12_ki : b12 ≠ ki := Nat.ne_of_lt (Nat.lt_of_lt_of_le A12.lt (Nat.le_trans (Nat.le_trans szcu (Nat.le_of_lt o2)) (Nat.le_of_lt o3)))
  have ne_vs_ki : vs ≠ ki := Nat.ne_of_lt (Nat.lt_of_lt_of_le Vv.lt (Nat.le_trans (Nat.le_trans szcu (Nat.le_of_lt o2)) (Nat.le_of_lt o3)))
  have gb_ki : n0 ≤ ki := Nat.le_trans hz (Nat.le_trans (Nat.le_trans szcu (Nat.le_of_lt o2)) (Nat.le_of_lt o3))
  have ne_b1_rt : b1 ≠ rt := Nat.ne_of_lt (Nat.lt_of_lt_of_le Q1.lt (Nat.le_trans (Nat.le_trans (Nat.le_trans szcu (Nat.le_of_lt o2)) (Nat.le_of_lt o3)) (Nat.le_of_lt o4)))
  have ne_b2_rt : b2 ≠ rt := Nat.ne_of_lt (Nat.lt_of_lt_of_le Q2.lt (Nat.le_trans (Nat.le_trans (Nat.le_trans szcu (Nat.le_of_lt o2)) (Nat.le_of_lt o3)) (Nat.le_of_lt o4)))
  have ne_b8_rt : b8 ≠ rt := Nat.ne_of_lt (Nat.lt_of_lt_of_le A8.lt (Nat.le_trans (Nat.le_trans (Nat.le_trans szcu (Nat.le_of_lt o2)) (Nat.le_of_lt o3)) (Nat.le_of_lt o4)))
  have ne_b12_rt : b12 ≠ rt := Nat.ne_of_lt (Nat.lt_of_lt_of_le A12.lt (Nat.le_trans (Nat.le_trans (Nat.le_trans szcu (Nat.le_of_lt o2)) (Nat.le_of_lt o3)) (Nat.le_of_lt o4)))
  have ne_vs_rt : vs ≠ rt := Nat.ne_of_lt (Nat.lt_of_lt_of_le Vv.lt (Nat.le_trans (Nat.le_trans (Nat.le_trans szcu (Nat.le_of_lt o2)) (Nat.le_of_lt o3)) (Nat.le_of_lt o4)))
  have gb_rt : n0 ≤ rt := Nat.le_trans hz (Nat.le_trans (Nat.le_trans (Nat.le_trans szcu (Nat.le_of_lt o2)) (Nat.le_of_lt o3)) (Nat.le_of_lt o4))
  have ne_b1_ix : b1 ≠ ix := Nat.ne_of_lt (Nat.lt_of_lt_of_le Q1.lt (Nat.le_trans (Nat.le_trans (Nat.le_trans (Nat.le_trans szcu (Nat.le_of_lt o2)) (Nat.le_of_lt o3)) (Nat.le_of_lt o4)) (Nat.le_of_lt o5)))
  have ne_b2_ix : b2 ≠ ix := Nat.ne_of_lt (Nat.lt_of_lt_of_le Q2.lt (Nat.le_trans (Nat.le_trans (Nat.le_trans (Nat.le_trans szcu (Nat.le_of_lt o2)) (Nat.le_of_lt o3)) (Nat.le_of_lt o4)) (Nat.le_of_lt o5)))
  have ne_b8_ix : b8 ≠ ix := Nat.ne_of_lt (Nat.lt_of_lt_of_le A8.lt (Nat.le_trans (Nat.le_trans (Nat.le_trans (Nat.le_trans szcu (Nat.le_of_lt o2)) (Nat.le_of_lt o3)) (Nat.le_of_lt o4)) (Nat.le_of_lt o5)))
  have ne_b12_ix : b12 ≠ ix := Nat.ne_of_lt (Nat.lt_of_lt_of_le A12.lt (Nat.le_trans (Nat.le_trans (Nat.le_trans (Nat.le_trans szcu (Nat.le_of_lt o2)) (Nat.le_of_lt o3)) (Nat.le_of_lt o4)) (Nat.le_of_lt o5)))
  have ne_vs_ix : vs ≠ ix := Nat.ne_of_lt (Nat.lt_of_lt_of_le Vv.lt (Nat.le_trans (Nat.le_trans (Nat.le_trans (Nat.le_trans szcu (Nat.le_of_lt o2)) (Nat.le_of_lt o3)) (Nat.le_of_lt o4)) (Nat.le_of_lt o5)))
  have gb_ix : n0 ≤ ix := Nat.le_trans hz (Nat.le_trans (Nat.le_trans (Nat.le_trans (Nat.le_trans szcu (Nat.le_of_lt o2)) (Nat.le_of_lt o3)) (Nat.le_of_lt o4)) (Nat.le_of_lt o5))
  have ne_b1_mv : b1 ≠ mv := Nat.ne_of_lt (Nat.lt_of_lt_of_le Q1.lt (Nat.le_trans (Nat.le_trans (Nat.le_trans (Nat.le_trans (Nat.le_trans szcu (Nat.le_of_lt o2)) (Nat.le_of_lt o3)) (Nat.le_of_lt o4)) (Nat.le_of_lt o5)) (Nat.le_of_lt o6)))
  have ne_b2_mv : b2 ≠ mv := Nat.ne_of_lt (Nat.lt_of_lt_of_le Q2.lt (Nat.le_trans (Nat.le_trans (Nat.le_trans (Nat.le_trans (Nat.le_trans szcu (Nat.le_of_lt o2)) (Nat.le_of_lt o3)) (Nat.le_of_lt o4)) (Nat.le_of_lt o5)) (Nat.le_of_lt o6)))
  have ne_b8_mv : b8 ≠ mv := Nat.ne_of_lt (Nat.lt_of_lt_of_le A8.lt (Nat.le_trans (Nat.le_trans (Nat.le_trans (Nat.le_trans (Nat.le_trans szcu (Nat.le_of_lt o2)) (Nat.le_of_lt o3)) (Nat.le_of_lt o4)) (Nat.le_of_lt o5)) (Nat.le_of_lt o6)))
  have ne_b12_mv : b12 ≠ mv := Nat.ne_of_lt (Nat.lt_of_lt_of_le A12.lt (Nat.le_trans (Nat.le_trans (Nat.le_trans (Nat.le_trans (Nat.le_trans szcu (Nat.le_of_lt o2)) (Nat.le_of_lt o3)) (Nat.le_of_lt o4)) (Nat.le_of_lt o5)) (Nat.le_of_lt o6)))
  have ne_vs_mv : vs ≠ mv := Nat.ne_of_lt (Nat.lt_of_lt_of_le Vv.lt (Nat.le_trans (Nat.le_trans (Nat.le_trans (Nat.le_trans (Nat.le_trans szcu (Nat.le_of_lt o2)) (Nat.le_of_lt o3)) (Nat.le_of_lt o4)) (Nat.le_of_lt o5)) (Nat.le_of_lt o6)))
  have gb_mv : n0 ≤ mv := Nat.le_trans hz (Nat.le_trans (Nat.le_trans (Nat.le_trans (Nat.le_trans (Nat.le_trans szcu (Nat.le_of_lt o2)) (Nat.le_of_lt o3)) (Nat.le_of_lt o4)) (Nat.le_of_lt o5)) (Nat.le_of_lt o6))
  replace Rv := Rv.keep K13 (ninS ne_b8_b12 nin0)
  replace Rs := Rs.keep K13 (ninS ne_b8_b12 nin0)
  replace Q1 := Q1.keep K13
  replace Q2 := Q2.keep K13
  replace A8 := A8.keep K13
  replace A12 := A12.keep K13
  replace U_b1 := U_b1.keep K13
  replace V_b1 := V_b1.keep K13 (ninS ne_b1_b12 nin0)
  replace V_b2 := V_b2.keep K13 (ninS ne_b2_b12 nin0)
  replace Vv := Vv.keep K13 (ninS ne_vs_b12 nin0)
  replace hz := Nat.le_trans hz K13.1
  show Go pr ev below _ T13 (mkF m 120 #[.val (.int aA), .val (.int uU), .val (.int vV), .val (.int wW), .val (.int fF), .val (.int kp), .val (.int dD), .val (.ref b1), .val (.ref b2), .val (.ref b3), .val (.ref b8), .unset] [(.ref b12)])
  have o1 : b12 < cu := Nat.lt_of_lt_of_le lpo szcu
  refine Go.of (mkF m 122 #[.val (.int aA), .val (.int uU), .val (.int vV), .val (.int wW), .val (.int fF), .val (.int kp), .val (.int dD), .val (.ref b1), .val (.ref b2), .val (.ref b3), .val (.ref b8), .val (.ref b12)] []) (fun _ q => XS.astore X13.here hx rfl (hb hby at_120) rfl rfl (l' := #[.val (.int aA), .val (.int uU), .val (.int vV), .val (.int wW), .val (.int fF), .val (.int kp), .val (.int dD), .val (.ref b1), .val (.ref b2), .val (.ref b3), .val (.ref b8), .val (.ref b12)]) rfl q) ?_
  refine Go.of (mkF m 124 #[.val (.int aA), .val (.int uU), .val (.int vV), .val (.int wW), .val (.int fF), .val (.int kp), .val (.int dD), .val (.ref b1), .val (.ref b2), .val (.ref b3), .val (.ref b8), .val (.ref b12)] [(.ref b12)]) (fun _ q => XS.aload X13.here hx rfl (hb hby at_122) rfl rfl q) ?_
  refine Go.of (mkF m 126 #[.val (.int aA), .val (.int uU), .val (.int vV), .val (.int wW), .val (.int fF), .val (.int kp), .val (.int dD), .val (.ref b1), .val (.ref b2), .val (.ref b3), .val (.ref b8), .val (.ref b12)] [(.ref b8), (.ref b12)]) (fun _ q => XS.aload X13.here hx rfl (hb hby at_124) rfl rfl q) ?_
  refine Go.of (mkF m 128 #[.val (.int aA), .val (.int uU), .val (.int vV), .val (.int wW), .val (.int fF), .val (.int kp), .val (.int dD), .val (.ref b1), .val (.ref b2), .val (.ref b3), .val (.ref b8), .val (.ref b12)] [(.int fF), (.ref b8), (.ref b12)]) (fun _ q => XS.iload X13.here hx rfl (hb hby at_126) rfl q) ?_
  refine Go.virt X13 hx hZ (y := (⟨"com/example/kiriman/kiriman/route/Positions", "update", "(Lcom/example/kiriman/kiriman/route/Route;I)V"⟩ : MethodName)) (z := (⟨"com/example/kiriman/kiriman/route/Positions", "update", "(Lcom/example/kiriman/kiriman/route/Route;I)V"⟩ : MethodName)) (a := b12) (argsL := [(.ref b8), (.int fF)]) (rest := []) hown (tw157 hw) (tw158 hw) (notFace_of_selects (args := #[]) (mvT hZ (tw160 hw))) (tw160 hw) (tw159 hw) (tw138 hw) (tw161 hw) (by decide) rfl A12 (rmUp l Z a0 hw [] b12 cu kr ki rt ix mv b8 vs fF uU vV (fnup (fnup (fun _ => (0 : Int32)) (0 : Int32) uU) (1 : Int32) vV) T13.heap n0 hz gb_b12 o0 o1 o2 o3 o4 o5 o6 o_vs St0 Rs Rv Vv (by simp [fnup]) (by simp [fnup]) huU hvV hfF) (g := (mkF m 128 #[.val (.int aA), .val (.int uU), .val (.int vV), .val (.int wW), .val (.int fF), .val (.int kp), .val (.int dD), .val (.ref b1), .val (.ref b2), .val (.ref b3), .val (.ref b8), .val (.ref b12)] [(.int fF), (.ref b8), (.ref b12)])) rfl (by rw [hml]; rfl) (lenOf pd43 rfl) rfl (W := 0) (by show 2 * 0 + _ ≤ _; exact Nat.le_of_eq rfl) (hb hby at_128) (by decide) (by decide) (by decide) (by decide) ?_
  rintro T14 L14 v14 X14 ⟨rfl, NL14, K14, StU⟩
  have N14 := Fr.app N13 NL14
  replace Rv := Rv.keep K14 (ninS ne_b8_b12 (ninS ne_b8_cu (ninS ne_b8_kr (ninS ne_b8_ki (ninS ne_b8_rt (ninS ne_b8_ix (ninS ne_b8_mv nin0)))))))
  replace Rs := Rs.keep K14 (ninS ne_b8_b12 (ninS ne_b8_cu (ninS ne_b8_kr (ninS ne_b8_ki (ninS ne_b8_rt (ninS ne_b8_ix (ninS ne_b8_mv nin0)))))))
  replace Q1 := Q1.keep K14
  replace Q2 := Q2.keep K14
  replace A8 := A8.keep K14
  replace A12 := A12.keep K14
  replace U_b1 := U_b1.keep K14
  replace V_b1 := V_b1.keep K14 (ninS ne_b1_b12 (ninS ne_b1_cu (ninS ne_b1_kr (ninS ne_b1_ki (ninS ne_b1_rt (ninS ne_b1_ix (ninS ne_b1_mv nin0)))))))
  replace V_b2 := V_b2.keep K14 (ninS ne_b2_b12 (ninS ne_b2_cu (ninS ne_b2_kr (ninS ne_b2_ki (ninS ne_b2_rt (ninS ne_b2_ix (ninS ne_b2_mv nin0)))))))
  replace Vv := Vv.keep K14 (ninS ne_vs_b12 (ninS ne_vs_cu (ninS ne_vs_kr (ninS ne_vs_ki (ninS ne_vs_rt (ninS ne_vs_ix (ninS ne_vs_mv nin0)))))))
  replace hz := Nat.le_trans hz K14.1
  show Go pr ev below _ T14 (mkF m 131 #[.val (.int aA), .val (.int uU), .val (.int vV), .val (.int wW), .val (.int fF), .val (.int kp), .val (.int dD), .val (.ref b1), .val (.ref b2), .val (.ref b3), .val (.ref b8), .val (.ref b12)] [])
  have J169 : ∀ (TJ : State) (LJ : List Loc) (hJ : Heap) (q1 q2 : Value) (j1 j2 : Int32), Stand pr l ev room_1 s m #[(.int aA)] below meth c TJ LJ 23 293 → TJ.heap = hJ → Fr n0 LJ → (own_St Z hJ b12 cu kr ki rt ix mv b8 q1 q2 q1 q2 j1 j2 j1 j2) → (Fa Z hJ b1 (.object "com/example/kiriman/kiriman/route/Route") 3 (fun _ => Value.null)) → (Uty Z hJ b1 "com/example/kiriman/kiriman/route/Route") → (Fa Z hJ b2 .int 3 (fun i => .int ((fun _ => (0 : Int32)) i))) → (kp < 1 → q1 = .null ∧ q2 = .null ∧ j1 = 0 ∧ j2 = 0) → (¬ kp < 1 → q1 = (own_R fF uU vV 1 b8) ∧ q2 = (own_R fF uU vV 2 b8) ∧ j1 = (own_I fF uU vV 1) ∧ j2 = (own_I fF uU vV 2)) → Go pr ev below (EndP s room_1 (fun v h L => v = some (.int 1) ∧ Fr n0 L)) TJ (mkF m 169 #[.val (.int aA), .val (.int uU), .val (.int vV), .val (.int wW), .val (.int fF), .val (.int kp), .val (.int dD), .val (.ref b1), .val (.ref b2), .val (.ref b3), .val (.ref b8), .val (.ref b12)] []) := by
   intro TJ LJ hJ q1 q2 j1 j2 XJ eJ NJ StJ VeJ UeJ VnJ hA hB
   obtain ⟨k, yc, yki, yix, ymv, ykr, yrt, E, S1, S2, S3, S4, S5, S6, Sk, Vcu, Vkr, Vki, Vrt, Vix, Vmv, Ukr, Urt, Er, hr1, hr2, hi1, hi2, -⟩ := StJ
   have nj_rt_b1 : rt ≠ b1 := (Ne.symm ne_b1_rt)
   have nj_rt_b2 : rt ≠ b2 := (Ne.symm ne_b2_rt)
   have nj_ix_b1 : ix ≠ b1 := (Ne.symm ne_b1_ix)
   have nj_ix_b2 : ix ≠ b2 := (Ne.symm ne_b2_ix)
   by_cases hk1 : kp < (1 : Int32)
   ·
    obtain ⟨rfl, rfl, rfl, rfl⟩ := hA hk1
    refine Go.of (mkF m 171 #[.val (.int aA), .val (.int uU), .val (.int vV), .val (.int wW), .val (.int fF), .val (.int kp), .val (.int dD), .val (.ref b1), .val (.ref b2), .val (.ref b3), .val (.ref b8), .val (.ref b12)] [(.int kp)]) (fun _ q => XS.iload XJ.here hx rfl (hb hby at_169) rfl q) ?_
    refine Go.of (mkF m 172 #[.val (.int aA), .val (.int uU), .val (.int vV), .val (.int wW), .val (.int fF), .val (.int kp), .val (.int dD), .val (.ref b1), .val (.ref b2), .val (.ref b3), .val (.ref b8), .val (.ref b12)] [(.int 1), (.int kp)]) (fun _ q => XS.iconst XJ.here hx rfl (hb hby at_171) q) ?_
    refine Go.of (mkF m 208 #[.val (.int aA), .val (.int uU), .val (.int vV), .val (.int wW), .val (.int fF), .val (.int kp), .val (.int dD), .val (.ref b1), .val (.ref b2), .val (.ref b3), .val (.ref b8), .val (.ref b12)] []) (fun _ q => XS.icmpYes XJ.here hx rfl (pc0 := 172) (pc' := 208) rfl (hb hby at_172) rfl (tlt hk1).1 (by decide) (by decide) q) ?_
    refine Go.of (mkF m 210 #[.val (.int aA), .val (.int uU), .val (.int vV), .val (.int wW), .val (.int fF), .val (.int kp), .val (.int dD), .val (.ref b1), .val (.ref b2), .val (.ref b3), .val (.ref b8), .val (.ref b12)] [(.ref b12)]) (fun _ q => XS.aload XJ.here hx rfl (hb hby at_208) rfl rfl q) ?_
    refine Go.of (mkF m 211 #[.val (.int aA), .val (.int uU), .val (.int vV), .val (.int wW), .val (.int fF), .val (.int kp), .val (.int dD), .val (.ref b1), .val (.ref b2), .val (.ref b3), .val (.ref b8), .val (.ref b12)] [(.int 1), (.ref b12)]) (fun _ q => XS.iconst XJ.here hx rfl (hb hby at_210) q) ?_
    refine Go.virt XJ hx hZ (y := (⟨"com/example/kiriman/kiriman/route/Positions", "route", "(I)Lcom/example/kiriman/kiriman/route/Route;"⟩ : MethodName)) (z := (⟨"com/example/kiriman/kiriman/route/Positions", "route", "(I)Lcom/example/kiriman/kiriman/route/Route;"⟩ : MethodName)) (a := b12) (argsL := [(.int 1)]) (rest := []) hown (tw189 hw) (tw190 hw) (notFace_of_selects (args := #[]) (mvT hZ (tw192 hw))) (tw192 hw) (tw191 hw) (tw138 hw) (tw193 hw) (by decide) eJ E (rmRo1N l Z a0 hw [] b12 rt b8 yrt hJ S4 Vrt hr1) (g := (mkF m 211 #[.val (.int aA), .val (.int uU), .val (.int vV), .val (.int wW), .val (.int fF), .val (.int kp), .val (.int dD), .val (.ref b1), .val (.ref b2), .val (.ref b3), .val (.ref b8), .val (.ref b12)] [(.int 1), (.ref b12)])) rfl (by rw [hml]; rfl) (lenOf pd44 rfl) rfl (W := 0) (by show 2 * 0 + _ ≤ _; exact Nat.le_of_eq rfl) (hb hby at_211) (by decide) (by decide) (by decide) (by decide) ?_
    rintro T15 L15 v15 X15 ⟨rfl, rfl, hh15⟩
    have N15 := Fr.app NJ (Fr.nil n0)
    show Go pr ev below _ T15 (mkF m 214 #[.val (.int aA), .val (.int uU), .val (.int vV), .val (.int wW), .val (.int fF), .val (.int kp), .val (.int dD), .val (.ref b1), .val (.ref b2), .val (.ref b3), .val (.ref b8), .val (.ref b12)] [.null])
    refine Go.of (mkF m 216 #[.val (.int aA), .val (.int uU), .val (.int vV), .val (.int wW), .val (.int fF), .val (.int kp), .val (.int dD), .val (.ref b1), .val (.ref b2), .val (.ref b3), .val (.ref b8), .val (.ref b12)] [(.ref b1), .null]) (fun _ q => XS.aload X15.here hx rfl (hb hby at_214) rfl rfl q) ?_
    refine Go.of (mkF m 217 #[.val (.int aA), .val (.int uU), .val (.int vV), .val (.int wW), .val (.int fF), .val (.int kp), .val (.int dD), .val (.ref b1), .val (.ref b2), .val (.ref b3), .val (.ref b8), .val (.ref b12)] [(.int 1), (.ref b1), .null]) (fun _ q => XS.iconst X15.here hx rfl (hb hby at_216) q) ?_
    refine Go.aaload X15 hx hZ hh15 VeJ rfl (by decide) (by decide) (g := (mkF m 217 #[.val (.int aA), .val (.int uU), .val (.int vV), .val (.int wW), .val (.int fF), .val (.int kp), .val (.int dD), .val (.ref b1), .val (.ref b2), .val (.ref b3), .val (.ref b8), .val (.ref b12)] [(.int 1), (.ref b1), .null])) rfl rfl (hb hby at_217) ?_
    show Go pr ev below _ T15 (mkF m 218 #[.val (.int aA), .val (.int uU), .val (.int vV), .val (.int wW), .val (.int fF), .val (.int kp), .val (.int dD), .val (.ref b1), .val (.ref b2), .val (.ref b3), .val (.ref b8), .val (.ref b12)] [((fun _ => Value.null) (1 : Int32)), .null])
    rw [show ((fun _ => Value.null) (1 : Int32)) = .null from by rfl]
    refine Go.of (mkF m 221 #[.val (.int aA), .val (.int uU), .val (.int vV), .val (.int wW), .val (.int fF), .val (.int kp), .val (.int dD), .val (.ref b1), .val (.ref b2), .val (.ref b3), .val (.ref b8), .val (.ref b12)] []) (fun _ q => Jvm.RoadKit.acmp (g := (mkF m 218 #[.val (.int aA), .val (.int uU), .val (.int vV), .val (.int wW), .val (.int fF), .val (.int kp), .val (.int dD), .val (.ref b1), .val (.ref b2), .val (.ref b3), .val (.ref b8), .val (.ref b12)] [.null, .null])) X15 hx rfl (x := .null) (y := .null) rfl rfl (pc0 := 218) (pc' := 221) (same := true) rfl (hb hby at_218) rfl (decide_eq_true rfl) (by decide) (by decide) q) ?_
    refine Go.of (mkF m 223 #[.val (.int aA), .val (.int uU), .val (.int vV), .val (.int wW), .val (.int fF), .val (.int kp), .val (.int dD), .val (.ref b1), .val (.ref b2), .val (.ref b3), .val (.ref b8), .val (.ref b12)] [(.ref b12)]) (fun _ q => XS.aload X15.here hx rfl (hb hby at_221) rfl rfl q) ?_
    refine Go.of (mkF m 224 #[.val (.int aA), .val (.int uU), .val (.int vV), .val (.int wW), .val (.int fF), .val (.int kp), .val (.int dD), .val (.ref b1), .val (.ref b2), .val (.ref b3), .val (.ref b8), .val (.ref b12)] [(.int 1), (.ref b12)]) (fun _ q => XS.iconst X15.here hx rfl (hb hby at_223) q) ?_
    refine Go.virt X15 hx hZ (y := (⟨"com/example/kiriman/kiriman/route/Positions", "index", "(I)I"⟩ : MethodName)) (z := (⟨"com/example/kiriman/kiriman/route/Positions", "index", "(I)I"⟩ : MethodName)) (a := b12) (argsL := [(.int 1)]) (rest := []) hown (tw194 hw) (tw195 hw) (notFace_of_selects (args := #[]) (mvT hZ (tw197 hw))) (tw197 hw) (tw196 hw) (tw138 hw) (tw198 hw) (by decide) hh15 E (rmIx1 l Z a0 hw [] b12 ix (0 : Int32) yix hJ S5 Vix hi1) (g := (mkF m 224 #[.val (.int aA), .val (.int uU), .val (.int vV), .val (.int wW), .val (.int fF), .val (.int kp), .val (.int dD), .val (.ref b1), .val (.ref b2), .val (.ref b3), .val (.ref b8), .val (.ref b12)] [(.int 1), (.ref b12)])) rfl (by rw [hml]; rfl) (lenOf pd25 rfl) rfl (W := 0) (by show 2 * 0 + _ ≤ _; exact Nat.le_of_eq rfl) (hb hby at_224) (by decide) (by decide) (by decide) (by decide) ?_
    rintro T16 L16 v16 X16 ⟨rfl, rfl, hh16⟩
    have N16 := Fr.app N15 (Fr.nil n0)
    show Go pr ev below _ T16 (mkF m 227 #[.val (.int aA), .val (.int uU), .val (.int vV), .val (.int wW), .val (.int fF), .val (.int kp), .val (.int dD), .val (.ref b1), .val (.ref b2), .val (.ref b3), .val (.ref b8), .val (.ref b12)] [(.int 0)])
    refine Go.of (mkF m 229 #[.val (.int aA), .val (.int uU), .val (.int vV), .val (.int wW), .val (.int fF), .val (.int kp), .val (.int dD), .val (.ref b1), .val (.ref b2), .val (.ref b3), .val (.ref b8), .val (.ref b12)] [(.ref b2), (.int 0)]) (fun _ q => XS.aload X16.here hx rfl (hb hby at_227) rfl rfl q) ?_
    refine Go.of (mkF m 230 #[.val (.int aA), .val (.int uU), .val (.int vV), .val (.int wW), .val (.int fF), .val (.int kp), .val (.int dD), .val (.ref b1), .val (.ref b2), .val (.ref b3), .val (.ref b8), .val (.ref b12)] [(.int 1), (.ref b2), (.int 0)]) (fun _ q => XS.iconst X16.here hx rfl (hb hby at_229) q) ?_
    refine Go.iaload X16 hx hZ hh16 VnJ (by decide) (by decide) (g := (mkF m 230 #[.val (.int aA), .val (.int uU), .val (.int vV), .val (.int wW), .val (.int fF), .val (.int kp), .val (.int dD), .val (.ref b1), .val (.ref b2), .val (.ref b3), .val (.ref b8), .val (.ref b12)] [(.int 1), (.ref b2), (.int 0)])) rfl rfl (hb hby at_230) ?_
    show Go pr ev below _ T16 (mkF m 231 #[.val (.int aA), .val (.int uU), .val (.int vV), .val (.int wW), .val (.int fF), .val (.int kp), .val (.int dD), .val (.ref b1), .val (.ref b2), .val (.ref b3), .val (.ref b8), .val (.ref b12)] [(.int ((fun _ => (0 : Int32)) (1 : Int32))), (.int 0)])
    rw [show ((fun _ => (0 : Int32)) (1 : Int32)) = (0 : Int32) from by rfl]
    refine Go.of (mkF m 234 #[.val (.int aA), .val (.int uU), .val (.int vV), .val (.int wW), .val (.int fF), .val (.int kp), .val (.int dD), .val (.ref b1), .val (.ref b2), .val (.ref b3), .val (.ref b8), .val (.ref b12)] []) (fun _ q => XS.icmpNo X16.here hx rfl (hb hby at_231) rfl (teq (by decide)).2 q) ?_
    refine Go.of (mkF m 236 #[.val (.int aA), .val (.int uU), .val (.int vV), .val (.int wW), .val (.int fF), .val (.int kp), .val (.int dD), .val (.ref b1), .val (.ref b2), .val (.ref b3), .val (.ref b8), .val (.ref b12)] [(.ref b12)]) (fun _ q => XS.aload X16.here hx rfl (hb hby at_234) rfl rfl q) ?_
    refine Go.of (mkF m 237 #[.val (.int aA), .val (.int uU), .val (.int vV), .val (.int wW), .val (.int fF), .val (.int kp), .val (.int dD), .val (.ref b1), .val (.ref b2), .val (.ref b3), .val (.ref b8), .val (.ref b12)] [(.int 2), (.ref b12)]) (fun _ q => XS.iconst X16.here hx rfl (hb hby at_236) q) ?_
    refine Go.virt X16 hx hZ (y := (⟨"com/example/kiriman/kiriman/route/Positions", "route", "(I)Lcom/example/kiriman/kiriman/route/Route;"⟩ : MethodName)) (z := (⟨"com/example/kiriman/kiriman/route/Positions", "route", "(I)Lcom/example/kiriman/kiriman/route/Route;"⟩ : MethodName)) (a := b12) (argsL := [(.int 2)]) (rest := []) hown (tw189 hw) (tw190 hw) (notFace_of_selects (args := #[]) (mvT hZ (tw192 hw))) (tw192 hw) (tw191 hw) (tw138 hw) (tw193 hw) (by decide) hh16 E (rmRo2N l Z a0 hw [] b12 rt b8 yrt hJ S4 Vrt hr2) (g := (mkF m 237 #[.val (.int aA), .val (.int uU), .val (.int vV), .val (.int wW), .val (.int fF), .val (.int kp), .val (.int dD), .val (.ref b1), .val (.ref b2), .val (.ref b3), .val (.ref b8), .val (.ref b12)] [(.int 2), (.ref b12)])) rfl (by rw [hml]; rfl) (lenOf pd44 rfl) rfl (W := 0) (by show 2 * 0 + _ ≤ _; exact Nat.le_of_eq rfl) (hb hby at_237) (by decide) (by decide) (by decide) (by decide) ?_
    rintro T17 L17 v17 X17 ⟨rfl, rfl, hh17⟩
    have N17 := Fr.app N16 (Fr.nil n0)
    show Go pr ev below _ T17 (mkF m 240 #[.val (.int aA), .val (.int uU), .val (.int vV), .val (.int wW), .val (.int fF), .val (.int kp), .val (.int dD), .val (.ref b1), .val (.ref b2), .val (.ref b3), .val (.ref b8), .val (.ref b12)] [.null])
    refine Go.of (mkF m 242 #[.val (.int aA), .val (.int uU), .val (.int vV), .val (.int wW), .val (.int fF), .val (.int kp), .val (.int dD), .val (.ref b1), .val (.ref b2), .val (.ref b3), .val (.ref b8), .val (.ref b12)] [(.ref b1), .null]) (fun _ q => XS.aload X17.here hx rfl (hb hby at_240) rfl rfl q) ?_
    refine Go.of (mkF m 243 #[.val (.int aA), .val (.int uU), .val (.int vV), .val (.int wW), .val (.int fF), .val (.int kp), .val (.int dD), .val (.ref b1), .val (.ref b2), .val (.ref b3), .val (.ref b8), .val (.ref b12)] [(.int 2), (.ref b1), .null]) (fun _ q => XS.iconst X17.here hx rfl (hb hby at_242) q) ?_
    refine Go.aaload X17 hx hZ hh17 VeJ rfl (by decide) (by decide) (g := (mkF m 243 #[.val (.int aA), .val (.int uU), .val (.int vV), .val (.int wW), .val (.int fF), .val (.int kp), .val (.int dD), .val (.ref b1), .val (.ref b2), .val (.ref b3), .val (.ref b8), .val (.ref b12)] [(.int 2), (.ref b1), .null])) rfl rfl (hb hby at_243) ?_
    show Go pr ev below _ T17 (mkF m 244 #[.val (.int aA), .val (.int uU), .val (.int vV), .val (.int wW), .val (.int fF), .val (.int kp), .val (.int dD), .val (.ref b1), .val (.ref b2), .val (.ref b3), .val (.ref b8), .val (.ref b12)] [((fun _ => Value.null) (2 : Int32)), .null])
    rw [show ((fun _ => Value.null) (2 : Int32)) = .null from by rfl]
    refine Go.of (mkF m 247 #[.val (.int aA), .val (.int uU), .val (.int vV), .val (.int wW), .val (.int fF), .val (.int kp), .val (.int dD), .val (.ref b1), .val (.ref b2), .val (.ref b3), .val (.ref b8), .val (.ref b12)] []) (fun _ q => Jvm.RoadKit.acmp (g := (mkF m 244 #[.val (.int aA), .val (.int uU), .val (.int vV), .val (.int wW), .val (.int fF), .val (.int kp), .val (.int dD), .val (.ref b1), .val (.ref b2), .val (.ref b3), .val (.ref b8), .val (.ref b12)] [.null, .null])) X17 hx rfl (x := .null) (y := .null) rfl rfl (pc0 := 244) (pc' := 247) (same := true) rfl (hb hby at_244) rfl (decide_eq_true rfl) (by decide) (by decide) q) ?_
    refine Go.of (mkF m 249 #[.val (.int aA), .val (.int uU), .val (.int vV), .val (.int wW), .val (.int fF), .val (.int kp), .val (.int dD), .val (.ref b1), .val (.ref b2), .val (.ref b3), .val (.ref b8), .val (.ref b12)] [(.ref b12)]) (fun _ q => XS.aload X17.here hx rfl (hb hby at_247) rfl rfl q) ?_
    refine Go.of (mkF m 250 #[.val (.int aA), .val (.int uU), .val (.int vV), .val (.int wW), .val (.int fF), .val (.int kp), .val (.int dD), .val (.ref b1), .val (.ref b2), .val (.ref b3), .val (.ref b8), .val (.ref b12)] [(.int 2), (.ref b12)]) (fun _ q => XS.iconst X17.here hx rfl (hb hby at_249) q) ?_
    refine Go.virt X17 hx hZ (y := (⟨"com/example/kiriman/kiriman/route/Positions", "index", "(I)I"⟩ : MethodName)) (z := (⟨"com/example/kiriman/kiriman/route/Positions", "index", "(I)I"⟩ : MethodName)) (a := b12) (argsL := [(.int 2)]) (rest := []) hown (tw194 hw) (tw195 hw) (notFace_of_selects (args := #[]) (mvT hZ (tw197 hw))) (tw197 hw) (tw196 hw) (tw138 hw) (tw198 hw) (by decide) hh17 E (rmIx2 l Z a0 hw [] b12 ix (0 : Int32) yix hJ S5 Vix hi2) (g := (mkF m 250 #[.val (.int aA), .val (.int uU), .val (.int vV), .val (.int wW), .val (.int fF), .val (.int kp), .val (.int dD), .val (.ref b1), .val (.ref b2), .val (.ref b3), .val (.ref b8), .val (.ref b12)] [(.int 2), (.ref b12)])) rfl (by rw [hml]; rfl) (lenOf pd25 rfl) rfl (W := 0) (by show 2 * 0 + _ ≤ _; exact Nat.le_of_eq rfl) (hb hby at_250) (by decide) (by decide) (by decide) (by decide) ?_
    rintro T18 L18 v18 X18 ⟨rfl, rfl, hh18⟩
    have N18 := Fr.app N17 (Fr.nil n0)
    show Go pr ev below _ T18 (mkF m 253 #[.val (.int aA), .val (.int uU), .val (.int vV), .val (.int wW), .val (.int fF), .val (.int kp), .val (.int dD), .val (.ref b1), .val (.ref b2), .val (.ref b3), .val (.ref b8), .val (.ref b12)] [(.int 0)])
    refine Go.of (mkF m 255 #[.val (.int aA), .val (.int uU), .val (.int vV), .val (.int wW), .val (.int fF), .val (.int kp), .val (.int dD), .val (.ref b1), .val (.ref b2), .val (.ref b3), .val (.ref b8), .val (.ref b12)] [(.ref b2), (.int 0)]) (fun _ q => XS.aload X18.here hx rfl (hb hby at_253) rfl rfl q) ?_
    refine Go.of (mkF m 256 #[.val (.int aA), .val (.int uU), .val (.int vV), .val (.int wW), .val (.int fF), .val (.int kp), .val (.int dD), .val (.ref b1), .val (.ref b2), .val (.ref b3), .val (.ref b8), .val (.ref b12)] [(.int 2), (.ref b2), (.int 0)]) (fun _ q => XS.iconst X18.here hx rfl (hb hby at_255) q) ?_
    refine Go.iaload X18 hx hZ hh18 VnJ (by decide) (by decide) (g := (mkF m 256 #[.val (.int aA), .val (.int uU), .val (.int vV), .val (.int wW), .val (.int fF), .val (.int kp), .val (.int dD), .val (.ref b1), .val (.ref b2), .val (.ref b3), .val (.ref b8), .val (.ref b12)] [(.int 2), (.ref b2), (.int 0)])) rfl rfl (hb hby at_256) ?_
    show Go pr ev below _ T18 (mkF m 257 #[.val (.int aA), .val (.int uU), .val (.int vV), .val (.int wW), .val (.int fF), .val (.int kp), .val (.int dD), .val (.ref b1), .val (.ref b2), .val (.ref b3), .val (.ref b8), .val (.ref b12)] [(.int ((fun _ => (0 : Int32)) (2 : Int32))), (.int 0)])
    rw [show ((fun _ => (0 : Int32)) (2 : Int32)) = (0 : Int32) from by rfl]
    refine Go.of (mkF m 260 #[.val (.int aA), .val (.int uU), .val (.int vV), .val (.int wW), .val (.int fF), .val (.int kp), .val (.int dD), .val (.ref b1), .val (.ref b2), .val (.ref b3), .val (.ref b8), .val (.ref b12)] []) (fun _ q => XS.icmpNo X18.here hx rfl (hb hby at_257) rfl (teq (by decide)).2 q) ?_
    refine Go.of (mkF m 261 #[.val (.int aA), .val (.int uU), .val (.int vV), .val (.int wW), .val (.int fF), .val (.int kp), .val (.int dD), .val (.ref b1), .val (.ref b2), .val (.ref b3), .val (.ref b8), .val (.ref b12)] [(.int 1)]) (fun _ q => XS.iconst X18.here hx rfl (hb hby at_260) q) ?_
    refine Go.of (mkF m 265 #[.val (.int aA), .val (.int uU), .val (.int vV), .val (.int wW), .val (.int fF), .val (.int kp), .val (.int dD), .val (.ref b1), .val (.ref b2), .val (.ref b3), .val (.ref b8), .val (.ref b12)] [(.int 1)]) (fun _ q => XS.goto X18.here hx rfl (pc0 := 261) (pc' := 265) rfl (hb hby at_261) (by decide) (by decide) q) ?_
    exact Go.retW X18 hx (t := .boolean) hret hlk rfl (Or.inl ⟨rfl, by simp, _, rfl⟩) (hb hby at_265) (by decide) (by decide) ⟨rfl, N18⟩
   ·
    obtain ⟨rfl, rfl, rfl, rfl⟩ := hB hk1
    rcases hfF with rfl | rfl | rfl
    ·
     rcases huU with rfl | rfl
     ·
      rcases hvV with rfl | rfl
      ·
       replace hr1 : yrt 1 = (.ref b8) := by rw [hr1]; simp [own_R]
       replace hi1 : yix 1 = (1 : Int32) := by rw [hi1]; simp [own_I]
       replace hr2 : yrt 2 = .null := by rw [hr2]; simp [own_R]
       replace hi2 : yix 2 = (0 : Int32) := by rw [hi2]; simp [own_I]
       refine Go.of (mkF m 171 #[.val (.int aA), .val (.int 1), .val (.int 1), .val (.int wW), .val (.int 0), .val (.int kp), .val (.int dD), .val (.ref b1), .val (.ref b2), .val (.ref b3), .val (.ref b8), .val (.ref b12)] [(.int kp)]) (fun _ q => XS.iload XJ.here hx rfl (hb hby at_169) rfl q) ?_
       refine Go.of (mkF m 172 #[.val (.int aA), .val (.int 1), .val (.int 1), .val (.int wW), .val (.int 0), .val (.int kp), .val (.int dD), .val (.ref b1), .val (.ref b2), .val (.ref b3), .val (.ref b8), .val (.ref b12)] [(.int 1), (.int kp)]) (fun _ q => XS.iconst XJ.here hx rfl (hb hby at_171) q) ?_
       refine Go.of (mkF m 175 #[.val (.int aA), .val (.int 1), .val (.int 1), .val (.int wW), .val (.int 0), .val (.int kp), .val (.int dD), .val (.ref b1), .val (.ref b2), .val (.ref b3), .val (.ref b8), .val (.ref b12)] []) (fun _ q => XS.icmpNo XJ.here hx rfl (hb hby at_172) rfl (flt hk1).1 q) ?_
       refine Go.of (mkF m 177 #[.val (.int aA), .val (.int 1), .val (.int 1), .val (.int wW), .val (.int 0), .val (.int kp), .val (.int dD), .val (.ref b1), .val (.ref b2), .val (.ref b3), .val (.ref b8), .val (.ref b12)] [(.int 0)]) (fun _ q => XS.iload XJ.here hx rfl (hb hby at_175) rfl q) ?_
       refine Go.of (mkF m 180 #[.val (.int aA), .val (.int 1), .val (.int 1), .val (.int wW), .val (.int 0), .val (.int kp), .val (.int dD), .val (.ref b1), .val (.ref b2), .val (.ref b3), .val (.ref b8), .val (.ref b12)] []) (fun _ q => XS.ifNo XJ.here hx rfl (hb hby at_177) rfl ((if0 _ _).trans (teq (by decide)).2) q) ?_
       refine Go.of (mkF m 182 #[.val (.int aA), .val (.int 1), .val (.int 1), .val (.int wW), .val (.int 0), .val (.int kp), .val (.int dD), .val (.ref b1), .val (.ref b2), .val (.ref b3), .val (.ref b8), .val (.ref b12)] [(.ref b1)]) (fun _ q => XS.aload XJ.here hx rfl (hb hby at_180) rfl rfl q) ?_
       refine Go.of (mkF m 183 #[.val (.int aA), .val (.int 1), .val (.int 1), .val (.int wW), .val (.int 0), .val (.int kp), .val (.int dD), .val (.ref b1), .val (.ref b2), .val (.ref b3), .val (.ref b8), .val (.ref b12)] [(.int 1), (.ref b1)]) (fun _ q => XS.iloadN XJ.here hx rfl (hb hby at_182) rfl q) ?_
       refine Go.of (mkF m 185 #[.val (.int aA), .val (.int 1), .val (.int 1), .val (.int wW), .val (.int 0), .val (.int kp), .val (.int dD), .val (.ref b1), .val (.ref b2), .val (.ref b3), .val (.ref b8), .val (.ref b12)] [(.ref b8), (.int 1), (.ref b1)]) (fun _ q => XS.aload XJ.here hx rfl (hb hby at_183) rfl rfl q) ?_
       refine Go.aastore XJ hx hZ eJ VeJ rfl rfl (Fa.sto VeJ UeJ (Ins.self Er)) (by decide) (by decide) (g := (mkF m 185 #[.val (.int aA), .val (.int 1), .val (.int 1), .val (.int wW), .val (.int 0), .val (.int kp), .val (.int dD), .val (.ref b1), .val (.ref b2), .val (.ref b3), .val (.ref b8), .val (.ref b12)] [(.ref b8), (.int 1), (.ref b1)])) rfl rfl (hb hby at_185) ?_
       rintro T19 h19 X19 e19 W19 V19
       replace S4 := S4.other W19 (Or.inl (Ne.symm ne_b1_b12))
       replace S5 := S5.other W19 (Or.inl (Ne.symm ne_b1_b12))
       replace E := E.wr W19
       replace Er := Er.wr W19
       replace UeJ := UeJ.wr W19
       replace Vrt := Vrt.other W19 nj_rt_b1
       replace Vix := Vix.other W19 nj_ix_b1
       replace VnJ := VnJ.other W19 (Ne.symm ne_b1_b2)
       replace VeJ := V19
       have N19 := Fr.snoc X19 NJ gb_b1
       show Go pr ev below _ T19 (mkF m 186 #[.val (.int aA), .val (.int 1), .val (.int 1), .val (.int wW), .val (.int 0), .val (.int kp), .val (.int dD), .val (.ref b1), .val (.ref b2), .val (.ref b3), .val (.ref b8), .val (.ref b12)] [])
       refine Go.of (mkF m 188 #[.val (.int aA), .val (.int 1), .val (.int 1), .val (.int wW), .val (.int 0), .val (.int kp), .val (.int dD), .val (.ref b1), .val (.ref b2), .val (.ref b3), .val (.ref b8), .val (.ref b12)] [(.ref b2)]) (fun _ q => XS.aload X19.here hx rfl (hb hby at_186) rfl rfl q) ?_
       refine Go.of (mkF m 189 #[.val (.int aA), .val (.int 1), .val (.int 1), .val (.int wW), .val (.int 0), .val (.int kp), .val (.int dD), .val (.ref b1), .val (.ref b2), .val (.ref b3), .val (.ref b8), .val (.ref b12)] [(.int 1), (.ref b2)]) (fun _ q => XS.iloadN X19.here hx rfl (hb hby at_188) rfl q) ?_
       refine Go.of (mkF m 190 #[.val (.int aA), .val (.int 1), .val (.int 1), .val (.int wW), .val (.int 0), .val (.int kp), .val (.int dD), .val (.ref b1), .val (.ref b2), .val (.ref b3), .val (.ref b8), .val (.ref b12)] [(.int 0), (.int 1), (.ref b2)]) (fun _ q => XS.iconst X19.here hx rfl (hb hby at_189) q) ?_
       refine Go.iastore X19 hx hZ e19 VnJ (by decide) (by decide) (g := (mkF m 190 #[.val (.int aA), .val (.int 1), .val (.int 1), .val (.int wW), .val (.int 0), .val (.int kp), .val (.int dD), .val (.ref b1), .val (.ref b2), .val (.ref b3), .val (.ref b8), .val (.ref b12)] [(.int 0), (.int 1), (.ref b2)])) rfl rfl (hb hby at_190) ?_
       rintro T20 h20 X20 e20 W20 V20
       replace S4 := S4.other W20 (Or.inl (Ne.symm ne_b2_b12))
       replace S5 := S5.other W20 (Or.inl (Ne.symm ne_b2_b12))
       replace E := E.wr W20
       replace Er := Er.wr W20
       replace UeJ := UeJ.wr W20
       replace Vrt := Vrt.other W20 nj_rt_b2
       replace Vix := Vix.other W20 nj_ix_b2
       replace VeJ := VeJ.other W20 ne_b1_b2
       replace VnJ := V20
       have N20 := Fr.snoc X20 N19 gb_b2
       show Go pr ev below _ T20 (mkF m 191 #[.val (.int aA), .val (.int 1), .val (.int 1), .val (.int wW), .val (.int 0), .val (.int kp), .val (.int dD), .val (.ref b1), .val (.ref b2), .val (.ref b3), .val (.ref b8), .val (.ref b12)] [])
       refine Go.of (mkF m 193 #[.val (.int aA), .val (.int 1), .val (.int 1), .val (.int wW), .val (.int 0), .val (.int kp), .val (.int dD), .val (.ref b1), .val (.ref b2), .val (.ref b3), .val (.ref b8), .val (.ref b12)] [(.int 0)]) (fun _ q => XS.iload X20.here hx rfl (hb hby at_191) rfl q) ?_
       refine Go.of (mkF m 194 #[.val (.int aA), .val (.int 1), .val (.int 1), .val (.int wW), .val (.int 0), .val (.int kp), .val (.int dD), .val (.ref b1), .val (.ref b2), .val (.ref b3), .val (.ref b8), .val (.ref b12)] [(.int 1), (.int 0)]) (fun _ q => XS.iconst X20.here hx rfl (hb hby at_193) q) ?_
       refine Go.of (mkF m 197 #[.val (.int aA), .val (.int 1), .val (.int 1), .val (.int wW), .val (.int 0), .val (.int kp), .val (.int dD), .val (.ref b1), .val (.ref b2), .val (.ref b3), .val (.ref b8), .val (.ref b12)] []) (fun _ q => XS.icmpNo X20.here hx rfl (hb hby at_194) rfl (flt (by decide)).2.2.1 q) ?_
       refine Go.of (mkF m 199 #[.val (.int aA), .val (.int 1), .val (.int 1), .val (.int wW), .val (.int 0), .val (.int kp), .val (.int dD), .val (.ref b1), .val (.ref b2), .val (.ref b3), .val (.ref b8), .val (.ref b12)] [(.ref b1)]) (fun _ q => XS.aload X20.here hx rfl (hb hby at_197) rfl rfl q) ?_
       refine Go.of (mkF m 200 #[.val (.int aA), .val (.int 1), .val (.int 1), .val (.int wW), .val (.int 0), .val (.int kp), .val (.int dD), .val (.ref b1), .val (.ref b2), .val (.ref b3), .val (.ref b8), .val (.ref b12)] [(.int 1), (.ref b1)]) (fun _ q => XS.iloadN X20.here hx rfl (hb hby at_199) rfl q) ?_
       refine Go.of (mkF m 202 #[.val (.int aA), .val (.int 1), .val (.int 1), .val (.int wW), .val (.int 0), .val (.int kp), .val (.int dD), .val (.ref b1), .val (.ref b2), .val (.ref b3), .val (.ref b8), .val (.ref b12)] [(.ref b8), (.int 1), (.ref b1)]) (fun _ q => XS.aload X20.here hx rfl (hb hby at_200) rfl rfl q) ?_
       refine Go.aastore X20 hx hZ e20 VeJ rfl rfl (Fa.sto VeJ UeJ (Ins.self Er)) (by decide) (by decide) (g := (mkF m 202 #[.val (.int aA), .val (.int 1), .val (.int 1), .val (.int wW), .val (.int 0), .val (.int kp), .val (.int dD), .val (.ref b1), .val (.ref b2), .val (.ref b3), .val (.ref b8), .val (.ref b12)] [(.ref b8), (.int 1), (.ref b1)])) rfl rfl (hb hby at_202) ?_
       rintro T21 h21 X21 e21 W21 V21
       replace S4 := S4.other W21 (Or.inl (Ne.symm ne_b1_b12))
       replace S5 := S5.other W21 (Or.inl (Ne.symm ne_b1_b12))
       replace E := E.wr W21
       replace Er := Er.wr W21
       replace UeJ := UeJ.wr W21
       replace Vrt := Vrt.other W21 nj_rt_b1
       replace Vix := Vix.other W21 nj_ix_b1
       replace VnJ := VnJ.other W21 (Ne.symm ne_b1_b2)
       replace VeJ := V21
       have N21 := Fr.snoc X21 N20 gb_b1
       show Go pr ev below _ T21 (mkF m 203 #[.val (.int aA), .val (.int 1), .val (.int 1), .val (.int wW), .val (.int 0), .val (.int kp), .val (.int dD), .val (.ref b1), .val (.ref b2), .val (.ref b3), .val (.ref b8), .val (.ref b12)] [])
       refine Go.of (mkF m 205 #[.val (.int aA), .val (.int 1), .val (.int 1), .val (.int wW), .val (.int 0), .val (.int kp), .val (.int dD), .val (.ref b1), .val (.ref b2), .val (.ref b3), .val (.ref b8), .val (.ref b12)] [(.ref b2)]) (fun _ q => XS.aload X21.here hx rfl (hb hby at_203) rfl rfl q) ?_
       refine Go.of (mkF m 206 #[.val (.int aA), .val (.int 1), .val (.int 1), .val (.int wW), .val (.int 0), .val (.int kp), .val (.int dD), .val (.ref b1), .val (.ref b2), .val (.ref b3), .val (.ref b8), .val (.ref b12)] [(.int 1), (.ref b2)]) (fun _ q => XS.iloadN X21.here hx rfl (hb hby at_205) rfl q) ?_
       refine Go.of (mkF m 207 #[.val (.int aA), .val (.int 1), .val (.int 1), .val (.int wW), .val (.int 0), .val (.int kp), .val (.int dD), .val (.ref b1), .val (.ref b2), .val (.ref b3), .val (.ref b8), .val (.ref b12)] [(.int 1), (.int 1), (.ref b2)]) (fun _ q => XS.iconst X21.here hx rfl (hb hby at_206) q) ?_
       refine Go.iastore X21 hx hZ e21 VnJ (by decide) (by decide) (g := (mkF m 207 #[.val (.int aA), .val (.int 1), .val (.int 1), .val (.int wW), .val (.int 0), .val (.int kp), .val (.int dD), .val (.ref b1), .val (.ref b2), .val (.ref b3), .val (.ref b8), .val (.ref b12)] [(.int 1), (.int 1), (.ref b2)])) rfl rfl (hb hby at_207) ?_
       rintro T22 h22 X22 e22 W22 V22
       replace S4 := S4.other W22 (Or.inl (Ne.symm ne_b2_b12))
       replace S5 := S5.other W22 (Or.inl (Ne.symm ne_b2_b12))
       replace E := E.wr W22
       replace Er := Er.wr W22
       replace UeJ := UeJ.wr W22
       replace Vrt := Vrt.other W22 nj_rt_b2
       replace Vix := Vix.other W22 nj_ix_b2
       replace VeJ := VeJ.other W22 ne_b1_b2
       replace VnJ := V22
       have N22 := Fr.snoc X22 N21 gb_b2
       show Go pr ev below _ T22 (mkF m 208 #[.val (.int aA), .val (.int 1), .val (.int 1), .val (.int wW), .val (.int 0), .val (.int kp), .val (.int dD), .val (.ref b1), .val (.ref b2), .val (.ref b3), .val (.ref b8), .val (.ref b12)] [])
       refine Go.of (mkF m 210 #[.val (.int aA), .val (.int 1), .val (.int 1), .val (.int wW), .val (.int 0), .val (.int kp), .val (.int dD), .val (.ref b1), .val (.ref b2), .val (.ref b3), .val (.ref b8), .val (.ref b12)] [(.ref b12)]) (fun _ q => XS.aload X22.here hx rfl (hb hby at_208) rfl rfl q) ?_
       refine Go.of (mkF m 211 #[.val (.int aA), .val (.int 1), .val (.int 1), .val (.int wW), .val (.int 0), .val (.int kp), .val (.int dD), .val (.ref b1), .val (.ref b2), .val (.ref b3), .val (.ref b8), .val (.ref b12)] [(.int 1), (.ref b12)]) (fun _ q => XS.iconst X22.here hx rfl (hb hby at_210) q) ?_
       refine Go.virt X22 hx hZ (y := (⟨"com/example/kiriman/kiriman/route/Positions", "route", "(I)Lcom/example/kiriman/kiriman/route/Route;"⟩ : MethodName)) (z := (⟨"com/example/kiriman/kiriman/route/Positions", "route", "(I)Lcom/example/kiriman/kiriman/route/Route;"⟩ : MethodName)) (a := b12) (argsL := [(.int 1)]) (rest := []) hown (tw189 hw) (tw190 hw) (notFace_of_selects (args := #[]) (mvT hZ (tw192 hw))) (tw192 hw) (tw191 hw) (tw138 hw) (tw193 hw) (by decide) e22 E (rmRo1R l Z a0 hw [] b12 rt b8 yrt h22 S4 Vrt hr1) (g := (mkF m 211 #[.val (.int aA), .val (.int 1), .val (.int 1), .val (.int wW), .val (.int 0), .val (.int kp), .val (.int dD), .val (.ref b1), .val (.ref b2), .val (.ref b3), .val (.ref b8), .val (.ref b12)] [(.int 1), (.ref b12)])) rfl (by rw [hml]; rfl) (lenOf pd44 rfl) rfl (W := 0) (by show 2 * 0 + _ ≤ _; exact Nat.le_of_eq rfl) (hb hby at_211) (by decide) (by decide) (by decide) (by decide) ?_
       rintro T23 L23 v23 X23 ⟨rfl, rfl, hh23⟩
       have N23 := Fr.app N22 (Fr.nil n0)
       show Go pr ev below _ T23 (mkF m 214 #[.val (.int aA), .val (.int 1), .val (.int 1), .val (.int wW), .val (.int 0), .val (.int kp), .val (.int dD), .val (.ref b1), .val (.ref b2), .val (.ref b3), .val (.ref b8), .val (.ref b12)] [(.ref b8)])
       refine Go.of (mkF m 216 #[.val (.int aA), .val (.int 1), .val (.int 1), .val (.int wW), .val (.int 0), .val (.int kp), .val (.int dD), .val (.ref b1), .val (.ref b2), .val (.ref b3), .val (.ref b8), .val (.ref b12)] [(.ref b1), (.ref b8)]) (fun _ q => XS.aload X23.here hx rfl (hb hby at_214) rfl rfl q) ?_
       refine Go.of (mkF m 217 #[.val (.int aA), .val (.int 1), .val (.int 1), .val (.int wW), .val (.int 0), .val (.int kp), .val (.int dD), .val (.ref b1), .val (.ref b2), .val (.ref b3), .val (.ref b8), .val (.ref b12)] [(.int 1), (.ref b1), (.ref b8)]) (fun _ q => XS.iconst X23.here hx rfl (hb hby at_216) q) ?_
       refine Go.aaload X23 hx hZ hh23 VeJ rfl (by decide) (by decide) (g := (mkF m 217 #[.val (.int aA), .val (.int 1), .val (.int 1), .val (.int wW), .val (.int 0), .val (.int kp), .val (.int dD), .val (.ref b1), .val (.ref b2), .val (.ref b3), .val (.ref b8), .val (.ref b12)] [(.int 1), (.ref b1), (.ref b8)])) rfl rfl (hb hby at_217) ?_
       show Go pr ev below _ T23 (mkF m 218 #[.val (.int aA), .val (.int 1), .val (.int 1), .val (.int wW), .val (.int 0), .val (.int kp), .val (.int dD), .val (.ref b1), .val (.ref b2), .val (.ref b3), .val (.ref b8), .val (.ref b12)] [((fnup (fnup (fun _ => Value.null) (1 : Int32) (.ref b8)) (1 : Int32) (.ref b8)) (1 : Int32)), (.ref b8)])
       rw [show ((fnup (fnup (fun _ => Value.null) (1 : Int32) (.ref b8)) (1 : Int32) (.ref b8)) (1 : Int32)) = (.ref b8) from by first | rfl | simp [fnup]]
       refine Go.of (mkF m 221 #[.val (.int aA), .val (.int 1), .val (.int 1), .val (.int wW), .val (.int 0), .val (.int kp), .val (.int dD), .val (.ref b1), .val (.ref b2), .val (.ref b3), .val (.ref b8), .val (.ref b12)] []) (fun _ q => Jvm.RoadKit.acmp (g := (mkF m 218 #[.val (.int aA), .val (.int 1), .val (.int 1), .val (.int wW), .val (.int 0), .val (.int kp), .val (.int dD), .val (.ref b1), .val (.ref b2), .val (.ref b3), .val (.ref b8), .val (.ref b12)] [(.ref b8), (.ref b8)])) X23 hx rfl (x := (.ref b8)) (y := (.ref b8)) rfl rfl (pc0 := 218) (pc' := 221) (same := true) rfl (hb hby at_218) rfl (decide_eq_true rfl) (by decide) (by decide) q) ?_
       refine Go.of (mkF m 223 #[.val (.int aA), .val (.int 1), .val (.int 1), .val (.int wW), .val (.int 0), .val (.int kp), .val (.int dD), .val (.ref b1), .val (.ref b2), .val (.ref b3), .val (.ref b8), .val (.ref b12)] [(.ref b12)]) (fun _ q => XS.aload X23.here hx rfl (hb hby at_221) rfl rfl q) ?_
       refine Go.of (mkF m 224 #[.val (.int aA), .val (.int 1), .val (.int 1), .val (.int wW), .val (.int 0), .val (.int kp), .val (.int dD), .val (.ref b1), .val (.ref b2), .val (.ref b3), .val (.ref b8), .val (.ref b12)] [(.int 1), (.ref b12)]) (fun _ q => XS.iconst X23.here hx rfl (hb hby at_223) q) ?_
       refine Go.virt X23 hx hZ (y := (⟨"com/example/kiriman/kiriman/route/Positions", "index", "(I)I"⟩ : MethodName)) (z := (⟨"com/example/kiriman/kiriman/route/Positions", "index", "(I)I"⟩ : MethodName)) (a := b12) (argsL := [(.int 1)]) (rest := []) hown (tw194 hw) (tw195 hw) (notFace_of_selects (args := #[]) (mvT hZ (tw197 hw))) (tw197 hw) (tw196 hw) (tw138 hw) (tw198 hw) (by decide) hh23 E (rmIx1 l Z a0 hw [] b12 ix (1 : Int32) yix h22 S5 Vix hi1) (g := (mkF m 224 #[.val (.int aA), .val (.int 1), .val (.int 1), .val (.int wW), .val (.int 0), .val (.int kp), .val (.int dD), .val (.ref b1), .val (.ref b2), .val (.ref b3), .val (.ref b8), .val (.ref b12)] [(.int 1), (.ref b12)])) rfl (by rw [hml]; rfl) (lenOf pd25 rfl) rfl (W := 0) (by show 2 * 0 + _ ≤ _; exact Nat.le_of_eq rfl) (hb hby at_224) (by decide) (by decide) (by decide) (by decide) ?_
       rintro T24 L24 v24 X24 ⟨rfl, rfl, hh24⟩
       have N24 := Fr.app N23 (Fr.nil n0)
       show Go pr ev below _ T24 (mkF m 227 #[.val (.int aA), .val (.int 1), .val (.int 1), .val (.int wW), .val (.int 0), .val (.int kp), .val (.int dD), .val (.ref b1), .val (.ref b2), .val (.ref b3), .val (.ref b8), .val (.ref b12)] [(.int 1)])
       refine Go.of (mkF m 229 #[.val (.int aA), .val (.int 1), .val (.int 1), .val (.int wW), .val (.int 0), .val (.int kp), .val (.int dD), .val (.ref b1), .val (.ref b2), .val (.ref b3), .val (.ref b8), .val (.ref b12)] [(.ref b2), (.int 1)]) (fun _ q => XS.aload X24.here hx rfl (hb hby at_227) rfl rfl q) ?_
       refine Go.of (mkF m 230 #[.val (.int aA), .val (.int 1), .val (.int 1), .val (.int wW), .val (.int 0), .val (.int kp), .val (.int dD), .val (.ref b1), .val (.ref b2), .val (.ref b3), .val (.ref b8), .val (.ref b12)] [(.int 1), (.ref b2), (.int 1)]) (fun _ q => XS.iconst X24.here hx rfl (hb hby at_229) q) ?_
       refine Go.iaload X24 hx hZ hh24 VnJ (by decide) (by decide) (g := (mkF m 230 #[.val (.int aA), .val (.int 1), .val (.int 1), .val (.int wW), .val (.int 0), .val (.int kp), .val (.int dD), .val (.ref b1), .val (.ref b2), .val (.ref b3), .val (.ref b8), .val (.ref b12)] [(.int 1), (.ref b2), (.int 1)])) rfl rfl (hb hby at_230) ?_
       show Go pr ev below _ T24 (mkF m 231 #[.val (.int aA), .val (.int 1), .val (.int 1), .val (.int wW), .val (.int 0), .val (.int kp), .val (.int dD), .val (.ref b1), .val (.ref b2), .val (.ref b3), .val (.ref b8), .val (.ref b12)] [(.int ((fnup (fnup (fun _ => (0 : Int32)) (1 : Int32) (0 : Int32)) (1 : Int32) (1 : Int32)) (1 : Int32))), (.int 1)])
       rw [show ((fnup (fnup (fun _ => (0 : Int32)) (1 : Int32) (0 : Int32)) (1 : Int32) (1 : Int32)) (1 : Int32)) = (1 : Int32) from by first | rfl | simp [fnup]]
       refine Go.of (mkF m 234 #[.val (.int aA), .val (.int 1), .val (.int 1), .val (.int wW), .val (.int 0), .val (.int kp), .val (.int dD), .val (.ref b1), .val (.ref b2), .val (.ref b3), .val (.ref b8), .val (.ref b12)] []) (fun _ q => XS.icmpNo X24.here hx rfl (hb hby at_231) rfl (teq (by decide)).2 q) ?_
       refine Go.of (mkF m 236 #[.val (.int aA), .val (.int 1), .val (.int 1), .val (.int wW), .val (.int 0), .val (.int kp), .val (.int dD), .val (.ref b1), .val (.ref b2), .val (.ref b3), .val (.ref b8), .val (.ref b12)] [(.ref b12)]) (fun _ q => XS.aload X24.here hx rfl (hb hby at_234) rfl rfl q) ?_
       refine Go.of (mkF m 237 #[.val (.int aA), .val (.int 1), .val (.int 1), .val (.int wW), .val (.int 0), .val (.int kp), .val (.int dD), .val (.ref b1), .val (.ref b2), .val (.ref b3), .val (.ref b8), .val (.ref b12)] [(.int 2), (.ref b12)]) (fun _ q => XS.iconst X24.here hx rfl (hb hby at_236) q) ?_
       refine Go.virt X24 hx hZ (y := (⟨"com/example/kiriman/kiriman/route/Positions", "route", "(I)Lcom/example/kiriman/kiriman/route/Route;"⟩ : MethodName)) (z := (⟨"com/example/kiriman/kiriman/route/Positions", "route", "(I)Lcom/example/kiriman/kiriman/route/Route;"⟩ : MethodName)) (a := b12) (argsL := [(.int 2)]) (rest := []) hown (tw189 hw) (tw190 hw) (notFace_of_selects (args := #[]) (mvT hZ (tw192 hw))) (tw192 hw) (tw191 hw) (tw138 hw) (tw193 hw) (by decide) hh24 E (rmRo2N l Z a0 hw [] b12 rt b8 yrt h22 S4 Vrt hr2) (g := (mkF m 237 #[.val (.int aA), .val (.int 1), .val (.int 1), .val (.int wW), .val (.int 0), .val (.int kp), .val (.int dD), .val (.ref b1), .val (.ref b2), .val (.ref b3), .val (.ref b8), .val (.ref b12)] [(.int 2), (.ref b12)])) rfl (by rw [hml]; rfl) (lenOf pd44 rfl) rfl (W := 0) (by show 2 * 0 + _ ≤ _; exact Nat.le_of_eq rfl) (hb hby at_237) (by decide) (by decide) (by decide) (by decide) ?_
       rintro T25 L25 v25 X25 ⟨rfl, rfl, hh25⟩
       have N25 := Fr.app N24 (Fr.nil n0)
       show Go pr ev below _ T25 (mkF m 240 #[.val (.int aA), .val (.int 1), .val (.int 1), .val (.int wW), .val (.int 0), .val (.int kp), .val (.int dD), .val (.ref b1), .val (.ref b2), .val (.ref b3), .val (.ref b8), .val (.ref b12)] [.null])
       refine Go.of (mkF m 242 #[.val (.int aA), .val (.int 1), .val (.int 1), .val (.int wW), .val (.int 0), .val (.int kp), .val (.int dD), .val (.ref b1), .val (.ref b2), .val (.ref b3), .val (.ref b8), .val (.ref b12)] [(.ref b1), .null]) (fun _ q => XS.aload X25.here hx rfl (hb hby at_240) rfl rfl q) ?_
       refine Go.of (mkF m 243 #[.val (.int aA), .val (.int 1), .val (.int 1), .val (.int wW), .val (.int 0), .val (.int kp), .val (.int dD), .val (.ref b1), .val (.ref b2), .val (.ref b3), .val (.ref b8), .val (.ref b12)] [(.int 2), (.ref b1), .null]) (fun _ q => XS.iconst X25.here hx rfl (hb hby at_242) q) ?_
       refine Go.aaload X25 hx hZ hh25 VeJ rfl (by decide) (by decide) (g := (mkF m 243 #[.val (.int aA), .val (.int 1), .val (.int 1), .val (.int wW), .val (.int 0), .val (.int kp), .val (.int dD), .val (.ref b1), .val (.ref b2), .val (.ref b3), .val (.ref b8), .val (.ref b12)] [(.int 2), (.ref b1), .null])) rfl rfl (hb hby at_243) ?_
       show Go pr ev below _ T25 (mkF m 244 #[.val (.int aA), .val (.int 1), .val (.int 1), .val (.int wW), .val (.int 0), .val (.int kp), .val (.int dD), .val (.ref b1), .val (.ref b2), .val (.ref b3), .val (.ref b8), .val (.ref b12)] [((fnup (fnup (fun _ => Value.null) (1 : Int32) (.ref b8)) (1 : Int32) (.ref b8)) (2 : Int32)), .null])
       rw [show ((fnup (fnup (fun _ => Value.null) (1 : Int32) (.ref b8)) (1 : Int32) (.ref b8)) (2 : Int32)) = .null from by first | rfl | simp [fnup]]
       refine Go.of (mkF m 247 #[.val (.int aA), .val (.int 1), .val (.int 1), .val (.int wW), .val (.int 0), .val (.int kp), .val (.int dD), .val (.ref b1), .val (.ref b2), .val (.ref b3), .val (.ref b8), .val (.ref b12)] []) (fun _ q => Jvm.RoadKit.acmp (g := (mkF m 244 #[.val (.int aA), .val (.int 1), .val (.int 1), .val (.int wW), .val (.int 0), .val (.int kp), .val (.int dD), .val (.ref b1), .val (.ref b2), .val (.ref b3), .val (.ref b8), .val (.ref b12)] [.null, .null])) X25 hx rfl (x := .null) (y := .null) rfl rfl (pc0 := 244) (pc' := 247) (same := true) rfl (hb hby at_244) rfl (decide_eq_true rfl) (by decide) (by decide) q) ?_
       refine Go.of (mkF m 249 #[.val (.int aA), .val (.int 1), .val (.int 1), .val (.int wW), .val (.int 0), .val (.int kp), .val (.int dD), .val (.ref b1), .val (.ref b2), .val (.ref b3), .val (.ref b8), .val (.ref b12)] [(.ref b12)]) (fun _ q => XS.aload X25.here hx rfl (hb hby at_247) rfl rfl q) ?_
       refine Go.of (mkF m 250 #[.val (.int aA), .val (.int 1), .val (.int 1), .val (.int wW), .val (.int 0), .val (.int kp), .val (.int dD), .val (.ref b1), .val (.ref b2), .val (.ref b3), .val (.ref b8), .val (.ref b12)] [(.int 2), (.ref b12)]) (fun _ q => XS.iconst X25.here hx rfl (hb hby at_249) q) ?_
       refine Go.virt X25 hx hZ (y := (⟨"com/example/kiriman/kiriman/route/Positions", "index", "(I)I"⟩ : MethodName)) (z := (⟨"com/example/kiriman/kiriman/route/Positions", "index", "(I)I"⟩ : MethodName)) (a := b12) (argsL := [(.int 2)]) (rest := []) hown (tw194 hw) (tw195 hw) (notFace_of_selects (args := #[]) (mvT hZ (tw197 hw))) (tw197 hw) (tw196 hw) (tw138 hw) (tw198 hw) (by decide) hh25 E (rmIx2 l Z a0 hw [] b12 ix (0 : Int32) yix h22 S5 Vix hi2) (g := (mkF m 250 #[.val (.int aA), .val (.int 1), .val (.int 1), .val (.int wW), .val (.int 0), .val (.int kp), .val (.int dD), .val (.ref b1), .val (.ref b2), .val (.ref b3), .val (.ref b8), .val (.ref b12)] [(.int 2), (.ref b12)])) rfl (by rw [hml]; rfl) (lenOf pd25 rfl) rfl (W := 0) (by show 2 * 0 + _ ≤ _; exact Nat.le_of_eq rfl) (hb hby at_250) (by decide) (by decide) (by decide) (by decide) ?_
       rintro T26 L26 v26 X26 ⟨rfl, rfl, hh26⟩
       have N26 := Fr.app N25 (Fr.nil n0)
       show Go pr ev below _ T26 (mkF m 253 #[.val (.int aA), .val (.int 1), .val (.int 1), .val (.int wW), .val (.int 0), .val (.int kp), .val (.int dD), .val (.ref b1), .val (.ref b2), .val (.ref b3), .val (.ref b8), .val (.ref b12)] [(.int 0)])
       refine Go.of (mkF m 255 #[.val (.int aA), .val (.int 1), .val (.int 1), .val (.int wW), .val (.int 0), .val (.int kp), .val (.int dD), .val (.ref b1), .val (.ref b2), .val (.ref b3), .val (.ref b8), .val (.ref b12)] [(.ref b2), (.int 0)]) (fun _ q => XS.aload X26.here hx rfl (hb hby at_253) rfl rfl q) ?_
       refine Go.of (mkF m 256 #[.val (.int aA), .val (.int 1), .val (.int 1), .val (.int wW), .val (.int 0), .val (.int kp), .val (.int dD), .val (.ref b1), .val (.ref b2), .val (.ref b3), .val (.ref b8), .val (.ref b12)] [(.int 2), (.ref b2), (.int 0)]) (fun _ q => XS.iconst X26.here hx rfl (hb hby at_255) q) ?_
       refine Go.iaload X26 hx hZ hh26 VnJ (by decide) (by decide) (g := (mkF m 256 #[.val (.int aA), .val (.int 1), .val (.int 1), .val (.int wW), .val (.int 0), .val (.int kp), .val (.int dD), .val (.ref b1), .val (.ref b2), .val (.ref b3), .val (.ref b8), .val (.ref b12)] [(.int 2), (.ref b2), (.int 0)])) rfl rfl (hb hby at_256) ?_
       show Go pr ev below _ T26 (mkF m 257 #[.val (.int aA), .val (.int 1), .val (.int 1), .val (.int wW), .val (.int 0), .val (.int kp), .val (.int dD), .val (.ref b1), .val (.ref b2), .val (.ref b3), .val (.ref b8), .val (.ref b12)] [(.int ((fnup (fnup (fun _ => (0 : Int32)) (1 : Int32) (0 : Int32)) (1 : Int32) (1 : Int32)) (2 : Int32))), (.int 0)])
       rw [show ((fnup (fnup (fun _ => (0 : Int32)) (1 : Int32) (0 : Int32)) (1 : Int32) (1 : Int32)) (2 : Int32)) = (0 : Int32) from by first | rfl | simp [fnup]]
       refine Go.of (mkF m 260 #[.val (.int aA), .val (.int 1), .val (.int 1), .val (.int wW), .val (.int 0), .val (.int kp), .val (.int dD), .val (.ref b1), .val (.ref b2), .val (.ref b3), .val (.ref b8), .val (.ref b12)] []) (fun _ q => XS.icmpNo X26.here hx rfl (hb hby at_257) rfl (teq (by decide)).2 q) ?_
       refine Go.of (mkF m 261 #[.val (.int aA), .val (.int 1), .val (.int 1), .val (.int wW), .val (.int 0), .val (.int kp), .val (.int dD), .val (.ref b1), .val (.ref b2), .val (.ref b3), .val (.ref b8), .val (.ref b12)] [(.int 1)]) (fun _ q => XS.iconst X26.here hx rfl (hb hby at_260) q) ?_
       refine Go.of (mkF m 265 #[.val (.int aA), .val (.int 1), .val (.int 1), .val (.int wW), .val (.int 0), .val (.int kp), .val (.int dD), .val (.ref b1), .val (.ref b2), .val (.ref b3), .val (.ref b8), .val (.ref b12)] [(.int 1)]) (fun _ q => XS.goto X26.here hx rfl (pc0 := 261) (pc' := 265) rfl (hb hby at_261) (by decide) (by decide) q) ?_
       exact Go.retW X26 hx (t := .boolean) hret hlk rfl (Or.inl ⟨rfl, by simp, _, rfl⟩) (hb hby at_265) (by decide) (by decide) ⟨rfl, N26⟩
      ·
       replace hr1 : yrt 1 = (.ref b8) := by rw [hr1]; simp [own_R]
       replace hi1 : yix 1 = (0 : Int32) := by rw [hi1]; simp [own_I]
       replace hr2 : yrt 2 = (.ref b8) := by rw [hr2]; simp [own_R]
       replace hi2 : yix 2 = (1 : Int32) := by rw [hi2]; simp [own_I]
       refine Go.of (mkF m 171 #[.val (.int aA), .val (.int 1), .val (.int 2), .val (.int wW), .val (.int 0), .val (.int kp), .val (.int dD), .val (.ref b1), .val (.ref b2), .val (.ref b3), .val (.ref b8), .val (.ref b12)] [(.int kp)]) (fun _ q => XS.iload XJ.here hx rfl (hb hby at_169) rfl q) ?_
       refine Go.of (mkF m 172 #[.val (.int aA), .val (.int 1), .val (.int 2), .val (.int wW), .val (.int 0), .val (.int kp), .val (.int dD), .val (.ref b1), .val (.ref b2), .val (.ref b3), .val (.ref b8), .val (.ref b12)] [(.int 1), (.int kp)]) (fun _ q => XS.iconst XJ.here hx rfl (hb hby at_171) q) ?_
       refine Go.of (mkF m 175 #[.val (.int aA), .val (.int 1), .val (.int 2), .val (.int wW), .val (.int 0), .val (.int kp), .val (.int dD), .val (.ref b1), .val (.ref b2), .val (.ref b3), .val (.ref b8), .val (.ref b12)] []) (fun _ q => XS.icmpNo XJ.here hx rfl (hb hby at_172) rfl (flt hk1).1 q) ?_
       refine Go.of (mkF m 177 #[.val (.int aA), .val (.int 1), .val (.int 2), .val (.int wW), .val (.int 0), .val (.int kp), .val (.int dD), .val (.ref b1), .val (.ref b2), .val (.ref b3), .val (.ref b8), .val (.ref b12)] [(.int 0)]) (fun _ q => XS.iload XJ.here hx rfl (hb hby at_175) rfl q) ?_
       refine Go.of (mkF m 180 #[.val (.int aA), .val (.int 1), .val (.int 2), .val (.int wW), .val (.int 0), .val (.int kp), .val (.int dD), .val (.ref b1), .val (.ref b2), .val (.ref b3), .val (.ref b8), .val (.ref b12)] []) (fun _ q => XS.ifNo XJ.here hx rfl (hb hby at_177) rfl ((if0 _ _).trans (teq (by decide)).2) q) ?_
       refine Go.of (mkF m 182 #[.val (.int aA), .val (.int 1), .val (.int 2), .val (.int wW), .val (.int 0), .val (.int kp), .val (.int dD), .val (.ref b1), .val (.ref b2), .val (.ref b3), .val (.ref b8), .val (.ref b12)] [(.ref b1)]) (fun _ q => XS.aload XJ.here hx rfl (hb hby at_180) rfl rfl q) ?_
       refine Go.of (mkF m 183 #[.val (.int aA), .val (.int 1), .val (.int 2), .val (.int wW), .val (.int 0), .val (.int kp), .val (.int dD), .val (.ref b1), .val (.ref b2), .val (.ref b3), .val (.ref b8), .val (.ref b12)] [(.int 1), (.ref b1)]) (fun _ q => XS.iloadN XJ.here hx rfl (hb hby at_182) rfl q) ?_
       refine Go.of (mkF m 185 #[.val (.int aA), .val (.int 1), .val (.int 2), .val (.int wW), .val (.int 0), .val (.int kp), .val (.int dD), .val (.ref b1), .val (.ref b2), .val (.ref b3), .val (.ref b8), .val (.ref b12)] [(.ref b8), (.int 1), (.ref b1)]) (fun _ q => XS.aload XJ.here hx rfl (hb hby at_183) rfl rfl q) ?_
       refine Go.aastore XJ hx hZ eJ VeJ rfl rfl (Fa.sto VeJ UeJ (Ins.self Er)) (by decide) (by decide) (g := (mkF m 185 #[.val (.int aA), .val (.int 1), .val (.int 2), .val (.int wW), .val (.int 0), .val (.int kp), .val (.int dD), .val (.ref b1), .val (.ref b2), .val (.ref b3), .val (.ref b8), .val (.ref b12)] [(.ref b8), (.int 1), (.ref b1)])) rfl rfl (hb hby at_185) ?_
       rintro T27 h27 X27 e27 W27 V27
       replace S4 := S4.other W27 (Or.inl (Ne.symm ne_b1_b12))
       replace S5 := S5.other W27 (Or.inl (Ne.symm ne_b1_b12))
       replace E := E.wr W27
       replace Er := Er.wr W27
       replace UeJ := UeJ.wr W27
       replace Vrt := Vrt.other W27 nj_rt_b1
       replace Vix := Vix.other W27 nj_ix_b1
       replace VnJ := VnJ.other W27 (Ne.symm ne_b1_b2)
       replace VeJ := V27
       have N27 := Fr.snoc X27 NJ gb_b1
       show Go pr ev below _ T27 (mkF m 186 #[.val (.int aA), .val (.int 1), .val (.int 2), .val (.int wW), .val (.int 0), .val (.int kp), .val (.int dD), .val (.ref b1), .val (.ref b2), .val (.ref b3), .val (.ref b8), .val (.ref b12)] [])
       refine Go.of (mkF m 188 #[.val (.int aA), .val (.int 1), .val (.int 2), .val (.int wW), .val (.int 0), .val (.int kp), .val (.int dD), .val (.ref b1), .val (.ref b2), .val (.ref b3), .val (.ref b8), .val (.ref b12)] [(.ref b2)]) (fun _ q => XS.aload X27.here hx rfl (hb hby at_186) rfl rfl q) ?_
       refine Go.of (mkF m 189 #[.val (.int aA), .val (.int 1), .val (.int 2), .val (.int wW), .val (.int 0), .val (.int kp), .val (.int dD), .val (.ref b1), .val (.ref b2), .val (.ref b3), .val (.ref b8), .val (.ref b12)] [(.int 1), (.ref b2)]) (fun _ q => XS.iloadN X27.here hx rfl (hb hby at_188) rfl q) ?_
       refine Go.of (mkF m 190 #[.val (.int aA), .val (.int 1), .val (.int 2), .val (.int wW), .val (.int 0), .val (.int kp), .val (.int dD), .val (.ref b1), .val (.ref b2), .val (.ref b3), .val (.ref b8), .val (.ref b12)] [(.int 0), (.int 1), (.ref b2)]) (fun _ q => XS.iconst X27.here hx rfl (hb hby at_189) q) ?_
       refine Go.iastore X27 hx hZ e27 VnJ (by decide) (by decide) (g := (mkF m 190 #[.val (.int aA), .val (.int 1), .val (.int 2), .val (.int wW), .val (.int 0), .val (.int kp), .val (.int dD), .val (.ref b1), .val (.ref b2), .val (.ref b3), .val (.ref b8), .val (.ref b12)] [(.int 0), (.int 1), (.ref b2)])) rfl rfl (hb hby at_190) ?_
       rintro T28 h28 X28 e28 W28 V28
       replace S4 := S4.other W28 (Or.inl (Ne.symm ne_b2_b12))
       replace S5 := S5.other W28 (Or.inl (Ne.symm ne_b2_b12))
       replace E := E.wr W28
       replace Er := Er.wr W28
       replace UeJ := UeJ.wr W28
       replace Vrt := Vrt.other W28 nj_rt_b2
       replace Vix := Vix.other W28 nj_ix_b2
       replace VeJ := VeJ.other W28 ne_b1_b2
       replace VnJ := V28
       have N28 := Fr.snoc X28 N27 gb_b2
       show Go pr ev below _ T28 (mkF m 191 #[.val (.int aA), .val (.int 1), .val (.int 2), .val (.int wW), .val (.int 0), .val (.int kp), .val (.int dD), .val (.ref b1), .val (.ref b2), .val (.ref b3), .val (.ref b8), .val (.ref b12)] [])
       refine Go.of (mkF m 193 #[.val (.int aA), .val (.int 1), .val (.int 2), .val (.int wW), .val (.int 0), .val (.int kp), .val (.int dD), .val (.ref b1), .val (.ref b2), .val (.ref b3), .val (.ref b8), .val (.ref b12)] [(.int 0)]) (fun _ q => XS.iload X28.here hx rfl (hb hby at_191) rfl q) ?_
       refine Go.of (mkF m 194 #[.val (.int aA), .val (.int 1), .val (.int 2), .val (.int wW), .val (.int 0), .val (.int kp), .val (.int dD), .val (.ref b1), .val (.ref b2), .val (.ref b3), .val (.ref b8), .val (.ref b12)] [(.int 1), (.int 0)]) (fun _ q => XS.iconst X28.here hx rfl (hb hby at_193) q) ?_
       refine Go.of (mkF m 197 #[.val (.int aA), .val (.int 1), .val (.int 2), .val (.int wW), .val (.int 0), .val (.int kp), .val (.int dD), .val (.ref b1), .val (.ref b2), .val (.ref b3), .val (.ref b8), .val (.ref b12)] []) (fun _ q => XS.icmpNo X28.here hx rfl (hb hby at_194) rfl (flt (by decide)).2.2.1 q) ?_
       refine Go.of (mkF m 199 #[.val (.int aA), .val (.int 1), .val (.int 2), .val (.int wW), .val (.int 0), .val (.int kp), .val (.int dD), .val (.ref b1), .val (.ref b2), .val (.ref b3), .val (.ref b8), .val (.ref b12)] [(.ref b1)]) (fun _ q => XS.aload X28.here hx rfl (hb hby at_197) rfl rfl q) ?_
       refine Go.of (mkF m 200 #[.val (.int aA), .val (.int 1), .val (.int 2), .val (.int wW), .val (.int 0), .val (.int kp), .val (.int dD), .val (.ref b1), .val (.ref b2), .val (.ref b3), .val (.ref b8), .val (.ref b12)] [(.int 2), (.ref b1)]) (fun _ q => XS.iloadN X28.here hx rfl (hb hby at_199) rfl q) ?_
       refine Go.of (mkF m 202 #[.val (.int aA), .val (.int 1), .val (.int 2), .val (.int wW), .val (.int 0), .val (.int kp), .val (.int dD), .val (.ref b1), .val (.ref b2), .val (.ref b3), .val (.ref b8), .val (.ref b12)] [(.ref b8), (.int 2), (.ref b1)]) (fun _ q => XS.aload X28.here hx rfl (hb hby at_200) rfl rfl q) ?_
       refine Go.aastore X28 hx hZ e28 VeJ rfl rfl (Fa.sto VeJ UeJ (Ins.self Er)) (by decide) (by decide) (g := (mkF m 202 #[.val (.int aA), .val (.int 1), .val (.int 2), .val (.int wW), .val (.int 0), .val (.int kp), .val (.int dD), .val (.ref b1), .val (.ref b2), .val (.ref b3), .val (.ref b8), .val (.ref b12)] [(.ref b8), (.int 2), (.ref b1)])) rfl rfl (hb hby at_202) ?_
       rintro T29 h29 X29 e29 W29 V29
       replace S4 := S4.other W29 (Or.inl (Ne.symm ne_b1_b12))
       replace S5 := S5.other W29 (Or.inl (Ne.symm ne_b1_b12))
       replace E := E.wr W29
       replace Er := Er.wr W29
       replace UeJ := UeJ.wr W29
       replace Vrt := Vrt.other W29 nj_rt_b1
       replace Vix := Vix.other W29 nj_ix_b1
       replace VnJ := VnJ.other W29 (Ne.symm ne_b1_b2)
       replace VeJ := V29
       have N29 := Fr.snoc X29 N28 gb_b1
       show Go pr ev below _ T29 (mkF m 203 #[.val (.int aA), .val (.int 1), .val (.int 2), .val (.int wW), .val (.int 0), .val (.int kp), .val (.int dD), .val (.ref b1), .val (.ref b2), .val (.ref b3), .val (.ref b8), .val (.ref b12)] [])
       refine Go.of (mkF m 205 #[.val (.int aA), .val (.int 1), .val (.int 2), .val (.int wW), .val (.int 0), .val (.int kp), .val (.int dD), .val (.ref b1), .val (.ref b2), .val (.ref b3), .val (.ref b8), .val (.ref b12)] [(.ref b2)]) (fun _ q => XS.aload X29.here hx rfl (hb hby at_203) rfl rfl q) ?_
       refine Go.of (mkF m 206 #[.val (.int aA), .val (.int 1), .val (.int 2), .val (.int wW), .val (.int 0), .val (.int kp), .val (.int dD), .val (.ref b1), .val (.ref b2), .val (.ref b3), .val (.ref b8), .val (.ref b12)] [(.int 2), (.ref b2)]) (fun _ q => XS.iloadN X29.here hx rfl (hb hby at_205) rfl q) ?_
       refine Go.of (mkF m 207 #[.val (.int aA), .val (.int 1), .val (.int 2), .val (.int wW), .val (.int 0), .val (.int kp), .val (.int dD), .val (.ref b1), .val (.ref b2), .val (.ref b3), .val (.ref b8), .val (.ref b12)] [(.int 1), (.int 2), (.ref b2)]) (fun _ q => XS.iconst X29.here hx rfl (hb hby at_206) q) ?_
       refine Go.iastore X29 hx hZ e29 VnJ (by decide) (by decide) (g := (mkF m 207 #[.val (.int aA), .val (.int 1), .val (.int 2), .val (.int wW), .val (.int 0), .val (.int kp), .val (.int dD), .val (.ref b1), .val (.ref b2), .val (.ref b3), .val (.ref b8), .val (.ref b12)] [(.int 1), (.int 2), (.ref b2)])) rfl rfl (hb hby at_207) ?_
       rintro T30 h30 X30 e30 W30 V30
       replace S4 := S4.other W30 (Or.inl (Ne.symm ne_b2_b12))
       replace S5 := S5.other W30 (Or.inl (Ne.symm ne_b2_b12))
       replace E := E.wr W30
       replace Er := Er.wr W30
       replace UeJ := UeJ.wr W30
       replace Vrt := Vrt.other W30 nj_rt_b2
       replace Vix := Vix.other W30 nj_ix_b2
       replace VeJ := VeJ.other W30 ne_b1_b2
       replace VnJ := V30
       have N30 := Fr.snoc X30 N29 gb_b2
       show Go pr ev below _ T30 (mkF m 208 #[.val (.int aA), .val (.int 1), .val (.int 2), .val (.int wW), .val (.int 0), .val (.int kp), .val (.int dD), .val (.ref b1), .val (.ref b2), .val (.ref b3), .val (.ref b8), .val (.ref b12)] [])
       refine Go.of (mkF m 210 #[.val (.int aA), .val (.int 1), .val (.int 2), .val (.int wW), .val (.int 0), .val (.int kp), .val (.int dD), .val (.ref b1), .val (.ref b2), .val (.ref b3), .val (.ref b8), .val (.ref b12)] [(.ref b12)]) (fun _ q => XS.aload X30.here hx rfl (hb hby at_208) rfl rfl q) ?_
       refine Go.of (mkF m 211 #[.val (.int aA), .val (.int 1), .val (.int 2), .val (.int wW), .val (.int 0), .val (.int kp), .val (.int dD), .val (.ref b1), .val (.ref b2), .val (.ref b3), .val (.ref b8), .val (.ref b12)] [(.int 1), (.ref b12)]) (fun _ q => XS.iconst X30.here hx rfl (hb hby at_210) q) ?_
       refine Go.virt X30 hx hZ (y := (⟨"com/example/kiriman/kiriman/route/Positions", "route", "(I)Lcom/example/kiriman/kiriman/route/Route;"⟩ : MethodName)) (z := (⟨"com/example/kiriman/kiriman/route/Positions", "route", "(I)Lcom/example/kiriman/kiriman/route/Route;"⟩ : MethodName)) (a := b12) (argsL := [(.int 1)]) (rest := []) hown (tw189 hw) (tw190 hw) (notFace_of_selects (args := #[]) (mvT hZ (tw192 hw))) (tw192 hw) (tw191 hw) (tw138 hw) (tw193 hw) (by decide) e30 E (rmRo1R l Z a0 hw [] b12 rt b8 yrt h30 S4 Vrt hr1) (g := (mkF m 211 #[.val (.int aA), .val (.int 1), .val (.int 2), .val (.int wW), .val (.int 0), .val (.int kp), .val (.int dD), .val (.ref b1), .val (.ref b2), .val (.ref b3), .val (.ref b8), .val (.ref b12)] [(.int 1), (.ref b12)])) rfl (by rw [hml]; rfl) (lenOf pd44 rfl) rfl (W := 0) (by show 2 * 0 + _ ≤ _; exact Nat.le_of_eq rfl) (hb hby at_211) (by decide) (by decide) (by decide) (by decide) ?_
       rintro T31 L31 v31 X31 ⟨rfl, rfl, hh31⟩
       have N31 := Fr.app N30 (Fr.nil n0)
       show Go pr ev below _ T31 (mkF m 214 #[.val (.int aA), .val (.int 1), .val (.int 2), .val (.int wW), .val (.int 0), .val (.int kp), .val (.int dD), .val (.ref b1), .val (.ref b2), .val (.ref b3), .val (.ref b8), .val (.ref b12)] [(.ref b8)])
       refine Go.of (mkF m 216 #[.val (.int aA), .val (.int 1), .val (.int 2), .val (.int wW), .val (.int 0), .val (.int kp), .val (.int dD), .val (.ref b1), .val (.ref b2), .val (.ref b3), .val (.ref b8), .val (.ref b12)] [(.ref b1), (.ref b8)]) (fun _ q => XS.aload X31.here hx rfl (hb hby at_214) rfl rfl q) ?_
       refine Go.of (mkF m 217 #[.val (.int aA), .val (.int 1), .val (.int 2), .val (.int wW), .val (.int 0), .val (.int kp), .val (.int dD), .val (.ref b1), .val (.ref b2), .val (.ref b3), .val (.ref b8), .val (.ref b12)] [(.int 1), (.ref b1), (.ref b8)]) (fun _ q => XS.iconst X31.here hx rfl (hb hby at_216) q) ?_
       refine Go.aaload X31 hx hZ hh31 VeJ rfl (by decide) (by decide) (g := (mkF m 217 #[.val (.int aA), .val (.int 1), .val (.int 2), .val (.int wW), .val (.int 0), .val (.int kp), .val (.int dD), .val (.ref b1), .val (.ref b2), .val (.ref b3), .val (.ref b8), .val (.ref b12)] [(.int 1), (.ref b1), (.ref b8)])) rfl rfl (hb hby at_217) ?_
       show Go pr ev below _ T31 (mkF m 218 #[.val (.int aA), .val (.int 1), .val (.int 2), .val (.int wW), .val (.int 0), .val (.int kp), .val (.int dD), .val (.ref b1), .val (.ref b2), .val (.ref b3), .val (.ref b8), .val (.ref b12)] [((fnup (fnup (fun _ => Value.null) (1 : Int32) (.ref b8)) (2 : Int32) (.ref b8)) (1 : Int32)), (.ref b8)])
       rw [show ((fnup (fnup (fun _ => Value.null) (1 : Int32) (.ref b8)) (2 : Int32) (.ref b8)) (1 : Int32)) = (.ref b8) from by first | rfl | simp [fnup]]
       refine Go.of (mkF m 221 #[.val (.int aA), .val (.int 1), .val (.int 2), .val (.int wW), .val (.int 0), .val (.int kp), .val (.int dD), .val (.ref b1), .val (.ref b2), .val (.ref b3), .val (.ref b8), .val (.ref b12)] []) (fun _ q => Jvm.RoadKit.acmp (g := (mkF m 218 #[.val (.int aA), .val (.int 1), .val (.int 2), .val (.int wW), .val (.int 0), .val (.int kp), .val (.int dD), .val (.ref b1), .val (.ref b2), .val (.ref b3), .val (.ref b8), .val (.ref b12)] [(.ref b8), (.ref b8)])) X31 hx rfl (x := (.ref b8)) (y := (.ref b8)) rfl rfl (pc0 := 218) (pc' := 221) (same := true) rfl (hb hby at_218) rfl (decide_eq_true rfl) (by decide) (by decide) q) ?_
       refine Go.of (mkF m 223 #[.val (.int aA), .val (.int 1), .val (.int 2), .val (.int wW), .val (.int 0), .val (.int kp), .val (.int dD), .val (.ref b1), .val (.ref b2), .val (.ref b3), .val (.ref b8), .val (.ref b12)] [(.ref b12)]) (fun _ q => XS.aload X31.here hx rfl (hb hby at_221) rfl rfl q) ?_
       refine Go.of (mkF m 224 #[.val (.int aA), .val (.int 1), .val (.int 2), .val (.int wW), .val (.int 0), .val (.int kp), .val (.int dD), .val (.ref b1), .val (.ref b2), .val (.ref b3), .val (.ref b8), .val (.ref b12)] [(.int 1), (.ref b12)]) (fun _ q => XS.iconst X31.here hx rfl (hb hby at_223) q) ?_
       refine Go.virt X31 hx hZ (y := (⟨"com/example/kiriman/kiriman/route/Positions", "index", "(I)I"⟩ : MethodName)) (z := (⟨"com/example/kiriman/kiriman/route/Positions", "index", "(I)I"⟩ : MethodName)) (a := b12) (argsL := [(.int 1)]) (rest := []) hown (tw194 hw) (tw195 hw) (notFace_of_selects (args := #[]) (mvT hZ (tw197 hw))) (tw197 hw) (tw196 hw) (tw138 hw) (tw198 hw) (by decide) hh31 E (rmIx1 l Z a0 hw [] b12 ix (0 : Int32) yix h30 S5 Vix hi1) (g := (mkF m 224 #[.val (.int aA), .val (.int 1), .val (.int 2), .val (.int wW), .val (.int 0), .val (.int kp), .val (.int dD), .val (.ref b1), .val (.ref b2), .val (.ref b3), .val (.ref b8), .val (.ref b12)] [(.int 1), (.ref b12)])) rfl (by rw [hml]; rfl) (lenOf pd25 rfl) rfl (W := 0) (by show 2 * 0 + _ ≤ _; exact Nat.le_of_eq rfl) (hb hby at_224) (by decide) (by decide) (by decide) (by decide) ?_
       rintro T32 L32 v32 X32 ⟨rfl, rfl, hh32⟩
       have N32 := Fr.app N31 (Fr.nil n0)
       show Go pr ev below _ T32 (mkF m 227 #[.val (.int aA), .val (.int 1), .val (.int 2), .val (.int wW), .val (.int 0), .val (.int kp), .val (.int dD), .val (.ref b1), .val (.ref b2), .val (.ref b3), .val (.ref b8), .val (.ref b12)] [(.int 0)])
       refine Go.of (mkF m 229 #[.val (.int aA), .val (.int 1), .val (.int 2), .val (.int wW), .val (.int 0), .val (.int kp), .val (.int dD), .val (.ref b1), .val (.ref b2), .val (.ref b3), .val (.ref b8), .val (.ref b12)] [(.ref b2), (.int 0)]) (fun _ q => XS.aload X32.here hx rfl (hb hby at_227) rfl rfl q) ?_
       refine Go.of (mkF m 230 #[.val (.int aA), .val (.int 1), .val (.int 2), .val (.int wW), .val (.int 0), .val (.int kp), .val (.int dD), .val (.ref b1), .val (.ref b2), .val (.ref b3), .val (.ref b8), .val (.ref b12)] [(.int 1), (.ref b2), (.int 0)]) (fun _ q => XS.iconst X32.here hx rfl (hb hby at_229) q) ?_
       refine Go.iaload X32 hx hZ hh32 VnJ (by decide) (by decide) (g := (mkF m 230 #[.val (.int aA), .val (.int 1), .val (.int 2), .val (.int wW), .val (.int 0), .val (.int kp), .val (.int dD), .val (.ref b1), .val (.ref b2), .val (.ref b3), .val (.ref b8), .val (.ref b12)] [(.int 1), (.ref b2), (.int 0)])) rfl rfl (hb hby at_230) ?_
       show Go pr ev below _ T32 (mkF m 231 #[.val (.int aA), .val (.int 1), .val (.int 2), .val (.int wW), .val (.int 0), .val (.int kp), .val (.int dD), .val (.ref b1), .val (.ref b2), .val (.ref b3), .val (.ref b8), .val (.ref b12)] [(.int ((fnup (fnup (fun _ => (0 : Int32)) (1 : Int32) (0 : Int32)) (2 : Int32) (1 : Int32)) (1 : Int32))), (.int 0)])
       rw [show ((fnup (fnup (fun _ => (0 : Int32)) (1 : Int32) (0 : Int32)) (2 : Int32) (1 : Int32)) (1 : Int32)) = (0 : Int32) from by first | rfl | simp [fnup]]
       refine Go.of (mkF m 234 #[.val (.int aA), .val (.int 1), .val (.int 2), .val (.int wW), .val (.int 0), .val (.int kp), .val (.int dD), .val (.ref b1), .val (.ref b2), .val (.ref b3), .val (.ref b8), .val (.ref b12)] []) (fun _ q => XS.icmpNo X32.here hx rfl (hb hby at_231) rfl (teq (by decide)).2 q) ?_
       refine Go.of (mkF m 236 #[.val (.int aA), .val (.int 1), .val (.int 2), .val (.int wW), .val (.int 0), .val (.int kp), .val (.int dD), .val (.ref b1), .val (.ref b2), .val (.ref b3), .val (.ref b8), .val (.ref b12)] [(.ref b12)]) (fun _ q => XS.aload X32.here hx rfl (hb hby at_234) rfl rfl q) ?_
       refine Go.of (mkF m 237 #[.val (.int aA), .val (.int 1), .val (.int 2), .val (.int wW), .val (.int 0), .val (.int kp), .val (.int dD), .val (.ref b1), .val (.ref b2), .val (.ref b3), .val (.ref b8), .val (.ref b12)] [(.int 2), (.ref b12)]) (fun _ q => XS.iconst X32.here hx rfl (hb hby at_236) q) ?_
       refine Go.virt X32 hx hZ (y := (⟨"com/example/kiriman/kiriman/route/Positions", "route", "(I)Lcom/example/kiriman/kiriman/route/Route;"⟩ : MethodName)) (z := (⟨"com/example/kiriman/kiriman/route/Positions", "route", "(I)Lcom/example/kiriman/kiriman/route/Route;"⟩ : MethodName)) (a := b12) (argsL := [(.int 2)]) (rest := []) hown (tw189 hw) (tw190 hw) (notFace_of_selects (args := #[]) (mvT hZ (tw192 hw))) (tw192 hw) (tw191 hw) (tw138 hw) (tw193 hw) (by decide) hh32 E (rmRo2R l Z a0 hw [] b12 rt b8 yrt h30 S4 Vrt hr2) (g := (mkF m 237 #[.val (.int aA), .val (.int 1), .val (.int 2), .val (.int wW), .val (.int 0), .val (.int kp), .val (.int dD), .val (.ref b1), .val (.ref b2), .val (.ref b3), .val (.ref b8), .val (.ref b12)] [(.int 2), (.ref b12)])) rfl (by rw [hml]; rfl) (lenOf pd44 rfl) rfl (W := 0) (by show 2 * 0 + _ ≤ _; exact Nat.le_of_eq rfl) (hb hby at_237) (by decide) (by decide) (by decide) (by decide) ?_
       rintro T33 L33 v33 X33 ⟨rfl, rfl, hh33⟩
       have N33 := Fr.app N32 (Fr.nil n0)
       show Go pr ev below _ T33 (mkF m 240 #[.val (.int aA), .val (.int 1), .val (.int 2), .val (.int wW), .val (.int 0), .val (.int kp), .val (.int dD), .val (.ref b1), .val (.ref b2), .val (.ref b3), .val (.ref b8), .val (.ref b12)] [(.ref b8)])
       refine Go.of (mkF m 242 #[.val (.int aA), .val (.int 1), .val (.int 2), .val (.int wW), .val (.int 0), .val (.int kp), .val (.int dD), .val (.ref b1), .val (.ref b2), .val (.ref b3), .val (.ref b8), .val (.ref b12)] [(.ref b1), (.ref b8)]) (fun _ q => XS.aload X33.here hx rfl (hb hby at_240) rfl rfl q) ?_
       refine Go.of (mkF m 243 #[.val (.int aA), .val (.int 1), .val (.int 2), .val (.int wW), .val (.int 0), .val (.int kp), .val (.int dD), .val (.ref b1), .val (.ref b2), .val (.ref b3), .val (.ref b8), .val (.ref b12)] [(.int 2), (.ref b1), (.ref b8)]) (fun _ q => XS.iconst X33.here hx rfl (hb hby at_242) q) ?_
       refine Go.aaload X33 hx hZ hh33 VeJ rfl (by decide) (by decide) (g := (mkF m 243 #[.val (.int aA), .val (.int 1), .val (.int 2), .val (.int wW), .val (.int 0), .val (.int kp), .val (.int dD), .val (.ref b1), .val (.ref b2), .val (.ref b3), .val (.ref b8), .val (.ref b12)] [(.int 2), (.ref b1), (.ref b8)])) rfl rfl (hb hby at_243) ?_
       show Go pr ev below _ T33 (mkF m 244 #[.val (.int aA), .val (.int 1), .val (.int 2), .val (.int wW), .val (.int 0), .val (.int kp), .val (.int dD), .val (.ref b1), .val (.ref b2), .val (.ref b3), .val (.ref b8), .val (.ref b12)] [((fnup (fnup (fun _ => Value.null) (1 : Int32) (.ref b8)) (2 : Int32) (.ref b8)) (2 : Int32)), (.ref b8)])
       rw [show ((fnup (fnup (fun _ => Value.null) (1 : Int32) (.ref b8)) (2 : Int32) (.ref b8)) (2 : Int32)) = (.ref b8) from by first | rfl | simp [fnup]]
       refine Go.of (mkF m 247 #[.val (.int aA), .val (.int 1), .val (.int 2), .val (.int wW), .val (.int 0), .val (.int kp), .val (.int dD), .val (.ref b1), .val (.ref b2), .val (.ref b3), .val (.ref b8), .val (.ref b12)] []) (fun _ q => Jvm.RoadKit.acmp (g := (mkF m 244 #[.val (.int aA), .val (.int 1), .val (.int 2), .val (.int wW), .val (.int 0), .val (.int kp), .val (.int dD), .val (.ref b1), .val (.ref b2), .val (.ref b3), .val (.ref b8), .val (.ref b12)] [(.ref b8), (.ref b8)])) X33 hx rfl (x := (.ref b8)) (y := (.ref b8)) rfl rfl (pc0 := 244) (pc' := 247) (same := true) rfl (hb hby at_244) rfl (decide_eq_true rfl) (by decide) (by decide) q) ?_
       refine Go.of (mkF m 249 #[.val (.int aA), .val (.int 1), .val (.int 2), .val (.int wW), .val (.int 0), .val (.int kp), .val (.int dD), .val (.ref b1), .val (.ref b2), .val (.ref b3), .val (.ref b8), .val (.ref b12)] [(.ref b12)]) (fun _ q => XS.aload X33.here hx rfl (hb hby at_247) rfl rfl q) ?_
       refine Go.of (mkF m 250 #[.val (.int aA), .val (.int 1), .val (.int 2), .val (.int wW), .val (.int 0), .val (.int kp), .val (.int dD), .val (.ref b1), .val (.ref b2), .val (.ref b3), .val (.ref b8), .val (.ref b12)] [(.int 2), (.ref b12)]) (fun _ q => XS.iconst X33.here hx rfl (hb hby at_249) q) ?_
       refine Go.virt X33 hx hZ (y := (⟨"com/example/kiriman/kiriman/route/Positions", "index", "(I)I"⟩ : MethodName)) (z := (⟨"com/example/kiriman/kiriman/route/Positions", "index", "(I)I"⟩ : MethodName)) (a := b12) (argsL := [(.int 2)]) (rest := []) hown (tw194 hw) (tw195 hw) (notFace_of_selects (args := #[]) (mvT hZ (tw197 hw))) (tw197 hw) (tw196 hw) (tw138 hw) (tw198 hw) (by decide) hh33 E (rmIx2 l Z a0 hw [] b12 ix (1 : Int32) yix h30 S5 Vix hi2) (g := (mkF m 250 #[.val (.int aA), .val (.int 1), .val (.int 2), .val (.int wW), .val (.int 0), .val (.int kp), .val (.int dD), .val (.ref b1), .val (.ref b2), .val (.ref b3), .val (.ref b8), .val (.ref b12)] [(.int 2), (.ref b12)])) rfl (by rw [hml]; rfl) (lenOf pd25 rfl) rfl (W := 0) (by show 2 * 0 + _ ≤ _; exact Nat.le_of_eq rfl) (hb hby at_250) (by decide) (by decide) (by decide) (by decide) ?_
       rintro T34 L34 v34 X34 ⟨rfl, rfl, hh34⟩
       have N34 := Fr.app N33 (Fr.nil n0)
       show Go pr ev below _ T34 (mkF m 253 #[.val (.int aA), .val (.int 1), .val (.int 2), .val (.int wW), .val (.int 0), .val (.int kp), .val (.int dD), .val (.ref b1), .val (.ref b2), .val (.ref b3), .val (.ref b8), .val (.ref b12)] [(.int 1)])
       refine Go.of (mkF m 255 #[.val (.int aA), .val (.int 1), .val (.int 2), .val (.int wW), .val (.int 0), .val (.int kp), .val (.int dD), .val (.ref b1), .val (.ref b2), .val (.ref b3), .val (.ref b8), .val (.ref b12)] [(.ref b2), (.int 1)]) (fun _ q => XS.aload X34.here hx rfl (hb hby at_253) rfl rfl q) ?_
       refine Go.of (mkF m 256 #[.val (.int aA), .val (.int 1), .val (.int 2), .val (.int wW), .val (.int 0), .val (.int kp), .val (.int dD), .val (.ref b1), .val (.ref b2), .val (.ref b3), .val (.ref b8), .val (.ref b12)] [(.int 2), (.ref b2), (.int 1)]) (fun _ q => XS.iconst X34.here hx rfl (hb hby at_255) q) ?_
       refine Go.iaload X34 hx hZ hh34 VnJ (by decide) (by decide) (g := (mkF m 256 #[.val (.int aA), .val (.int 1), .val (.int 2), .val (.int wW), .val (.int 0), .val (.int kp), .val (.int dD), .val (.ref b1), .val (.ref b2), .val (.ref b3), .val (.ref b8), .val (.ref b12)] [(.int 2), (.ref b2), (.int 1)])) rfl rfl (hb hby at_256) ?_
       show Go pr ev below _ T34 (mkF m 257 #[.val (.int aA), .val (.int 1), .val (.int 2), .val (.int wW), .val (.int 0), .val (.int kp), .val (.int dD), .val (.ref b1), .val (.ref b2), .val (.ref b3), .val (.ref b8), .val (.ref b12)] [(.int ((fnup (fnup (fun _ => (0 : Int32)) (1 : Int32) (0 : Int32)) (2 : Int32) (1 : Int32)) (2 : Int32))), (.int 1)])
       rw [show ((fnup (fnup (fun _ => (0 : Int32)) (1 : Int32) (0 : Int32)) (2 : Int32) (1 : Int32)) (2 : Int32)) = (1 : Int32) from by first | rfl | simp [fnup]]
       refine Go.of (mkF m 260 #[.val (.int aA), .val (.int 1), .val (.int 2), .val (.int wW), .val (.int 0), .val (.int kp), .val (.int dD), .val (.ref b1), .val (.ref b2), .val (.ref b3), .val (.ref b8), .val (.ref b12)] []) (fun _ q => XS.icmpNo X34.here hx rfl (hb hby at_257) rfl (teq (by decide)).2 q) ?_
       refine Go.of (mkF m 261 #[.val (.int aA), .val (.int 1), .val (.int 2), .val (.int wW), .val (.int 0), .val (.int kp), .val (.int dD), .val (.ref b1), .val (.ref b2), .val (.ref b3), .val (.ref b8), .val (.ref b12)] [(.int 1)]) (fun _ q => XS.iconst X34.here hx rfl (hb hby at_260) q) ?_
       refine Go.of (mkF m 265 #[.val (.int aA), .val (.int 1), .val (.int 2), .val (.int wW), .val (.int 0), .val (.int kp), .val (.int dD), .val (.ref b1), .val (.ref b2), .val (.ref b3), .val (.ref b8), .val (.ref b12)] [(.int 1)]) (fun _ q => XS.goto X34.here hx rfl (pc0 := 261) (pc' := 265) rfl (hb hby at_261) (by decide) (by decide) q) ?_
       exact Go.retW X34 hx (t := .boolean) hret hlk rfl (Or.inl ⟨rfl, by simp, _, rfl⟩) (hb hby at_265) (by decide) (by decide) ⟨rfl, N34⟩
     ·
      rcases hvV with rfl | rfl
      ·
       replace hr1 : yrt 1 = (.ref b8) := by rw [hr1]; simp [own_R]
       replace hi1 : yix 1 = (1 : Int32) := by rw [hi1]; simp [own_I]
       replace hr2 : yrt 2 = (.ref b8) := by rw [hr2]; simp [own_R]
       replace hi2 : yix 2 = (0 : Int32) := by rw [hi2]; simp [own_I]
       refine Go.of (mkF m 171 #[.val (.int aA), .val (.int 2), .val (.int 1), .val (.int wW), .val (.int 0), .val (.int kp), .val (.int dD), .val (.ref b1), .val (.ref b2), .val (.ref b3), .val (.ref b8), .val (.ref b12)] [(.int kp)]) (fun _ q => XS.iload XJ.here hx rfl (hb hby at_169) rfl q) ?_
       refine Go.of (mkF m 172 #[.val (.int aA), .val (.int 2), .val (.int 1), .val (.int wW), .val (.int 0), .val (.int kp), .val (.int dD), .val (.ref b1), .val (.ref b2), .val (.ref b3), .val (.ref b8), .val (.ref b12)] [(.int 1), (.int kp)]) (fun _ q => XS.iconst XJ.here hx rfl (hb hby at_171) q) ?_
       refine Go.of (mkF m 175 #[.val (.int aA), .val (.int 2), .val (.int 1), .val (.int wW), .val (.int 0), .val (.int kp), .val (.int dD), .val (.ref b1), .val (.ref b2), .val (.ref b3), .val (.ref b8), .val (.ref b12)] []) (fun _ q => XS.icmpNo XJ.here hx rfl (hb hby at_172) rfl (flt hk1).1 q) ?_
       refine Go.of (mkF m 177 #[.val (.int aA), .val (.int 2), .val (.int 1), .val (.int wW), .val (.int 0), .val (.int kp), .val (.int dD), .val (.ref b1), .val (.ref b2), .val (.ref b3), .val (.ref b8), .val (.ref b12)] [(.int 0)]) (fun _ q => XS.iload XJ.here hx rfl (hb hby at_175) rfl q) ?_
       refine Go.of (mkF m 180 #[.val (.int aA), .val (.int 2), .val (.int 1), .val (.int wW), .val (.int 0), .val (.int kp), .val (.int dD), .val (.ref b1), .val (.ref b2), .val (.ref b3), .val (.ref b8), .val (.ref b12)] []) (fun _ q => XS.ifNo XJ.here hx rfl (hb hby at_177) rfl ((if0 _ _).trans (teq (by decide)).2) q) ?_
       refine Go.of (mkF m 182 #[.val (.int aA), .val (.int 2), .val (.int 1), .val (.int wW), .val (.int 0), .val (.int kp), .val (.int dD), .val (.ref b1), .val (.ref b2), .val (.ref b3), .val (.ref b8), .val (.ref b12)] [(.ref b1)]) (fun _ q => XS.aload XJ.here hx rfl (hb hby at_180) rfl rfl q) ?_
       refine Go.of (mkF m 183 #[.val (.int aA), .val (.int 2), .val (.int 1), .val (.int wW), .val (.int 0), .val (.int kp), .val (.int dD), .val (.ref b1), .val (.ref b2), .val (.ref b3), .val (.ref b8), .val (.ref b12)] [(.int 2), (.ref b1)]) (fun _ q => XS.iloadN XJ.here hx rfl (hb hby at_182) rfl q) ?_
       refine Go.of (mkF m 185 #[.val (.int aA), .val (.int 2), .val (.int 1), .val (.int wW), .val (.int 0), .val (.int kp), .val (.int dD), .val (.ref b1), .val (.ref b2), .val (.ref b3), .val (.ref b8), .val (.ref b12)] [(.ref b8), (.int 2), (.ref b1)]) (fun _ q => XS.aload XJ.here hx rfl (hb hby at_183) rfl rfl q) ?_
       refine Go.aastore XJ hx hZ eJ VeJ rfl rfl (Fa.sto VeJ UeJ (Ins.self Er)) (by decide) (by decide) (g := (mkF m 185 #[.val (.int aA), .val (.int 2), .val (.int 1), .val (.int wW), .val (.int 0), .val (.int kp), .val (.int dD), .val (.ref b1), .val (.ref b2), .val (.ref b3), .val (.ref b8), .val (.ref b12)] [(.ref b8), (.int 2), (.ref b1)])) rfl rfl (hb hby at_185) ?_
       rintro T35 h35 X35 e35 W35 V35
       replace S4 := S4.other W35 (Or.inl (Ne.symm ne_b1_b12))
       replace S5 := S5.other W35 (Or.inl (Ne.symm ne_b1_b12))
       replace E := E.wr W35
       replace Er := Er.wr W35
       replace UeJ := UeJ.wr W35
       replace Vrt := Vrt.other W35 nj_rt_b1
       replace Vix := Vix.other W35 nj_ix_b1
       replace VnJ := VnJ.other W35 (Ne.symm ne_b1_b2)
       replace VeJ := V35
       have N35 := Fr.snoc X35 NJ gb_b1
       show Go pr ev below _ T35 (mkF m 186 #[.val (.int aA), .val (.int 2), .val (.int 1), .val (.int wW), .val (.int 0), .val (.int kp), .val (.int dD), .val (.ref b1), .val (.ref b2), .val (.ref b3), .val (.ref b8), .val (.ref b12)] [])
       refine Go.of (mkF m 188 #[.val (.int aA), .val (.int 2), .val (.int 1), .val (.int wW), .val (.int 0), .val (.int kp), .val (.int dD), .val (.ref b1), .val (.ref b2), .val (.ref b3), .val (.ref b8), .val (.ref b12)] [(.ref b2)]) (fun _ q => XS.aload X35.here hx rfl (hb hby at_186) rfl rfl q) ?_
       refine Go.of (mkF m 189 #[.val (.int aA), .val (.int 2), .val (.int 1), .val (.int wW), .val (.int 0), .val (.int kp), .val (.int dD), .val (.ref b1), .val (.ref b2), .val (.ref b3), .val (.ref b8), .val (.ref b12)] [(.int 2), (.ref b2)]) (fun _ q => XS.iloadN X35.here hx rfl (hb hby at_188) rfl q) ?_
       refine Go.of (mkF m 190 #[.val (.int aA), .val (.int 2), .val (.int 1), .val (.int wW), .val (.int 0), .val (.int kp), .val (.int dD), .val (.ref b1), .val (.ref b2), .val (.ref b3), .val (.ref b8), .val (.ref b12)] [(.int 0), (.int 2), (.ref b2)]) (fun _ q => XS.iconst X35.here hx rfl (hb hby at_189) q) ?_
       refine Go.iastore X35 hx hZ e35 VnJ (by decide) (by decide) (g := (mkF m 190 #[.val (.int aA), .val (.int 2), .val (.int 1), .val (.int wW), .val (.int 0), .val (.int kp), .val (.int dD), .val (.ref b1), .val (.ref b2), .val (.ref b3), .val (.ref b8), .val (.ref b12)] [(.int 0), (.int 2), (.ref b2)])) rfl rfl (hb hby at_190) ?_
       rintro T36 h36 X36 e36 W36 V36
       replace S4 := S4.other W36 (Or.inl (Ne.symm ne_b2_b12))
       replace S5 := S5.other W36 (Or.inl (Ne.symm ne_b2_b12))
       replace E := E.wr W36
       replace Er := Er.wr W36
       replace UeJ := UeJ.wr W36
       replace Vrt := Vrt.other W36 nj_rt_b2
       replace Vix := Vix.other W36 nj_ix_b2
       replace VeJ := VeJ.other W36 ne_b1_b2
       replace VnJ := V36
       have N36 := Fr.snoc X36 N35 gb_b2
       show Go pr ev below _ T36 (mkF m 191 #[.val (.int aA), .val (.int 2), .val (.int 1), .val (.int wW), .val (.int 0), .val (.int kp), .val (.int dD), .val (.ref b1), .val (.ref b2), .val (.ref b3), .val (.ref b8), .val (.ref b12)] [])
       refine Go.of (mkF m 193 #[.val (.int aA), .val (.int 2), .val (.int 1), .val (.int wW), .val (.int 0), .val (.int kp), .val (.int dD), .val (.ref b1), .val (.ref b2), .val (.ref b3), .val (.ref b8), .val (.ref b12)] [(.int 0)]) (fun _ q => XS.iload X36.here hx rfl (hb hby at_191) rfl q) ?_
       refine Go.of (mkF m 194 #[.val (.int aA), .val (.int 2), .val (.int 1), .val (.int wW), .val (.int 0), .val (.int kp), .val (.int dD), .val (.ref b1), .val (.ref b2), .val (.ref b3), .val (.ref b8), .val (.ref b12)] [(.int 1), (.int 0)]) (fun _ q => XS.iconst X36.here hx rfl (hb hby at_193) q) ?_
       refine Go.of (mkF m 197 #[.val (.int aA), .val (.int 2), .val (.int 1), .val (.int wW), .val (.int 0), .val (.int kp), .val (.int dD), .val (.ref b1), .val (.ref b2), .val (.ref b3), .val (.ref b8), .val (.ref b12)] []) (fun _ q => XS.icmpNo X36.here hx rfl (hb hby at_194) rfl (flt (by decide)).2.2.1 q) ?_
       refine Go.of (mkF m 199 #[.val (.int aA), .val (.int 2), .val (.int 1), .val (.int wW), .val (.int 0), .val (.int kp), .val (.int dD), .val (.ref b1), .val (.ref b2), .val (.ref b3), .val (.ref b8), .val (.ref b12)] [(.ref b1)]) (fun _ q => XS.aload X36.here hx rfl (hb hby at_197) rfl rfl q) ?_
       refine Go.of (mkF m 200 #[.val (.int aA), .val (.int 2), .val (.int 1), .val (.int wW), .val (.int 0), .val (.int kp), .val (.int dD), .val (.ref b1), .val (.ref b2), .val (.ref b3), .val (.ref b8), .val (.ref b12)] [(.int 1), (.ref b1)]) (fun _ q => XS.iloadN X36.here hx rfl (hb hby at_199) rfl q) ?_
       refine Go.of (mkF m 202 #[.val (.int aA), .val (.int 2), .val (.int 1), .val (.int wW), .val (.int 0), .val (.int kp), .val (.int dD), .val (.ref b1), .val (.ref b2), .val (.ref b3), .val (.ref b8), .val (.ref b12)] [(.ref b8), (.int 1), (.ref b1)]) (fun _ q => XS.aload X36.here hx rfl (hb hby at_200) rfl rfl q) ?_
       refine Go.aastore X36 hx hZ e36 VeJ rfl rfl (Fa.sto VeJ UeJ (Ins.self Er)) (by decide) (by decide) (g := (mkF m 202 #[.val (.int aA), .val (.int 2), .val (.int 1), .val (.int wW), .val (.int 0), .val (.int kp), .val (.int dD), .val (.ref b1), .val (.ref b2), .val (.ref b3), .val (.ref b8), .val (.ref b12)] [(.ref b8), (.int 1), (.ref b1)])) rfl rfl (hb hby at_202) ?_
       rintro T37 h37 X37 e37 W37 V37
       replace S4 := S4.other W37 (Or.inl (Ne.symm ne_b1_b12))
       replace S5 := S5.other W37 (Or.inl (Ne.symm ne_b1_b12))
       replace E := E.wr W37
       replace Er := Er.wr W37
       replace UeJ := UeJ.wr W37
       replace Vrt := Vrt.other W37 nj_rt_b1
       replace Vix := Vix.other W37 nj_ix_b1
       replace VnJ := VnJ.other W37 (Ne.symm ne_b1_b2)
       replace VeJ := V37
       have N37 := Fr.snoc X37 N36 gb_b1
       show Go pr ev below _ T37 (mkF m 203 #[.val (.int aA), .val (.int 2), .val (.int 1), .val (.int wW), .val (.int 0), .val (.int kp), .val (.int dD), .val (.ref b1), .val (.ref b2), .val (.ref b3), .val (.ref b8), .val (.ref b12)] [])
       refine Go.of (mkF m 205 #[.val (.int aA), .val (.int 2), .val (.int 1), .val (.int wW), .val (.int 0), .val (.int kp), .val (.int dD), .val (.ref b1), .val (.ref b2), .val (.ref b3), .val (.ref b8), .val (.ref b12)] [(.ref b2)]) (fun _ q => XS.aload X37.here hx rfl (hb hby at_203) rfl rfl q) ?_
       refine Go.of (mkF m 206 #[.val (.int aA), .val (.int 2), .val (.int 1), .val (.int wW), .val (.int 0), .val (.int kp), .val (.int dD), .val (.ref b1), .val (.ref b2), .val (.ref b3), .val (.ref b8), .val (.ref b12)] [(.int 1), (.ref b2)]) (fun _ q => XS.iloadN X37.here hx rfl (hb hby at_205) rfl q) ?_
       refine Go.of (mkF m 207 #[.val (.int aA), .val (.int 2), .val (.int 1), .val (.int wW), .val (.int 0), .val (.int kp), .val (.int dD), .val (.ref b1), .val (.ref b2), .val (.ref b3), .val (.ref b8), .val (.ref b12)] [(.int 1), (.int 1), (.ref b2)]) (fun _ q => XS.iconst X37.here hx rfl (hb hby at_206) q) ?_
       refine Go.iastore X37 hx hZ e37 VnJ (by decide) (by decide) (g := (mkF m 207 #[.val (.int aA), .val (.int 2), .val (.int 1), .val (.int wW), .val (.int 0), .val (.int kp), .val (.int dD), .val (.ref b1), .val (.ref b2), .val (.ref b3), .val (.ref b8), .val (.ref b12)] [(.int 1), (.int 1), (.ref b2)])) rfl rfl (hb hby at_207) ?_
       rintro T38 h38 X38 e38 W38 V38
       replace S4 := S4.other W38 (Or.inl (Ne.symm ne_b2_b12))
       replace S5 := S5.other W38 (Or.inl (Ne.symm ne_b2_b12))
       replace E := E.wr W38
       replace Er := Er.wr W38
       replace UeJ := UeJ.wr W38
       replace Vrt := Vrt.other W38 nj_rt_b2
       replace Vix := Vix.other W38 nj_ix_b2
       replace VeJ := VeJ.other W38 ne_b1_b2
       replace VnJ := V38
       have N38 := Fr.snoc X38 N37 gb_b2
       show Go pr ev below _ T38 (mkF m 208 #[.val (.int aA), .val (.int 2), .val (.int 1), .val (.int wW), .val (.int 0), .val (.int kp), .val (.int dD), .val (.ref b1), .val (.ref b2), .val (.ref b3), .val (.ref b8), .val (.ref b12)] [])
       refine Go.of (mkF m 210 #[.val (.int aA), .val (.int 2), .val (.int 1), .val (.int wW), .val (.int 0), .val (.int kp), .val (.int dD), .val (.ref b1), .val (.ref b2), .val (.ref b3), .val (.ref b8), .val (.ref b12)] [(.ref b12)]) (fun _ q => XS.aload X38.here hx rfl (hb hby at_208) rfl rfl q) ?_
       refine Go.of (mkF m 211 #[.val (.int aA), .val (.int 2), .val (.int 1), .val (.int wW), .val (.int 0), .val (.int kp), .val (.int dD), .val (.ref b1), .val (.ref b2), .val (.ref b3), .val (.ref b8), .val (.ref b12)] [(.int 1), (.ref b12)]) (fun _ q => XS.iconst X38.here hx rfl (hb hby at_210) q) ?_
       refine Go.virt X38 hx hZ (y := (⟨"com/example/kiriman/kiriman/route/Positions", "route", "(I)Lcom/example/kiriman/kiriman/route/Route;"⟩ : MethodName)) (z := (⟨"com/example/kiriman/kiriman/route/Positions", "route", "(I)Lcom/example/kiriman/kiriman/route/Route;"⟩ : MethodName)) (a := b12) (argsL := [(.int 1)]) (rest := []) hown (tw189 hw) (tw190 hw) (notFace_of_selects (args := #[]) (mvT hZ (tw192 hw))) (tw192 hw) (tw191 hw) (tw138 hw) (tw193 hw) (by decide) e38 E (rmRo1R l Z a0 hw [] b12 rt b8 yrt h38 S4 Vrt hr1) (g := (mkF m 211 #[.val (.int aA), .val (.int 2), .val (.int 1), .val (.int wW), .val (.int 0), .val (.int kp), .val (.int dD), .val (.ref b1), .val (.ref b2), .val (.ref b3), .val (.ref b8), .val (.ref b12)] [(.int 1), (.ref b12)])) rfl (by rw [hml]; rfl) (lenOf pd44 rfl) rfl (W := 0) (by show 2 * 0 + _ ≤ _; exact Nat.le_of_eq rfl) (hb hby at_211) (by decide) (by decide) (by decide) (by decide) ?_
       rintro T39 L39 v39 X39 ⟨rfl, rfl, hh39⟩
       have N39 := Fr.app N38 (Fr.nil n0)
       show Go pr ev below _ T39 (mkF m 214 #[.val (.int aA), .val (.int 2), .val (.int 1), .val (.int wW), .val (.int 0), .val (.int kp), .val (.int dD), .val (.ref b1), .val (.ref b2), .val (.ref b3), .val (.ref b8), .val (.ref b12)] [(.ref b8)])
       refine Go.of (mkF m 216 #[.val (.int aA), .val (.int 2), .val (.int 1), .val (.int wW), .val (.int 0), .val (.int kp), .val (.int dD), .val (.ref b1), .val (.ref b2), .val (.ref b3), .val (.ref b8), .val (.ref b12)] [(.ref b1), (.ref b8)]) (fun _ q => XS.aload X39.here hx rfl (hb hby at_214) rfl rfl q) ?_
       refine Go.of (mkF m 217 #[.val (.int aA), .val (.int 2), .val (.int 1), .val (.int wW), .val (.int 0), .val (.int kp), .val (.int dD), .val (.ref b1), .val (.ref b2), .val (.ref b3), .val (.ref b8), .val (.ref b12)] [(.int 1), (.ref b1), (.ref b8)]) (fun _ q => XS.iconst X39.here hx rfl (hb hby at_216) q) ?_
       refine Go.aaload X39 hx hZ hh39 VeJ rfl (by decide) (by decide) (g := (mkF m 217 #[.val (.int aA), .val (.int 2), .val (.int 1), .val (.int wW), .val (.int 0), .val (.int kp), .val (.int dD), .val (.ref b1), .val (.ref b2), .val (.ref b3), .val (.ref b8), .val (.ref b12)] [(.int 1), (.ref b1), (.ref b8)])) rfl rfl (hb hby at_217) ?_
       show Go pr ev below _ T39 (mkF m 218 #[.val (.int aA), .val (.int 2), .val (.int 1), .val (.int wW), .val (.int 0), .val (.int kp), .val (.int dD), .val (.ref b1), .val (.ref b2), .val (.ref b3), .val (.ref b8), .val (.ref b12)] [((fnup (fnup (fun _ => Value.null) (2 : Int32) (.ref b8)) (1 : Int32) (.ref b8)) (1 : Int32)), (.ref b8)])
       rw [show ((fnup (fnup (fun _ => Value.null) (2 : Int32) (.ref b8)) (1 : Int32) (.ref b8)) (1 : Int32)) = (.ref b8) from by first | rfl | simp [fnup]]
       refine Go.of (mkF m 221 #[.val (.int aA), .val (.int 2), .val (.int 1), .val (.int wW), .val (.int 0), .val (.int kp), .val (.int dD), .val (.ref b1), .val (.ref b2), .val (.ref b3), .val (.ref b8), .val (.ref b12)] []) (fun _ q => Jvm.RoadKit.acmp (g := (mkF m 218 #[.val (.int aA), .val (.int 2), .val (.int 1), .val (.int wW), .val (.int 0), .val (.int kp), .val (.int dD), .val (.ref b1), .val (.ref b2), .val (.ref b3), .val (.ref b8), .val (.ref b12)] [(.ref b8), (.ref b8)])) X39 hx rfl (x := (.ref b8)) (y := (.ref b8)) rfl rfl (pc0 := 218) (pc' := 221) (same := true) rfl (hb hby at_218) rfl (decide_eq_true rfl) (by decide) (by decide) q) ?_
       refine Go.of (mkF m 223 #[.val (.int aA), .val (.int 2), .val (.int 1), .val (.int wW), .val (.int 0), .val (.int kp), .val (.int dD), .val (.ref b1), .val (.ref b2), .val (.ref b3), .val (.ref b8), .val (.ref b12)] [(.ref b12)]) (fun _ q => XS.aload X39.here hx rfl (hb hby at_221) rfl rfl q) ?_
       refine Go.of (mkF m 224 #[.val (.int aA), .val (.int 2), .val (.int 1), .val (.int wW), .val (.int 0), .val (.int kp), .val (.int dD), .val (.ref b1), .val (.ref b2), .val (.ref b3), .val (.ref b8), .val (.ref b12)] [(.int 1), (.ref b12)]) (fun _ q => XS.iconst X39.here hx rfl (hb hby at_223) q) ?_
       refine Go.virt X39 hx hZ (y := (⟨"com/example/kiriman/kiriman/route/Positions", "index", "(I)I"⟩ : MethodName)) (z := (⟨"com/example/kiriman/kiriman/route/Positions", "index", "(I)I"⟩ : MethodName)) (a := b12) (argsL := [(.int 1)]) (rest := []) hown (tw194 hw) (tw195 hw) (notFace_of_selects (args := #[]) (mvT hZ (tw197 hw))) (tw197 hw) (tw196 hw) (tw138 hw) (tw198 hw) (by decide) hh39 E (rmIx1 l Z a0 hw [] b12 ix (1 : Int32) yix h38 S5 Vix hi1) (g := (mkF m 224 #[.val (.int aA), .val (.int 2), .val (.int 1), .val (.int wW), .val (.int 0), .val (.int kp), .val (.int dD), .val (.ref b1), .val (.ref b2), .val (.ref b3), .val (.ref b8), .val (.ref b12)] [(.int 1), (.ref b12)])) rfl (by rw [hml]; rfl) (lenOf pd25 rfl) rfl (W := 0) (by show 2 * 0 + _ ≤ _; exact Nat.le_of_eq rfl) (hb hby at_224) (by decide) (by decide) (by decide) (by decide) ?_
       rintro T40 L40 v40 X40 ⟨rfl, rfl, hh40⟩
       have N40 := Fr.app N39 (Fr.nil n0)
       show Go pr ev below _ T40 (mkF m 227 #[.val (.int aA), .val (.int 2), .val (.int 1), .val (.int wW), .val (.int 0), .val (.int kp), .val (.int dD), .val (.ref b1), .val (.ref b2), .val (.ref b3), .val (.ref b8), .val (.ref b12)] [(.int 1)])
       refine Go.of (mkF m 229 #[.val (.int aA), .val (.int 2), .val (.int 1), .val (.int wW), .val (.int 0), .val (.int kp), .val (.int dD), .val (.ref b1), .val (.ref b2), .val (.ref b3), .val (.ref b8), .val (.ref b12)] [(.ref b2), (.int 1)]) (fun _ q => XS.aload X40.here hx rfl (hb hby at_227) rfl rfl q) ?_
       refine Go.of (mkF m 230 #[.val (.int aA), .val (.int 2), .val (.int 1), .val (.int wW), .val (.int 0), .val (.int kp), .val (.int dD), .val (.ref b1), .val (.ref b2), .val (.ref b3), .val (.ref b8), .val (.ref b12)] [(.int 1), (.ref b2), (.int 1)]) (fun _ q => XS.iconst X40.here hx rfl (hb hby at_229) q) ?_
       refine Go.iaload X40 hx hZ hh40 VnJ (by decide) (by decide) (g := (mkF m 230 #[.val (.int aA), .val (.int 2), .val (.int 1), .val (.int wW), .val (.int 0), .val (.int kp), .val (.int dD), .val (.ref b1), .val (.ref b2), .val (.ref b3), .val (.ref b8), .val (.ref b12)] [(.int 1), (.ref b2), (.int 1)])) rfl rfl (hb hby at_230) ?_
       show Go pr ev below _ T40 (mkF m 231 #[.val (.int aA), .val (.int 2), .val (.int 1), .val (.int wW), .val (.int 0), .val (.int kp), .val (.int dD), .val (.ref b1), .val (.ref b2), .val (.ref b3), .val (.ref b8), .val (.ref b12)] [(.int ((fnup (fnup (fun _ => (0 : Int32)) (2 : Int32) (0 : Int32)) (1 : Int32) (1 : Int32)) (1 : Int32))), (.int 1)])
       rw [show ((fnup (fnup (fun _ => (0 : Int32)) (2 : Int32) (0 : Int32)) (1 : Int32) (1 : Int32)) (1 : Int32)) = (1 : Int32) from by first | rfl | simp [fnup]]
       refine Go.of (mkF m 234 #[.val (.int aA), .val (.int 2), .val (.int 1), .val (.int wW), .val (.int 0), .val (.int kp), .val (.int dD), .val (.ref b1), .val (.ref b2), .val (.ref b3), .val (.ref b8), .val (.ref b12)] []) (fun _ q => XS.icmpNo X40.here hx rfl (hb hby at_231) rfl (teq (by decide)).2 q) ?_
       refine Go.of (mkF m 236 #[.val (.int aA), .val (.int 2), .val (.int 1), .val (.int wW), .val (.int 0), .val (.int kp), .val (.int dD), .val (.ref b1), .val (.ref b2), .val (.ref b3), .val (.ref b8), .val (.ref b12)] [(.ref b12)]) (fun _ q => XS.aload X40.here hx rfl (hb hby at_234) rfl rfl q) ?_
       refine Go.of (mkF m 237 #[.val (.int aA), .val (.int 2), .val (.int 1), .val (.int wW), .val (.int 0), .val (.int kp), .val (.int dD), .val (.ref b1), .val (.ref b2), .val (.ref b3), .val (.ref b8), .val (.ref b12)] [(.int 2), (.ref b12)]) (fun _ q => XS.iconst X40.here hx rfl (hb hby at_236) q) ?_
       refine Go.virt X40 hx hZ (y := (⟨"com/example/kiriman/kiriman/route/Positions", "route", "(I)Lcom/example/kiriman/kiriman/route/Route;"⟩ : MethodName)) (z := (⟨"com/example/kiriman/kiriman/route/Positions", "route", "(I)Lcom/example/kiriman/kiriman/route/Route;"⟩ : MethodName)) (a := b12) (argsL := [(.int 2)]) (rest := []) hown (tw189 hw) (tw190 hw) (notFace_of_selects (args := #[]) (mvT hZ (tw192 hw))) (tw192 hw) (tw191 hw) (tw138 hw) (tw193 hw) (by decide) hh40 E (rmRo2R l Z a0 hw [] b12 rt b8 yrt h38 S4 Vrt hr2) (g := (mkF m 237 #[.val (.int aA), .val (.int 2), .val (.int 1), .val (.int wW), .val (.int 0), .val (.int kp), .val (.int dD), .val (.ref b1), .val (.ref b2), .val (.ref b3), .val (.ref b8), .val (.ref b12)] [(.int 2), (.ref b12)])) rfl (by rw [hml]; rfl) (lenOf pd44 rfl) rfl (W := 0) (by show 2 * 0 + _ ≤ _; exact Nat.le_of_eq rfl) (hb hby at_237) (by decide) (by decide) (by decide) (by decide) ?_
       rintro T41 L41 v41 X41 ⟨rfl, rfl, hh41⟩
       have N41 := Fr.app N40 (Fr.nil n0)
       show Go pr ev below _ T41 (mkF m 240 #[.val (.int aA), .val (.int 2), .val (.int 1), .val (.int wW), .val (.int 0), .val (.int kp), .val (.int dD), .val (.ref b1), .val (.ref b2), .val (.ref b3), .val (.ref b8), .val (.ref b12)] [(.ref b8)])
       refine Go.of (mkF m 242 #[.val (.int aA), .val (.int 2), .val (.int 1), .val (.int wW), .val (.int 0), .val (.int kp), .val (.int dD), .val (.ref b1), .val (.ref b2), .val (.ref b3), .val (.ref b8), .val (.ref b12)] [(.ref b1), (.ref b8)]) (fun _ q => XS.aload X41.here hx rfl (hb hby at_240) rfl rfl q) ?_
       refine Go.of (mkF m 243 #[.val (.int aA), .val (.int 2), .val (.int 1), .val (.int wW), .val (.int 0), .val (.int kp), .val (.int dD), .val (.ref b1), .val (.ref b2), .val (.ref b3), .val (.ref b8), .val (.ref b12)] [(.int 2), (.ref b1), (.ref b8)]) (fun _ q => XS.iconst X41.here hx rfl (hb hby at_242) q) ?_
       refine Go.aaload X41 hx hZ hh41 VeJ rfl (by decide) (by decide) (g := (mkF m 243 #[.val (.int aA), .val (.int 2), .val (.int 1), .val (.int wW), .val (.int 0), .val (.int kp), .val (.int dD), .val (.ref b1), .val (.ref b2), .val (.ref b3), .val (.ref b8), .val (.ref b12)] [(.int 2), (.ref b1), (.ref b8)])) rfl rfl (hb hby at_243) ?_
       show Go pr ev below _ T41 (mkF m 244 #[.val (.int aA), .val (.int 2), .val (.int 1), .val (.int wW), .val (.int 0), .val (.int kp), .val (.int dD), .val (.ref b1), .val (.ref b2), .val (.ref b3), .val (.ref b8), .val (.ref b12)] [((fnup (fnup (fun _ => Value.null) (2 : Int32) (.ref b8)) (1 : Int32) (.ref b8)) (2 : Int32)), (.ref b8)])
       rw [show ((fnup (fnup (fun _ => Value.null) (2 : Int32) (.ref b8)) (1 : Int32) (.ref b8)) (2 : Int32)) = (.ref b8) from by first | rfl | simp [fnup]]
       refine Go.of (mkF m 247 #[.val (.int aA), .val (.int 2), .val (.int 1), .val (.int wW), .val (.int 0), .val (.int kp), .val (.int dD), .val (.ref b1), .val (.ref b2), .val (.ref b3), .val (.ref b8), .val (.ref b12)] []) (fun _ q => Jvm.RoadKit.acmp (g := (mkF m 244 #[.val (.int aA), .val (.int 2), .val (.int 1), .val (.int wW), .val (.int 0), .val (.int kp), .val (.int dD), .val (.ref b1), .val (.ref b2), .val (.ref b3), .val (.ref b8), .val (.ref b12)] [(.ref b8), (.ref b8)])) X41 hx rfl (x := (.ref b8)) (y := (.ref b8)) rfl rfl (pc0 := 244) (pc' := 247) (same := true) rfl (hb hby at_244) rfl (decide_eq_true rfl) (by decide) (by decide) q) ?_
       refine Go.of (mkF m 249 #[.val (.int aA), .val (.int 2), .val (.int 1), .val (.int wW), .val (.int 0), .val (.int kp), .val (.int dD), .val (.ref b1), .val (.ref b2), .val (.ref b3), .val (.ref b8), .val (.ref b12)] [(.ref b12)]) (fun _ q => XS.aload X41.here hx rfl (hb hby at_247) rfl rfl q) ?_
       refine Go.of (mkF m 250 #[.val (.int aA), .val (.int 2), .val (.int 1), .val (.int wW), .val (.int 0), .val (.int kp), .val (.int dD), .val (.ref b1), .val (.ref b2), .val (.ref b3), .val (.ref b8), .val (.ref b12)] [(.int 2), (.ref b12)]) (fun _ q => XS.iconst X41.here hx rfl (hb hby at_249) q) ?_
       refine Go.virt X41 hx hZ (y := (⟨"com/example/kiriman/kiriman/route/Positions", "index", "(I)I"⟩ : MethodName)) (z := (⟨"com/example/kiriman/kiriman/route/Positions", "index", "(I)I"⟩ : MethodName)) (a := b12) (argsL := [(.int 2)]) (rest := []) hown (tw194 hw) (tw195 hw) (notFace_of_selects (args := #[]) (mvT hZ (tw197 hw))) (tw197 hw) (tw196 hw) (tw138 hw) (tw198 hw) (by decide) hh41 E (rmIx2 l Z a0 hw [] b12 ix (0 : Int32) yix h38 S5 Vix hi2) (g := (mkF m 250 #[.val (.int aA), .val (.int 2), .val (.int 1), .val (.int wW), .val (.int 0), .val (.int kp), .val (.int dD), .val (.ref b1), .val (.ref b2), .val (.ref b3), .val (.ref b8), .val (.ref b12)] [(.int 2), (.ref b12)])) rfl (by rw [hml]; rfl) (lenOf pd25 rfl) rfl (W := 0) (by show 2 * 0 + _ ≤ _; exact Nat.le_of_eq rfl) (hb hby at_250) (by decide) (by decide) (by decide) (by decide) ?_
       rintro T42 L42 v42 X42 ⟨rfl, rfl, hh42⟩
       have N42 := Fr.app N41 (Fr.nil n0)
       show Go pr ev below _ T42 (mkF m 253 #[.val (.int aA), .val (.int 2), .val (.int 1), .val (.int wW), .val (.int 0), .val (.int kp), .val (.int dD), .val (.ref b1), .val (.ref b2), .val (.ref b3), .val (.ref b8), .val (.ref b12)] [(.int 0)])
       refine Go.of (mkF m 255 #[.val (.int aA), .val (.int 2), .val (.int 1), .val (.int wW), .val (.int 0), .val (.int kp), .val (.int dD), .val (.ref b1), .val (.ref b2), .val (.ref b3), .val (.ref b8), .val (.ref b12)] [(.ref b2), (.int 0)]) (fun _ q => XS.aload X42.here hx rfl (hb hby at_253) rfl rfl q) ?_
       refine Go.of (mkF m 256 #[.val (.int aA), .val (.int 2), .val (.int 1), .val (.int wW), .val (.int 0), .val (.int kp), .val (.int dD), .val (.ref b1), .val (.ref b2), .val (.ref b3), .val (.ref b8), .val (.ref b12)] [(.int 2), (.ref b2), (.int 0)]) (fun _ q => XS.iconst X42.here hx rfl (hb hby at_255) q) ?_
       refine Go.iaload X42 hx hZ hh42 VnJ (by decide) (by decide) (g := (mkF m 256 #[.val (.int aA), .val (.int 2), .val (.int 1), .val (.int wW), .val (.int 0), .val (.int kp), .val (.int dD), .val (.ref b1), .val (.ref b2), .val (.ref b3), .val (.ref b8), .val (.ref b12)] [(.int 2), (.ref b2), (.int 0)])) rfl rfl (hb hby at_256) ?_
       show Go pr ev below _ T42 (mkF m 257 #[.val (.int aA), .val (.int 2), .val (.int 1), .val (.int wW), .val (.int 0), .val (.int kp), .val (.int dD), .val (.ref b1), .val (.ref b2), .val (.ref b3), .val (.ref b8), .val (.ref b12)] [(.int ((fnup (fnup (fun _ => (0 : Int32)) (2 : Int32) (0 : Int32)) (1 : Int32) (1 : Int32)) (2 : Int32))), (.int 0)])
       rw [show ((fnup (fnup (fun _ => (0 : Int32)) (2 : Int32) (0 : Int32)) (1 : Int32) (1 : Int32)) (2 : Int32)) = (0 : Int32) from by first | rfl | simp [fnup]]
       refine Go.of (mkF m 260 #[.val (.int aA), .val (.int 2), .val (.int 1), .val (.int wW), .val (.int 0), .val (.int kp), .val (.int dD), .val (.ref b1), .val (.ref b2), .val (.ref b3), .val (.ref b8), .val (.ref b12)] []) (fun _ q => XS.icmpNo X42.here hx rfl (hb hby at_257) rfl (teq (by decide)).2 q) ?_
       refine Go.of (mkF m 261 #[.val (.int aA), .val (.int 2), .val (.int 1), .val (.int wW), .val (.int 0), .val (.int kp), .val (.int dD), .val (.ref b1), .val (.ref b2), .val (.ref b3), .val (.ref b8), .val (.ref b12)] [(.int 1)]) (fun _ q => XS.iconst X42.here hx rfl (hb hby at_260) q) ?_
       refine Go.of (mkF m 265 #[.val (.int aA), .val (.int 2), .val (.int 1), .val (.int wW), .val (.int 0), .val (.int kp), .val (.int dD), .val (.ref b1), .val (.ref b2), .val (.ref b3), .val (.ref b8), .val (.ref b12)] [(.int 1)]) (fun _ q => XS.goto X42.here hx rfl (pc0 := 261) (pc' := 265) rfl (hb hby at_261) (by decide) (by decide) q) ?_
       exact Go.retW X42 hx (t := .boolean) hret hlk rfl (Or.inl ⟨rfl, by simp, _, rfl⟩) (hb hby at_265) (by decide) (by decide) ⟨rfl, N42⟩
      ·
       replace hr1 : yrt 1 = .null := by rw [hr1]; simp [own_R]
       replace hi1 : yix 1 = (0 : Int32) := by rw [hi1]; simp [own_I]
       replace hr2 : yrt 2 = (.ref b8) := by rw [hr2]; simp [own_R]
       replace hi2 : yix 2 = (1 : Int32) := by rw [hi2]; simp [own_I]
       refine Go.of (mkF m 171 #[.val (.int aA), .val (.int 2), .val (.int 2), .val (.int wW), .val (.int 0), .val (.int kp), .val (.int dD), .val (.ref b1), .val (.ref b2), .val (.ref b3), .val (.ref b8), .val (.ref b12)] [(.int kp)]) (fun _ q => XS.iload XJ.here hx rfl (hb hby at_169) rfl q) ?_
       refine Go.of (mkF m 172 #[.val (.int aA), .val (.int 2), .val (.int 2), .val (.int wW), .val (.int 0), .val (.int kp), .val (.int dD), .val (.ref b1), .val (.ref b2), .val (.ref b3), .val (.ref b8), .val (.ref b12)] [(.int 1), (.int kp)]) (fun _ q => XS.iconst XJ.here hx rfl (hb hby at_171) q) ?_
       refine Go.of (mkF m 175 #[.val (.int aA), .val (.int 2), .val (.int 2), .val (.int wW), .val (.int 0), .val (.int kp), .val (.int dD), .val (.ref b1), .val (.ref b2), .val (.ref b3), .val (.ref b8), .val (.ref b12)] []) (fun _ q => XS.icmpNo XJ.here hx rfl (hb hby at_172) rfl (flt hk1).1 q) ?_
       refine Go.of (mkF m 177 #[.val (.int aA), .val (.int 2), .val (.int 2), .val (.int wW), .val (.int 0), .val (.int kp), .val (.int dD), .val (.ref b1), .val (.ref b2), .val (.ref b3), .val (.ref b8), .val (.ref b12)] [(.int 0)]) (fun _ q => XS.iload XJ.here hx rfl (hb hby at_175) rfl q) ?_
       refine Go.of (mkF m 180 #[.val (.int aA), .val (.int 2), .val (.int 2), .val (.int wW), .val (.int 0), .val (.int kp), .val (.int dD), .val (.ref b1), .val (.ref b2), .val (.ref b3), .val (.ref b8), .val (.ref b12)] []) (fun _ q => XS.ifNo XJ.here hx rfl (hb hby at_177) rfl ((if0 _ _).trans (teq (by decide)).2) q) ?_
       refine Go.of (mkF m 182 #[.val (.int aA), .val (.int 2), .val (.int 2), .val (.int wW), .val (.int 0), .val (.int kp), .val (.int dD), .val (.ref b1), .val (.ref b2), .val (.ref b3), .val (.ref b8), .val (.ref b12)] [(.ref b1)]) (fun _ q => XS.aload XJ.here hx rfl (hb hby at_180) rfl rfl q) ?_
       refine Go.of (mkF m 183 #[.val (.int aA), .val (.int 2), .val (.int 2), .val (.int wW), .val (.int 0), .val (.int kp), .val (.int dD), .val (.ref b1), .val (.ref b2), .val (.ref b3), .val (.ref b8), .val (.ref b12)] [(.int 2), (.ref b1)]) (fun _ q => XS.iloadN XJ.here hx rfl (hb hby at_182) rfl q) ?_
       refine Go.of (mkF m 185 #[.val (.int aA), .val (.int 2), .val (.int 2), .val (.int wW), .val (.int 0), .val (.int kp), .val (.int dD), .val (.ref b1), .val (.ref b2), .val (.ref b3), .val (.ref b8), .val (.ref b12)] [(.ref b8), (.int 2), (.ref b1)]) (fun _ q => XS.aload XJ.here hx rfl (hb hby at_183) rfl rfl q) ?_
       refine Go.aastore XJ hx hZ eJ VeJ rfl rfl (Fa.sto VeJ UeJ (Ins.self Er)) (by decide) (by decide) (g := (mkF m 185 #[.val (.int aA), .val (.int 2), .val (.int 2), .val (.int wW), .val (.int 0), .val (.int kp), .val (.int dD), .val (.ref b1), .val (.ref b2), .val (.ref b3), .val (.ref b8), .val (.ref b12)] [(.ref b8), (.int 2), (.ref b1)])) rfl rfl (hb hby at_185) ?_
       rintro T43 h43 X43 e43 W43 V43
       replace S4 := S4.other W43 (Or.inl (Ne.symm ne_b1_b12))
       replace S5 := S5.other W43 (Or.inl (Ne.symm ne_b1_b12))
       replace E := E.wr W43
       replace Er := Er.wr W43
       replace UeJ := UeJ.wr W43
       replace Vrt := Vrt.other W43 nj_rt_b1
       replace Vix := Vix.other W43 nj_ix_b1
       replace VnJ := VnJ.other W43 (Ne.symm ne_b1_b2)
       replace VeJ := V43
       have N43 := Fr.snoc X43 NJ gb_b1
       show Go pr ev below _ T43 (mkF m 186 #[.val (.int aA), .val (.int 2), .val (.int 2), .val (.int wW), .val (.int 0), .val (.int kp), .val (.int dD), .val (.ref b1), .val (.ref b2), .val (.ref b3), .val (.ref b8), .val (.ref b12)] [])
       refine Go.of (mkF m 188 #[.val (.int aA), .val (.int 2), .val (.int 2), .val (.int wW), .val (.int 0), .val (.int kp), .val (.int dD), .val (.ref b1), .val (.ref b2), .val (.ref b3), .val (.ref b8), .val (.ref b12)] [(.ref b2)]) (fun _ q => XS.aload X43.here hx rfl (hb hby at_186) rfl rfl q) ?_
       refine Go.of (mkF m 189 #[.val (.int aA), .val (.int 2), .val (.int 2), .val (.int wW), .val (.int 0), .val (.int kp), .val (.int dD), .val (.ref b1), .val (.ref b2), .val (.ref b3), .val (.ref b8), .val (.ref b12)] [(.int 2), (.ref b2)]) (fun _ q => XS.iloadN X43.here hx rfl (hb hby at_188) rfl q) ?_
       refine Go.of (mkF m 190 #[.val (.int aA), .val (.int 2), .val (.int 2), .val (.int wW), .val (.int 0), .val (.int kp), .val (.int dD), .val (.ref b1), .val (.ref b2), .val (.ref b3), .val (.ref b8), .val (.ref b12)] [(.int 0), (.int 2), (.ref b2)]) (fun _ q => XS.iconst X43.here hx rfl (hb hby at_189) q) ?_
       refine Go.iastore X43 hx hZ e43 VnJ (by decide) (by decide) (g := (mkF m 190 #[.val (.int aA), .val (.int 2), .val (.int 2), .val (.int wW), .val (.int 0), .val (.int kp), .val (.int dD), .val (.ref b1), .val (.ref b2), .val (.ref b3), .val (.ref b8), .val (.ref b12)] [(.int 0), (.int 2), (.ref b2)])) rfl rfl (hb hby at_190) ?_
       rintro T44 h44 X44 e44 W44 V44
       replace S4 := S4.other W44 (Or.inl (Ne.symm ne_b2_b12))
       replace S5 := S5.other W44 (Or.inl (Ne.symm ne_b2_b12))
       replace E := E.wr W44
       replace Er := Er.wr W44
       replace UeJ := UeJ.wr W44
       replace Vrt := Vrt.other W44 nj_rt_b2
       replace Vix := Vix.other W44 nj_ix_b2
       replace VeJ := VeJ.other W44 ne_b1_b2
       replace VnJ := V44
       have N44 := Fr.snoc X44 N43 gb_b2
       show Go pr ev below _ T44 (mkF m 191 #[.val (.int aA), .val (.int 2), .val (.int 2), .val (.int wW), .val (.int 0), .val (.int kp), .val (.int dD), .val (.ref b1), .val (.ref b2), .val (.ref b3), .val (.ref b8), .val (.ref b12)] [])
       refine Go.of (mkF m 193 #[.val (.int aA), .val (.int 2), .val (.int 2), .val (.int wW), .val (.int 0), .val (.int kp), .val (.int dD), .val (.ref b1), .val (.ref b2), .val (.ref b3), .val (.ref b8), .val (.ref b12)] [(.int 0)]) (fun _ q => XS.iload X44.here hx rfl (hb hby at_191) rfl q) ?_
       refine Go.of (mkF m 194 #[.val (.int aA), .val (.int 2), .val (.int 2), .val (.int wW), .val (.int 0), .val (.int kp), .val (.int dD), .val (.ref b1), .val (.ref b2), .val (.ref b3), .val (.ref b8), .val (.ref b12)] [(.int 1), (.int 0)]) (fun _ q => XS.iconst X44.here hx rfl (hb hby at_193) q) ?_
       refine Go.of (mkF m 197 #[.val (.int aA), .val (.int 2), .val (.int 2), .val (.int wW), .val (.int 0), .val (.int kp), .val (.int dD), .val (.ref b1), .val (.ref b2), .val (.ref b3), .val (.ref b8), .val (.ref b12)] []) (fun _ q => XS.icmpNo X44.here hx rfl (hb hby at_194) rfl (flt (by decide)).2.2.1 q) ?_
       refine Go.of (mkF m 199 #[.val (.int aA), .val (.int 2), .val (.int 2), .val (.int wW), .val (.int 0), .val (.int kp), .val (.int dD), .val (.ref b1), .val (.ref b2), .val (.ref b3), .val (.ref b8), .val (.ref b12)] [(.ref b1)]) (fun _ q => XS.aload X44.here hx rfl (hb hby at_197) rfl rfl q) ?_
       refine Go.of (mkF m 200 #[.val (.int aA), .val (.int 2), .val (.int 2), .val (.int wW), .val (.int 0), .val (.int kp), .val (.int dD), .val (.ref b1), .val (.ref b2), .val (.ref b3), .val (.ref b8), .val (.ref b12)] [(.int 2), (.ref b1)]) (fun _ q => XS.iloadN X44.here hx rfl (hb hby at_199) rfl q) ?_
       refine Go.of (mkF m 202 #[.val (.int aA), .val (.int 2), .val (.int 2), .val (.int wW), .val (.int 0), .val (.int kp), .val (.int dD), .val (.ref b1), .val (.ref b2), .val (.ref b3), .val (.ref b8), .val (.ref b12)] [(.ref b8), (.int 2), (.ref b1)]) (fun _ q => XS.aload X44.here hx rfl (hb hby at_200) rfl rfl q) ?_
       refine Go.aastore X44 hx hZ e44 VeJ rfl rfl (Fa.sto VeJ UeJ (Ins.self Er)) (by decide) (by decide) (g := (mkF m 202 #[.val (.int aA), .val (.int 2), .val (.int 2), .val (.int wW), .val (.int 0), .val (.int kp), .val (.int dD), .val (.ref b1), .val (.ref b2), .val (.ref b3), .val (.ref b8), .val (.ref b12)] [(.ref b8), (.int 2), (.ref b1)])) rfl rfl (hb hby at_202) ?_
       rintro T45 h45 X45 e45 W45 V45
       replace S4 := S4.other W45 (Or.inl (Ne.symm ne_b1_b12))
       replace S5 := S5.other W45 (Or.inl (Ne.symm ne_b1_b12))
       replace E := E.wr W45
       replace Er := Er.wr W45
       replace UeJ := UeJ.wr W45
       replace Vrt := Vrt.other W45 nj_rt_b1
       replace Vix := Vix.other W45 nj_ix_b1
       replace VnJ := VnJ.other W45 (Ne.symm ne_b1_b2)
       replace VeJ := V45
       have N45 := Fr.snoc X45 N44 gb_b1
       show Go pr ev below _ T45 (mkF m 203 #[.val (.int aA), .val (.int 2), .val (.int 2), .val (.int wW), .val (.int 0), .val (.int kp), .val (.int dD), .val (.ref b1), .val (.ref b2), .val (.ref b3), .val (.ref b8), .val (.ref b12)] [])
       refine Go.of (mkF m 205 #[.val (.int aA), .val (.int 2), .val (.int 2), .val (.int wW), .val (.int 0), .val (.int kp), .val (.int dD), .val (.ref b1), .val (.ref b2), .val (.ref b3), .val (.ref b8), .val (.ref b12)] [(.ref b2)]) (fun _ q => XS.aload X45.here hx rfl (hb hby at_203) rfl rfl q) ?_
       refine Go.of (mkF m 206 #[.val (.int aA), .val (.int 2), .val (.int 2), .val (.int wW), .val (.int 0), .val (.int kp), .val (.int dD), .val (.ref b1), .val (.ref b2), .val (.ref b3), .val (.ref b8), .val (.ref b12)] [(.int 2), (.ref b2)]) (fun _ q => XS.iloadN X45.here hx rfl (hb hby at_205) rfl q) ?_
       refine Go.of (mkF m 207 #[.val (.int aA), .val (.int 2), .val (.int 2), .val (.int wW), .val (.int 0), .val (.int kp), .val (.int dD), .val (.ref b1), .val (.ref b2), .val (.ref b3), .val (.ref b8), .val (.ref b12)] [(.int 1), (.int 2), (.ref b2)]) (fun _ q => XS.iconst X45.here hx rfl (hb hby at_206) q) ?_
       refine Go.iastore X45 hx hZ e45 VnJ (by decide) (by decide) (g := (mkF m 207 #[.val (.int aA), .val (.int 2), .val (.int 2), .val (.int wW), .val (.int 0), .val (.int kp), .val (.int dD), .val (.ref b1), .val (.ref b2), .val (.ref b3), .val (.ref b8), .val (.ref b12)] [(.int 1), (.int 2), (.ref b2)])) rfl rfl (hb hby at_207) ?_
       rintro T46 h46 X46 e46 W46 V46
       replace S4 := S4.other W46 (Or.inl (Ne.symm ne_b2_b12))
       replace S5 := S5.other W46 (Or.inl (Ne.symm ne_b2_b12))
       replace E := E.wr W46
       replace Er := Er.wr W46
       replace UeJ := UeJ.wr W46
       replace Vrt := Vrt.other W46 nj_rt_b2
       replace Vix := Vix.other W46 nj_ix_b2
       replace VeJ := VeJ.other W46 ne_b1_b2
       replace VnJ := V46
       have N46 := Fr.snoc X46 N45 gb_b2
       show Go pr ev below _ T46 (mkF m 208 #[.val (.int aA), .val (.int 2), .val (.int 2), .val (.int wW), .val (.int 0), .val (.int kp), .val (.int dD), .val (.ref b1), .val (.ref b2), .val (.ref b3), .val (.ref b8), .val (.ref b12)] [])
       refine Go.of (mkF m 210 #[.val (.int aA), .val (.int 2), .val (.int 2), .val (.int wW), .val (.int 0), .val (.int kp), .val (.int dD), .val (.ref b1), .val (.ref b2), .val (.ref b3), .val (.ref b8), .val (.ref b12)] [(.ref b12)]) (fun _ q => XS.aload X46.here hx rfl (hb hby at_208) rfl rfl q) ?_
       refine Go.of (mkF m 211 #[.val (.int aA), .val (.int 2), .val (.int 2), .val (.int wW), .val (.int 0), .val (.int kp), .val (.int dD), .val (.ref b1), .val (.ref b2), .val (.ref b3), .val (.ref b8), .val (.ref b12)] [(.int 1), (.ref b12)]) (fun _ q => XS.iconst X46.here hx rfl (hb hby at_210) q) ?_
       refine Go.virt X46 hx hZ (y := (⟨"com/example/kiriman/kiriman/route/Positions", "route", "(I)Lcom/example/kiriman/kiriman/route/Route;"⟩ : MethodName)) (z := (⟨"com/example/kiriman/kiriman/route/Positions", "route", "(I)Lcom/example/kiriman/kiriman/route/Route;"⟩ : MethodName)) (a := b12) (argsL := [(.int 1)]) (rest := []) hown (tw189 hw) (tw190 hw) (notFace_of_selects (args := #[]) (mvT hZ (tw192 hw))) (tw192 hw) (tw191 hw) (tw138 hw) (tw193 hw) (by decide) e46 E (rmRo1N l Z a0 hw [] b12 rt b8 yrt h46 S4 Vrt hr1) (g := (mkF m 211 #[.val (.int aA), .val (.int 2), .val (.int 2), .val (.int wW), .val (.int 0), .val (.int kp), .val (.int dD), .val (.ref b1), .val (.ref b2), .val (.ref b3), .val (.ref b8), .val (.ref b12)] [(.int 1), (.ref b12)])) rfl (by rw [hml]; rfl) (lenOf pd44 rfl) rfl (W := 0) (by show 2 * 0 + _ ≤ _; exact Nat.le_of_eq rfl) (hb hby at_211) (by decide) (by decide) (by decide) (by decide) ?_
       rintro T47 L47 v47 X47 ⟨rfl, rfl, hh47⟩
       have N47 := Fr.app N46 (Fr.nil n0)
       show Go pr ev below _ T47 (mkF m 214 #[.val (.int aA), .val (.int 2), .val (.int 2), .val (.int wW), .val (.int 0), .val (.int kp), .val (.int dD), .val (.ref b1), .val (.ref b2), .val (.ref b3), .val (.ref b8), .val (.ref b12)] [.null])
       refine Go.of (mkF m 216 #[.val (.int aA), .val (.int 2), .val (.int 2), .val (.int wW), .val (.int 0), .val (.int kp), .val (.int dD), .val (.ref b1), .val (.ref b2), .val (.ref b3), .val (.ref b8), .val (.ref b12)] [(.ref b1), .null]) (fun _ q => XS.aload X47.here hx rfl (hb hby at_214) rfl rfl q) ?_
       refine Go.of (mkF m 217 #[.val (.int aA), .val (.int 2), .val (.int 2), .val (.int wW), .val (.int 0), .val (.int kp), .val (.int dD), .val (.ref b1), .val (.ref b2), .val (.ref b3), .val (.ref b8), .val (.ref b12)] [(.int 1), (.ref b1), .null]) (fun _ q => XS.iconst X47.here hx rfl (hb hby at_216) q) ?_
       refine Go.aaload X47 hx hZ hh47 VeJ rfl (by decide) (by decide) (g := (mkF m 217 #[.val (.int aA), .val (.int 2), .val (.int 2), .val (.int wW), .val (.int 0), .val (.int kp), .val (.int dD), .val (.ref b1), .val (.ref b2), .val (.ref b3), .val (.ref b8), .val (.ref b12)] [(.int 1), (.ref b1), .null])) rfl rfl (hb hby at_217) ?_
       show Go pr ev below _ T47 (mkF m 218 #[.val (.int aA), .val (.int 2), .val (.int 2), .val (.int wW), .val (.int 0), .val (.int kp), .val (.int dD), .val (.ref b1), .val (.ref b2), .val (.ref b3), .val (.ref b8), .val (.ref b12)] [((fnup (fnup (fun _ => Value.null) (2 : Int32) (.ref b8)) (2 : Int32) (.ref b8)) (1 : Int32)), .null])
       rw [show ((fnup (fnup (fun _ => Value.null) (2 : Int32) (.ref b8)) (2 : Int32) (.ref b8)) (1 : Int32)) = .null from by first | rfl | simp [fnup]]
       refine Go.of (mkF m 221 #[.val (.int aA), .val (.int 2), .val (.int 2), .val (.int wW), .val (.int 0), .val (.int kp), .val (.int dD), .val (.ref b1), .val (.ref b2), .val (.ref b3), .val (.ref b8), .val (.ref b12)] []) (fun _ q => Jvm.RoadKit.acmp (g := (mkF m 218 #[.val (.int aA), .val (.int 2), .val (.int 2), .val (.int wW), .val (.int 0), .val (.int kp), .val (.int dD), .val (.ref b1), .val (.ref b2), .val (.ref b3), .val (.ref b8), .val (.ref b12)] [.null, .null])) X47 hx rfl (x := .null) (y := .null) rfl rfl (pc0 := 218) (pc' := 221) (same := true) rfl (hb hby at_218) rfl (decide_eq_true rfl) (by decide) (by decide) q) ?_
       refine Go.of (mkF m 223 #[.val (.int aA), .val (.int 2), .val (.int 2), .val (.int wW), .val (.int 0), .val (.int kp), .val (.int dD), .val (.ref b1), .val (.ref b2), .val (.ref b3), .val (.ref b8), .val (.ref b12)] [(.ref b12)]) (fun _ q => XS.aload X47.here hx rfl (hb hby at_221) rfl rfl q) ?_
       refine Go.of (mkF m 224 #[.val (.int aA), .val (.int 2), .val (.int 2), .val (.int wW), .val (.int 0), .val (.int kp), .val (.int dD), .val (.ref b1), .val (.ref b2), .val (.ref b3), .val (.ref b8), .val (.ref b12)] [(.int 1), (.ref b12)]) (fun _ q => XS.iconst X47.here hx rfl (hb hby at_223) q) ?_
       refine Go.virt X47 hx hZ (y := (⟨"com/example/kiriman/kiriman/route/Positions", "index", "(I)I"⟩ : MethodName)) (z := (⟨"com/example/kiriman/kiriman/route/Positions", "index", "(I)I"⟩ : MethodName)) (a := b12) (argsL := [(.int 1)]) (rest := []) hown (tw194 hw) (tw195 hw) (notFace_of_selects (args := #[]) (mvT hZ (tw197 hw))) (tw197 hw) (tw196 hw) (tw138 hw) (tw198 hw) (by decide) hh47 E (rmIx1 l Z a0 hw [] b12 ix (0 : Int32) yix h46 S5 Vix hi1) (g := (mkF m 224 #[.val (.int aA), .val (.int 2), .val (.int 2), .val (.int wW), .val (.int 0), .val (.int kp), .val (.int dD), .val (.ref b1), .val (.ref b2), .val (.ref b3), .val (.ref b8), .val (.ref b12)] [(.int 1), (.ref b12)])) rfl (by rw [hml]; rfl) (lenOf pd25 rfl) rfl (W := 0) (by show 2 * 0 + _ ≤ _; exact Nat.le_of_eq rfl) (hb hby at_224) (by decide) (by decide) (by decide) (by decide) ?_
       rintro T48 L48 v48 X48 ⟨rfl, rfl, hh48⟩
       have N48 := Fr.app N47 (Fr.nil n0)
       show Go pr ev below _ T48 (mkF m 227 #[.val (.int aA), .val (.int 2), .val (.int 2), .val (.int wW), .val (.int 0), .val (.int kp), .val (.int dD), .val (.ref b1), .val (.ref b2), .val (.ref b3), .val (.ref b8), .val (.ref b12)] [(.int 0)])
       refine Go.of (mkF m 229 #[.val (.int aA), .val (.int 2), .val (.int 2), .val (.int wW), .val (.int 0), .val (.int kp), .val (.int dD), .val (.ref b1), .val (.ref b2), .val (.ref b3), .val (.ref b8), .val (.ref b12)] [(.ref b2), (.int 0)]) (fun _ q => XS.aload X48.here hx rfl (hb hby at_227) rfl rfl q) ?_
       refine Go.of (mkF m 230 #[.val (.int aA), .val (.int 2), .val (.int 2), .val (.int wW), .val (.int 0), .val (.int kp), .val (.int dD), .val (.ref b1), .val (.ref b2), .val (.ref b3), .val (.ref b8), .val (.ref b12)] [(.int 1), (.ref b2), (.int 0)]) (fun _ q => XS.iconst X48.here hx rfl (hb hby at_229) q) ?_
       refine Go.iaload X48 hx hZ hh48 VnJ (by decide) (by decide) (g := (mkF m 230 #[.val (.int aA), .val (.int 2), .val (.int 2), .val (.int wW), .val (.int 0), .val (.int kp), .val (.int dD), .val (.ref b1), .val (.ref b2), .val (.ref b3), .val (.ref b8), .val (.ref b12)] [(.int 1), (.ref b2), (.int 0)])) rfl rfl (hb hby at_230) ?_
       show Go pr ev below _ T48 (mkF m 231 #[.val (.int aA), .val (.int 2), .val (.int 2), .val (.int wW), .val (.int 0), .val (.int kp), .val (.int dD), .val (.ref b1), .val (.ref b2), .val (.ref b3), .val (.ref b8), .val (.ref b12)] [(.int ((fnup (fnup (fun _ => (0 : Int32)) (2 : Int32) (0 : Int32)) (2 : Int32) (1 : Int32)) (1 : Int32))), (.int 0)])
       rw [show ((fnup (fnup (fun _ => (0 : Int32)) (2 : Int32) (0 : Int32)) (2 : Int32) (1 : Int32)) (1 : Int32)) = (0 : Int32) from by first | rfl | simp [fnup]]
       refine Go.of (mkF m 234 #[.val (.int aA), .val (.int 2), .val (.int 2), .val (.int wW), .val (.int 0), .val (.int kp), .val (.int dD), .val (.ref b1), .val (.ref b2), .val (.ref b3), .val (.ref b8), .val (.ref b12)] []) (fun _ q => XS.icmpNo X48.here hx rfl (hb hby at_231) rfl (teq (by decide)).2 q) ?_
       refine Go.of (mkF m 236 #[.val (.int aA), .val (.int 2), .val (.int 2), .val (.int wW), .val (.int 0), .val (.int kp), .val (.int dD), .val (.ref b1), .val (.ref b2), .val (.ref b3), .val (.ref b8), .val (.ref b12)] [(.ref b12)]) (fun _ q => XS.aload X48.here hx rfl (hb hby at_234) rfl rfl q) ?_
       refine Go.of (mkF m 237 #[.val (.int aA), .val (.int 2), .val (.int 2), .val (.int wW), .val (.int 0), .val (.int kp), .val (.int dD), .val (.ref b1), .val (.ref b2), .val (.ref b3), .val (.ref b8), .val (.ref b12)] [(.int 2), (.ref b12)]) (fun _ q => XS.iconst X48.here hx rfl (hb hby at_236) q) ?_
       refine Go.virt X48 hx hZ (y := (⟨"com/example/kiriman/kiriman/route/Positions", "route", "(I)Lcom/example/kiriman/kiriman/route/Route;"⟩ : MethodName)) (z := (⟨"com/example/kiriman/kiriman/route/Positions", "route", "(I)Lcom/example/kiriman/kiriman/route/Route;"⟩ : MethodName)) (a := b12) (argsL := [(.int 2)]) (rest := []) hown (tw189 hw) (tw190 hw) (notFace_of_selects (args := #[]) (mvT hZ (tw192 hw))) (tw192 hw) (tw191 hw) (tw138 hw) (tw193 hw) (by decide) hh48 E (rmRo2R l Z a0 hw [] b12 rt b8 yrt h46 S4 Vrt hr2) (g := (mkF m 237 #[.val (.int aA), .val (.int 2), .val (.int 2), .val (.int wW), .val (.int 0), .val (.int kp), .val (.int dD), .val (.ref b1), .val (.ref b2), .val (.ref b3), .val (.ref b8), .val (.ref b12)] [(.int 2), (.ref b12)])) rfl (by rw [hml]; rfl) (lenOf pd44 rfl) rfl (W := 0) (by show 2 * 0 + _ ≤ _; exact Nat.le_of_eq rfl) (hb hby at_237) (by decide) (by decide) (by decide) (by decide) ?_
       rintro T49 L49 v49 X49 ⟨rfl, rfl, hh49⟩
       have N49 := Fr.app N48 (Fr.nil n0)
       show Go pr ev below _ T49 (mkF m 240 #[.val (.int aA), .val (.int 2), .val (.int 2), .val (.int wW), .val (.int 0), .val (.int kp), .val (.int dD), .val (.ref b1), .val (.ref b2), .val (.ref b3), .val (.ref b8), .val (.ref b12)] [(.ref b8)])
       refine Go.of (mkF m 242 #[.val (.int aA), .val (.int 2), .val (.int 2), .val (.int wW), .val (.int 0), .val (.int kp), .val (.int dD), .val (.ref b1), .val (.ref b2), .val (.ref b3), .val (.ref b8), .val (.ref b12)] [(.ref b1), (.ref b8)]) (fun _ q => XS.aload X49.here hx rfl (hb hby at_240) rfl rfl q) ?_
       refine Go.of (mkF m 243 #[.val (.int aA), .val (.int 2), .val (.int 2), .val (.int wW), .val (.int 0), .val (.int kp), .val (.int dD), .val (.ref b1), .val (.ref b2), .val (.ref b3), .val (.ref b8), .val (.ref b12)] [(.int 2), (.ref b1), (.ref b8)]) (fun _ q => XS.iconst X49.here hx rfl (hb hby at_242) q) ?_
       refine Go.aaload X49 hx hZ hh49 VeJ rfl (by decide) (by decide) (g := (mkF m 243 #[.val (.int aA), .val (.int 2), .val (.int 2), .val (.int wW), .val (.int 0), .val (.int kp), .val (.int dD), .val (.ref b1), .val (.ref b2), .val (.ref b3), .val (.ref b8), .val (.ref b12)] [(.int 2), (.ref b1), (.ref b8)])) rfl rfl (hb hby at_243) ?_
       show Go pr ev below _ T49 (mkF m 244 #[.val (.int aA), .val (.int 2), .val (.int 2), .val (.int wW), .val (.int 0), .val (.int kp), .val (.int dD), .val (.ref b1), .val (.ref b2), .val (.ref b3), .val (.ref b8), .val (.ref b12)] [((fnup (fnup (fun _ => Value.null) (2 : Int32) (.ref b8)) (2 : Int32) (.ref b8)) (2 : Int32)), (.ref b8)])
       rw [show ((fnup (fnup (fun _ => Value.null) (2 : Int32) (.ref b8)) (2 : Int32) (.ref b8)) (2 : Int32)) = (.ref b8) from by first | rfl | simp [fnup]]
       refine Go.of (mkF m 247 #[.val (.int aA), .val (.int 2), .val (.int 2), .val (.int wW), .val (.int 0), .val (.int kp), .val (.int dD), .val (.ref b1), .val (.ref b2), .val (.ref b3), .val (.ref b8), .val (.ref b12)] []) (fun _ q => Jvm.RoadKit.acmp (g := (mkF m 244 #[.val (.int aA), .val (.int 2), .val (.int 2), .val (.int wW), .val (.int 0), .val (.int kp), .val (.int dD), .val (.ref b1), .val (.ref b2), .val (.ref b3), .val (.ref b8), .val (.ref b12)] [(.ref b8), (.ref b8)])) X49 hx rfl (x := (.ref b8)) (y := (.ref b8)) rfl rfl (pc0 := 244) (pc' := 247) (same := true) rfl (hb hby at_244) rfl (decide_eq_true rfl) (by decide) (by decide) q) ?_
       refine Go.of (mkF m 249 #[.val (.int aA), .val (.int 2), .val (.int 2), .val (.int wW), .val (.int 0), .val (.int kp), .val (.int dD), .val (.ref b1), .val (.ref b2), .val (.ref b3), .val (.ref b8), .val (.ref b12)] [(.ref b12)]) (fun _ q => XS.aload X49.here hx rfl (hb hby at_247) rfl rfl q) ?_
       refine Go.of (mkF m 250 #[.val (.int aA), .val (.int 2), .val (.int 2), .val (.int wW), .val (.int 0), .val (.int kp), .val (.int dD), .val (.ref b1), .val (.ref b2), .val (.ref b3), .val (.ref b8), .val (.ref b12)] [(.int 2), (.ref b12)]) (fun _ q => XS.iconst X49.here hx rfl (hb hby at_249) q) ?_
       refine Go.virt X49 hx hZ (y := (⟨"com/example/kiriman/kiriman/route/Positions", "index", "(I)I"⟩ : MethodName)) (z := (⟨"com/example/kiriman/kiriman/route/Positions", "index", "(I)I"⟩ : MethodName)) (a := b12) (argsL := [(.int 2)]) (rest := []) hown (tw194 hw) (tw195 hw) (notFace_of_selects (args := #[]) (mvT hZ (tw197 hw))) (tw197 hw) (tw196 hw) (tw138 hw) (tw198 hw) (by decide) hh49 E (rmIx2 l Z a0 hw [] b12 ix (1 : Int32) yix h46 S5 Vix hi2) (g := (mkF m 250 #[.val (.int aA), .val (.int 2), .val (.int 2), .val (.int wW), .val (.int 0), .val (.int kp), .val (.int dD), .val (.ref b1), .val (.ref b2), .val (.ref b3), .val (.ref b8), .val (.ref b12)] [(.int 2), (.ref b12)])) rfl (by rw [hml]; rfl) (lenOf pd25 rfl) rfl (W := 0) (by show 2 * 0 + _ ≤ _; exact Nat.le_of_eq rfl) (hb hby at_250) (by decide) (by decide) (by decide) (by decide) ?_
       rintro T50 L50 v50 X50 ⟨rfl, rfl, hh50⟩
       have N50 := Fr.app N49 (Fr.nil n0)
       show Go pr ev below _ T50 (mkF m 253 #[.val (.int aA), .val (.int 2), .val (.int 2), .val (.int wW), .val (.int 0), .val (.int kp), .val (.int dD), .val (.ref b1), .val (.ref b2), .val (.ref b3), .val (.ref b8), .val (.ref b12)] [(.int 1)])
       refine Go.of (mkF m 255 #[.val (.int aA), .val (.int 2), .val (.int 2), .val (.int wW), .val (.int 0), .val (.int kp), .val (.int dD), .val (.ref b1), .val (.ref b2), .val (.ref b3), .val (.ref b8), .val (.ref b12)] [(.ref b2), (.int 1)]) (fun _ q => XS.aload X50.here hx rfl (hb hby at_253) rfl rfl q) ?_
       refine Go.of (mkF m 256 #[.val (.int aA), .val (.int 2), .val (.int 2), .val (.int wW), .val (.int 0), .val (.int kp), .val (.int dD), .val (.ref b1), .val (.ref b2), .val (.ref b3), .val (.ref b8), .val (.ref b12)] [(.int 2), (.ref b2), (.int 1)]) (fun _ q => XS.iconst X50.here hx rfl (hb hby at_255) q) ?_
       refine Go.iaload X50 hx hZ hh50 VnJ (by decide) (by decide) (g := (mkF m 256 #[.val (.int aA), .val (.int 2), .val (.int 2), .val (.int wW), .val (.int 0), .val (.int kp), .val (.int dD), .val (.ref b1), .val (.ref b2), .val (.ref b3), .val (.ref b8), .val (.ref b12)] [(.int 2), (.ref b2), (.int 1)])) rfl rfl (hb hby at_256) ?_
       show Go pr ev below _ T50 (mkF m 257 #[.val (.int aA), .val (.int 2), .val (.int 2), .val (.int wW), .val (.int 0), .val (.int kp), .val (.int dD), .val (.ref b1), .val (.ref b2), .val (.ref b3), .val (.ref b8), .val (.ref b12)] [(.int ((fnup (fnup (fun _ => (0 : Int32)) (2 : Int32) (0 : Int32)) (2 : Int32) (1 : Int32)) (2 : Int32))), (.int 1)])
       rw [show ((fnup (fnup (fun _ => (0 : Int32)) (2 : Int32) (0 : Int32)) (2 : Int32) (1 : Int32)) (2 : Int32)) = (1 : Int32) from by first | rfl | simp [fnup]]
       refine Go.of (mkF m 260 #[.val (.int aA), .val (.int 2), .val (.int 2), .val (.int wW), .val (.int 0), .val (.int kp), .val (.int dD), .val (.ref b1), .val (.ref b2), .val (.ref b3), .val (.ref b8), .val (.ref b12)] []) (fun _ q => XS.icmpNo X50.here hx rfl (hb hby at_257) rfl (teq (by decide)).2 q) ?_
       refine Go.of (mkF m 261 #[.val (.int aA), .val (.int 2), .val (.int 2), .val (.int wW), .val (.int 0), .val (.int kp), .val (.int dD), .val (.ref b1), .val (.ref b2), .val (.ref b3), .val (.ref b8), .val (.ref b12)] [(.int 1)]) (fun _ q => XS.iconst X50.here hx rfl (hb hby at_260) q) ?_
       refine Go.of (mkF m 265 #[.val (.int aA), .val (.int 2), .val (.int 2), .val (.int wW), .val (.int 0), .val (.int kp), .val (.int dD), .val (.ref b1), .val (.ref b2), .val (.ref b3), .val (.ref b8), .val (.ref b12)] [(.int 1)]) (fun _ q => XS.goto X50.here hx rfl (pc0 := 261) (pc' := 265) rfl (hb hby at_261) (by decide) (by decide) q) ?_
       exact Go.retW X50 hx (t := .boolean) hret hlk rfl (Or.inl ⟨rfl, by simp, _, rfl⟩) (hb hby at_265) (by decide) (by decide) ⟨rfl, N50⟩
    ·
     rcases hvV with rfl | rfl
     ·
      replace hr1 : yrt 1 = (.ref b8) := by rw [hr1]; simp [own_R]
      replace hi1 : yix 1 = (1 : Int32) := by rw [hi1]; simp [own_I]
      replace hr2 : yrt 2 = .null := by rw [hr2]; simp [own_R]
      replace hi2 : yix 2 = (0 : Int32) := by rw [hi2]; simp [own_I]
      refine Go.of (mkF m 171 #[.val (.int aA), .val (.int uU), .val (.int 1), .val (.int wW), .val (.int 1), .val (.int kp), .val (.int dD), .val (.ref b1), .val (.ref b2), .val (.ref b3), .val (.ref b8), .val (.ref b12)] [(.int kp)]) (fun _ q => XS.iload XJ.here hx rfl (hb hby at_169) rfl q) ?_
      refine Go.of (mkF m 172 #[.val (.int aA), .val (.int uU), .val (.int 1), .val (.int wW), .val (.int 1), .val (.int kp), .val (.int dD), .val (.ref b1), .val (.ref b2), .val (.ref b3), .val (.ref b8), .val (.ref b12)] [(.int 1), (.int kp)]) (fun _ q => XS.iconst XJ.here hx rfl (hb hby at_171) q) ?_
      refine Go.of (mkF m 175 #[.val (.int aA), .val (.int uU), .val (.int 1), .val (.int wW), .val (.int 1), .val (.int kp), .val (.int dD), .val (.ref b1), .val (.ref b2), .val (.ref b3), .val (.ref b8), .val (.ref b12)] []) (fun _ q => XS.icmpNo XJ.here hx rfl (hb hby at_172) rfl (flt hk1).1 q) ?_
      refine Go.of (mkF m 177 #[.val (.int aA), .val (.int uU), .val (.int 1), .val (.int wW), .val (.int 1), .val (.int kp), .val (.int dD), .val (.ref b1), .val (.ref b2), .val (.ref b3), .val (.ref b8), .val (.ref b12)] [(.int 1)]) (fun _ q => XS.iload XJ.here hx rfl (hb hby at_175) rfl q) ?_
      refine Go.of (mkF m 191 #[.val (.int aA), .val (.int uU), .val (.int 1), .val (.int wW), .val (.int 1), .val (.int kp), .val (.int dD), .val (.ref b1), .val (.ref b2), .val (.ref b3), .val (.ref b8), .val (.ref b12)] []) (fun _ q => XS.ifYes XJ.here hx rfl (pc0 := 177) (pc' := 191) rfl (hb hby at_177) rfl ((if0 _ _).trans (feq (by decide)).2) (by decide) (by decide) q) ?_
      refine Go.of (mkF m 193 #[.val (.int aA), .val (.int uU), .val (.int 1), .val (.int wW), .val (.int 1), .val (.int kp), .val (.int dD), .val (.ref b1), .val (.ref b2), .val (.ref b3), .val (.ref b8), .val (.ref b12)] [(.int 1)]) (fun _ q => XS.iload XJ.here hx rfl (hb hby at_191) rfl q) ?_
      refine Go.of (mkF m 194 #[.val (.int aA), .val (.int uU), .val (.int 1), .val (.int wW), .val (.int 1), .val (.int kp), .val (.int dD), .val (.ref b1), .val (.ref b2), .val (.ref b3), .val (.ref b8), .val (.ref b12)] [(.int 1), (.int 1)]) (fun _ q => XS.iconst XJ.here hx rfl (hb hby at_193) q) ?_
      refine Go.of (mkF m 197 #[.val (.int aA), .val (.int uU), .val (.int 1), .val (.int wW), .val (.int 1), .val (.int kp), .val (.int dD), .val (.ref b1), .val (.ref b2), .val (.ref b3), .val (.ref b8), .val (.ref b12)] []) (fun _ q => XS.icmpNo XJ.here hx rfl (hb hby at_194) rfl (flt (by decide)).2.2.1 q) ?_
      refine Go.of (mkF m 199 #[.val (.int aA), .val (.int uU), .val (.int 1), .val (.int wW), .val (.int 1), .val (.int kp), .val (.int dD), .val (.ref b1), .val (.ref b2), .val (.ref b3), .val (.ref b8), .val (.ref b12)] [(.ref b1)]) (fun _ q => XS.aload XJ.here hx rfl (hb hby at_197) rfl rfl q) ?_
      refine Go.of (mkF m 200 #[.val (.int aA), .val (.int uU), .val (.int 1), .val (.int wW), .val (.int 1), .val (.int kp), .val (.int dD), .val (.ref b1), .val (.ref b2), .val (.ref b3), .val (.ref b8), .val (.ref b12)] [(.int 1), (.ref b1)]) (fun _ q => XS.iloadN XJ.here hx rfl (hb hby at_199) rfl q) ?_
      refine Go.of (mkF m 202 #[.val (.int aA), .val (.int uU), .val (.int 1), .val (.int wW), .val (.int 1), .val (.int kp), .val (.int dD), .val (.ref b1), .val (.ref b2), .val (.ref b3), .val (.ref b8), .val (.ref b12)] [(.ref b8), (.int 1), (.ref b1)]) (fun _ q => XS.aload XJ.here hx rfl (hb hby at_200) rfl rfl q) ?_
      refine Go.aastore XJ hx hZ eJ VeJ rfl rfl (Fa.sto VeJ UeJ (Ins.self Er)) (by decide) (by decide) (g := (mkF m 202 #[.val (.int aA), .val (.int uU), .val (.int 1), .val (.int wW), .val (.int 1), .val (.int kp), .val (.int dD), .val (.ref b1), .val (.ref b2), .val (.ref b3), .val (.ref b8), .val (.ref b12)] [(.ref b8), (.int 1), (.ref b1)])) rfl rfl (hb hby at_202) ?_
      rintro T51 h51 X51 e51 W51 V51
      replace S4 := S4.other W51 (Or.inl (Ne.symm ne_b1_b12))
      replace S5 := S5.other W51 (Or.inl (Ne.symm ne_b1_b12))
      replace E := E.wr W51
      replace Er := Er.wr W51
      replace UeJ := UeJ.wr W51
      replace Vrt := Vrt.other W51 nj_rt_b1
      replace Vix := Vix.other W51 nj_ix_b1
      replace VnJ := VnJ.other W51 (Ne.symm ne_b1_b2)
      replace VeJ := V51
      have N51 := Fr.snoc X51 NJ gb_b1
      show Go pr ev below _ T51 (mkF m 203 #[.val (.int aA), .val (.int uU), .val (.int 1), .val (.int wW), .val (.int 1), .val (.int kp), .val (.int dD), .val (.ref b1), .val (.ref b2), .val (.ref b3), .val (.ref b8), .val (.ref b12)] [])
      refine Go.of (mkF m 205 #[.val (.int aA), .val (.int uU), .val (.int 1), .val (.int wW), .val (.int 1), .val (.int kp), .val (.int dD), .val (.ref b1), .val (.ref b2), .val (.ref b3), .val (.ref b8), .val (.ref b12)] [(.ref b2)]) (fun _ q => XS.aload X51.here hx rfl (hb hby at_203) rfl rfl q) ?_
      refine Go.of (mkF m 206 #[.val (.int aA), .val (.int uU), .val (.int 1), .val (.int wW), .val (.int 1), .val (.int kp), .val (.int dD), .val (.ref b1), .val (.ref b2), .val (.ref b3), .val (.ref b8), .val (.ref b12)] [(.int 1), (.ref b2)]) (fun _ q => XS.iloadN X51.here hx rfl (hb hby at_205) rfl q) ?_
      refine Go.of (mkF m 207 #[.val (.int aA), .val (.int uU), .val (.int 1), .val (.int wW), .val (.int 1), .val (.int kp), .val (.int dD), .val (.ref b1), .val (.ref b2), .val (.ref b3), .val (.ref b8), .val (.ref b12)] [(.int 1), (.int 1), (.ref b2)]) (fun _ q => XS.iconst X51.here hx rfl (hb hby at_206) q) ?_
      refine Go.iastore X51 hx hZ e51 VnJ (by decide) (by decide) (g := (mkF m 207 #[.val (.int aA), .val (.int uU), .val (.int 1), .val (.int wW), .val (.int 1), .val (.int kp), .val (.int dD), .val (.ref b1), .val (.ref b2), .val (.ref b3), .val (.ref b8), .val (.ref b12)] [(.int 1), (.int 1), (.ref b2)])) rfl rfl (hb hby at_207) ?_
      rintro T52 h52 X52 e52 W52 V52
      replace S4 := S4.other W52 (Or.inl (Ne.symm ne_b2_b12))
      replace S5 := S5.other W52 (Or.inl (Ne.symm ne_b2_b12))
      replace E := E.wr W52
      replace Er := Er.wr W52
      replace UeJ := UeJ.wr W52
      replace Vrt := Vrt.other W52 nj_rt_b2
      replace Vix := Vix.other W52 nj_ix_b2
      replace VeJ := VeJ.other W52 ne_b1_b2
      replace VnJ := V52
      have N52 := Fr.snoc X52 N51 gb_b2
      show Go pr ev below _ T52 (mkF m 208 #[.val (.int aA), .val (.int uU), .val (.int 1), .val (.int wW), .val (.int 1), .val (.int kp), .val (.int dD), .val (.ref b1), .val (.ref b2), .val (.ref b3), .val (.ref b8), .val (.ref b12)] [])
      refine Go.of (mkF m 210 #[.val (.int aA), .val (.int uU), .val (.int 1), .val (.int wW), .val (.int 1), .val (.int kp), .val (.int dD), .val (.ref b1), .val (.ref b2), .val (.ref b3), .val (.ref b8), .val (.ref b12)] [(.ref b12)]) (fun _ q => XS.aload X52.here hx rfl (hb hby at_208) rfl rfl q) ?_
      refine Go.of (mkF m 211 #[.val (.int aA), .val (.int uU), .val (.int 1), .val (.int wW), .val (.int 1), .val (.int kp), .val (.int dD), .val (.ref b1), .val (.ref b2), .val (.ref b3), .val (.ref b8), .val (.ref b12)] [(.int 1), (.ref b12)]) (fun _ q => XS.iconst X52.here hx rfl (hb hby at_210) q) ?_
      refine Go.virt X52 hx hZ (y := (⟨"com/example/kiriman/kiriman/route/Positions", "route", "(I)Lcom/example/kiriman/kiriman/route/Route;"⟩ : MethodName)) (z := (⟨"com/example/kiriman/kiriman/route/Positions", "route", "(I)Lcom/example/kiriman/kiriman/route/Route;"⟩ : MethodName)) (a := b12) (argsL := [(.int 1)]) (rest := []) hown (tw189 hw) (tw190 hw) (notFace_of_selects (args := #[]) (mvT hZ (tw192 hw))) (tw192 hw) (tw191 hw) (tw138 hw) (tw193 hw) (by decide) e52 E (rmRo1R l Z a0 hw [] b12 rt b8 yrt h52 S4 Vrt hr1) (g := (mkF m 211 #[.val (.int aA), .val (.int uU), .val (.int 1), .val (.int wW), .val (.int 1), .val (.int kp), .val (.int dD), .val (.ref b1), .val (.ref b2), .val (.ref b3), .val (.ref b8), .val (.ref b12)] [(.int 1), (.ref b12)])) rfl (by rw [hml]; rfl) (lenOf pd44 rfl) rfl (W := 0) (by show 2 * 0 + _ ≤ _; exact Nat.le_of_eq rfl) (hb hby at_211) (by decide) (by decide) (by decide) (by decide) ?_
      rintro T53 L53 v53 X53 ⟨rfl, rfl, hh53⟩
      have N53 := Fr.app N52 (Fr.nil n0)
      show Go pr ev below _ T53 (mkF m 214 #[.val (.int aA), .val (.int uU), .val (.int 1), .val (.int wW), .val (.int 1), .val (.int kp), .val (.int dD), .val (.ref b1), .val (.ref b2), .val (.ref b3), .val (.ref b8), .val (.ref b12)] [(.ref b8)])
      refine Go.of (mkF m 216 #[.val (.int aA), .val (.int uU), .val (.int 1), .val (.int wW), .val (.int 1), .val (.int kp), .val (.int dD), .val (.ref b1), .val (.ref b2), .val (.ref b3), .val (.ref b8), .val (.ref b12)] [(.ref b1), (.ref b8)]) (fun _ q => XS.aload X53.here hx rfl (hb hby at_214) rfl rfl q) ?_
      refine Go.of (mkF m 217 #[.val (.int aA), .val (.int uU), .val (.int 1), .val (.int wW), .val (.int 1), .val (.int kp), .val (.int dD), .val (.ref b1), .val (.ref b2), .val (.ref b3), .val (.ref b8), .val (.ref b12)] [(.int 1), (.ref b1), (.ref b8)]) (fun _ q => XS.iconst X53.here hx rfl (hb hby at_216) q) ?_
      refine Go.aaload X53 hx hZ hh53 VeJ rfl (by decide) (by decide) (g := (mkF m 217 #[.val (.int aA), .val (.int uU), .val (.int 1), .val (.int wW), .val (.int 1), .val (.int kp), .val (.int dD), .val (.ref b1), .val (.ref b2), .val (.ref b3), .val (.ref b8), .val (.ref b12)] [(.int 1), (.ref b1), (.ref b8)])) rfl rfl (hb hby at_217) ?_
      show Go pr ev below _ T53 (mkF m 218 #[.val (.int aA), .val (.int uU), .val (.int 1), .val (.int wW), .val (.int 1), .val (.int kp), .val (.int dD), .val (.ref b1), .val (.ref b2), .val (.ref b3), .val (.ref b8), .val (.ref b12)] [((fnup (fun _ => Value.null) (1 : Int32) (.ref b8)) (1 : Int32)), (.ref b8)])
      rw [show ((fnup (fun _ => Value.null) (1 : Int32) (.ref b8)) (1 : Int32)) = (.ref b8) from by first | rfl | simp [fnup]]
      refine Go.of (mkF m 221 #[.val (.int aA), .val (.int uU), .val (.int 1), .val (.int wW), .val (.int 1), .val (.int kp), .val (.int dD), .val (.ref b1), .val (.ref b2), .val (.ref b3), .val (.ref b8), .val (.ref b12)] []) (fun _ q => Jvm.RoadKit.acmp (g := (mkF m 218 #[.val (.int aA), .val (.int uU), .val (.int 1), .val (.int wW), .val (.int 1), .val (.int kp), .val (.int dD), .val (.ref b1), .val (.ref b2), .val (.ref b3), .val (.ref b8), .val (.ref b12)] [(.ref b8), (.ref b8)])) X53 hx rfl (x := (.ref b8)) (y := (.ref b8)) rfl rfl (pc0 := 218) (pc' := 221) (same := true) rfl (hb hby at_218) rfl (decide_eq_true rfl) (by decide) (by decide) q) ?_
      refine Go.of (mkF m 223 #[.val (.int aA), .val (.int uU), .val (.int 1), .val (.int wW), .val (.int 1), .val (.int kp), .val (.int dD), .val (.ref b1), .val (.ref b2), .val (.ref b3), .val (.ref b8), .val (.ref b12)] [(.ref b12)]) (fun _ q => XS.aload X53.here hx rfl (hb hby at_221) rfl rfl q) ?_
      refine Go.of (mkF m 224 #[.val (.int aA), .val (.int uU), .val (.int 1), .val (.int wW), .val (.int 1), .val (.int kp), .val (.int dD), .val (.ref b1), .val (.ref b2), .val (.ref b3), .val (.ref b8), .val (.ref b12)] [(.int 1), (.ref b12)]) (fun _ q => XS.iconst X53.here hx rfl (hb hby at_223) q) ?_
      refine Go.virt X53 hx hZ (y := (⟨"com/example/kiriman/kiriman/route/Positions", "index", "(I)I"⟩ : MethodName)) (z := (⟨"com/example/kiriman/kiriman/route/Positions", "index", "(I)I"⟩ : MethodName)) (a := b12) (argsL := [(.int 1)]) (rest := []) hown (tw194 hw) (tw195 hw) (notFace_of_selects (args := #[]) (mvT hZ (tw197 hw))) (tw197 hw) (tw196 hw) (tw138 hw) (tw198 hw) (by decide) hh53 E (rmIx1 l Z a0 hw [] b12 ix (1 : Int32) yix h52 S5 Vix hi1) (g := (mkF m 224 #[.val (.int aA), .val (.int uU), .val (.int 1), .val (.int wW), .val (.int 1), .val (.int kp), .val (.int dD), .val (.ref b1), .val (.ref b2), .val (.ref b3), .val (.ref b8), .val (.ref b12)] [(.int 1), (.ref b12)])) rfl (by rw [hml]; rfl) (lenOf pd25 rfl) rfl (W := 0) (by show 2 * 0 + _ ≤ _; exact Nat.le_of_eq rfl) (hb hby at_224) (by decide) (by decide) (by decide) (by decide) ?_
      rintro T54 L54 v54 X54 ⟨rfl, rfl, hh54⟩
      have N54 := Fr.app N53 (Fr.nil n0)
      show Go pr ev below _ T54 (mkF m 227 #[.val (.int aA), .val (.int uU), .val (.int 1), .val (.int wW), .val (.int 1), .val (.int kp), .val (.int dD), .val (.ref b1), .val (.ref b2), .val (.ref b3), .val (.ref b8), .val (.ref b12)] [(.int 1)])
      refine Go.of (mkF m 229 #[.val (.int aA), .val (.int uU), .val (.int 1), .val (.int wW), .val (.int 1), .val (.int kp), .val (.int dD), .val (.ref b1), .val (.ref b2), .val (.ref b3), .val (.ref b8), .val (.ref b12)] [(.ref b2), (.int 1)]) (fun _ q => XS.aload X54.here hx rfl (hb hby at_227) rfl rfl q) ?_
      refine Go.of (mkF m 230 #[.val (.int aA), .val (.int uU), .val (.int 1), .val (.int wW), .val (.int 1), .val (.int kp), .val (.int dD), .val (.ref b1), .val (.ref b2), .val (.ref b3), .val (.ref b8), .val (.ref b12)] [(.int 1), (.ref b2), (.int 1)]) (fun _ q => XS.iconst X54.here hx rfl (hb hby at_229) q) ?_
      refine Go.iaload X54 hx hZ hh54 VnJ (by decide) (by decide) (g := (mkF m 230 #[.val (.int aA), .val (.int uU), .val (.int 1), .val (.int wW), .val (.int 1), .val (.int kp), .val (.int dD), .val (.ref b1), .val (.ref b2), .val (.ref b3), .val (.ref b8), .val (.ref b12)] [(.int 1), (.ref b2), (.int 1)])) rfl rfl (hb hby at_230) ?_
      show Go pr ev below _ T54 (mkF m 231 #[.val (.int aA), .val (.int uU), .val (.int 1), .val (.int wW), .val (.int 1), .val (.int kp), .val (.int dD), .val (.ref b1), .val (.ref b2), .val (.ref b3), .val (.ref b8), .val (.ref b12)] [(.int ((fnup (fun _ => (0 : Int32)) (1 : Int32) (1 : Int32)) (1 : Int32))), (.int 1)])
      rw [show ((fnup (fun _ => (0 : Int32)) (1 : Int32) (1 : Int32)) (1 : Int32)) = (1 : Int32) from by first | rfl | simp [fnup]]
      refine Go.of (mkF m 234 #[.val (.int aA), .val (.int uU), .val (.int 1), .val (.int wW), .val (.int 1), .val (.int kp), .val (.int dD), .val (.ref b1), .val (.ref b2), .val (.ref b3), .val (.ref b8), .val (.ref b12)] []) (fun _ q => XS.icmpNo X54.here hx rfl (hb hby at_231) rfl (teq (by decide)).2 q) ?_
      refine Go.of (mkF m 236 #[.val (.int aA), .val (.int uU), .val (.int 1), .val (.int wW), .val (.int 1), .val (.int kp), .val (.int dD), .val (.ref b1), .val (.ref b2), .val (.ref b3), .val (.ref b8), .val (.ref b12)] [(.ref b12)]) (fun _ q => XS.aload X54.here hx rfl (hb hby at_234) rfl rfl q) ?_
      refine Go.of (mkF m 237 #[.val (.int aA), .val (.int uU), .val (.int 1), .val (.int wW), .val (.int 1), .val (.int kp), .val (.int dD), .val (.ref b1), .val (.ref b2), .val (.ref b3), .val (.ref b8), .val (.ref b12)] [(.int 2), (.ref b12)]) (fun _ q => XS.iconst X54.here hx rfl (hb hby at_236) q) ?_
      refine Go.virt X54 hx hZ (y := (⟨"com/example/kiriman/kiriman/route/Positions", "route", "(I)Lcom/example/kiriman/kiriman/route/Route;"⟩ : MethodName)) (z := (⟨"com/example/kiriman/kiriman/route/Positions", "route", "(I)Lcom/example/kiriman/kiriman/route/Route;"⟩ : MethodName)) (a := b12) (argsL := [(.int 2)]) (rest := []) hown (tw189 hw) (tw190 hw) (notFace_of_selects (args := #[]) (mvT hZ (tw192 hw))) (tw192 hw) (tw191 hw) (tw138 hw) (tw193 hw) (by decide) hh54 E (rmRo2N l Z a0 hw [] b12 rt b8 yrt h52 S4 Vrt hr2) (g := (mkF m 237 #[.val (.int aA), .val (.int uU), .val (.int 1), .val (.int wW), .val (.int 1), .val (.int kp), .val (.int dD), .val (.ref b1), .val (.ref b2), .val (.ref b3), .val (.ref b8), .val (.ref b12)] [(.int 2), (.ref b12)])) rfl (by rw [hml]; rfl) (lenOf pd44 rfl) rfl (W := 0) (by show 2 * 0 + _ ≤ _; exact Nat.le_of_eq rfl) (hb hby at_237) (by decide) (by decide) (by decide) (by decide) ?_
      rintro T55 L55 v55 X55 ⟨rfl, rfl, hh55⟩
      have N55 := Fr.app N54 (Fr.nil n0)
      show Go pr ev below _ T55 (mkF m 240 #[.val (.int aA), .val (.int uU), .val (.int 1), .val (.int wW), .val (.int 1), .val (.int kp), .val (.int dD), .val (.ref b1), .val (.ref b2), .val (.ref b3), .val (.ref b8), .val (.ref b12)] [.null])
      refine Go.of (mkF m 242 #[.val (.int aA), .val (.int uU), .val (.int 1), .val (.int wW), .val (.int 1), .val (.int kp), .val (.int dD), .val (.ref b1), .val (.ref b2), .val (.ref b3), .val (.ref b8), .val (.ref b12)] [(.ref b1), .null]) (fun _ q => XS.aload X55.here hx rfl (hb hby at_240) rfl rfl q) ?_
      refine Go.of (mkF m 243 #[.val (.int aA), .val (.int uU), .val (.int 1), .val (.int wW), .val (.int 1), .val (.int kp), .val (.int dD), .val (.ref b1), .val (.ref b2), .val (.ref b3), .val (.ref b8), .val (.ref b12)] [(.int 2), (.ref b1), .null]) (fun _ q => XS.iconst X55.here hx rfl (hb hby at_242) q) ?_
      refine Go.aaload X55 hx hZ hh55 VeJ rfl (by decide) (by decide) (g := (mkF m 243 #[.val (.int aA), .val (.int uU), .val (.int 1), .val (.int wW), .val (.int 1), .val (.int kp), .val (.int dD), .val (.ref b1), .val (.ref b2), .val (.ref b3), .val (.ref b8), .val (.ref b12)] [(.int 2), (.ref b1), .null])) rfl rfl (hb hby at_243) ?_
      show Go pr ev below _ T55 (mkF m 244 #[.val (.int aA), .val (.int uU), .val (.int 1), .val (.int wW), .val (.int 1), .val (.int kp), .val (.int dD), .val (.ref b1), .val (.ref b2), .val (.ref b3), .val (.ref b8), .val (.ref b12)] [((fnup (fun _ => Value.null) (1 : Int32) (.ref b8)) (2 : Int32)), .null])
      rw [show ((fnup (fun _ => Value.null) (1 : Int32) (.ref b8)) (2 : Int32)) = .null from by first | rfl | simp [fnup]]
      refine Go.of (mkF m 247 #[.val (.int aA), .val (.int uU), .val (.int 1), .val (.int wW), .val (.int 1), .val (.int kp), .val (.int dD), .val (.ref b1), .val (.ref b2), .val (.ref b3), .val (.ref b8), .val (.ref b12)] []) (fun _ q => Jvm.RoadKit.acmp (g := (mkF m 244 #[.val (.int aA), .val (.int uU), .val (.int 1), .val (.int wW), .val (.int 1), .val (.int kp), .val (.int dD), .val (.ref b1), .val (.ref b2), .val (.ref b3), .val (.ref b8), .val (.ref b12)] [.null, .null])) X55 hx rfl (x := .null) (y := .null) rfl rfl (pc0 := 244) (pc' := 247) (same := true) rfl (hb hby at_244) rfl (decide_eq_true rfl) (by decide) (by decide) q) ?_
      refine Go.of (mkF m 249 #[.val (.int aA), .val (.int uU), .val (.int 1), .val (.int wW), .val (.int 1), .val (.int kp), .val (.int dD), .val (.ref b1), .val (.ref b2), .val (.ref b3), .val (.ref b8), .val (.ref b12)] [(.ref b12)]) (fun _ q => XS.aload X55.here hx rfl (hb hby at_247) rfl rfl q) ?_
      refine Go.of (mkF m 250 #[.val (.int aA), .val (.int uU), .val (.int 1), .val (.int wW), .val (.int 1), .val (.int kp), .val (.int dD), .val (.ref b1), .val (.ref b2), .val (.ref b3), .val (.ref b8), .val (.ref b12)] [(.int 2), (.ref b12)]) (fun _ q => XS.iconst X55.here hx rfl (hb hby at_249) q) ?_
      refine Go.virt X55 hx hZ (y := (⟨"com/example/kiriman/kiriman/route/Positions", "index", "(I)I"⟩ : MethodName)) (z := (⟨"com/example/kiriman/kiriman/route/Positions", "index", "(I)I"⟩ : MethodName)) (a := b12) (argsL := [(.int 2)]) (rest := []) hown (tw194 hw) (tw195 hw) (notFace_of_selects (args := #[]) (mvT hZ (tw197 hw))) (tw197 hw) (tw196 hw) (tw138 hw) (tw198 hw) (by decide) hh55 E (rmIx2 l Z a0 hw [] b12 ix (0 : Int32) yix h52 S5 Vix hi2) (g := (mkF m 250 #[.val (.int aA), .val (.int uU), .val (.int 1), .val (.int wW), .val (.int 1), .val (.int kp), .val (.int dD), .val (.ref b1), .val (.ref b2), .val (.ref b3), .val (.ref b8), .val (.ref b12)] [(.int 2), (.ref b12)])) rfl (by rw [hml]; rfl) (lenOf pd25 rfl) rfl (W := 0) (by show 2 * 0 + _ ≤ _; exact Nat.le_of_eq rfl) (hb hby at_250) (by decide) (by decide) (by decide) (by decide) ?_
      rintro T56 L56 v56 X56 ⟨rfl, rfl, hh56⟩
      have N56 := Fr.app N55 (Fr.nil n0)
      show Go pr ev below _ T56 (mkF m 253 #[.val (.int aA), .val (.int uU), .val (.int 1), .val (.int wW), .val (.int 1), .val (.int kp), .val (.int dD), .val (.ref b1), .val (.ref b2), .val (.ref b3), .val (.ref b8), .val (.ref b12)] [(.int 0)])
      refine Go.of (mkF m 255 #[.val (.int aA), .val (.int uU), .val (.int 1), .val (.int wW), .val (.int 1), .val (.int kp), .val (.int dD), .val (.ref b1), .val (.ref b2), .val (.ref b3), .val (.ref b8), .val (.ref b12)] [(.ref b2), (.int 0)]) (fun _ q => XS.aload X56.here hx rfl (hb hby at_253) rfl rfl q) ?_
      refine Go.of (mkF m 256 #[.val (.int aA), .val (.int uU), .val (.int 1), .val (.int wW), .val (.int 1), .val (.int kp), .val (.int dD), .val (.ref b1), .val (.ref b2), .val (.ref b3), .val (.ref b8), .val (.ref b12)] [(.int 2), (.ref b2), (.int 0)]) (fun _ q => XS.iconst X56.here hx rfl (hb hby at_255) q) ?_
      refine Go.iaload X56 hx hZ hh56 VnJ (by decide) (by decide) (g := (mkF m 256 #[.val (.int aA), .val (.int uU), .val (.int 1), .val (.int wW), .val (.int 1), .val (.int kp), .val (.int dD), .val (.ref b1), .val (.ref b2), .val (.ref b3), .val (.ref b8), .val (.ref b12)] [(.int 2), (.ref b2), (.int 0)])) rfl rfl (hb hby at_256) ?_
      show Go pr ev below _ T56 (mkF m 257 #[.val (.int aA), .val (.int uU), .val (.int 1), .val (.int wW), .val (.int 1), .val (.int kp), .val (.int dD), .val (.ref b1), .val (.ref b2), .val (.ref b3), .val (.ref b8), .val (.ref b12)] [(.int ((fnup (fun _ => (0 : Int32)) (1 : Int32) (1 : Int32)) (2 : Int32))), (.int 0)])
      rw [show ((fnup (fun _ => (0 : Int32)) (1 : Int32) (1 : Int32)) (2 : Int32)) = (0 : Int32) from by first | rfl | simp [fnup]]
      refine Go.of (mkF m 260 #[.val (.int aA), .val (.int uU), .val (.int 1), .val (.int wW), .val (.int 1), .val (.int kp), .val (.int dD), .val (.ref b1), .val (.ref b2), .val (.ref b3), .val (.ref b8), .val (.ref b12)] []) (fun _ q => XS.icmpNo X56.here hx rfl (hb hby at_257) rfl (teq (by decide)).2 q) ?_
      refine Go.of (mkF m 261 #[.val (.int aA), .val (.int uU), .val (.int 1), .val (.int wW), .val (.int 1), .val (.int kp), .val (.int dD), .val (.ref b1), .val (.ref b2), .val (.ref b3), .val (.ref b8), .val (.ref b12)] [(.int 1)]) (fun _ q => XS.iconst X56.here hx rfl (hb hby at_260) q) ?_
      refine Go.of (mkF m 265 #[.val (.int aA), .val (.int uU), .val (.int 1), .val (.int wW), .val (.int 1), .val (.int kp), .val (.int dD), .val (.ref b1), .val (.ref b2), .val (.ref b3), .val (.ref b8), .val (.ref b12)] [(.int 1)]) (fun _ q => XS.goto X56.here hx rfl (pc0 := 261) (pc' := 265) rfl (hb hby at_261) (by decide) (by decide) q) ?_
      exact Go.retW X56 hx (t := .boolean) hret hlk rfl (Or.inl ⟨rfl, by simp, _, rfl⟩) (hb hby at_265) (by decide) (by decide) ⟨rfl, N56⟩
     ·
      replace hr1 : yrt 1 = .null := by rw [hr1]; simp [own_R]
      replace hi1 : yix 1 = (0 : Int32) := by rw [hi1]; simp [own_I]
      replace hr2 : yrt 2 = (.ref b8) := by rw [hr2]; simp [own_R]
      replace hi2 : yix 2 = (1 : Int32) := by rw [hi2]; simp [own_I]
      refine Go.of (mkF m 171 #[.val (.int aA), .val (.int uU), .val (.int 2), .val (.int wW), .val (.int 1), .val (.int kp), .val (.int dD), .val (.ref b1), .val (.ref b2), .val (.ref b3), .val (.ref b8), .val (.ref b12)] [(.int kp)]) (fun _ q => XS.iload XJ.here hx rfl (hb hby at_169) rfl q) ?_
      refine Go.of (mkF m 172 #[.val (.int aA), .val (.int uU), .val (.int 2), .val (.int wW), .val (.int 1), .val (.int kp), .val (.int dD), .val (.ref b1), .val (.ref b2), .val (.ref b3), .val (.ref b8), .val (.ref b12)] [(.int 1), (.int kp)]) (fun _ q => XS.iconst XJ.here hx rfl (hb hby at_171) q) ?_
      refine Go.of (mkF m 175 #[.val (.int aA), .val (.int uU), .val (.int 2), .val (.int wW), .val (.int 1), .val (.int kp), .val (.int dD), .val (.ref b1), .val (.ref b2), .val (.ref b3), .val (.ref b8), .val (.ref b12)] []) (fun _ q => XS.icmpNo XJ.here hx rfl (hb hby at_172) rfl (flt hk1).1 q) ?_
      refine Go.of (mkF m 177 #[.val (.int aA), .val (.int uU), .val (.int 2), .val (.int wW), .val (.int 1), .val (.int kp), .val (.int dD), .val (.ref b1), .val (.ref b2), .val (.ref b3), .val (.ref b8), .val (.ref b12)] [(.int 1)]) (fun _ q => XS.iload XJ.here hx rfl (hb hby at_175) rfl q) ?_
      refine Go.of (mkF m 191 #[.val (.int aA), .val (.int uU), .val (.int 2), .val (.int wW), .val (.int 1), .val (.int kp), .val (.int dD), .val (.ref b1), .val (.ref b2), .val (.ref b3), .val (.ref b8), .val (.ref b12)] []) (fun _ q => XS.ifYes XJ.here hx rfl (pc0 := 177) (pc' := 191) rfl (hb hby at_177) rfl ((if0 _ _).trans (feq (by decide)).2) (by decide) (by decide) q) ?_
      refine Go.of (mkF m 193 #[.val (.int aA), .val (.int uU), .val (.int 2), .val (.int wW), .val (.int 1), .val (.int kp), .val (.int dD), .val (.ref b1), .val (.ref b2), .val (.ref b3), .val (.ref b8), .val (.ref b12)] [(.int 1)]) (fun _ q => XS.iload XJ.here hx rfl (hb hby at_191) rfl q) ?_
      refine Go.of (mkF m 194 #[.val (.int aA), .val (.int uU), .val (.int 2), .val (.int wW), .val (.int 1), .val (.int kp), .val (.int dD), .val (.ref b1), .val (.ref b2), .val (.ref b3), .val (.ref b8), .val (.ref b12)] [(.int 1), (.int 1)]) (fun _ q => XS.iconst XJ.here hx rfl (hb hby at_193) q) ?_
      refine Go.of (mkF m 197 #[.val (.int aA), .val (.int uU), .val (.int 2), .val (.int wW), .val (.int 1), .val (.int kp), .val (.int dD), .val (.ref b1), .val (.ref b2), .val (.ref b3), .val (.ref b8), .val (.ref b12)] []) (fun _ q => XS.icmpNo XJ.here hx rfl (hb hby at_194) rfl (flt (by decide)).2.2.1 q) ?_
      refine Go.of (mkF m 199 #[.val (.int aA), .val (.int uU), .val (.int 2), .val (.int wW), .val (.int 1), .val (.int kp), .val (.int dD), .val (.ref b1), .val (.ref b2), .val (.ref b3), .val (.ref b8), .val (.ref b12)] [(.ref b1)]) (fun _ q => XS.aload XJ.here hx rfl (hb hby at_197) rfl rfl q) ?_
      refine Go.of (mkF m 200 #[.val (.int aA), .val (.int uU), .val (.int 2), .val (.int wW), .val (.int 1), .val (.int kp), .val (.int dD), .val (.ref b1), .val (.ref b2), .val (.ref b3), .val (.ref b8), .val (.ref b12)] [(.int 2), (.ref b1)]) (fun _ q => XS.iloadN XJ.here hx rfl (hb hby at_199) rfl q) ?_
      refine Go.of (mkF m 202 #[.val (.int aA), .val (.int uU), .val (.int 2), .val (.int wW), .val (.int 1), .val (.int kp), .val (.int dD), .val (.ref b1), .val (.ref b2), .val (.ref b3), .val (.ref b8), .val (.ref b12)] [(.ref b8), (.int 2), (.ref b1)]) (fun _ q => XS.aload XJ.here hx rfl (hb hby at_200) rfl rfl q) ?_
      refine Go.aastore XJ hx hZ eJ VeJ rfl rfl (Fa.sto VeJ UeJ (Ins.self Er)) (by decide) (by decide) (g := (mkF m 202 #[.val (.int aA), .val (.int uU), .val (.int 2), .val (.int wW), .val (.int 1), .val (.int kp), .val (.int dD), .val (.ref b1), .val (.ref b2), .val (.ref b3), .val (.ref b8), .val (.ref b12)] [(.ref b8), (.int 2), (.ref b1)])) rfl rfl (hb hby at_202) ?_
      rintro T57 h57 X57 e57 W57 V57
      replace S4 := S4.other W57 (Or.inl (Ne.symm ne_b1_b12))
      replace S5 := S5.other W57 (Or.inl (Ne.symm ne_b1_b12))
      replace E := E.wr W57
      replace Er := Er.wr W57
      replace UeJ := UeJ.wr W57
      replace Vrt := Vrt.other W57 nj_rt_b1
      replace Vix := Vix.other W57 nj_ix_b1
      replace VnJ := VnJ.other W57 (Ne.symm ne_b1_b2)
      replace VeJ := V57
      have N57 := Fr.snoc X57 NJ gb_b1
      show Go pr ev below _ T57 (mkF m 203 #[.val (.int aA), .val (.int uU), .val (.int 2), .val (.int wW), .val (.int 1), .val (.int kp), .val (.int dD), .val (.ref b1), .val (.ref b2), .val (.ref b3), .val (.ref b8), .val (.ref b12)] [])
      refine Go.of (mkF m 205 #[.val (.int aA), .val (.int uU), .val (.int 2), .val (.int wW), .val (.int 1), .val (.int kp), .val (.int dD), .val (.ref b1), .val (.ref b2), .val (.ref b3), .val (.ref b8), .val (.ref b12)] [(.ref b2)]) (fun _ q => XS.aload X57.here hx rfl (hb hby at_203) rfl rfl q) ?_
      refine Go.of (mkF m 206 #[.val (.int aA), .val (.int uU), .val (.int 2), .val (.int wW), .val (.int 1), .val (.int kp), .val (.int dD), .val (.ref b1), .val (.ref b2), .val (.ref b3), .val (.ref b8), .val (.ref b12)] [(.int 2), (.ref b2)]) (fun _ q => XS.iloadN X57.here hx rfl (hb hby at_205) rfl q) ?_
      refine Go.of (mkF m 207 #[.val (.int aA), .val (.int uU), .val (.int 2), .val (.int wW), .val (.int 1), .val (.int kp), .val (.int dD), .val (.ref b1), .val (.ref b2), .val (.ref b3), .val (.ref b8), .val (.ref b12)] [(.int 1), (.int 2), (.ref b2)]) (fun _ q => XS.iconst X57.here hx rfl (hb hby at_206) q) ?_
      refine Go.iastore X57 hx hZ e57 VnJ (by decide) (by decide) (g := (mkF m 207 #[.val (.int aA), .val (.int uU), .val (.int 2), .val (.int wW), .val (.int 1), .val (.int kp), .val (.int dD), .val (.ref b1), .val (.ref b2), .val (.ref b3), .val (.ref b8), .val (.ref b12)] [(.int 1), (.int 2), (.ref b2)])) rfl rfl (hb hby at_207) ?_
      rintro T58 h58 X58 e58 W58 V58
      replace S4 := S4.other W58 (Or.inl (Ne.symm ne_b2_b12))
      replace S5 := S5.other W58 (Or.inl (Ne.symm ne_b2_b12))
      replace E := E.wr W58
      replace Er := Er.wr W58
      replace UeJ := UeJ.wr W58
      replace Vrt := Vrt.other W58 nj_rt_b2
      replace Vix := Vix.other W58 nj_ix_b2
      replace VeJ := VeJ.other W58 ne_b1_b2
      replace VnJ := V58
      have N58 := Fr.snoc X58 N57 gb_b2
      show Go pr ev below _ T58 (mkF m 208 #[.val (.int aA), .val (.int uU), .val (.int 2), .val (.int wW), .val (.int 1), .val (.int kp), .val (.int dD), .val (.ref b1), .val (.ref b2), .val (.ref b3), .val (.ref b8), .val (.ref b12)] [])
      refine Go.of (mkF m 210 #[.val (.int aA), .val (.int uU), .val (.int 2), .val (.int wW), .val (.int 1), .val (.int kp), .val (.int dD), .val (.ref b1), .val (.ref b2), .val (.ref b3), .val (.ref b8), .val (.ref b12)] [(.ref b12)]) (fun _ q => XS.aload X58.here hx rfl (hb hby at_208) rfl rfl q) ?_
      refine Go.of (mkF m 211 #[.val (.int aA), .val (.int uU), .val (.int 2), .val (.int wW), .val (.int 1), .val (.int kp), .val (.int dD), .val (.ref b1), .val (.ref b2), .val (.ref b3), .val (.ref b8), .val (.ref b12)] [(.int 1), (.ref b12)]) (fun _ q => XS.iconst X58.here hx rfl (hb hby at_210) q) ?_
      refine Go.virt X58 hx hZ (y := (⟨"com/example/kiriman/kiriman/route/Positions", "route", "(I)Lcom/example/kiriman/kiriman/route/Route;"⟩ : MethodName)) (z := (⟨"com/example/kiriman/kiriman/route/Positions", "route", "(I)Lcom/example/kiriman/kiriman/route/Route;"⟩ : MethodName)) (a := b12) (argsL := [(.int 1)]) (rest := []) hown (tw189 hw) (tw190 hw) (notFace_of_selects (args := #[]) (mvT hZ (tw192 hw))) (tw192 hw) (tw191 hw) (tw138 hw) (tw193 hw) (by decide) e58 E (rmRo1N l Z a0 hw [] b12 rt b8 yrt h58 S4 Vrt hr1) (g := (mkF m 211 #[.val (.int aA), .val (.int uU), .val (.int 2), .val (.int wW), .val (.int 1), .val (.int kp), .val (.int dD), .val (.ref b1), .val (.ref b2), .val (.ref b3), .val (.ref b8), .val (.ref b12)] [(.int 1), (.ref b12)])) rfl (by rw [hml]; rfl) (lenOf pd44 rfl) rfl (W := 0) (by show 2 * 0 + _ ≤ _; exact Nat.le_of_eq rfl) (hb hby at_211) (by decide) (by decide) (by decide) (by decide) ?_
      rintro T59 L59 v59 X59 ⟨rfl, rfl, hh59⟩
      have N59 := Fr.app N58 (Fr.nil n0)
      show Go pr ev below _ T59 (mkF m 214 #[.val (.int aA), .val (.int uU), .val (.int 2), .val (.int wW), .val (.int 1), .val (.int kp), .val (.int dD), .val (.ref b1), .val (.ref b2), .val (.ref b3), .val (.ref b8), .val (.ref b12)] [.null])
      refine Go.of (mkF m 216 #[.val (.int aA), .val (.int uU), .val (.int 2), .val (.int wW), .val (.int 1), .val (.int kp), .val (.int dD), .val (.ref b1), .val (.ref b2), .val (.ref b3), .val (.ref b8), .val (.ref b12)] [(.ref b1), .null]) (fun _ q => XS.aload X59.here hx rfl (hb hby at_214) rfl rfl q) ?_
      refine Go.of (mkF m 217 #[.val (.int aA), .val (.int uU), .val (.int 2), .val (.int wW), .val (.int 1), .val (.int kp), .val (.int dD), .val (.ref b1), .val (.ref b2), .val (.ref b3), .val (.ref b8), .val (.ref b12)] [(.int 1), (.ref b1), .null]) (fun _ q => XS.iconst X59.here hx rfl (hb hby at_216) q) ?_
      refine Go.aaload X59 hx hZ hh59 VeJ rfl (by decide) (by decide) (g := (mkF m 217 #[.val (.int aA), .val (.int uU), .val (.int 2), .val (.int wW), .val (.int 1), .val (.int kp), .val (.int dD), .val (.ref b1), .val (.ref b2), .val (.ref b3), .val (.ref b8), .val (.ref b12)] [(.int 1), (.ref b1), .null])) rfl rfl (hb hby at_217) ?_
      show Go pr ev below _ T59 (mkF m 218 #[.val (.int aA), .val (.int uU), .val (.int 2), .val (.int wW), .val (.int 1), .val (.int kp), .val (.int dD), .val (.ref b1), .val (.ref b2), .val (.ref b3), .val (.ref b8), .val (.ref b12)] [((fnup (fun _ => Value.null) (2 : Int32) (.ref b8)) (1 : Int32)), .null])
      rw [show ((fnup (fun _ => Value.null) (2 : Int32) (.ref b8)) (1 : Int32)) = .null from by first | rfl | simp [fnup]]
      refine Go.of (mkF m 221 #[.val (.int aA), .val (.int uU), .val (.int 2), .val (.int wW), .val (.int 1), .val (.int kp), .val (.int dD), .val (.ref b1), .val (.ref b2), .val (.ref b3), .val (.ref b8), .val (.ref b12)] []) (fun _ q => Jvm.RoadKit.acmp (g := (mkF m 218 #[.val (.int aA), .val (.int uU), .val (.int 2), .val (.int wW), .val (.int 1), .val (.int kp), .val (.int dD), .val (.ref b1), .val (.ref b2), .val (.ref b3), .val (.ref b8), .val (.ref b12)] [.null, .null])) X59 hx rfl (x := .null) (y := .null) rfl rfl (pc0 := 218) (pc' := 221) (same := true) rfl (hb hby at_218) rfl (decide_eq_true rfl) (by decide) (by decide) q) ?_
      refine Go.of (mkF m 223 #[.val (.int aA), .val (.int uU), .val (.int 2), .val (.int wW), .val (.int 1), .val (.int kp), .val (.int dD), .val (.ref b1), .val (.ref b2), .val (.ref b3), .val (.ref b8), .val (.ref b12)] [(.ref b12)]) (fun _ q => XS.aload X59.here hx rfl (hb hby at_221) rfl rfl q) ?_
      refine Go.of (mkF m 224 #[.val (.int aA), .val (.int uU), .val (.int 2), .val (.int wW), .val (.int 1), .val (.int kp), .val (.int dD), .val (.ref b1), .val (.ref b2), .val (.ref b3), .val (.ref b8), .val (.ref b12)] [(.int 1), (.ref b12)]) (fun _ q => XS.iconst X59.here hx rfl (hb hby at_223) q) ?_
      refine Go.virt X59 hx hZ (y := (⟨"com/example/kiriman/kiriman/route/Positions", "index", "(I)I"⟩ : MethodName)) (z := (⟨"com/example/kiriman/kiriman/route/Positions", "index", "(I)I"⟩ : MethodName)) (a := b12) (argsL := [(.int 1)]) (rest := []) hown (tw194 hw) (tw195 hw) (notFace_of_selects (args := #[]) (mvT hZ (tw197 hw))) (tw197 hw) (tw196 hw) (tw138 hw) (tw198 hw) (by decide) hh59 E (rmIx1 l Z a0 hw [] b12 ix (0 : Int32) yix h58 S5 Vix hi1) (g := (mkF m 224 #[.val (.int aA), .val (.int uU), .val (.int 2), .val (.int wW), .val (.int 1), .val (.int kp), .val (.int dD), .val (.ref b1), .val (.ref b2), .val (.ref b3), .val (.ref b8), .val (.ref b12)] [(.int 1), (.ref b12)])) rfl (by rw [hml]; rfl) (lenOf pd25 rfl) rfl (W := 0) (by show 2 * 0 + _ ≤ _; exact Nat.le_of_eq rfl) (hb hby at_224) (by decide) (by decide) (by decide) (by decide) ?_
      rintro T60 L60 v60 X60 ⟨rfl, rfl, hh60⟩
      have N60 := Fr.app N59 (Fr.nil n0)
      show Go pr ev below _ T60 (mkF m 227 #[.val (.int aA), .val (.int uU), .val (.int 2), .val (.int wW), .val (.int 1), .val (.int kp), .val (.int dD), .val (.ref b1), .val (.ref b2), .val (.ref b3), .val (.ref b8), .val (.ref b12)] [(.int 0)])
      refine Go.of (mkF m 229 #[.val (.int aA), .val (.int uU), .val (.int 2), .val (.int wW), .val (.int 1), .val (.int kp), .val (.int dD), .val (.ref b1), .val (.ref b2), .val (.ref b3), .val (.ref b8), .val (.ref b12)] [(.ref b2), (.int 0)]) (fun _ q => XS.aload X60.here hx rfl (hb hby at_227) rfl rfl q) ?_
      refine Go.of (mkF m 230 #[.val (.int aA), .val (.int uU), .val (.int 2), .val (.int wW), .val (.int 1), .val (.int kp), .val (.int dD), .val (.ref b1), .val (.ref b2), .val (.ref b3), .val (.ref b8), .val (.ref b12)] [(.int 1), (.ref b2), (.int 0)]) (fun _ q => XS.iconst X60.here hx rfl (hb hby at_229) q) ?_
      refine Go.iaload X60 hx hZ hh60 VnJ (by decide) (by decide) (g := (mkF m 230 #[.val (.int aA), .val (.int uU), .val (.int 2), .val (.int wW), .val (.int 1), .val (.int kp), .val (.int dD), .val (.ref b1), .val (.ref b2), .val (.ref b3), .val (.ref b8), .val (.ref b12)] [(.int 1), (.ref b2), (.int 0)])) rfl rfl (hb hby at_230) ?_
      show Go pr ev below _ T60 (mkF m 231 #[.val (.int aA), .val (.int uU), .val (.int 2), .val (.int wW), .val (.int 1), .val (.int kp), .val (.int dD), .val (.ref b1), .val (.ref b2), .val (.ref b3), .val (.ref b8), .val (.ref b12)] [(.int ((fnup (fun _ => (0 : Int32)) (2 : Int32) (1 : Int32)) (1 : Int32))), (.int 0)])
      rw [show ((fnup (fun _ => (0 : Int32)) (2 : Int32) (1 : Int32)) (1 : Int32)) = (0 : Int32) from by first | rfl | simp [fnup]]
      refine Go.of (mkF m 234 #[.val (.int aA), .val (.int uU), .val (.int 2), .val (.int wW), .val (.int 1), .val (.int kp), .val (.int dD), .val (.ref b1), .val (.ref b2), .val (.ref b3), .val (.ref b8), .val (.ref b12)] []) (fun _ q => XS.icmpNo X60.here hx rfl (hb hby at_231) rfl (teq (by decide)).2 q) ?_
      refine Go.of (mkF m 236 #[.val (.int aA), .val (.int uU), .val (.int 2), .val (.int wW), .val (.int 1), .val (.int kp), .val (.int dD), .val (.ref b1), .val (.ref b2), .val (.ref b3), .val (.ref b8), .val (.ref b12)] [(.ref b12)]) (fun _ q => XS.aload X60.here hx rfl (hb hby at_234) rfl rfl q) ?_
      refine Go.of (mkF m 237 #[.val (.int aA), .val (.int uU), .val (.int 2), .val (.int wW), .val (.int 1), .val (.int kp), .val (.int dD), .val (.ref b1), .val (.ref b2), .val (.ref b3), .val (.ref b8), .val (.ref b12)] [(.int 2), (.ref b12)]) (fun _ q => XS.iconst X60.here hx rfl (hb hby at_236) q) ?_
      refine Go.virt X60 hx hZ (y := (⟨"com/example/kiriman/kiriman/route/Positions", "route", "(I)Lcom/example/kiriman/kiriman/route/Route;"⟩ : MethodName)) (z := (⟨"com/example/kiriman/kiriman/route/Positions", "route", "(I)Lcom/example/kiriman/kiriman/route/Route;"⟩ : MethodName)) (a := b12) (argsL := [(.int 2)]) (rest := []) hown (tw189 hw) (tw190 hw) (notFace_of_selects (args := #[]) (mvT hZ (tw192 hw))) (tw192 hw) (tw191 hw) (tw138 hw) (tw193 hw) (by decide) hh60 E (rmRo2R l Z a0 hw [] b12 rt b8 yrt h58 S4 Vrt hr2) (g := (mkF m 237 #[.val (.int aA), .val (.int uU), .val (.int 2), .val (.int wW), .val (.int 1), .val (.int kp), .val (.int dD), .val (.ref b1), .val (.ref b2), .val (.ref b3), .val (.ref b8), .val (.ref b12)] [(.int 2), (.ref b12)])) rfl (by rw [hml]; rfl) (lenOf pd44 rfl) rfl (W := 0) (by show 2 * 0 + _ ≤ _; exact Nat.le_of_eq rfl) (hb hby at_237) (by decide) (by decide) (by decide) (by decide) ?_
      rintro T61 L61 v61 X61 ⟨rfl, rfl, hh61⟩
      have N61 := Fr.app N60 (Fr.nil n0)
      show Go pr ev below _ T61 (mkF m 240 #[.val (.int aA), .val (.int uU), .val (.int 2), .val (.int wW), .val (.int 1), .val (.int kp), .val (.int dD), .val (.ref b1), .val (.ref b2), .val (.ref b3), .val (.ref b8), .val (.ref b12)] [(.ref b8)])
      refine Go.of (mkF m 242 #[.val (.int aA), .val (.int uU), .val (.int 2), .val (.int wW), .val (.int 1), .val (.int kp), .val (.int dD), .val (.ref b1), .val (.ref b2), .val (.ref b3), .val (.ref b8), .val (.ref b12)] [(.ref b1), (.ref b8)]) (fun _ q => XS.aload X61.here hx rfl (hb hby at_240) rfl rfl q) ?_
      refine Go.of (mkF m 243 #[.val (.int aA), .val (.int uU), .val (.int 2), .val (.int wW), .val (.int 1), .val (.int kp), .val (.int dD), .val (.ref b1), .val (.ref b2), .val (.ref b3), .val (.ref b8), .val (.ref b12)] [(.int 2), (.ref b1), (.ref b8)]) (fun _ q => XS.iconst X61.here hx rfl (hb hby at_242) q) ?_
      refine Go.aaload X61 hx hZ hh61 VeJ rfl (by decide) (by decide) (g := (mkF m 243 #[.val (.int aA), .val (.int uU), .val (.int 2), .val (.int wW), .val (.int 1), .val (.int kp), .val (.int dD), .val (.ref b1), .val (.ref b2), .val (.ref b3), .val (.ref b8), .val (.ref b12)] [(.int 2), (.ref b1), (.ref b8)])) rfl rfl (hb hby at_243) ?_
      show Go pr ev below _ T61 (mkF m 244 #[.val (.int aA), .val (.int uU), .val (.int 2), .val (.int wW), .val (.int 1), .val (.int kp), .val (.int dD), .val (.ref b1), .val (.ref b2), .val (.ref b3), .val (.ref b8), .val (.ref b12)] [((fnup (fun _ => Value.null) (2 : Int32) (.ref b8)) (2 : Int32)), (.ref b8)])
      rw [show ((fnup (fun _ => Value.null) (2 : Int32) (.ref b8)) (2 : Int32)) = (.ref b8) from by first | rfl | simp [fnup]]
      refine Go.of (mkF m 247 #[.val (.int aA), .val (.int uU), .val (.int 2), .val (.int wW), .val (.int 1), .val (.int kp), .val (.int dD), .val (.ref b1), .val (.ref b2), .val (.ref b3), .val (.ref b8), .val (.ref b12)] []) (fun _ q => Jvm.RoadKit.acmp (g := (mkF m 244 #[.val (.int aA), .val (.int uU), .val (.int 2), .val (.int wW), .val (.int 1), .val (.int kp), .val (.int dD), .val (.ref b1), .val (.ref b2), .val (.ref b3), .val (.ref b8), .val (.ref b12)] [(.ref b8), (.ref b8)])) X61 hx rfl (x := (.ref b8)) (y := (.ref b8)) rfl rfl (pc0 := 244) (pc' := 247) (same := true) rfl (hb hby at_244) rfl (decide_eq_true rfl) (by decide) (by decide) q) ?_
      refine Go.of (mkF m 249 #[.val (.int aA), .val (.int uU), .val (.int 2), .val (.int wW), .val (.int 1), .val (.int kp), .val (.int dD), .val (.ref b1), .val (.ref b2), .val (.ref b3), .val (.ref b8), .val (.ref b12)] [(.ref b12)]) (fun _ q => XS.aload X61.here hx rfl (hb hby at_247) rfl rfl q) ?_
      refine Go.of (mkF m 250 #[.val (.int aA), .val (.int uU), .val (.int 2), .val (.int wW), .val (.int 1), .val (.int kp), .val (.int dD), .val (.ref b1), .val (.ref b2), .val (.ref b3), .val (.ref b8), .val (.ref b12)] [(.int 2), (.ref b12)]) (fun _ q => XS.iconst X61.here hx rfl (hb hby at_249) q) ?_
      refine Go.virt X61 hx hZ (y := (⟨"com/example/kiriman/kiriman/route/Positions", "index", "(I)I"⟩ : MethodName)) (z := (⟨"com/example/kiriman/kiriman/route/Positions", "index", "(I)I"⟩ : MethodName)) (a := b12) (argsL := [(.int 2)]) (rest := []) hown (tw194 hw) (tw195 hw) (notFace_of_selects (args := #[]) (mvT hZ (tw197 hw))) (tw197 hw) (tw196 hw) (tw138 hw) (tw198 hw) (by decide) hh61 E (rmIx2 l Z a0 hw [] b12 ix (1 : Int32) yix h58 S5 Vix hi2) (g := (mkF m 250 #[.val (.int aA), .val (.int uU), .val (.int 2), .val (.int wW), .val (.int 1), .val (.int kp), .val (.int dD), .val (.ref b1), .val (.ref b2), .val (.ref b3), .val (.ref b8), .val (.ref b12)] [(.int 2), (.ref b12)])) rfl (by rw [hml]; rfl) (lenOf pd25 rfl) rfl (W := 0) (by show 2 * 0 + _ ≤ _; exact Nat.le_of_eq rfl) (hb hby at_250) (by decide) (by decide) (by decide) (by decide) ?_
      rintro T62 L62 v62 X62 ⟨rfl, rfl, hh62⟩
      have N62 := Fr.app N61 (Fr.nil n0)
      show Go pr ev below _ T62 (mkF m 253 #[.val (.int aA), .val (.int uU), .val (.int 2), .val (.int wW), .val (.int 1), .val (.int kp), .val (.int dD), .val (.ref b1), .val (.ref b2), .val (.ref b3), .val (.ref b8), .val (.ref b12)] [(.int 1)])
      refine Go.of (mkF m 255 #[.val (.int aA), .val (.int uU), .val (.int 2), .val (.int wW), .val (.int 1), .val (.int kp), .val (.int dD), .val (.ref b1), .val (.ref b2), .val (.ref b3), .val (.ref b8), .val (.ref b12)] [(.ref b2), (.int 1)]) (fun _ q => XS.aload X62.here hx rfl (hb hby at_253) rfl rfl q) ?_
      refine Go.of (mkF m 256 #[.val (.int aA), .val (.int uU), .val (.int 2), .val (.int wW), .val (.int 1), .val (.int kp), .val (.int dD), .val (.ref b1), .val (.ref b2), .val (.ref b3), .val (.ref b8), .val (.ref b12)] [(.int 2), (.ref b2), (.int 1)]) (fun _ q => XS.iconst X62.here hx rfl (hb hby at_255) q) ?_
      refine Go.iaload X62 hx hZ hh62 VnJ (by decide) (by decide) (g := (mkF m 256 #[.val (.int aA), .val (.int uU), .val (.int 2), .val (.int wW), .val (.int 1), .val (.int kp), .val (.int dD), .val (.ref b1), .val (.ref b2), .val (.ref b3), .val (.ref b8), .val (.ref b12)] [(.int 2), (.ref b2), (.int 1)])) rfl rfl (hb hby at_256) ?_
      show Go pr ev below _ T62 (mkF m 257 #[.val (.int aA), .val (.int uU), .val (.int 2), .val (.int wW), .val (.int 1), .val (.int kp), .val (.int dD), .val (.ref b1), .val (.ref b2), .val (.ref b3), .val (.ref b8), .val (.ref b12)] [(.int ((fnup (fun _ => (0 : Int32)) (2 : Int32) (1 : Int32)) (2 : Int32))), (.int 1)])
      rw [show ((fnup (fun _ => (0 : Int32)) (2 : Int32) (1 : Int32)) (2 : Int32)) = (1 : Int32) from by first | rfl | simp [fnup]]
      refine Go.of (mkF m 260 #[.val (.int aA), .val (.int uU), .val (.int 2), .val (.int wW), .val (.int 1), .val (.int kp), .val (.int dD), .val (.ref b1), .val (.ref b2), .val (.ref b3), .val (.ref b8), .val (.ref b12)] []) (fun _ q => XS.icmpNo X62.here hx rfl (hb hby at_257) rfl (teq (by decide)).2 q) ?_
      refine Go.of (mkF m 261 #[.val (.int aA), .val (.int uU), .val (.int 2), .val (.int wW), .val (.int 1), .val (.int kp), .val (.int dD), .val (.ref b1), .val (.ref b2), .val (.ref b3), .val (.ref b8), .val (.ref b12)] [(.int 1)]) (fun _ q => XS.iconst X62.here hx rfl (hb hby at_260) q) ?_
      refine Go.of (mkF m 265 #[.val (.int aA), .val (.int uU), .val (.int 2), .val (.int wW), .val (.int 1), .val (.int kp), .val (.int dD), .val (.ref b1), .val (.ref b2), .val (.ref b3), .val (.ref b8), .val (.ref b12)] [(.int 1)]) (fun _ q => XS.goto X62.here hx rfl (pc0 := 261) (pc' := 265) rfl (hb hby at_261) (by decide) (by decide) q) ?_
      exact Go.retW X62 hx (t := .boolean) hret hlk rfl (Or.inl ⟨rfl, by simp, _, rfl⟩) (hb hby at_265) (by decide) (by decide) ⟨rfl, N62⟩
    ·
     replace hr1 : yrt 1 = .null := by rw [hr1]; simp [own_R]
     replace hi1 : yix 1 = (0 : Int32) := by rw [hi1]; simp [own_I]
     replace hr2 : yrt 2 = .null := by rw [hr2]; simp [own_R]
     replace hi2 : yix 2 = (0 : Int32) := by rw [hi2]; simp [own_I]
     refine Go.of (mkF m 171 #[.val (.int aA), .val (.int uU), .val (.int vV), .val (.int wW), .val (.int 2), .val (.int kp), .val (.int dD), .val (.ref b1), .val (.ref b2), .val (.ref b3), .val (.ref b8), .val (.ref b12)] [(.int kp)]) (fun _ q => XS.iload XJ.here hx rfl (hb hby at_169) rfl q) ?_
     refine Go.of (mkF m 172 #[.val (.int aA), .val (.int uU), .val (.int vV), .val (.int wW), .val (.int 2), .val (.int kp), .val (.int dD), .val (.ref b1), .val (.ref b2), .val (.ref b3), .val (.ref b8), .val (.ref b12)] [(.int 1), (.int kp)]) (fun _ q => XS.iconst XJ.here hx rfl (hb hby at_171) q) ?_
     refine Go.of (mkF m 175 #[.val (.int aA), .val (.int uU), .val (.int vV), .val (.int wW), .val (.int 2), .val (.int kp), .val (.int dD), .val (.ref b1), .val (.ref b2), .val (.ref b3), .val (.ref b8), .val (.ref b12)] []) (fun _ q => XS.icmpNo XJ.here hx rfl (hb hby at_172) rfl (flt hk1).1 q) ?_
     refine Go.of (mkF m 177 #[.val (.int aA), .val (.int uU), .val (.int vV), .val (.int wW), .val (.int 2), .val (.int kp), .val (.int dD), .val (.ref b1), .val (.ref b2), .val (.ref b3), .val (.ref b8), .val (.ref b12)] [(.int 2)]) (fun _ q => XS.iload XJ.here hx rfl (hb hby at_175) rfl q) ?_
     refine Go.of (mkF m 191 #[.val (.int aA), .val (.int uU), .val (.int vV), .val (.int wW), .val (.int 2), .val (.int kp), .val (.int dD), .val (.ref b1), .val (.ref b2), .val (.ref b3), .val (.ref b8), .val (.ref b12)] []) (fun _ q => XS.ifYes XJ.here hx rfl (pc0 := 177) (pc' := 191) rfl (hb hby at_177) rfl ((if0 _ _).trans (feq (by decide)).2) (by decide) (by decide) q) ?_
     refine Go.of (mkF m 193 #[.val (.int aA), .val (.int uU), .val (.int vV), .val (.int wW), .val (.int 2), .val (.int kp), .val (.int dD), .val (.ref b1), .val (.ref b2), .val (.ref b3), .val (.ref b8), .val (.ref b12)] [(.int 2)]) (fun _ q => XS.iload XJ.here hx rfl (hb hby at_191) rfl q) ?_
     refine Go.of (mkF m 194 #[.val (.int aA), .val (.int uU), .val (.int vV), .val (.int wW), .val (.int 2), .val (.int kp), .val (.int dD), .val (.ref b1), .val (.ref b2), .val (.ref b3), .val (.ref b8), .val (.ref b12)] [(.int 1), (.int 2)]) (fun _ q => XS.iconst XJ.here hx rfl (hb hby at_193) q) ?_
     refine Go.of (mkF m 208 #[.val (.int aA), .val (.int uU), .val (.int vV), .val (.int wW), .val (.int 2), .val (.int kp), .val (.int dD), .val (.ref b1), .val (.ref b2), .val (.ref b3), .val (.ref b8), .val (.ref b12)] []) (fun _ q => XS.icmpYes XJ.here hx rfl (pc0 := 194) (pc' := 208) rfl (hb hby at_194) rfl (tlt (by decide)).2.2.1 (by decide) (by decide) q) ?_
     refine Go.of (mkF m 210 #[.val (.int aA), .val (.int uU), .val (.int vV), .val (.int wW), .val (.int 2), .val (.int kp), .val (.int dD), .val (.ref b1), .val (.ref b2), .val (.ref b3), .val (.ref b8), .val (.ref b12)] [(.ref b12)]) (fun _ q => XS.aload XJ.here hx rfl (hb hby at_208) rfl rfl q) ?_
     refine Go.of (mkF m 211 #[.val (.int aA), .val (.int uU), .val (.int vV), .val (.int wW), .val (.int 2), .val (.int kp), .val (.int dD), .val (.ref b1), .val (.ref b2), .val (.ref b3), .val (.ref b8), .val (.ref b12)] [(.int 1), (.ref b12)]) (fun _ q => XS.iconst XJ.here hx rfl (hb hby at_210) q) ?_
     refine Go.virt XJ hx hZ (y := (⟨"com/example/kiriman/kiriman/route/Positions", "route", "(I)Lcom/example/kiriman/kiriman/route/Route;"⟩ : MethodName)) (z := (⟨"com/example/kiriman/kiriman/route/Positions", "route", "(I)Lcom/example/kiriman/kiriman/route/Route;"⟩ : MethodName)) (a := b12) (argsL := [(.int 1)]) (rest := []) hown (tw189 hw) (tw190 hw) (notFace_of_selects (args := #[]) (mvT hZ (tw192 hw))) (tw192 hw) (tw191 hw) (tw138 hw) (tw193 hw) (by decide) eJ E (rmRo1N l Z a0 hw [] b12 rt b8 yrt hJ S4 Vrt hr1) (g := (mkF m 211 #[.val (.int aA), .val (.int uU), .val (.int vV), .val (.int wW), .val (.int 2), .val (.int kp), .val (.int dD), .val (.ref b1), .val (.ref b2), .val (.ref b3), .val (.ref b8), .val (.ref b12)] [(.int 1), (.ref b12)])) rfl (by rw [hml]; rfl) (lenOf pd44 rfl) rfl (W := 0) (by show 2 * 0 + _ ≤ _; exact Nat.le_of_eq rfl) (hb hby at_211) (by decide) (by decide) (by decide) (by decide) ?_
     rintro T63 L63 v63 X63 ⟨rfl, rfl, hh63⟩
     have N63 := Fr.app NJ (Fr.nil n0)
     show Go pr ev below _ T63 (mkF m 214 #[.val (.int aA), .val (.int uU), .val (.int vV), .val (.int wW), .val (.int 2), .val (.int kp), .val (.int dD), .val (.ref b1), .val (.ref b2), .val (.ref b3), .val (.ref b8), .val (.ref b12)] [.null])
     refine Go.of (mkF m 216 #[.val (.int aA), .val (.int uU), .val (.int vV), .val (.int wW), .val (.int 2), .val (.int kp), .val (.int dD), .val (.ref b1), .val (.ref b2), .val (.ref b3), .val (.ref b8), .val (.ref b12)] [(.ref b1), .null]) (fun _ q => XS.aload X63.here hx rfl (hb hby at_214) rfl rfl q) ?_
     refine Go.of (mkF m 217 #[.val (.int aA), .val (.int uU), .val (.int vV), .val (.int wW), .val (.int 2), .val (.int kp), .val (.int dD), .val (.ref b1), .val (.ref b2), .val (.ref b3), .val (.ref b8), .val (.ref b12)] [(.int 1), (.ref b1), .null]) (fun _ q => XS.iconst X63.here hx rfl (hb hby at_216) q) ?_
     refine Go.aaload X63 hx hZ hh63 VeJ rfl (by decide) (by decide) (g := (mkF m 217 #[.val (.int aA), .val (.int uU), .val (.int vV), .val (.int wW), .val (.int 2), .val (.int kp), .val (.int dD), .val (.ref b1), .val (.ref b2), .val (.ref b3), .val (.ref b8), .val (.ref b12)] [(.int 1), (.ref b1), .null])) rfl rfl (hb hby at_217) ?_
     show Go pr ev below _ T63 (mkF m 218 #[.val (.int aA), .val (.int uU), .val (.int vV), .val (.int wW), .val (.int 2), .val (.int kp), .val (.int dD), .val (.ref b1), .val (.ref b2), .val (.ref b3), .val (.ref b8), .val (.ref b12)] [((fun _ => Value.null) (1 : Int32)), .null])
     rw [show ((fun _ => Value.null) (1 : Int32)) = .null from by rfl]
     refine Go.of (mkF m 221 #[.val (.int aA), .val (.int uU), .val (.int vV), .val (.int wW), .val (.int 2), .val (.int kp), .val (.int dD), .val (.ref b1), .val (.ref b2), .val (.ref b3), .val (.ref b8), .val (.ref b12)] []) (fun _ q => Jvm.RoadKit.acmp (g := (mkF m 218 #[.val (.int aA), .val (.int uU), .val (.int vV), .val (.int wW), .val (.int 2), .val (.int kp), .val (.int dD), .val (.ref b1), .val (.ref b2), .val (.ref b3), .val (.ref b8), .val (.ref b12)] [.null, .null])) X63 hx rfl (x := .null) (y := .null) rfl rfl (pc0 := 218) (pc' := 221) (same := true) rfl (hb hby at_218) rfl (decide_eq_true rfl) (by decide) (by decide) q) ?_
     refine Go.of (mkF m 223 #[.val (.int aA), .val (.int uU), .val (.int vV), .val (.int wW), .val (.int 2), .val (.int kp), .val (.int dD), .val (.ref b1), .val (.ref b2), .val (.ref b3), .val (.ref b8), .val (.ref b12)] [(.ref b12)]) (fun _ q => XS.aload X63.here hx rfl (hb hby at_221) rfl rfl q) ?_
     refine Go.of (mkF m 224 #[.val (.int aA), .val (.int uU), .val (.int vV), .val (.int wW), .val (.int 2), .val (.int kp), .val (.int dD), .val (.ref b1), .val (.ref b2), .val (.ref b3), .val (.ref b8), .val (.ref b12)] [(.int 1), (.ref b12)]) (fun _ q => XS.iconst X63.here hx rfl (hb hby at_223) q) ?_
     refine Go.virt X63 hx hZ (y := (⟨"com/example/kiriman/kiriman/route/Positions", "index", "(I)I"⟩ : MethodName)) (z := (⟨"com/example/kiriman/kiriman/route/Positions", "index", "(I)I"⟩ : MethodName)) (a := b12) (argsL := [(.int 1)]) (rest := []) hown (tw194 hw) (tw195 hw) (notFace_of_selects (args := #[]) (mvT hZ (tw197 hw))) (tw197 hw) (tw196 hw) (tw138 hw) (tw198 hw) (by decide) hh63 E (rmIx1 l Z a0 hw [] b12 ix (0 : Int32) yix hJ S5 Vix hi1) (g := (mkF m 224 #[.val (.int aA), .val (.int uU), .val (.int vV), .val (.int wW), .val (.int 2), .val (.int kp), .val (.int dD), .val (.ref b1), .val (.ref b2), .val (.ref b3), .val (.ref b8), .val (.ref b12)] [(.int 1), (.ref b12)])) rfl (by rw [hml]; rfl) (lenOf pd25 rfl) rfl (W := 0) (by show 2 * 0 + _ ≤ _; exact Nat.le_of_eq rfl) (hb hby at_224) (by decide) (by decide) (by decide) (by decide) ?_
     rintro T64 L64 v64 X64 ⟨rfl, rfl, hh64⟩
     have N64 := Fr.app N63 (Fr.nil n0)
     show Go pr ev below _ T64 (mkF m 227 #[.val (.int aA), .val (.int uU), .val (.int vV), .val (.int wW), .val (.int 2), .val (.int kp), .val (.int dD), .val (.ref b1), .val (.ref b2), .val (.ref b3), .val (.ref b8), .val (.ref b12)] [(.int 0)])
     refine Go.of (mkF m 229 #[.val (.int aA), .val (.int uU), .val (.int vV), .val (.int wW), .val (.int 2), .val (.int kp), .val (.int dD), .val (.ref b1), .val (.ref b2), .val (.ref b3), .val (.ref b8), .val (.ref b12)] [(.ref b2), (.int 0)]) (fun _ q => XS.aload X64.here hx rfl (hb hby at_227) rfl rfl q) ?_
     refine Go.of (mkF m 230 #[.val (.int aA), .val (.int uU), .val (.int vV), .val (.int wW), .val (.int 2), .val (.int kp), .val (.int dD), .val (.ref b1), .val (.ref b2), .val (.ref b3), .val (.ref b8), .val (.ref b12)] [(.int 1), (.ref b2), (.int 0)]) (fun _ q => XS.iconst X64.here hx rfl (hb hby at_229) q) ?_
     refine Go.iaload X64 hx hZ hh64 VnJ (by decide) (by decide) (g := (mkF m 230 #[.val (.int aA), .val (.int uU), .val (.int vV), .val (.int wW), .val (.int 2), .val (.int kp), .val (.int dD), .val (.ref b1), .val (.ref b2), .val (.ref b3), .val (.ref b8), .val (.ref b12)] [(.int 1), (.ref b2), (.int 0)])) rfl rfl (hb hby at_230) ?_
     show Go pr ev below _ T64 (mkF m 231 #[.val (.int aA), .val (.int uU), .val (.int vV), .val (.int wW), .val (.int 2), .val (.int kp), .val (.int dD), .val (.ref b1), .val (.ref b2), .val (.ref b3), .val (.ref b8), .val (.ref b12)] [(.int ((fun _ => (0 : Int32)) (1 : Int32))), (.int 0)])
     rw [show ((fun _ => (0 : Int32)) (1 : Int32)) = (0 : Int32) from by rfl]
     refine Go.of (mkF m 234 #[.val (.int aA), .val (.int uU), .val (.int vV), .val (.int wW), .val (.int 2), .val (.int kp), .val (.int dD), .val (.ref b1), .val (.ref b2), .val (.ref b3), .val (.ref b8), .val (.ref b12)] []) (fun _ q => XS.icmpNo X64.here hx rfl (hb hby at_231) rfl (teq (by decide)).2 q) ?_
     refine Go.of (mkF m 236 #[.val (.int aA), .val (.int uU), .val (.int vV), .val (.int wW), .val (.int 2), .val (.int kp), .val (.int dD), .val (.ref b1), .val (.ref b2), .val (.ref b3), .val (.ref b8), .val (.ref b12)] [(.ref b12)]) (fun _ q => XS.aload X64.here hx rfl (hb hby at_234) rfl rfl q) ?_
     refine Go.of (mkF m 237 #[.val (.int aA), .val (.int uU), .val (.int vV), .val (.int wW), .val (.int 2), .val (.int kp), .val (.int dD), .val (.ref b1), .val (.ref b2), .val (.ref b3), .val (.ref b8), .val (.ref b12)] [(.int 2), (.ref b12)]) (fun _ q => XS.iconst X64.here hx rfl (hb hby at_236) q) ?_
     refine Go.virt X64 hx hZ (y := (⟨"com/example/kiriman/kiriman/route/Positions", "route", "(I)Lcom/example/kiriman/kiriman/route/Route;"⟩ : MethodName)) (z := (⟨"com/example/kiriman/kiriman/route/Positions", "route", "(I)Lcom/example/kiriman/kiriman/route/Route;"⟩ : MethodName)) (a := b12) (argsL := [(.int 2)]) (rest := []) hown (tw189 hw) (tw190 hw) (notFace_of_selects (args := #[]) (mvT hZ (tw192 hw))) (tw192 hw) (tw191 hw) (tw138 hw) (tw193 hw) (by decide) hh64 E (rmRo2N l Z a0 hw [] b12 rt b8 yrt hJ S4 Vrt hr2) (g := (mkF m 237 #[.val (.int aA), .val (.int uU), .val (.int vV), .val (.int wW), .val (.int 2), .val (.int kp), .val (.int dD), .val (.ref b1), .val (.ref b2), .val (.ref b3), .val (.ref b8), .val (.ref b12)] [(.int 2), (.ref b12)])) rfl (by rw [hml]; rfl) (lenOf pd44 rfl) rfl (W := 0) (by show 2 * 0 + _ ≤ _; exact Nat.le_of_eq rfl) (hb hby at_237) (by decide) (by decide) (by decide) (by decide) ?_
     rintro T65 L65 v65 X65 ⟨rfl, rfl, hh65⟩
     have N65 := Fr.app N64 (Fr.nil n0)
     show Go pr ev below _ T65 (mkF m 240 #[.val (.int aA), .val (.int uU), .val (.int vV), .val (.int wW), .val (.int 2), .val (.int kp), .val (.int dD), .val (.ref b1), .val (.ref b2), .val (.ref b3), .val (.ref b8), .val (.ref b12)] [.null])
     refine Go.of (mkF m 242 #[.val (.int aA), .val (.int uU), .val (.int vV), .val (.int wW), .val (.int 2), .val (.int kp), .val (.int dD), .val (.ref b1), .val (.ref b2), .val (.ref b3), .val (.ref b8), .val (.ref b12)] [(.ref b1), .null]) (fun _ q => XS.aload X65.here hx rfl (hb hby at_240) rfl rfl q) ?_
     refine Go.of (mkF m 243 #[.val (.int aA), .val (.int uU), .val (.int vV), .val (.int wW), .val (.int 2), .val (.int kp), .val (.int dD), .val (.ref b1), .val (.ref b2), .val (.ref b3), .val (.ref b8), .val (.ref b12)] [(.int 2), (.ref b1), .null]) (fun _ q => XS.iconst X65.here hx rfl (hb hby at_242) q) ?_
     refine Go.aaload X65 hx hZ hh65 VeJ rfl (by decide) (by decide) (g := (mkF m 243 #[.val (.int aA), .val (.int uU), .val (.int vV), .val (.int wW), .val (.int 2), .val (.int kp), .val (.int dD), .val (.ref b1), .val (.ref b2), .val (.ref b3), .val (.ref b8), .val (.ref b12)] [(.int 2), (.ref b1), .null])) rfl rfl (hb hby at_243) ?_
     show Go pr ev below _ T65 (mkF m 244 #[.val (.int aA), .val (.int uU), .val (.int vV), .val (.int wW), .val (.int 2), .val (.int kp), .val (.int dD), .val (.ref b1), .val (.ref b2), .val (.ref b3), .val (.ref b8), .val (.ref b12)] [((fun _ => Value.null) (2 : Int32)), .null])
     rw [show ((fun _ => Value.null) (2 : Int32)) = .null from by rfl]
     refine Go.of (mkF m 247 #[.val (.int aA), .val (.int uU), .val (.int vV), .val (.int wW), .val (.int 2), .val (.int kp), .val (.int dD), .val (.ref b1), .val (.ref b2), .val (.ref b3), .val (.ref b8), .val (.ref b12)] []) (fun _ q => Jvm.RoadKit.acmp (g := (mkF m 244 #[.val (.int aA), .val (.int uU), .val (.int vV), .val (.int wW), .val (.int 2), .val (.int kp), .val (.int dD), .val (.ref b1), .val (.ref b2), .val (.ref b3), .val (.ref b8), .val (.ref b12)] [.null, .null])) X65 hx rfl (x := .null) (y := .null) rfl rfl (pc0 := 244) (pc' := 247) (same := true) rfl (hb hby at_244) rfl (decide_eq_true rfl) (by decide) (by decide) q) ?_
     refine Go.of (mkF m 249 #[.val (.int aA), .val (.int uU), .val (.int vV), .val (.int wW), .val (.int 2), .val (.int kp), .val (.int dD), .val (.ref b1), .val (.ref b2), .val (.ref b3), .val (.ref b8), .val (.ref b12)] [(.ref b12)]) (fun _ q => XS.aload X65.here hx rfl (hb hby at_247) rfl rfl q) ?_
     refine Go.of (mkF m 250 #[.val (.int aA), .val (.int uU), .val (.int vV), .val (.int wW), .val (.int 2), .val (.int kp), .val (.int dD), .val (.ref b1), .val (.ref b2), .val (.ref b3), .val (.ref b8), .val (.ref b12)] [(.int 2), (.ref b12)]) (fun _ q => XS.iconst X65.here hx rfl (hb hby at_249) q) ?_
     refine Go.virt X65 hx hZ (y := (⟨"com/example/kiriman/kiriman/route/Positions", "index", "(I)I"⟩ : MethodName)) (z := (⟨"com/example/kiriman/kiriman/route/Positions", "index", "(I)I"⟩ : MethodName)) (a := b12) (argsL := [(.int 2)]) (rest := []) hown (tw194 hw) (tw195 hw) (notFace_of_selects (args := #[]) (mvT hZ (tw197 hw))) (tw197 hw) (tw196 hw) (tw138 hw) (tw198 hw) (by decide) hh65 E (rmIx2 l Z a0 hw [] b12 ix (0 : Int32) yix hJ S5 Vix hi2) (g := (mkF m 250 #[.val (.int aA), .val (.int uU), .val (.int vV), .val (.int wW), .val (.int 2), .val (.int kp), .val (.int dD), .val (.ref b1), .val (.ref b2), .val (.ref b3), .val (.ref b8), .val (.ref b12)] [(.int 2), (.ref b12)])) rfl (by rw [hml]; rfl) (lenOf pd25 rfl) rfl (W := 0) (by show 2 * 0 + _ ≤ _; exact Nat.le_of_eq rfl) (hb hby at_250) (by decide) (by decide) (by decide) (by decide) ?_
     rintro T66 L66 v66 X66 ⟨rfl, rfl, hh66⟩
     have N66 := Fr.app N65 (Fr.nil n0)
     show Go pr ev below _ T66 (mkF m 253 #[.val (.int aA), .val (.int uU), .val (.int vV), .val (.int wW), .val (.int 2), .val (.int kp), .val (.int dD), .val (.ref b1), .val (.ref b2), .val (.ref b3), .val (.ref b8), .val (.ref b12)] [(.int 0)])
     refine Go.of (mkF m 255 #[.val (.int aA), .val (.int uU), .val (.int vV), .val (.int wW), .val (.int 2), .val (.int kp), .val (.int dD), .val (.ref b1), .val (.ref b2), .val (.ref b3), .val (.ref b8), .val (.ref b12)] [(.ref b2), (.int 0)]) (fun _ q => XS.aload X66.here hx rfl (hb hby at_253) rfl rfl q) ?_
     refine Go.of (mkF m 256 #[.val (.int aA), .val (.int uU), .val (.int vV), .val (.int wW), .val (.int 2), .val (.int kp), .val (.int dD), .val (.ref b1), .val (.ref b2), .val (.ref b3), .val (.ref b8), .val (.ref b12)] [(.int 2), (.ref b2), (.int 0)]) (fun _ q => XS.iconst X66.here hx rfl (hb hby at_255) q) ?_
     refine Go.iaload X66 hx hZ hh66 VnJ (by decide) (by decide) (g := (mkF m 256 #[.val (.int aA), .val (.int uU), .val (.int vV), .val (.int wW), .val (.int 2), .val (.int kp), .val (.int dD), .val (.ref b1), .val (.ref b2), .val (.ref b3), .val (.ref b8), .val (.ref b12)] [(.int 2), (.ref b2), (.int 0)])) rfl rfl (hb hby at_256) ?_
     show Go pr ev below _ T66 (mkF m 257 #[.val (.int aA), .val (.int uU), .val (.int vV), .val (.int wW), .val (.int 2), .val (.int kp), .val (.int dD), .val (.ref b1), .val (.ref b2), .val (.ref b3), .val (.ref b8), .val (.ref b12)] [(.int ((fun _ => (0 : Int32)) (2 : Int32))), (.int 0)])
     rw [show ((fun _ => (0 : Int32)) (2 : Int32)) = (0 : Int32) from by rfl]
     refine Go.of (mkF m 260 #[.val (.int aA), .val (.int uU), .val (.int vV), .val (.int wW), .val (.int 2), .val (.int kp), .val (.int dD), .val (.ref b1), .val (.ref b2), .val (.ref b3), .val (.ref b8), .val (.ref b12)] []) (fun _ q => XS.icmpNo X66.here hx rfl (hb hby at_257) rfl (teq (by decide)).2 q) ?_
     refine Go.of (mkF m 261 #[.val (.int aA), .val (.int uU), .val (.int vV), .val (.int wW), .val (.int 2), .val (.int kp), .val (.int dD), .val (.ref b1), .val (.ref b2), .val (.ref b3), .val (.ref b8), .val (.ref b12)] [(.int 1)]) (fun _ q => XS.iconst X66.here hx rfl (hb hby at_260) q) ?_
     refine Go.of (mkF m 265 #[.val (.int aA), .val (.int uU), .val (.int vV), .val (.int wW), .val (.int 2), .val (.int kp), .val (.int dD), .val (.ref b1), .val (.ref b2), .val (.ref b3), .val (.ref b8), .val (.ref b12)] [(.int 1)]) (fun _ q => XS.goto X66.here hx rfl (pc0 := 261) (pc' := 265) rfl (hb hby at_261) (by decide) (by decide) q) ?_
     exact Go.retW X66 hx (t := .boolean) hret hlk rfl (Or.inl ⟨rfl, by simp, _, rfl⟩) (hb hby at_265) (by decide) (by decide) ⟨rfl, N66⟩
  refine Go.of (mkF m 133 #[.val (.int aA), .val (.int uU), .val (.int vV), .val (.int wW), .val (.int fF), .val (.int kp), .val (.int dD), .val (.ref b1), .val (.ref b2), .val (.ref b3), .val (.ref b8), .val (.ref b12)] [(.int kp)]) (fun _ q => XS.iload X14.here hx rfl (hb hby at_131) rfl q) ?_
  refine Go.of (mkF m 134 #[.val (.int aA), .val (.int uU), .val (.int vV), .val (.int wW), .val (.int fF), .val (.int kp), .val (.int dD), .val (.ref b1), .val (.ref b2), .val (.ref b3), .val (.ref b8), .val (.ref b12)] [(.int 1), (.int kp)]) (fun _ q => XS.iconst X14.here hx rfl (hb hby at_133) q) ?_
  by_cases hc134 : kp < (1 : Int32)
  ·
   refine Go.of (mkF m 142 #[.val (.int aA), .val (.int uU), .val (.int vV), .val (.int wW), .val (.int fF), .val (.int kp), .val (.int dD), .val (.ref b1), .val (.ref b2), .val (.ref b3), .val (.ref b8), .val (.ref b12)] []) (fun _ q => XS.icmpYes X14.here hx rfl (pc0 := 134) (pc' := 142) rfl (hb hby at_134) rfl (tlt hc134).1 (by decide) (by decide) q) ?_
   refine Go.of (mkF m 144 #[.val (.int aA), .val (.int uU), .val (.int vV), .val (.int wW), .val (.int fF), .val (.int kp), .val (.int dD), .val (.ref b1), .val (.ref b2), .val (.ref b3), .val (.ref b8), .val (.ref b12)] [(.int kp)]) (fun _ q => XS.iload X14.here hx rfl (hb hby at_142) rfl q) ?_
   refine Go.of (mkF m 145 #[.val (.int aA), .val (.int uU), .val (.int vV), .val (.int wW), .val (.int fF), .val (.int kp), .val (.int dD), .val (.ref b1), .val (.ref b2), .val (.ref b3), .val (.ref b8), .val (.ref b12)] [(.int 2), (.int kp)]) (fun _ q => XS.iconst X14.here hx rfl (hb hby at_144) q) ?_
   refine Go.of (mkF m 153 #[.val (.int aA), .val (.int uU), .val (.int vV), .val (.int wW), .val (.int fF), .val (.int kp), .val (.int dD), .val (.ref b1), .val (.ref b2), .val (.ref b3), .val (.ref b8), .val (.ref b12)] []) (fun _ q => XS.icmpYes X14.here hx rfl (pc0 := 145) (pc' := 153) rfl (hb hby at_145) rfl (tlt (own_lt2 hc134)).1 (by decide) (by decide) q) ?_
   refine Go.of (mkF m 155 #[.val (.int aA), .val (.int uU), .val (.int vV), .val (.int wW), .val (.int fF), .val (.int kp), .val (.int dD), .val (.ref b1), .val (.ref b2), .val (.ref b3), .val (.ref b8), .val (.ref b12)] [(.int dD)]) (fun _ q => XS.iload X14.here hx rfl (hb hby at_153) rfl q) ?_
   by_cases hc155 : dD = (0 : Int32)
   ·
    refine Go.of (mkF m 164 #[.val (.int aA), .val (.int uU), .val (.int vV), .val (.int wW), .val (.int fF), .val (.int kp), .val (.int dD), .val (.ref b1), .val (.ref b2), .val (.ref b3), .val (.ref b8), .val (.ref b12)] []) (fun _ q => XS.ifYes X14.here hx rfl (pc0 := 155) (pc' := 164) rfl (hb hby at_155) rfl ((if0 _ _).trans (teq hc155).1) (by decide) (by decide) q) ?_
    refine Go.of (mkF m 166 #[.val (.int aA), .val (.int uU), .val (.int vV), .val (.int wW), .val (.int fF), .val (.int kp), .val (.int dD), .val (.ref b1), .val (.ref b2), .val (.ref b3), .val (.ref b8), .val (.ref b12)] [(.ref b12)]) (fun _ q => XS.aload X14.here hx rfl (hb hby at_164) rfl rfl q) ?_
    refine Go.virt X14 hx hZ (y := (⟨"com/example/kiriman/kiriman/route/Positions", "undo", "()V"⟩ : MethodName)) (z := (⟨"com/example/kiriman/kiriman/route/Positions", "undo", "()V"⟩ : MethodName)) (a := b12) (argsL := []) (rest := []) hown (tw179 hw) (tw180 hw) (notFace_of_selects (args := #[]) (mvT hZ (tw182 hw))) (tw182 hw) (tw181 hw) (tw138 hw) (tw183 hw) (by decide) rfl A12 (rmUn l Z a0 hw [] b12 cu kr ki rt ix mv b8 (own_R fF uU vV 1 b8) (own_R fF uU vV 2 b8) .null .null (own_I fF uU vV 1) (own_I fF uU vV 2) 0 0 T14.heap n0 hz gb_b12 o0 o1 o2 o3 o4 o5 o6 StU (Or.inl rfl) (Or.inl rfl)) (g := (mkF m 166 #[.val (.int aA), .val (.int uU), .val (.int vV), .val (.int wW), .val (.int fF), .val (.int kp), .val (.int dD), .val (.ref b1), .val (.ref b2), .val (.ref b3), .val (.ref b8), .val (.ref b12)] [(.ref b12)])) rfl (by rw [hml]; rfl) (lenOf pd30 rfl) rfl (W := 0) (by show 2 * 0 + _ ≤ _; exact Nat.le_of_eq rfl) (hb hby at_166) (by decide) (by decide) (by decide) (by decide) ?_
    rintro T67 L67 v67 X67 ⟨rfl, NL67, K67, Sn1299⟩
    have N67 := Fr.app N14 NL67
    replace Q1 := Q1.keep K67
    replace Q2 := Q2.keep K67
    replace A8 := A8.keep K67
    replace A12 := A12.keep K67
    replace U_b1 := U_b1.keep K67
    replace V_b1 := V_b1.keep K67 (ninS ne_b1_b12 (ninS ne_b1_cu (ninS ne_b1_kr (ninS ne_b1_ki (ninS ne_b1_rt (ninS ne_b1_ix (ninS ne_b1_mv nin0)))))))
    replace V_b2 := V_b2.keep K67 (ninS ne_b2_b12 (ninS ne_b2_cu (ninS ne_b2_kr (ninS ne_b2_ki (ninS ne_b2_rt (ninS ne_b2_ix (ninS ne_b2_mv nin0)))))))
    replace hz := Nat.le_trans hz K67.1
    show Go pr ev below _ T67 (mkF m 169 #[.val (.int aA), .val (.int uU), .val (.int vV), .val (.int wW), .val (.int fF), .val (.int kp), .val (.int dD), .val (.ref b1), .val (.ref b2), .val (.ref b3), .val (.ref b8), .val (.ref b12)] [])
    exact J169 _ _ _ .null .null 0 0 X67 rfl N67 Sn1299 V_b1 U_b1 V_b2 (fun _ => ⟨rfl, rfl, rfl, rfl⟩) (fun q => absurd hc134 q)
   ·
    refine Go.of (mkF m 158 #[.val (.int aA), .val (.int uU), .val (.int vV), .val (.int wW), .val (.int fF), .val (.int kp), .val (.int dD), .val (.ref b1), .val (.ref b2), .val (.ref b3), .val (.ref b8), .val (.ref b12)] []) (fun _ q => XS.ifNo X14.here hx rfl (hb hby at_155) rfl ((if0 _ _).trans (feq hc155).1) q) ?_
    refine Go.of (mkF m 160 #[.val (.int aA), .val (.int uU), .val (.int vV), .val (.int wW), .val (.int fF), .val (.int kp), .val (.int dD), .val (.ref b1), .val (.ref b2), .val (.ref b3), .val (.ref b8), .val (.ref b12)] [(.ref b12)]) (fun _ q => XS.aload X14.here hx rfl (hb hby at_158) rfl rfl q) ?_
    refine Go.of (mkF m 161 #[.val (.int aA), .val (.int uU), .val (.int vV), .val (.int wW), .val (.int fF), .val (.int kp), .val (.int dD), .val (.ref b1), .val (.ref b2), .val (.ref b3), .val (.ref b8), .val (.ref b12)] [(.int wW), (.ref b12)]) (fun _ q => XS.iloadN X14.here hx rfl (hb hby at_160) rfl q) ?_
    refine Go.virt X14 hx hZ (y := (⟨"com/example/kiriman/kiriman/route/Positions", "remove", "(I)V"⟩ : MethodName)) (z := (⟨"com/example/kiriman/kiriman/route/Positions", "remove", "(I)V"⟩ : MethodName)) (a := b12) (argsL := [(.int wW)]) (rest := []) hown (tw200 hw) (tw201 hw) (notFace_of_selects (args := #[]) (mvT hZ (tw203 hw))) (tw203 hw) (tw202 hw) (tw138 hw) (tw204 hw) (by decide) rfl A12 (rmRm l Z a0 hw [] b12 cu kr ki rt ix mv b8 (own_R fF uU vV 1 b8) (own_R fF uU vV 2 b8) .null .null (own_I fF uU vV 1) (own_I fF uU vV 2) 0 0 T14.heap n0 hz gb_b12 o0 o1 o2 o3 o4 o5 o6 StU wW hwW (own_RV _ _ _ _ _) (own_RV _ _ _ _ _)) (g := (mkF m 161 #[.val (.int aA), .val (.int uU), .val (.int vV), .val (.int wW), .val (.int fF), .val (.int kp), .val (.int dD), .val (.ref b1), .val (.ref b2), .val (.ref b3), .val (.ref b8), .val (.ref b12)] [(.int wW), (.ref b12)])) rfl (by rw [hml]; rfl) (lenOf pd42 rfl) rfl (W := 0) (by show 2 * 0 + _ ≤ _; exact Nat.le_of_eq rfl) (hb hby at_161) (by decide) (by decide) (by decide) (by decide) ?_
    rintro T68 L68 v68 X68 ⟨rfl, NL68, K68, Sn1316⟩
    have N68 := Fr.app N14 NL68
    replace Q1 := Q1.keep K68
    replace Q2 := Q2.keep K68
    replace A8 := A8.keep K68
    replace A12 := A12.keep K68
    replace U_b1 := U_b1.keep K68
    replace V_b1 := V_b1.keep K68 (ninS ne_b1_b12 (ninS ne_b1_cu (ninS ne_b1_kr (ninS ne_b1_ki (ninS ne_b1_rt (ninS ne_b1_ix (ninS ne_b1_mv nin0)))))))
    replace V_b2 := V_b2.keep K68 (ninS ne_b2_b12 (ninS ne_b2_cu (ninS ne_b2_kr (ninS ne_b2_ki (ninS ne_b2_rt (ninS ne_b2_ix (ninS ne_b2_mv nin0)))))))
    replace hz := Nat.le_trans hz K68.1
    show Go pr ev below _ T68 (mkF m 164 #[.val (.int aA), .val (.int uU), .val (.int vV), .val (.int wW), .val (.int fF), .val (.int kp), .val (.int dD), .val (.ref b1), .val (.ref b2), .val (.ref b3), .val (.ref b8), .val (.ref b12)] [])
    refine Go.of (mkF m 166 #[.val (.int aA), .val (.int uU), .val (.int vV), .val (.int wW), .val (.int fF), .val (.int kp), .val (.int dD), .val (.ref b1), .val (.ref b2), .val (.ref b3), .val (.ref b8), .val (.ref b12)] [(.ref b12)]) (fun _ q => XS.aload X68.here hx rfl (hb hby at_164) rfl rfl q) ?_
    refine Go.virt X68 hx hZ (y := (⟨"com/example/kiriman/kiriman/route/Positions", "undo", "()V"⟩ : MethodName)) (z := (⟨"com/example/kiriman/kiriman/route/Positions", "undo", "()V"⟩ : MethodName)) (a := b12) (argsL := []) (rest := []) hown (tw179 hw) (tw180 hw) (notFace_of_selects (args := #[]) (mvT hZ (tw182 hw))) (tw182 hw) (tw181 hw) (tw138 hw) (tw183 hw) (by decide) rfl A12 (rmUn l Z a0 hw [] b12 cu kr ki rt ix mv b8 (if wW = 1 then .null else (own_R fF uU vV 1 b8)) (if wW = 2 then .null else (own_R fF uU vV 2 b8)) .null .null (if wW = 1 then (-1) else (own_I fF uU vV 1)) (if wW = 2 then (-1) else (own_I fF uU vV 2)) 0 0 T68.heap n0 hz gb_b12 o0 o1 o2 o3 o4 o5 o6 Sn1316 (Or.inl rfl) (Or.inl rfl)) (g := (mkF m 166 #[.val (.int aA), .val (.int uU), .val (.int vV), .val (.int wW), .val (.int fF), .val (.int kp), .val (.int dD), .val (.ref b1), .val (.ref b2), .val (.ref b3), .val (.ref b8), .val (.ref b12)] [(.ref b12)])) rfl (by rw [hml]; rfl) (lenOf pd30 rfl) rfl (W := 0) (by show 2 * 0 + _ ≤ _; exact Nat.le_of_eq rfl) (hb hby at_166) (by decide) (by decide) (by decide) (by decide) ?_
    rintro T69 L69 v69 X69 ⟨rfl, NL69, K69, Sn1329⟩
    have N69 := Fr.app N68 NL69
    replace Q1 := Q1.keep K69
    replace Q2 := Q2.keep K69
    replace A8 := A8.keep K69
    replace A12 := A12.keep K69
    replace U_b1 := U_b1.keep K69
    replace V_b1 := V_b1.keep K69 (ninS ne_b1_b12 (ninS ne_b1_cu (ninS ne_b1_kr (ninS ne_b1_ki (ninS ne_b1_rt (ninS ne_b1_ix (ninS ne_b1_mv nin0)))))))
    replace V_b2 := V_b2.keep K69 (ninS ne_b2_b12 (ninS ne_b2_cu (ninS ne_b2_kr (ninS ne_b2_ki (ninS ne_b2_rt (ninS ne_b2_ix (ninS ne_b2_mv nin0)))))))
    replace hz := Nat.le_trans hz K69.1
    show Go pr ev below _ T69 (mkF m 169 #[.val (.int aA), .val (.int uU), .val (.int vV), .val (.int wW), .val (.int fF), .val (.int kp), .val (.int dD), .val (.ref b1), .val (.ref b2), .val (.ref b3), .val (.ref b8), .val (.ref b12)] [])
    exact J169 _ _ _ .null .null 0 0 X69 rfl N69 Sn1329 V_b1 U_b1 V_b2 (fun _ => ⟨rfl, rfl, rfl, rfl⟩) (fun q => absurd hc134 q)
  ·
   refine Go.of (mkF m 137 #[.val (.int aA), .val (.int uU), .val (.int vV), .val (.int wW), .val (.int fF), .val (.int kp), .val (.int dD), .val (.ref b1), .val (.ref b2), .val (.ref b3), .val (.ref b8), .val (.ref b12)] []) (fun _ q => XS.icmpNo X14.here hx rfl (hb hby at_134) rfl (flt hc134).1 q) ?_
   refine Go.of (mkF m 139 #[.val (.int aA), .val (.int uU), .val (.int vV), .val (.int wW), .val (.int fF), .val (.int kp), .val (.int dD), .val (.ref b1), .val (.ref b2), .val (.ref b3), .val (.ref b8), .val (.ref b12)] [(.ref b12)]) (fun _ q => XS.aload X14.here hx rfl (hb hby at_137) rfl rfl q) ?_
   refine Go.virt X14 hx hZ (y := (⟨"com/example/kiriman/kiriman/route/Positions", "keep", "()V"⟩ : MethodName)) (z := (⟨"com/example/kiriman/kiriman/route/Positions", "keep", "()V"⟩ : MethodName)) (a := b12) (argsL := []) (rest := []) hown (tw199 hw) (tw185 hw) (notFace_of_selects (args := #[]) (mvT hZ (tw187 hw))) (tw187 hw) (tw186 hw) (tw138 hw) (tw188 hw) (by decide) rfl A12 (rmKe l Z a0 hw [] b12 cu kr ki rt ix mv b8 (own_R fF uU vV 1 b8) (own_R fF uU vV 2 b8) .null .null (own_I fF uU vV 1) (own_I fF uU vV 2) 0 0 T14.heap n0 hz gb_b12 o0 o1 o2 o3 o4 o5 o6 StU) (g := (mkF m 139 #[.val (.int aA), .val (.int uU), .val (.int vV), .val (.int wW), .val (.int fF), .val (.int kp), .val (.int dD), .val (.ref b1), .val (.ref b2), .val (.ref b3), .val (.ref b8), .val (.ref b12)] [(.ref b12)])) rfl (by rw [hml]; rfl) (lenOf pd30 rfl) rfl (W := 0) (by show 2 * 0 + _ ≤ _; exact Nat.le_of_eq rfl) (hb hby at_139) (by decide) (by decide) (by decide) (by decide) ?_
   rintro T70 L70 v70 X70 ⟨rfl, NL70, K70, Sn1345⟩
   have N70 := Fr.app N14 NL70
   replace Q1 := Q1.keep K70
   replace Q2 := Q2.keep K70
   replace A8 := A8.keep K70
   replace A12 := A12.keep K70
   replace U_b1 := U_b1.keep K70
   replace V_b1 := V_b1.keep K70 (ninS ne_b1_b12 (ninS ne_b1_cu (ninS ne_b1_kr (ninS ne_b1_ki (ninS ne_b1_rt (ninS ne_b1_ix (ninS ne_b1_mv nin0)))))))
   replace V_b2 := V_b2.keep K70 (ninS ne_b2_b12 (ninS ne_b2_cu (ninS ne_b2_kr (ninS ne_b2_ki (ninS ne_b2_rt (ninS ne_b2_ix (ninS ne_b2_mv nin0)))))))
   replace hz := Nat.le_trans hz K70.1
   show Go pr ev below _ T70 (mkF m 142 #[.val (.int aA), .val (.int uU), .val (.int vV), .val (.int wW), .val (.int fF), .val (.int kp), .val (.int dD), .val (.ref b1), .val (.ref b2), .val (.ref b3), .val (.ref b8), .val (.ref b12)] [])
   refine Go.of (mkF m 144 #[.val (.int aA), .val (.int uU), .val (.int vV), .val (.int wW), .val (.int fF), .val (.int kp), .val (.int dD), .val (.ref b1), .val (.ref b2), .val (.ref b3), .val (.ref b8), .val (.ref b12)] [(.int kp)]) (fun _ q => XS.iload X70.here hx rfl (hb hby at_142) rfl q) ?_
   refine Go.of (mkF m 145 #[.val (.int aA), .val (.int uU), .val (.int vV), .val (.int wW), .val (.int fF), .val (.int kp), .val (.int dD), .val (.ref b1), .val (.ref b2), .val (.ref b3), .val (.ref b8), .val (.ref b12)] [(.int 2), (.int kp)]) (fun _ q => XS.iconst X70.here hx rfl (hb hby at_144) q) ?_
   by_cases hc145 : kp < (2 : Int32)
   ·
    refine Go.of (mkF m 153 #[.val (.int aA), .val (.int uU), .val (.int vV), .val (.int wW), .val (.int fF), .val (.int kp), .val (.int dD), .val (.ref b1), .val (.ref b2), .val (.ref b3), .val (.ref b8), .val (.ref b12)] []) (fun _ q => XS.icmpYes X70.here hx rfl (pc0 := 145) (pc' := 153) rfl (hb hby at_145) rfl (tlt hc145).1 (by decide) (by decide) q) ?_
    refine Go.of (mkF m 155 #[.val (.int aA), .val (.int uU), .val (.int vV), .val (.int wW), .val (.int fF), .val (.int kp), .val (.int dD), .val (.ref b1), .val (.ref b2), .val (.ref b3), .val (.ref b8), .val (.ref b12)] [(.int dD)]) (fun _ q => XS.iload X70.here hx rfl (hb hby at_153) rfl q) ?_
    by_cases hc155 : dD = (0 : Int32)
    ·
     refine Go.of (mkF m 164 #[.val (.int aA), .val (.int uU), .val (.int vV), .val (.int wW), .val (.int fF), .val (.int kp), .val (.int dD), .val (.ref b1), .val (.ref b2), .val (.ref b3), .val (.ref b8), .val (.ref b12)] []) (fun _ q => XS.ifYes X70.here hx rfl (pc0 := 155) (pc' := 164) rfl (hb hby at_155) rfl ((if0 _ _).trans (teq hc155).1) (by decide) (by decide) q) ?_
     refine Go.of (mkF m 166 #[.val (.int aA), .val (.int uU), .val (.int vV), .val (.int wW), .val (.int fF), .val (.int kp), .val (.int dD), .val (.ref b1), .val (.ref b2), .val (.ref b3), .val (.ref b8), .val (.ref b12)] [(.ref b12)]) (fun _ q => XS.aload X70.here hx rfl (hb hby at_164) rfl rfl q) ?_
     refine Go.virt X70 hx hZ (y := (⟨"com/example/kiriman/kiriman/route/Positions", "undo", "()V"⟩ : MethodName)) (z := (⟨"com/example/kiriman/kiriman/route/Positions", "undo", "()V"⟩ : MethodName)) (a := b12) (argsL := []) (rest := []) hown (tw179 hw) (tw180 hw) (notFace_of_selects (args := #[]) (mvT hZ (tw182 hw))) (tw182 hw) (tw181 hw) (tw138 hw) (tw183 hw) (by decide) rfl A12 (rmUn l Z a0 hw [] b12 cu kr ki rt ix mv b8 (own_R fF uU vV 1 b8) (own_R fF uU vV 2 b8) (own_R fF uU vV 1 b8) (own_R fF uU vV 2 b8) (own_I fF uU vV 1) (own_I fF uU vV 2) (own_I fF uU vV 1) (own_I fF uU vV 2) T70.heap n0 hz gb_b12 o0 o1 o2 o3 o4 o5 o6 Sn1345 (own_RV _ _ _ _ _) (own_RV _ _ _ _ _)) (g := (mkF m 166 #[.val (.int aA), .val (.int uU), .val (.int vV), .val (.int wW), .val (.int fF), .val (.int kp), .val (.int dD), .val (.ref b1), .val (.ref b2), .val (.ref b3), .val (.ref b8), .val (.ref b12)] [(.ref b12)])) rfl (by rw [hml]; rfl) (lenOf pd30 rfl) rfl (W := 0) (by show 2 * 0 + _ ≤ _; exact Nat.le_of_eq rfl) (hb hby at_166) (by decide) (by decide) (by decide) (by decide) ?_
     rintro T71 L71 v71 X71 ⟨rfl, NL71, K71, Sn1367⟩
     have N71 := Fr.app N70 NL71
     replace Q1 := Q1.keep K71
     replace Q2 := Q2.keep K71
     replace A8 := A8.keep K71
     replace A12 := A12.keep K71
     replace U_b1 := U_b1.keep K71
     replace V_b1 := V_b1.keep K71 (ninS ne_b1_b12 (ninS ne_b1_cu (ninS ne_b1_kr (ninS ne_b1_ki (ninS ne_b1_rt (ninS ne_b1_ix (ninS ne_b1_mv nin0)))))))
     replace V_b2 := V_b2.keep K71 (ninS ne_b2_b12 (ninS ne_b2_cu (ninS ne_b2_kr (ninS ne_b2_ki (ninS ne_b2_rt (ninS ne_b2_ix (ninS ne_b2_mv nin0)))))))
     replace hz := Nat.le_trans hz K71.1
     show Go pr ev below _ T71 (mkF m 169 #[.val (.int aA), .val (.int uU), .val (.int vV), .val (.int wW), .val (.int fF), .val (.int kp), .val (.int dD), .val (.ref b1), .val (.ref b2), .val (.ref b3), .val (.ref b8), .val (.ref b12)] [])
     exact J169 _ _ _ (own_R fF uU vV 1 b8) (own_R fF uU vV 2 b8) (own_I fF uU vV 1) (own_I fF uU vV 2) X71 rfl N71 Sn1367 V_b1 U_b1 V_b2 (fun q => absurd q hc134) (fun _ => ⟨rfl, rfl, rfl, rfl⟩)
    ·
     refine Go.of (mkF m 158 #[.val (.int aA), .val (.int uU), .val (.int vV), .val (.int wW), .val (.int fF), .val (.int kp), .val (.int dD), .val (.ref b1), .val (.ref b2), .val (.ref b3), .val (.ref b8), .val (.ref b12)] []) (fun _ q => XS.ifNo X70.here hx rfl (hb hby at_155) rfl ((if0 _ _).trans (feq hc155).1) q) ?_
     refine Go.of (mkF m 160 #[.val (.int aA), .val (.int uU), .val (.int vV), .val (.int wW), .val (.int fF), .val (.int kp), .val (.int dD), .val (.ref b1), .val (.ref b2), .val (.ref b3), .val (.ref b8), .val (.ref b12)] [(.ref b12)]) (fun _ q => XS.aload X70.here hx rfl (hb hby at_158) rfl rfl q) ?_
     refine Go.of (mkF m 161 #[.val (.int aA), .val (.int uU), .val (.int vV), .val (.int wW), .val (.int fF), .val (.int kp), .val (.int dD), .val (.ref b1), .val (.ref b2), .val (.ref b3), .val (.ref b8), .val (.ref b12)] [(.int wW), (.ref b12)]) (fun _ q => XS.iloadN X70.here hx rfl (hb hby at_160) rfl q) ?_
     refine Go.virt X70 hx hZ (y := (⟨"com/example/kiriman/kiriman/route/Positions", "remove", "(I)V"⟩ : MethodName)) (z := (⟨"com/example/kiriman/kiriman/route/Positions", "remove", "(I)V"⟩ : MethodName)) (a := b12) (argsL := [(.int wW)]) (rest := []) hown (tw200 hw) (tw201 hw) (notFace_of_selects (args := #[]) (mvT hZ (tw203 hw))) (tw203 hw) (tw202 hw) (tw138 hw) (tw204 hw) (by decide) rfl A12 (rmRm l Z a0 hw [] b12 cu kr ki rt ix mv b8 (own_R fF uU vV 1 b8) (own_R fF uU vV 2 b8) (own_R fF uU vV 1 b8) (own_R fF uU vV 2 b8) (own_I fF uU vV 1) (own_I fF uU vV 2) (own_I fF uU vV 1) (own_I fF uU vV 2) T70.heap n0 hz gb_b12 o0 o1 o2 o3 o4 o5 o6 Sn1345 wW hwW (own_RV _ _ _ _ _) (own_RV _ _ _ _ _)) (g := (mkF m 161 #[.val (.int aA), .val (.int uU), .val (.int vV), .val (.int wW), .val (.int fF), .val (.int kp), .val (.int dD), .val (.ref b1), .val (.ref b2), .val (.ref b3), .val (.ref b8), .val (.ref b12)] [(.int wW), (.ref b12)])) rfl (by rw [hml]; rfl) (lenOf pd42 rfl) rfl (W := 0) (by show 2 * 0 + _ ≤ _; exact Nat.le_of_eq rfl) (hb hby at_161) (by decide) (by decide) (by decide) (by decide) ?_
     rintro T72 L72 v72 X72 ⟨rfl, NL72, K72, Sn1384⟩
     have N72 := Fr.app N70 NL72
     replace Q1 := Q1.keep K72
     replace Q2 := Q2.keep K72
     replace A8 := A8.keep K72
     replace A12 := A12.keep K72
     replace U_b1 := U_b1.keep K72
     replace V_b1 := V_b1.keep K72 (ninS ne_b1_b12 (ninS ne_b1_cu (ninS ne_b1_kr (ninS ne_b1_ki (ninS ne_b1_rt (ninS ne_b1_ix (ninS ne_b1_mv nin0)))))))
     replace V_b2 := V_b2.keep K72 (ninS ne_b2_b12 (ninS ne_b2_cu (ninS ne_b2_kr (ninS ne_b2_ki (ninS ne_b2_rt (ninS ne_b2_ix (ninS ne_b2_mv nin0)))))))
     replace hz := Nat.le_trans hz K72.1
     show Go pr ev below _ T72 (mkF m 164 #[.val (.int aA), .val (.int uU), .val (.int vV), .val (.int wW), .val (.int fF), .val (.int kp), .val (.int dD), .val (.ref b1), .val (.ref b2), .val (.ref b3), .val (.ref b8), .val (.ref b12)] [])
     refine Go.of (mkF m 166 #[.val (.int aA), .val (.int uU), .val (.int vV), .val (.int wW), .val (.int fF), .val (.int kp), .val (.int dD), .val (.ref b1), .val (.ref b2), .val (.ref b3), .val (.ref b8), .val (.ref b12)] [(.ref b12)]) (fun _ q => XS.aload X72.here hx rfl (hb hby at_164) rfl rfl q) ?_
     refine Go.virt X72 hx hZ (y := (⟨"com/example/kiriman/kiriman/route/Positions", "undo", "()V"⟩ : MethodName)) (z := (⟨"com/example/kiriman/kiriman/route/Positions", "undo", "()V"⟩ : MethodName)) (a := b12) (argsL := []) (rest := []) hown (tw179 hw) (tw180 hw) (notFace_of_selects (args := #[]) (mvT hZ (tw182 hw))) (tw182 hw) (tw181 hw) (tw138 hw) (tw183 hw) (by decide) rfl A12 (rmUn l Z a0 hw [] b12 cu kr ki rt ix mv b8 (if wW = 1 then .null else (own_R fF uU vV 1 b8)) (if wW = 2 then .null else (own_R fF uU vV 2 b8)) (own_R fF uU vV 1 b8) (own_R fF uU vV 2 b8) (if wW = 1 then (-1) else (own_I fF uU vV 1)) (if wW = 2 then (-1) else (own_I fF uU vV 2)) (own_I fF uU vV 1) (own_I fF uU vV 2) T72.heap n0 hz gb_b12 o0 o1 o2 o3 o4 o5 o6 Sn1384 (own_RV _ _ _ _ _) (own_RV _ _ _ _ _)) (g := (mkF m 166 #[.val (.int aA), .val (.int uU), .val (.int vV), .val (.int wW), .val (.int fF), .val (.int kp), .val (.int dD), .val (.ref b1), .val (.ref b2), .val (.ref b3), .val (.ref b8), .val (.ref b12)] [(.ref b12)])) rfl (by rw [hml]; rfl) (lenOf pd30 rfl) rfl (W := 0) (by show 2 * 0 + _ ≤ _; exact Nat.le_of_eq rfl) (hb hby at_166) (by decide) (by decide) (by decide) (by decide) ?_
     rintro T73 L73 v73 X73 ⟨rfl, NL73, K73, Sn1397⟩
     have N73 := Fr.app N72 NL73
     replace Q1 := Q1.keep K73
     replace Q2 := Q2.keep K73
     replace A8 := A8.keep K73
     replace A12 := A12.keep K73
     replace U_b1 := U_b1.keep K73
     replace V_b1 := V_b1.keep K73 (ninS ne_b1_b12 (ninS ne_b1_cu (ninS ne_b1_kr (ninS ne_b1_ki (ninS ne_b1_rt (ninS ne_b1_ix (ninS ne_b1_mv nin0)))))))
     replace V_b2 := V_b2.keep K73 (ninS ne_b2_b12 (ninS ne_b2_cu (ninS ne_b2_kr (ninS ne_b2_ki (ninS ne_b2_rt (ninS ne_b2_ix (ninS ne_b2_mv nin0)))))))
     replace hz := Nat.le_trans hz K73.1
     show Go pr ev below _ T73 (mkF m 169 #[.val (.int aA), .val (.int uU), .val (.int vV), .val (.int wW), .val (.int fF), .val (.int kp), .val (.int dD), .val (.ref b1), .val (.ref b2), .val (.ref b3), .val (.ref b8), .val (.ref b12)] [])
     exact J169 _ _ _ (own_R fF uU vV 1 b8) (own_R fF uU vV 2 b8) (own_I fF uU vV 1) (own_I fF uU vV 2) X73 rfl N73 Sn1397 V_b1 U_b1 V_b2 (fun q => absurd q hc134) (fun _ => ⟨rfl, rfl, rfl, rfl⟩)
   ·
    refine Go.of (mkF m 148 #[.val (.int aA), .val (.int uU), .val (.int vV), .val (.int wW), .val (.int fF), .val (.int kp), .val (.int dD), .val (.ref b1), .val (.ref b2), .val (.ref b3), .val (.ref b8), .val (.ref b12)] []) (fun _ q => XS.icmpNo X70.here hx rfl (hb hby at_145) rfl (flt hc145).1 q) ?_
    refine Go.of (mkF m 150 #[.val (.int aA), .val (.int uU), .val (.int vV), .val (.int wW), .val (.int fF), .val (.int kp), .val (.int dD), .val (.ref b1), .val (.ref b2), .val (.ref b3), .val (.ref b8), .val (.ref b12)] [(.ref b12)]) (fun _ q => XS.aload X70.here hx rfl (hb hby at_148) rfl rfl q) ?_
    refine Go.virt X70 hx hZ (y := (⟨"com/example/kiriman/kiriman/route/Positions", "keep", "()V"⟩ : MethodName)) (z := (⟨"com/example/kiriman/kiriman/route/Positions", "keep", "()V"⟩ : MethodName)) (a := b12) (argsL := []) (rest := []) hown (tw199 hw) (tw185 hw) (notFace_of_selects (args := #[]) (mvT hZ (tw187 hw))) (tw187 hw) (tw186 hw) (tw138 hw) (tw188 hw) (by decide) rfl A12 (rmKe l Z a0 hw [] b12 cu kr ki rt ix mv b8 (own_R fF uU vV 1 b8) (own_R fF uU vV 2 b8) (own_R fF uU vV 1 b8) (own_R fF uU vV 2 b8) (own_I fF uU vV 1) (own_I fF uU vV 2) (own_I fF uU vV 1) (own_I fF uU vV 2) T70.heap n0 hz gb_b12 o0 o1 o2 o3 o4 o5 o6 Sn1345) (g := (mkF m 150 #[.val (.int aA), .val (.int uU), .val (.int vV), .val (.int wW), .val (.int fF), .val (.int kp), .val (.int dD), .val (.ref b1), .val (.ref b2), .val (.ref b3), .val (.ref b8), .val (.ref b12)] [(.ref b12)])) rfl (by rw [hml]; rfl) (lenOf pd30 rfl) rfl (W := 0) (by show 2 * 0 + _ ≤ _; exact Nat.le_of_eq rfl) (hb hby at_150) (by decide) (by decide) (by decide) (by decide) ?_
    rintro T74 L74 v74 X74 ⟨rfl, NL74, K74, Sn1413⟩
    have N74 := Fr.app N70 NL74
    replace Q1 := Q1.keep K74
    replace Q2 := Q2.keep K74
    replace A8 := A8.keep K74
    replace A12 := A12.keep K74
    replace U_b1 := U_b1.keep K74
    replace V_b1 := V_b1.keep K74 (ninS ne_b1_b12 (ninS ne_b1_cu (ninS ne_b1_kr (ninS ne_b1_ki (ninS ne_b1_rt (ninS ne_b1_ix (ninS ne_b1_mv nin0)))))))
    replace V_b2 := V_b2.keep K74 (ninS ne_b2_b12 (ninS ne_b2_cu (ninS ne_b2_kr (ninS ne_b2_ki (ninS ne_b2_rt (ninS ne_b2_ix (ninS ne_b2_mv nin0)))))))
    replace hz := Nat.le_trans hz K74.1
    show Go pr ev below _ T74 (mkF m 153 #[.val (.int aA), .val (.int uU), .val (.int vV), .val (.int wW), .val (.int fF), .val (.int kp), .val (.int dD), .val (.ref b1), .val (.ref b2), .val (.ref b3), .val (.ref b8), .val (.ref b12)] [])
    refine Go.of (mkF m 155 #[.val (.int aA), .val (.int uU), .val (.int vV), .val (.int wW), .val (.int fF), .val (.int kp), .val (.int dD), .val (.ref b1), .val (.ref b2), .val (.ref b3), .val (.ref b8), .val (.ref b12)] [(.int dD)]) (fun _ q => XS.iload X74.here hx rfl (hb hby at_153) rfl q) ?_
    by_cases hc155 : dD = (0 : Int32)
    ·
     refine Go.of (mkF m 164 #[.val (.int aA), .val (.int uU), .val (.int vV), .val (.int wW), .val (.int fF), .val (.int kp), .val (.int dD), .val (.ref b1), .val (.ref b2), .val (.ref b3), .val (.ref b8), .val (.ref b12)] []) (fun _ q => XS.ifYes X74.here hx rfl (pc0 := 155) (pc' := 164) rfl (hb hby at_155) rfl ((if0 _ _).trans (teq hc155).1) (by decide) (by decide) q) ?_
     refine Go.of (mkF m 166 #[.val (.int aA), .val (.int uU), .val (.int vV), .val (.int wW), .val (.int fF), .val (.int kp), .val (.int dD), .val (.ref b1), .val (.ref b2), .val (.ref b3), .val (.ref b8), .val (.ref b12)] [(.ref b12)]) (fun _ q => XS.aload X74.here hx rfl (hb hby at_164) rfl rfl q) ?_
     refine Go.virt X74 hx hZ (y := (⟨"com/example/kiriman/kiriman/route/Positions", "undo", "()V"⟩ : MethodName)) (z := (⟨"com/example/kiriman/kiriman/route/Positions", "undo", "()V"⟩ : MethodName)) (a := b12) (argsL := []) (rest := []) hown (tw179 hw) (tw180 hw) (notFace_of_selects (args := #[]) (mvT hZ (tw182 hw))) (tw182 hw) (tw181 hw) (tw138 hw) (tw183 hw) (by decide) rfl A12 (rmUn l Z a0 hw [] b12 cu kr ki rt ix mv b8 (own_R fF uU vV 1 b8) (own_R fF uU vV 2 b8) (own_R fF uU vV 1 b8) (own_R fF uU vV 2 b8) (own_I fF uU vV 1) (own_I fF uU vV 2) (own_I fF uU vV 1) (own_I fF uU vV 2) T74.heap n0 hz gb_b12 o0 o1 o2 o3 o4 o5 o6 Sn1413 (own_RV _ _ _ _ _) (own_RV _ _ _ _ _)) (g := (mkF m 166 #[.val (.int aA), .val (.int uU), .val (.int vV), .val (.int wW), .val (.int fF), .val (.int kp), .val (.int dD), .val (.ref b1), .val (.ref b2), .val (.ref b3), .val (.ref b8), .val (.ref b12)] [(.ref b12)])) rfl (by rw [hml]; rfl) (lenOf pd30 rfl) rfl (W := 0) (by show 2 * 0 + _ ≤ _; exact Nat.le_of_eq rfl) (hb hby at_166) (by decide) (by decide) (by decide) (by decide) ?_
     rintro T75 L75 v75 X75 ⟨rfl, NL75, K75, Sn1430⟩
     have N75 := Fr.app N74 NL75
     replace Q1 := Q1.keep K75
     replace Q2 := Q2.keep K75
     replace A8 := A8.keep K75
     replace A12 := A12.keep K75
     replace U_b1 := U_b1.keep K75
     replace V_b1 := V_b1.keep K75 (ninS ne_b1_b12 (ninS ne_b1_cu (ninS ne_b1_kr (ninS ne_b1_ki (ninS ne_b1_rt (ninS ne_b1_ix (ninS ne_b1_mv nin0)))))))
     replace V_b2 := V_b2.keep K75 (ninS ne_b2_b12 (ninS ne_b2_cu (ninS ne_b2_kr (ninS ne_b2_ki (ninS ne_b2_rt (ninS ne_b2_ix (ninS ne_b2_mv nin0)))))))
     replace hz := Nat.le_trans hz K75.1
     show Go pr ev below _ T75 (mkF m 169 #[.val (.int aA), .val (.int uU), .val (.int vV), .val (.int wW), .val (.int fF), .val (.int kp), .val (.int dD), .val (.ref b1), .val (.ref b2), .val (.ref b3), .val (.ref b8), .val (.ref b12)] [])
     exact J169 _ _ _ (own_R fF uU vV 1 b8) (own_R fF uU vV 2 b8) (own_I fF uU vV 1) (own_I fF uU vV 2) X75 rfl N75 Sn1430 V_b1 U_b1 V_b2 (fun q => absurd q hc134) (fun _ => ⟨rfl, rfl, rfl, rfl⟩)
    ·
     refine Go.of (mkF m 158 #[.val (.int aA), .val (.int uU), .val (.int vV), .val (.int wW), .val (.int fF), .val (.int kp), .val (.int dD), .val (.ref b1), .val (.ref b2), .val (.ref b3), .val (.ref b8), .val (.ref b12)] []) (fun _ q => XS.ifNo X74.here hx rfl (hb hby at_155) rfl ((if0 _ _).trans (feq hc155).1) q) ?_
     refine Go.of (mkF m 160 #[.val (.int aA), .val (.int uU), .val (.int vV), .val (.int wW), .val (.int fF), .val (.int kp), .val (.int dD), .val (.ref b1), .val (.ref b2), .val (.ref b3), .val (.ref b8), .val (.ref b12)] [(.ref b12)]) (fun _ q => XS.aload X74.here hx rfl (hb hby at_158) rfl rfl q) ?_
     refine Go.of (mkF m 161 #[.val (.int aA), .val (.int uU), .val (.int vV), .val (.int wW), .val (.int fF), .val (.int kp), .val (.int dD), .val (.ref b1), .val (.ref b2), .val (.ref b3), .val (.ref b8), .val (.ref b12)] [(.int wW), (.ref b12)]) (fun _ q => XS.iloadN X74.here hx rfl (hb hby at_160) rfl q) ?_
     refine Go.virt X74 hx hZ (y := (⟨"com/example/kiriman/kiriman/route/Positions", "remove", "(I)V"⟩ : MethodName)) (z := (⟨"com/example/kiriman/kiriman/route/Positions", "remove", "(I)V"⟩ : MethodName)) (a := b12) (argsL := [(.int wW)]) (rest := []) hown (tw200 hw) (tw201 hw) (notFace_of_selects (args := #[]) (mvT hZ (tw203 hw))) (tw203 hw) (tw202 hw) (tw138 hw) (tw204 hw) (by decide) rfl A12 (rmRm l Z a0 hw [] b12 cu kr ki rt ix mv b8 (own_R fF uU vV 1 b8) (own_R fF uU vV 2 b8) (own_R fF uU vV 1 b8) (own_R fF uU vV 2 b8) (own_I fF uU vV 1) (own_I fF uU vV 2) (own_I fF uU vV 1) (own_I fF uU vV 2) T74.heap n0 hz gb_b12 o0 o1 o2 o3 o4 o5 o6 Sn1413 wW hwW (own_RV _ _ _ _ _) (own_RV _ _ _ _ _)) (g := (mkF m 161 #[.val (.int aA), .val (.int uU), .val (.int vV), .val (.int wW), .val (.int fF), .val (.int kp), .val (.int dD), .val (.ref b1), .val (.ref b2), .val (.ref b3), .val (.ref b8), .val (.ref b12)] [(.int wW), (.ref b12)])) rfl (by rw [hml]; rfl) (lenOf pd42 rfl) rfl (W := 0) (by show 2 * 0 + _ ≤ _; exact Nat.le_of_eq rfl) (hb hby at_161) (by decide) (by decide) (by decide) (by decide) ?_
     rintro T76 L76 v76 X76 ⟨rfl, NL76, K76, Sn1447⟩
     have N76 := Fr.app N74 NL76
     replace Q1 := Q1.keep K76
     replace Q2 := Q2.keep K76
     replace A8 := A8.keep K76
     replace A12 := A12.keep K76
     replace U_b1 := U_b1.keep K76
     replace V_b1 := V_b1.keep K76 (ninS ne_b1_b12 (ninS ne_b1_cu (ninS ne_b1_kr (ninS ne_b1_ki (ninS ne_b1_rt (ninS ne_b1_ix (ninS ne_b1_mv nin0)))))))
     replace V_b2 := V_b2.keep K76 (ninS ne_b2_b12 (ninS ne_b2_cu (ninS ne_b2_kr (ninS ne_b2_ki (ninS ne_b2_rt (ninS ne_b2_ix (ninS ne_b2_mv nin0)))))))
     replace hz := Nat.le_trans hz K76.1
     show Go pr ev below _ T76 (mkF m 164 #[.val (.int aA), .val (.int uU), .val (.int vV), .val (.int wW), .val (.int fF), .val (.int kp), .val (.int dD), .val (.ref b1), .val (.ref b2), .val (.ref b3), .val (.ref b8), .val (.ref b12)] [])
     refine Go.of (mkF m 166 #[.val (.int aA), .val (.int uU), .val (.int vV), .val (.int wW), .val (.int fF), .val (.int kp), .val (.int dD), .val (.ref b1), .val (.ref b2), .val (.ref b3), .val (.ref b8), .val (.ref b12)] [(.ref b12)]) (fun _ q => XS.aload X76.here hx rfl (hb hby at_164) rfl rfl q) ?_
     refine Go.virt X76 hx hZ (y := (⟨"com/example/kiriman/kiriman/route/Positions", "undo", "()V"⟩ : MethodName)) (z := (⟨"com/example/kiriman/kiriman/route/Positions", "undo", "()V"⟩ : MethodName)) (a := b12) (argsL := []) (rest := []) hown (tw179 hw) (tw180 hw) (notFace_of_selects (args := #[]) (mvT hZ (tw182 hw))) (tw182 hw) (tw181 hw) (tw138 hw) (tw183 hw) (by decide) rfl A12 (rmUn l Z a0 hw [] b12 cu kr ki rt ix mv b8 (if wW = 1 then .null else (own_R fF uU vV 1 b8)) (if wW = 2 then .null else (own_R fF uU vV 2 b8)) (own_R fF uU vV 1 b8) (own_R fF uU vV 2 b8) (if wW = 1 then (-1) else (own_I fF uU vV 1)) (if wW = 2 then (-1) else (own_I fF uU vV 2)) (own_I fF uU vV 1) (own_I fF uU vV 2) T76.heap n0 hz gb_b12 o0 o1 o2 o3 o4 o5 o6 Sn1447 (own_RV _ _ _ _ _) (own_RV _ _ _ _ _)) (g := (mkF m 166 #[.val (.int aA), .val (.int uU), .val (.int vV), .val (.int wW), .val (.int fF), .val (.int kp), .val (.int dD), .val (.ref b1), .val (.ref b2), .val (.ref b3), .val (.ref b8), .val (.ref b12)] [(.ref b12)])) rfl (by rw [hml]; rfl) (lenOf pd30 rfl) rfl (W := 0) (by show 2 * 0 + _ ≤ _; exact Nat.le_of_eq rfl) (hb hby at_166) (by decide) (by decide) (by decide) (by decide) ?_
     rintro T77 L77 v77 X77 ⟨rfl, NL77, K77, Sn1460⟩
     have N77 := Fr.app N76 NL77
     replace Q1 := Q1.keep K77
     replace Q2 := Q2.keep K77
     replace A8 := A8.keep K77
     replace A12 := A12.keep K77
     replace U_b1 := U_b1.keep K77
     replace V_b1 := V_b1.keep K77 (ninS ne_b1_b12 (ninS ne_b1_cu (ninS ne_b1_kr (ninS ne_b1_ki (ninS ne_b1_rt (ninS ne_b1_ix (ninS ne_b1_mv nin0)))))))
     replace V_b2 := V_b2.keep K77 (ninS ne_b2_b12 (ninS ne_b2_cu (ninS ne_b2_kr (ninS ne_b2_ki (ninS ne_b2_rt (ninS ne_b2_ix (ninS ne_b2_mv nin0)))))))
     replace hz := Nat.le_trans hz K77.1
     show Go pr ev below _ T77 (mkF m 169 #[.val (.int aA), .val (.int uU), .val (.int vV), .val (.int wW), .val (.int fF), .val (.int kp), .val (.int dD), .val (.ref b1), .val (.ref b2), .val (.ref b3), .val (.ref b8), .val (.ref b12)] [])
     exact J169 _ _ _ (own_R fF uU vV 1 b8) (own_R fF uU vV 2 b8) (own_I fF uU vV 1) (own_I fF uU vV 2) X77 rfl N77 Sn1460 V_b1 U_b1 V_b2 (fun q => absurd q hc134) (fun _ => ⟨rfl, rfl, rfl, rfl⟩)
 by_cases hc44 : (((aA.toUInt32 >>> ((7 : Int32) &&& 31).toUInt32).toInt32) &&& (1 : Int32)) = (0 : Int32)
 ·
  refine Go.of (mkF m 51 #[.val (.int aA), .val (.int uU), .val (.int vV), .val (.int wW), .val (.int fF), .val (.int kp), .unset, .unset, .unset, .unset, .unset, .unset] []) (fun _ q => XS.ifYes X0.here hx rfl (pc0 := 44) (pc' := 51) rfl (hb hby at_44) rfl ((if0 _ _).trans (teq hc44).1) (by decide) (by decide) q) ?_
  refine Go.of (mkF m 52 #[.val (.int aA), .val (.int uU), .val (.int vV), .val (.int wW), .val (.int fF), .val (.int kp), .unset, .unset, .unset, .unset, .unset, .unset] [(.int 0)]) (fun _ q => XS.iconst X0.here hx rfl (hb hby at_51) q) ?_
  exact J52 _ _ _ X0 e0 N0
 ·
  refine Go.of (mkF m 47 #[.val (.int aA), .val (.int uU), .val (.int vV), .val (.int wW), .val (.int fF), .val (.int kp), .unset, .unset, .unset, .unset, .unset, .unset] []) (fun _ q => XS.ifNo X0.here hx rfl (hb hby at_44) rfl ((if0 _ _).trans (feq hc44).1) q) ?_
  refine Go.of (mkF m 48 #[.val (.int aA), .val (.int uU), .val (.int vV), .val (.int wW), .val (.int fF), .val (.int kp), .unset, .unset, .unset, .unset, .unset, .unset] [(.int 1)]) (fun _ q => XS.iconst X0.here hx rfl (hb hby at_47) q) ?_
  refine Go.of (mkF m 52 #[.val (.int aA), .val (.int uU), .val (.int vV), .val (.int wW), .val (.int fF), .val (.int kp), .unset, .unset, .unset, .unset, .unset, .unset] [(.int 1)]) (fun _ q => XS.goto X0.here hx rfl (pc0 := 48) (pc' := 52) rfl (hb hby at_48) (by decide) (by decide) q) ?_
  exact J52 _ _ _ X0 e0 N0
theorem comes_1 {Post : Tables → Env → Array Value → State → Outcome → State → Prop} (hpost : ∀ tb e args s v u, (limb_1_1.after args s (.returned v) u = true ∧ limb_1_2.after args s (.returned v) u = true ∧ True) → FrameEnd s (.returned v) u (Jvm.fieldLocs frame_1_writes args s ++ Jvm.arrayLocs frame_1_arrays args s ++ Jvm.staticLocs frame_1_statics s) 56 704 → Post tb e args s (.returned v) u) :
    ArmFor flags0 classFile x code maxLocals ret World_1 tables_1 room_1 Calls_1 rest_1 Pre_1 Post := by
  intro l hfl _ _ p e ha hc hk s m args below hf hA hF happ hP
  obtain ⟨hcalls, hrest, hpre⟩ := hP
  obtain ⟨-, -, -, hnamed, -, -, -, hat⟩ := (Spec.applies_iff hf).mp happ
  obtain ⟨hg, hn⟩ := and_e (Cond.before_iff.mp (show (Jvm.Cond.and given_1 narrow_1).before args s = true from hpre))
  obtain ⟨gc, gr⟩ := and_e hg
  have gi0 := gr
  obtain ⟨w0, rfl⟩ : ∃ w0 : Value, args = #[w0] := by
    have hs : args.size = 1 := by simpa [Cond.value, given_1] using gc
    obtain ⟨L⟩ := args
    match L, hs with
    | [w0], _ => exact ⟨w0, rfl⟩
  have hw := fun d (hd : d ∈ tables_1) => atoms_spec (ws := Jvm.Cond.code x code maxLocals ret :: tables_1) hat d (List.mem_cons_of_mem _ hd)
  have hfit : Fit s := fun {y c} hc i hi => by
    obtain ⟨ha, rfl⟩ := Array.getElem?_eq_some_iff.mp hc
    have q := List.all_eq_true.mp ((Array.all_eq_true_iff_forall_mem.mp hF) _ (Array.getElem_mem ha)) i (List.mem_range.mpr hi)
    simpa [Array.getElem?_eq_getElem hi] using q
  obtain ⟨i0, ei0⟩ := is_v gi0
  obtain rfl : w0 = (.int i0) := Option.some.inj ei0
  obtain ⟨n, o, h1, h2, h3, _, L, rfl, ⟨rfl, N⟩, hq⟩ := rm0 l s _ hw tables_1 i0 s.heap s.heap.size (Nat.le_refl _) p e ha hc hk s m _ below hf ((Spec.applies_iff_loose hf).mp happ).1 ⟨rfl, State.Warmed39.refl s, rfl⟩ trivial
  refine ⟨n, _, h1, h2, h3, hpost _ _ _ _ _ _ ⟨Cond.after_iff.mpr rfl, Cond.after_iff.mpr (eq_i res_at (Term.int_eval (1)) rfl), trivial⟩ ⟨hq.1, hq.2.1, (hq.2.2.sift fun y hy => Or.inr (N y hy)).mono (by decide) (by decide)⟩⟩
theorem main_1_1 : Claimed_1_1 := comes_1 fun _ _ _ _ _ _ h hF => ⟨h.1, hF⟩
theorem main_1_2 : Claimed_1_2 := comes_1 fun _ _ _ _ _ _ h hF => ⟨h.2.1, hF⟩
end Jvm.Pilot.@@N@@
namespace Jvm.Pilot.@@N@@
open Jvm Jvm.ClassFile Sem Op Lib Jvm.Free Jvm.Stand Jvm.Pilot.@@N@@.Jvm.D
/-! MADE BY PROGRAM (witnessworld.py) out of the Statement's table words and the real class files: 19 classes; the members and pool entries that the words name. The judged class is class 1, her method 1. -/
namespace start1
open Jvm.ClassFile
def u (s : String) : CpInfo := .utf8 (stringToUtf16 s)
/-- a pool by its gaps: so many unusable entries, then the entry; so many at the end -/
def gap : Nat → List CpInfo → List CpInfo
  | 0, r => r
  | n + 1, r => .unusable :: gap n r
def poolList (es : List (Nat × CpInfo)) (last : Nat) : List CpInfo := es.foldr (fun e r => gap e.1 (e.2 :: r)) (gap last [])
def pool (es : List (Nat × CpInfo)) (last : Nat) : Array CpInfo := ⟨poolList es last⟩
def fileOf (pool : Array CpInfo) (this : Nat) (attrs : Array Attribute := #[]) (ms : Array MethodInfo := #[]) (fl : Nat := 33) (sup : Nat := 0) (ifs : Array Nat := #[]) (fds : Array FieldInfo := #[]) : ClassFile where
  minorVersion := 0
  majorVersion := 65
  constantPool := pool
  accessFlags := fl
  thisClass := this
  superClass := sup
  interfaces := ifs
  fields := fds
  methods := ms
  attributes := attrs
def plain (name : String) (sup : Option ClassId) : Class where
  name := name
  kind := .ordinary
  loader := none
  accessFlags := 33
  super := sup
  interfaces := #[]
  cf := none
  fields := #[]
  methods := #[]
  instanceTypes := #[]
  staticTypes := #[]
  resolved := #[]
  callSites := []
  init := .initialized
  statics := none
  mirror := none

def pool0 : Array CpInfo := pool [(5, u "<init>"), (0, u "()V"), (1, .class_ 10), (1, u "java/lang/Object"), (85, u "clone"), (0, u "()Ljava/lang/Object;")] 26

def k0c0 : Code := { maxStack := 0, maxLocals := 1, code := object_method_1_code, exceptionTable := #[], attributes := #[] }
def k0m0 : Method := { name := "<init>", desc := "()V", sig := { parameters := [], returnType := none }, accessFlags := 1, code := some k0c0 }
def k0m1 : Method := { name := "clone", desc := "()Ljava/lang/Object;", sig := { parameters := [], returnType := some (.object "java/lang/Object") }, accessFlags := 260, code := none }
/-- java/lang/Object -/
def k0 : Class := { plain "java/lang/Object" none with
  accessFlags := 33
  interfaces := #[]
  cf := some (fileOf pool0 8 #[] #[{ accessFlags := 1, nameIndex := 5, descriptorIndex := 6, attributes := #[] }, { accessFlags := 260, nameIndex := 96, descriptorIndex := 97, attributes := #[] }] 33 0 #[] #[])
  fields := #[]
  methods := #[k0m0, k0m1]
  instanceTypes := #[]
  staticTypes := #[]
  resolved := Array.replicate 124 none
  statics := none }

def pool1 : Array CpInfo := pool [(2, .class_ 4), (1, u "java/lang/Object"), (0, u "<init>"), (0, u "()V"), (0, .class_ 8), (0, u "com/example/kiriman/kiriman/route/Route"), (0, .class_ 10), (0, u "com/example/kiriman/kiriman/route/Problem"), (0, .methodref 9 12), (0, .nameAndType 5 13), (0, u "(II[I[I[I)V"), (0, .methodref 7 15), (0, .nameAndType 5 16), (0, u "(Lcom/example/kiriman/kiriman/route/Problem;I)V"), (0, .methodref 7 18), (0, .nameAndType 19 20), (0, u "insert"), (0, u "(II)V"), (0, .class_ 22), (0, u "com/example/kiriman/kiriman/route/Positions"), (0, .methodref 21 24), (0, .nameAndType 5 25), (0, u "(I)V"), (0, .methodref 21 27), (0, .nameAndType 28 29), (0, u "update"), (0, u "(Lcom/example/kiriman/kiriman/route/Route;I)V"), (0, .methodref 21 31), (0, .nameAndType 32 6), (0, u "keep"), (0, .methodref 21 34), (0, .nameAndType 35 25), (0, u "remove"), (0, .methodref 21 37), (0, .nameAndType 38 6), (0, u "undo"), (0, .methodref 21 40), (0, .nameAndType 41 42), (0, u "route"), (0, u "(I)Lcom/example/kiriman/kiriman/route/Route;"), (0, .methodref 21 44), (0, .nameAndType 45 46), (0, u "index"), (0, u "(I)I"), (0, .class_ 48), (0, u "com/example/kiriman/kiriman/route/PositionsKeepPinLaw"), (2, u "law"), (0, u "(I)Z")] 7

def k1m0 : Method := { name := "<init>", desc := "()V", sig := { parameters := [], returnType := none }, accessFlags := 1, code := none }
def k1c1 : Code := { maxStack := 7, maxLocals := 12, code := code, exceptionTable := #[], attributes := #[] }
def k1m1 : Method := { name := "law", desc := "(I)Z", sig := { parameters := [.int], returnType := some .boolean }, accessFlags := 9, code := some k1c1 }
/-- com/example/kiriman/kiriman/route/PositionsKeepPinLaw -/
def k1 : Class := { plain "com/example/kiriman/kiriman/route/PositionsKeepPinLaw" (some 0) with
  accessFlags := 49
  interfaces := #[]
  cf := some (fileOf pool1 47 #[] #[{ accessFlags := 1, nameIndex := 5, descriptorIndex := 6, attributes := #[] }, { accessFlags := 9, nameIndex := 51, descriptorIndex := 52, attributes := #[] }] 49 2 #[] #[])
  fields := #[]
  methods := #[k1m0, k1m1]
  instanceTypes := #[]
  staticTypes := #[]
  resolved := Array.replicate 60 none
  statics := none }

def pool2 : Array CpInfo := pool [(1, .methodref 2 3), (0, .class_ 4), (0, .nameAndType 5 6), (0, u "java/lang/Object"), (0, u "<init>"), (0, u "()V"), (0, .fieldref 8 9), (0, .class_ 10), (0, .nameAndType 11 12), (0, u "com/example/kiriman/kiriman/route/Route"), (0, u "stale"), (0, u "Z"), (0, .fieldref 8 14), (0, .nameAndType 15 16), (0, u "problem"), (0, u "Lcom/example/kiriman/kiriman/route/Problem;"), (0, .fieldref 8 18), (0, .nameAndType 19 20), (0, u "vehicle"), (0, u "I"), (0, .fieldref 8 22), (0, .nameAndType 23 24), (0, u "visits"), (0, u "[I"), (0, .fieldref 8 26), (0, .nameAndType 27 24), (0, u "legTo"), (0, .methodref 29 30), (0, .class_ 31), (0, .nameAndType 32 33), (0, u "com/example/kiriman/kiriman/route/Problem"), (0, u "depot"), (0, u "()I"), (0, .methodref 29 35), (0, .nameAndType 36 37), (0, u "cost"), (0, u "(II)I"), (0, .fieldref 8 39), (0, .nameAndType 40 20), (0, u "size"), (14, .methodref 8 56), (0, .nameAndType 57 58), (0, u "before"), (0, u "(I)I"), (0, .methodref 8 60), (0, .nameAndType 61 58), (0, u "after"), (0, .methodref 63 64), (0, .class_ 65), (0, .nameAndType 66 67), (0, u "java/lang/System"), (0, u "arraycopy"), (0, u "(Ljava/lang/Object;ILjava/lang/Object;II)V"), (20, u "J"), (20, u "peakBefore"), (0, u "[J"), (2, u "pickupsBefore"), (8, u "deliveriesFrom"), (2, u "peakFrom"), (5, u "leavesBefore"), (5, u "lastArrival"), (6, u "duration"), (15, u "(Lcom/example/kiriman/kiriman/route/Problem;I)V"), (4, u "visit"), (0, u "insert"), (0, u "(II)V")] 13

def k2c0 : Code := { maxStack := 5, maxLocals := 3, code := prog_30_method_1_code, exceptionTable := #[], attributes := #[] }
def k2m0 : Method := { name := "<init>", desc := "(Lcom/example/kiriman/kiriman/route/Problem;I)V", sig := { parameters := [(.object "com/example/kiriman/kiriman/route/Problem"), .int], returnType := none }, accessFlags := 0, code := some k2c0 }
def k2c1 : Code := { maxStack := 1, maxLocals := 1, code := prog_30_method_5_code, exceptionTable := #[], attributes := #[] }
def k2m1 : Method := { name := "size", desc := "()I", sig := { parameters := [], returnType := some .int }, accessFlags := 0, code := some k2c1 }
def k2c2 : Code := { maxStack := 2, maxLocals := 2, code := prog_30_method_6_code, exceptionTable := #[], attributes := #[] }
def k2m2 : Method := { name := "visit", desc := "(I)I", sig := { parameters := [.int], returnType := some .int }, accessFlags := 0, code := some k2c2 }
def k2c3 : Code := { maxStack := 6, maxLocals := 5, code := prog_30_method_7_code, exceptionTable := #[], attributes := #[] }
def k2m3 : Method := { name := "insert", desc := "(II)V", sig := { parameters := [.int, .int], returnType := none }, accessFlags := 0, code := some k2c3 }
def k2c4 : Code := { maxStack := 3, maxLocals := 2, code := prog_30_method_11_code, exceptionTable := #[], attributes := #[] }
def k2m4 : Method := { name := "before", desc := "(I)I", sig := { parameters := [.int], returnType := some .int }, accessFlags := 2, code := some k2c4 }
def k2c5 : Code := { maxStack := 2, maxLocals := 2, code := prog_30_method_12_code, exceptionTable := #[], attributes := #[] }
def k2m5 : Method := { name := "after", desc := "(I)I", sig := { parameters := [.int], returnType := some .int }, accessFlags := 2, code := some k2c5 }
/-- com/example/kiriman/kiriman/route/Route -/
def k2 : Class := { plain "com/example/kiriman/kiriman/route/Route" (some 0) with
  accessFlags := 32
  interfaces := #[]
  cf := some (fileOf pool2 8 #[] #[{ accessFlags := 0, nameIndex := 5, descriptorIndex := 160, attributes := #[] }, { accessFlags := 0, nameIndex := 40, descriptorIndex := 33, attributes := #[] }, { accessFlags := 0, nameIndex := 165, descriptorIndex := 58, attributes := #[] }, { accessFlags := 0, nameIndex := 166, descriptorIndex := 167, attributes := #[] }, { accessFlags := 2, nameIndex := 57, descriptorIndex := 58, attributes := #[] }, { accessFlags := 2, nameIndex := 61, descriptorIndex := 58, attributes := #[] }] 32 2 #[] #[{ accessFlags := 18, nameIndex := 15, descriptorIndex := 16, attributes := #[] }, { accessFlags := 18, nameIndex := 19, descriptorIndex := 20, attributes := #[] }, { accessFlags := 2, nameIndex := 23, descriptorIndex := 24, attributes := #[] }, { accessFlags := 2, nameIndex := 40, descriptorIndex := 20, attributes := #[] }, { accessFlags := 2, nameIndex := 27, descriptorIndex := 24, attributes := #[] }, { accessFlags := 2, nameIndex := 11, descriptorIndex := 12, attributes := #[] }, { accessFlags := 2, nameIndex := 113, descriptorIndex := 110, attributes := #[] }, { accessFlags := 2, nameIndex := 109, descriptorIndex := 110, attributes := #[] }, { accessFlags := 2, nameIndex := 122, descriptorIndex := 110, attributes := #[] }, { accessFlags := 2, nameIndex := 125, descriptorIndex := 110, attributes := #[] }, { accessFlags := 2, nameIndex := 131, descriptorIndex := 110, attributes := #[] }, { accessFlags := 2, nameIndex := 36, descriptorIndex := 88, attributes := #[] }, { accessFlags := 2, nameIndex := 144, descriptorIndex := 88, attributes := #[] }, { accessFlags := 2, nameIndex := 137, descriptorIndex := 88, attributes := #[] }])
  fields := #[{ name := "problem", type := (.object "com/example/kiriman/kiriman/route/Problem"), accessFlags := 18, slot := 0, constantValue := 0 }, { name := "vehicle", type := .int, accessFlags := 18, slot := 1, constantValue := 0 }, { name := "visits", type := (.array .int), accessFlags := 2, slot := 2, constantValue := 0 }, { name := "size", type := .int, accessFlags := 2, slot := 3, constantValue := 0 }, { name := "legTo", type := (.array .int), accessFlags := 2, slot := 4, constantValue := 0 }, { name := "stale", type := .boolean, accessFlags := 2, slot := 5, constantValue := 0 }, { name := "pickupsBefore", type := (.array .long), accessFlags := 2, slot := 6, constantValue := 0 }, { name := "peakBefore", type := (.array .long), accessFlags := 2, slot := 7, constantValue := 0 }, { name := "deliveriesFrom", type := (.array .long), accessFlags := 2, slot := 8, constantValue := 0 }, { name := "peakFrom", type := (.array .long), accessFlags := 2, slot := 9, constantValue := 0 }, { name := "leavesBefore", type := (.array .long), accessFlags := 2, slot := 10, constantValue := 0 }, { name := "cost", type := .long, accessFlags := 2, slot := 11, constantValue := 0 }, { name := "duration", type := .long, accessFlags := 2, slot := 12, constantValue := 0 }, { name := "lastArrival", type := .long, accessFlags := 2, slot := 13, constantValue := 0 }]
  methods := #[k2m0, k2m1, k2m2, k2m3, k2m4, k2m5]
  instanceTypes := #[(.object "com/example/kiriman/kiriman/route/Problem"), .int, (.array .int), .int, (.array .int), .boolean, (.array .long), (.array .long), (.array .long), (.array .long), (.array .long), .long, .long, .long]
  staticTypes := #[]
  resolved := Array.replicate 181 none
  statics := none }

def pool3 : Array CpInfo := pool [(1, .methodref 2 3), (0, .class_ 4), (0, .nameAndType 5 6), (0, u "com/example/kiriman/kiriman/route/Problem"), (0, u "oneForEachCustomer"), (0, u "(II)[I"), (0, .methodref 2 8), (0, .nameAndType 9 10), (0, u "<init>"), (0, u "(I[I[I[I[I)V"), (0, .fieldref 2 12), (0, .nameAndType 13 14), (0, u "nodes"), (0, u "I"), (0, .methodref 16 17), (0, .class_ 18), (0, .nameAndType 19 20), (0, u "java/lang/Math"), (0, u "max"), (0, u "(II)I"), (9, .methodref 2 31), (0, .nameAndType 32 33), (0, u "matrix"), (0, u "([I[I[I)Lcom/example/kiriman/kiriman/route/Costs;"), (0, .methodref 2 35), (0, .nameAndType 9 36), (0, u "(I[I[I[ILcom/example/kiriman/kiriman/route/Costs;)V"), (3, .methodref 41 42), (0, .class_ 43), (0, .nameAndType 9 44), (0, u "java/lang/Object"), (0, u "()V"), (0, .interfaceMethodref 46 47), (0, .class_ 48), (0, .nameAndType 13 49), (0, u "com/example/kiriman/kiriman/route/Costs"), (0, u "()I"), (7, .methodref 16 58), (0, .nameAndType 59 20), (0, u "min"), (1, .fieldref 2 62), (0, .nameAndType 63 14), (0, u "depot"), (0, .methodref 65 66), (0, .class_ 67), (0, .nameAndType 68 69), (0, u "[I"), (0, u "clone"), (0, u "()Ljava/lang/Object;"), (0, .fieldref 2 71), (0, .nameAndType 72 67), (0, u "capacities"), (0, .fieldref 2 74), (0, .nameAndType 75 67), (0, u "deliveries"), (0, .fieldref 2 77), (0, .nameAndType 78 67), (0, u "pickups"), (0, .fieldref 2 80), (0, .nameAndType 81 82), (0, u "costs"), (0, u "Lcom/example/kiriman/kiriman/route/Costs;"), (0, .fieldref 2 84), (0, .nameAndType 85 67), (0, u "service"), (2, .long 9223372036854775807), (1, .fieldref 2 91), (0, .nameAndType 92 93), (0, u "longest"), (0, u "J"), (0, .fieldref 2 95), (0, .nameAndType 96 93), (0, u "latest"), (1, .class_ 99), (0, u "com/example/kiriman/kiriman/route/CostMatrix"), (0, .methodref 98 101), (0, .nameAndType 9 102), (0, u "(I[I)V"), (0, .methodref 104 105), (0, .class_ 106), (0, .nameAndType 107 108), (0, u "java/util/Arrays"), (0, u "fill"), (0, u "([II)V"), (8, .interfaceMethodref 46 118), (0, .nameAndType 119 20), (0, u "cost"), (18, u "(II[I[I[I)V")] 54

def k3c0 : Code := { maxStack := 6, maxLocals := 7, code := prog_29_method_1_code, exceptionTable := #[], attributes := #[] }
def k3m0 : Method := { name := "<init>", desc := "(II[I[I[I)V", sig := { parameters := [.int, .int, (.array .int), (.array .int), (.array .int)], returnType := none }, accessFlags := 1, code := some k3c0 }
def k3c1 : Code := { maxStack := 8, maxLocals := 10, code := prog_29_method_2_code, exceptionTable := #[], attributes := #[] }
def k3m1 : Method := { name := "<init>", desc := "(I[I[I[I[I)V", sig := { parameters := [.int, (.array .int), (.array .int), (.array .int), (.array .int)], returnType := none }, accessFlags := 1, code := some k3c1 }
def k3c2 : Code := { maxStack := 4, maxLocals := 11, code := prog_29_method_3_code, exceptionTable := #[], attributes := #[] }
def k3m2 : Method := { name := "<init>", desc := "(I[I[I[ILcom/example/kiriman/kiriman/route/Costs;)V", sig := { parameters := [.int, (.array .int), (.array .int), (.array .int), (.object "com/example/kiriman/kiriman/route/Costs")], returnType := none }, accessFlags := 1, code := some k3c2 }
def k3c3 : Code := { maxStack := 6, maxLocals := 5, code := prog_29_method_5_code, exceptionTable := #[], attributes := #[] }
def k3m3 : Method := { name := "matrix", desc := "([I[I[I)Lcom/example/kiriman/kiriman/route/Costs;", sig := { parameters := [(.array .int), (.array .int), (.array .int)], returnType := some (.object "com/example/kiriman/kiriman/route/Costs") }, accessFlags := 10, code := some k3c3 }
def k3c4 : Code := { maxStack := 3, maxLocals := 3, code := prog_29_method_6_code, exceptionTable := #[], attributes := #[] }
def k3m4 : Method := { name := "oneForEachCustomer", desc := "(II)[I", sig := { parameters := [.int, .int], returnType := some (.array .int) }, accessFlags := 10, code := some k3c4 }
def k3c5 : Code := { maxStack := 1, maxLocals := 1, code := prog_29_method_9_code, exceptionTable := #[], attributes := #[] }
def k3m5 : Method := { name := "depot", desc := "()I", sig := { parameters := [], returnType := some .int }, accessFlags := 1, code := some k3c5 }
def k3c6 : Code := { maxStack := 3, maxLocals := 3, code := prog_29_method_14_code, exceptionTable := #[], attributes := #[] }
def k3m6 : Method := { name := "cost", desc := "(II)I", sig := { parameters := [.int, .int], returnType := some .int }, accessFlags := 1, code := some k3c6 }
/-- com/example/kiriman/kiriman/route/Problem -/
def k3 : Class := { plain "com/example/kiriman/kiriman/route/Problem" (some 0) with
  accessFlags := 33
  interfaces := #[]
  cf := some (fileOf pool3 2 #[] #[{ accessFlags := 1, nameIndex := 9, descriptorIndex := 138, attributes := #[] }, { accessFlags := 1, nameIndex := 9, descriptorIndex := 10, attributes := #[] }, { accessFlags := 1, nameIndex := 9, descriptorIndex := 36, attributes := #[] }, { accessFlags := 10, nameIndex := 32, descriptorIndex := 33, attributes := #[] }, { accessFlags := 10, nameIndex := 5, descriptorIndex := 6, attributes := #[] }, { accessFlags := 1, nameIndex := 63, descriptorIndex := 49, attributes := #[] }, { accessFlags := 1, nameIndex := 119, descriptorIndex := 20, attributes := #[] }] 33 41 #[] #[{ accessFlags := 18, nameIndex := 13, descriptorIndex := 14, attributes := #[] }, { accessFlags := 18, nameIndex := 63, descriptorIndex := 14, attributes := #[] }, { accessFlags := 18, nameIndex := 72, descriptorIndex := 67, attributes := #[] }, { accessFlags := 18, nameIndex := 75, descriptorIndex := 67, attributes := #[] }, { accessFlags := 18, nameIndex := 78, descriptorIndex := 67, attributes := #[] }, { accessFlags := 18, nameIndex := 81, descriptorIndex := 82, attributes := #[] }, { accessFlags := 18, nameIndex := 85, descriptorIndex := 67, attributes := #[] }, { accessFlags := 18, nameIndex := 92, descriptorIndex := 93, attributes := #[] }, { accessFlags := 18, nameIndex := 96, descriptorIndex := 93, attributes := #[] }])
  fields := #[{ name := "nodes", type := .int, accessFlags := 18, slot := 0, constantValue := 0 }, { name := "depot", type := .int, accessFlags := 18, slot := 1, constantValue := 0 }, { name := "capacities", type := (.array .int), accessFlags := 18, slot := 2, constantValue := 0 }, { name := "deliveries", type := (.array .int), accessFlags := 18, slot := 3, constantValue := 0 }, { name := "pickups", type := (.array .int), accessFlags := 18, slot := 4, constantValue := 0 }, { name := "costs", type := (.object "com/example/kiriman/kiriman/route/Costs"), accessFlags := 18, slot := 5, constantValue := 0 }, { name := "service", type := (.array .int), accessFlags := 18, slot := 6, constantValue := 0 }, { name := "longest", type := .long, accessFlags := 18, slot := 7, constantValue := 0 }, { name := "latest", type := .long, accessFlags := 18, slot := 8, constantValue := 0 }]
  methods := #[k3m0, k3m1, k3m2, k3m3, k3m4, k3m5, k3m6]
  instanceTypes := #[.int, .int, (.array .int), (.array .int), (.array .int), (.object "com/example/kiriman/kiriman/route/Costs"), (.array .int), .long, .long]
  staticTypes := #[]
  resolved := Array.replicate 193 none
  statics := none }

def pool4 : Array CpInfo := pool [(1, .class_ 2), (0, u "java/lang/Math"), (1, .class_ 6), (1, u "java/lang/Object"), (0, u "<init>"), (0, u "()V"), (89, .class_ 100), (1, u "java/lang/Math$RandomNumberGeneratorHolder"), (71, u "negativeZeroFloatBits"), (0, u "J"), (2, u "negativeZeroDoubleBits"), (21, u "max"), (2, u "min"), (43, u "$assertionsDisabled"), (0, u "Z"), (88, u "(II)I"), (2, u "twoToTheDoubleScaleDown"), (0, u "D"), (4, u "twoToTheDoubleScaleUp"), (9, u "E"), (3, u "PI"), (2, u "TAU"), (2, u "DEGREES_TO_RADIANS"), (0, u "RADIANS_TO_DEGREES")] 94

def k4m0 : Method := { name := "<init>", desc := "()V", sig := { parameters := [], returnType := none }, accessFlags := 2, code := none }
def k4c1 : Code := { maxStack := 2, maxLocals := 2, code := jdk_29_method_65_code, exceptionTable := #[], attributes := #[] }
def k4m1 : Method := { name := "max", desc := "(II)I", sig := { parameters := [.int, .int], returnType := some .int }, accessFlags := 9, code := some k4c1 }
def k4c2 : Code := { maxStack := 2, maxLocals := 2, code := jdk_29_method_69_code, exceptionTable := #[], attributes := #[] }
def k4m2 : Method := { name := "min", desc := "(II)I", sig := { parameters := [.int, .int], returnType := some .int }, accessFlags := 9, code := some k4c2 }
/-- java/lang/Math -/
def k4 : Class := { plain "java/lang/Math" (some 0) with
  accessFlags := 49
  interfaces := #[]
  cf := some (fileOf pool4 1 #[.nestMembers #[98]] #[{ accessFlags := 2, nameIndex := 7, descriptorIndex := 8, attributes := #[] }, { accessFlags := 9, nameIndex := 198, descriptorIndex := 335, attributes := #[] }, { accessFlags := 9, nameIndex := 201, descriptorIndex := 335, attributes := #[] }] 49 4 #[] #[{ accessFlags := 25, nameIndex := 354, descriptorIndex := 339, attributes := #[] }, { accessFlags := 25, nameIndex := 358, descriptorIndex := 339, attributes := #[] }, { accessFlags := 25, nameIndex := 361, descriptorIndex := 339, attributes := #[] }, { accessFlags := 26, nameIndex := 364, descriptorIndex := 339, attributes := #[] }, { accessFlags := 26, nameIndex := 365, descriptorIndex := 339, attributes := #[] }, { accessFlags := 26, nameIndex := 172, descriptorIndex := 173, attributes := #[] }, { accessFlags := 26, nameIndex := 176, descriptorIndex := 173, attributes := #[] }, { accessFlags := 8, nameIndex := 344, descriptorIndex := 339, attributes := #[] }, { accessFlags := 8, nameIndex := 338, descriptorIndex := 339, attributes := #[] }, { accessFlags := 4120, nameIndex := 245, descriptorIndex := 246, attributes := #[] }])
  fields := #[{ name := "E", type := .double, accessFlags := 25, slot := 0, constantValue := 0 }, { name := "PI", type := .double, accessFlags := 25, slot := 1, constantValue := 0 }, { name := "TAU", type := .double, accessFlags := 25, slot := 2, constantValue := 0 }, { name := "DEGREES_TO_RADIANS", type := .double, accessFlags := 26, slot := 3, constantValue := 0 }, { name := "RADIANS_TO_DEGREES", type := .double, accessFlags := 26, slot := 4, constantValue := 0 }, { name := "negativeZeroFloatBits", type := .long, accessFlags := 26, slot := 5, constantValue := 0 }, { name := "negativeZeroDoubleBits", type := .long, accessFlags := 26, slot := 6, constantValue := 0 }, { name := "twoToTheDoubleScaleUp", type := .double, accessFlags := 8, slot := 7, constantValue := 0 }, { name := "twoToTheDoubleScaleDown", type := .double, accessFlags := 8, slot := 8, constantValue := 0 }, { name := "$assertionsDisabled", type := .boolean, accessFlags := 4120, slot := 9, constantValue := 0 }]
  methods := #[k4m0, k4m1, k4m2]
  instanceTypes := #[]
  staticTypes := #[.double, .double, .double, .double, .double, .long, .long, .double, .double, .boolean]
  resolved := Array.replicate 460 none
  statics := none }

def pool5 : Array CpInfo := pool [(2, .class_ 4), (1, u "java/lang/Object"), (0, u "<init>"), (0, u "()V"), (7, .class_ 16), (1, u "java/util/Arrays"), (57, .class_ 76), (1, u "java/util/Arrays$NaturalOrder"), (36, .class_ 115), (1, u "java/util/Arrays$LegacyMergeSort"), (1, u "Z"), (257, .class_ 376), (0, u "java/util/Arrays$ArrayList"), (68, u "$assertionsDisabled"), (269, u "MIN_ARRAY_SORT_GRAN"), (0, u "I"), (2, u "INSERTIONSORT_THRESHOLD"), (120, u "fill"), (4, u "([II)V"), (129, .class_ 976), (0, u "java/util/Arrays$ArrayItr")] 52

def k5m0 : Method := { name := "<init>", desc := "()V", sig := { parameters := [], returnType := none }, accessFlags := 2, code := none }
def k5c1 : Code := { maxStack := 3, maxLocals := 4, code := jdk_65_method_103_code, exceptionTable := #[], attributes := #[] }
def k5m1 : Method := { name := "fill", desc := "([II)V", sig := { parameters := [(.array .int), .int], returnType := none }, accessFlags := 9, code := some k5c1 }
/-- java/util/Arrays -/
def k5 : Class := { plain "java/util/Arrays" (some 0) with
  accessFlags := 49
  interfaces := #[]
  cf := some (fileOf pool5 14 #[.nestMembers #[975, 375, 113, 74]] #[{ accessFlags := 2, nameIndex := 5, descriptorIndex := 6, attributes := #[] }, { accessFlags := 9, nameIndex := 840, descriptorIndex := 845, attributes := #[] }] 49 2 #[] #[{ accessFlags := 26, nameIndex := 715, descriptorIndex := 716, attributes := #[] }, { accessFlags := 26, nameIndex := 719, descriptorIndex := 716, attributes := #[] }, { accessFlags := 4120, nameIndex := 445, descriptorIndex := 117, attributes := #[] }])
  fields := #[{ name := "MIN_ARRAY_SORT_GRAN", type := .int, accessFlags := 26, slot := 0, constantValue := 0 }, { name := "INSERTIONSORT_THRESHOLD", type := .int, accessFlags := 26, slot := 1, constantValue := 0 }, { name := "$assertionsDisabled", type := .boolean, accessFlags := 4120, slot := 2, constantValue := 0 }]
  methods := #[k5m0, k5m1]
  instanceTypes := #[]
  staticTypes := #[.int, .int, .boolean]
  resolved := Array.replicate 1029 none
  statics := none }

def pool6 : Array CpInfo := pool [(1, .class_ 2), (0, u "com/example/kiriman/kiriman/route/Costs"), (0, .class_ 4), (0, u "java/lang/Object"), (0, u "nodes"), (0, u "()I"), (0, u "cost"), (0, u "(II)I")] 4

def k6m0 : Method := { name := "nodes", desc := "()I", sig := { parameters := [], returnType := some .int }, accessFlags := 1025, code := none }
def k6m1 : Method := { name := "cost", desc := "(II)I", sig := { parameters := [.int, .int], returnType := some .int }, accessFlags := 1025, code := none }
/-- com/example/kiriman/kiriman/route/Costs -/
def k6 : Class := { plain "com/example/kiriman/kiriman/route/Costs" (some 0) with
  accessFlags := 1537
  interfaces := #[]
  cf := some (fileOf pool6 1 #[] #[{ accessFlags := 1025, nameIndex := 5, descriptorIndex := 6, attributes := #[] }, { accessFlags := 1025, nameIndex := 7, descriptorIndex := 8, attributes := #[] }] 1537 3 #[] #[])
  fields := #[]
  methods := #[k6m0, k6m1]
  instanceTypes := #[]
  staticTypes := #[]
  resolved := Array.replicate 13 none
  statics := none }

def pool7 : Array CpInfo := pool [(1, .methodref 2 3), (0, .class_ 4), (0, .nameAndType 5 6), (0, u "java/lang/Object"), (0, u "<init>"), (0, u "()V"), (0, .fieldref 8 9), (0, .class_ 10), (0, .nameAndType 11 12), (0, u "com/example/kiriman/kiriman/route/CostMatrix"), (0, u "nodes"), (0, u "I"), (0, .fieldref 8 14), (0, .nameAndType 15 16), (0, u "costs"), (0, u "[I"), (5, u "(II)I"), (2, u "cost"), (9, .class_ 36), (0, u "com/example/kiriman/kiriman/route/Costs"), (0, u "(I[I)V"), (2, u "()I")] 8

def k7c0 : Code := { maxStack := 2, maxLocals := 3, code := prog_23_method_1_code, exceptionTable := #[], attributes := #[] }
def k7m0 : Method := { name := "<init>", desc := "(I[I)V", sig := { parameters := [.int, (.array .int)], returnType := none }, accessFlags := 0, code := some k7c0 }
def k7c1 : Code := { maxStack := 1, maxLocals := 1, code := prog_23_method_2_code, exceptionTable := #[], attributes := #[] }
def k7m1 : Method := { name := "nodes", desc := "()I", sig := { parameters := [], returnType := some .int }, accessFlags := 1, code := some k7c1 }
def k7c2 : Code := { maxStack := 3, maxLocals := 3, code := prog_23_method_3_code, exceptionTable := #[], attributes := #[] }
def k7m2 : Method := { name := "cost", desc := "(II)I", sig := { parameters := [.int, .int], returnType := some .int }, accessFlags := 1, code := some k7c2 }
/-- com/example/kiriman/kiriman/route/CostMatrix -/
def k7 : Class := { plain "com/example/kiriman/kiriman/route/CostMatrix" (some 0) with
  accessFlags := 32
  interfaces := #[6]
  cf := some (fileOf pool7 8 #[] #[{ accessFlags := 0, nameIndex := 5, descriptorIndex := 37, attributes := #[] }, { accessFlags := 1, nameIndex := 11, descriptorIndex := 40, attributes := #[] }, { accessFlags := 1, nameIndex := 25, descriptorIndex := 22, attributes := #[] }] 32 2 #[35] #[{ accessFlags := 18, nameIndex := 11, descriptorIndex := 12, attributes := #[] }, { accessFlags := 18, nameIndex := 15, descriptorIndex := 16, attributes := #[] }])
  fields := #[{ name := "nodes", type := .int, accessFlags := 18, slot := 0, constantValue := 0 }, { name := "costs", type := (.array .int), accessFlags := 18, slot := 1, constantValue := 0 }]
  methods := #[k7m0, k7m1, k7m2]
  instanceTypes := #[.int, (.array .int)]
  staticTypes := #[]
  resolved := Array.replicate 49 none
  statics := none }

def pool8 : Array CpInfo := pool [(1, .class_ 2), (0, u "java/lang/Cloneable"), (0, .class_ 4), (0, u "java/lang/Object")] 2

/-- java/lang/Cloneable -/
def k8 : Class := { plain "java/lang/Cloneable" (some 0) with
  accessFlags := 1537
  interfaces := #[]
  cf := some (fileOf pool8 1 #[] #[] 1537 3 #[] #[])
  fields := #[]
  methods := #[]
  instanceTypes := #[]
  staticTypes := #[]
  resolved := Array.replicate 7 none
  statics := none }

def pool9 : Array CpInfo := pool [(2, .class_ 4), (1, u "java/lang/Object"), (0, u "<init>"), (0, u "()V"), (1, .class_ 10), (1, u "java/lang/System"), (0, u "allowSecurityManager"), (0, u "I"), (16, u "cons"), (0, u "Ljava/io/Console;"), (77, .class_ 110), (1, u "java/lang/System$CallersHolder"), (43, u "initialErrStream"), (0, u "Ljava/io/PrintStream;"), (19, u "security"), (0, u "Ljava/lang/SecurityManager;"), (31, .class_ 209), (0, u "java/lang/System$1"), (7, u "props"), (0, u "Ljava/util/Properties;"), (2, u "lineSeparator"), (0, u "Ljava/lang/String;"), (96, .class_ 321), (1, u "java/lang/System$LoggerFinder"), (5, .class_ 328), (0, u "java/lang/System$Logger"), (67, u "err"), (2, u "out"), (91, u "notSupportedJnuEncoding"), (15, u "in"), (17, u "initialIn"), (0, u "Ljava/io/InputStream;"), (35, u "bootLayer"), (0, u "Ljava/lang/ModuleLayer;"), (99, .class_ 664), (0, u "java/lang/System$2"), (9, u "NEVER"), (2, u "MAYBE"), (49, u "arraycopy"), (0, u "(Ljava/lang/Object;ILjava/lang/Object;II)V"), (72, .class_ 802), (0, u "java/lang/System$Logger$Level")] 31

def k9m0 : Method := { name := "<init>", desc := "()V", sig := { parameters := [], returnType := none }, accessFlags := 2, code := none }
def k9m1 : Method := { name := "arraycopy", desc := "(Ljava/lang/Object;ILjava/lang/Object;II)V", sig := { parameters := [(.object "java/lang/Object"), .int, (.object "java/lang/Object"), .int, .int], returnType := none }, accessFlags := 265, code := none }
/-- java/lang/System -/
def k9 : Class := { plain "java/lang/System" (some 0) with
  accessFlags := 49
  interfaces := #[]
  cf := some (fileOf pool9 8 #[.nestMembers #[319, 327, 801, 108, 663, 208]] #[{ accessFlags := 2, nameIndex := 5, descriptorIndex := 6, attributes := #[] }, { accessFlags := 265, nameIndex := 727, descriptorIndex := 728, attributes := #[] }] 49 2 #[] #[{ accessFlags := 25, nameIndex := 507, descriptorIndex := 526, attributes := #[] }, { accessFlags := 25, nameIndex := 399, descriptorIndex := 155, attributes := #[] }, { accessFlags := 25, nameIndex := 396, descriptorIndex := 155, attributes := #[] }, { accessFlags := 10, nameIndex := 525, descriptorIndex := 526, attributes := #[] }, { accessFlags := 26, nameIndex := 674, descriptorIndex := 12, attributes := #[] }, { accessFlags := 26, nameIndex := 677, descriptorIndex := 12, attributes := #[] }, { accessFlags := 10, nameIndex := 11, descriptorIndex := 12, attributes := #[] }, { accessFlags := 74, nameIndex := 175, descriptorIndex := 176, attributes := #[] }, { accessFlags := 10, nameIndex := 491, descriptorIndex := 222, attributes := #[] }, { accessFlags := 74, nameIndex := 29, descriptorIndex := 30, attributes := #[] }, { accessFlags := 74, nameIndex := 154, descriptorIndex := 155, attributes := #[] }, { accessFlags := 10, nameIndex := 217, descriptorIndex := 218, attributes := #[] }, { accessFlags := 10, nameIndex := 221, descriptorIndex := 222, attributes := #[] }, { accessFlags := 8, nameIndex := 562, descriptorIndex := 563, attributes := #[] }])
  fields := #[{ name := "in", type := (.object "java/io/InputStream"), accessFlags := 25, slot := 0, constantValue := 0 }, { name := "out", type := (.object "java/io/PrintStream"), accessFlags := 25, slot := 1, constantValue := 0 }, { name := "err", type := (.object "java/io/PrintStream"), accessFlags := 25, slot := 2, constantValue := 0 }, { name := "initialIn", type := (.object "java/io/InputStream"), accessFlags := 10, slot := 3, constantValue := 0 }, { name := "NEVER", type := .int, accessFlags := 26, slot := 4, constantValue := 0 }, { name := "MAYBE", type := .int, accessFlags := 26, slot := 5, constantValue := 0 }, { name := "allowSecurityManager", type := .int, accessFlags := 10, slot := 6, constantValue := 0 }, { name := "security", type := (.object "java/lang/SecurityManager"), accessFlags := 74, slot := 7, constantValue := 0 }, { name := "notSupportedJnuEncoding", type := (.object "java/lang/String"), accessFlags := 10, slot := 8, constantValue := 0 }, { name := "cons", type := (.object "java/io/Console"), accessFlags := 74, slot := 9, constantValue := 0 }, { name := "initialErrStream", type := (.object "java/io/PrintStream"), accessFlags := 74, slot := 10, constantValue := 0 }, { name := "props", type := (.object "java/util/Properties"), accessFlags := 10, slot := 11, constantValue := 0 }, { name := "lineSeparator", type := (.object "java/lang/String"), accessFlags := 10, slot := 12, constantValue := 0 }, { name := "bootLayer", type := (.object "java/lang/ModuleLayer"), accessFlags := 8, slot := 13, constantValue := 0 }]
  methods := #[k9m0, k9m1]
  instanceTypes := #[]
  staticTypes := #[(.object "java/io/InputStream"), (.object "java/io/PrintStream"), (.object "java/io/PrintStream"), (.object "java/io/InputStream"), .int, .int, .int, (.object "java/lang/SecurityManager"), (.object "java/lang/String"), (.object "java/io/Console"), (.object "java/io/PrintStream"), (.object "java/util/Properties"), (.object "java/lang/String"), (.object "java/lang/ModuleLayer")]
  resolved := Array.replicate 834 none
  statics := none }

def pool10 : Array CpInfo := pool [(1, .methodref 2 3), (0, .class_ 4), (0, .nameAndType 5 6), (0, u "java/lang/Object"), (0, u "<init>"), (0, u "()V"), (0, .fieldref 8 9), (0, .class_ 10), (0, .nameAndType 11 12), (0, u "com/example/kiriman/kiriman/route/Positions"), (0, u "movedCustomers"), (0, u "[I"), (0, .class_ 14), (0, u "com/example/kiriman/kiriman/route/Route"), (0, .fieldref 8 16), (0, .nameAndType 17 18), (0, u "keptRoutes"), (0, u "[Lcom/example/kiriman/kiriman/route/Route;"), (0, .fieldref 8 20), (0, .nameAndType 21 12), (0, u "keptIndexes"), (0, .fieldref 8 23), (0, .nameAndType 24 18), (0, u "routes"), (0, .fieldref 8 26), (0, .nameAndType 27 12), (0, u "indexes"), (0, .fieldref 8 29), (0, .nameAndType 30 31), (0, u "moved"), (0, u "[Z"), (0, .methodref 13 33), (0, .nameAndType 34 35), (0, u "size"), (0, u "()I"), (0, .methodref 13 37), (0, .nameAndType 38 39), (0, u "visit"), (0, u "(I)I"), (0, .methodref 8 41), (0, .nameAndType 42 43), (0, u "move"), (0, u "(ILcom/example/kiriman/kiriman/route/Route;I)V"), (0, .fieldref 8 45), (0, .nameAndType 46 47), (0, u "movedCount"), (0, u "I"), (0, .methodref 8 49), (0, .nameAndType 50 6), (0, u "keep"), (10, u "(I)V"), (2, u "route"), (0, u "(I)Lcom/example/kiriman/kiriman/route/Route;"), (0, u "index"), (0, u "update"), (0, u "(Lcom/example/kiriman/kiriman/route/Route;I)V"), (1, u "remove"), (0, u "undo")] 2

def k10c0 : Code := { maxStack := 2, maxLocals := 2, code := prog_27_method_1_code, exceptionTable := #[], attributes := #[] }
def k10m0 : Method := { name := "<init>", desc := "(I)V", sig := { parameters := [.int], returnType := none }, accessFlags := 0, code := some k10c0 }
def k10c1 : Code := { maxStack := 2, maxLocals := 2, code := prog_27_method_2_code, exceptionTable := #[], attributes := #[] }
def k10m1 : Method := { name := "route", desc := "(I)Lcom/example/kiriman/kiriman/route/Route;", sig := { parameters := [.int], returnType := some (.object "com/example/kiriman/kiriman/route/Route") }, accessFlags := 0, code := some k10c1 }
def k10c2 : Code := { maxStack := 2, maxLocals := 2, code := prog_27_method_3_code, exceptionTable := #[], attributes := #[] }
def k10m2 : Method := { name := "index", desc := "(I)I", sig := { parameters := [.int], returnType := some .int }, accessFlags := 0, code := some k10c2 }
def k10c3 : Code := { maxStack := 4, maxLocals := 4, code := prog_27_method_4_code, exceptionTable := #[], attributes := #[] }
def k10m3 : Method := { name := "update", desc := "(Lcom/example/kiriman/kiriman/route/Route;I)V", sig := { parameters := [(.object "com/example/kiriman/kiriman/route/Route"), .int], returnType := none }, accessFlags := 0, code := some k10c3 }
def k10c4 : Code := { maxStack := 4, maxLocals := 2, code := prog_27_method_5_code, exceptionTable := #[], attributes := #[] }
def k10m4 : Method := { name := "remove", desc := "(I)V", sig := { parameters := [.int], returnType := none }, accessFlags := 0, code := some k10c4 }
def k10c5 : Code := { maxStack := 3, maxLocals := 2, code := prog_27_method_6_code, exceptionTable := #[], attributes := #[] }
def k10m5 : Method := { name := "keep", desc := "()V", sig := { parameters := [], returnType := none }, accessFlags := 0, code := some k10c5 }
def k10c6 : Code := { maxStack := 4, maxLocals := 2, code := prog_27_method_7_code, exceptionTable := #[], attributes := #[] }
def k10m6 : Method := { name := "undo", desc := "()V", sig := { parameters := [], returnType := none }, accessFlags := 0, code := some k10c6 }
def k10c7 : Code := { maxStack := 4, maxLocals := 4, code := prog_27_method_8_code, exceptionTable := #[], attributes := #[] }
def k10m7 : Method := { name := "move", desc := "(ILcom/example/kiriman/kiriman/route/Route;I)V", sig := { parameters := [.int, (.object "com/example/kiriman/kiriman/route/Route"), .int], returnType := none }, accessFlags := 2, code := some k10c7 }
/-- com/example/kiriman/kiriman/route/Positions -/
def k10 : Class := { plain "com/example/kiriman/kiriman/route/Positions" (some 0) with
  accessFlags := 32
  interfaces := #[]
  cf := some (fileOf pool10 8 #[] #[{ accessFlags := 0, nameIndex := 5, descriptorIndex := 61, attributes := #[] }, { accessFlags := 0, nameIndex := 64, descriptorIndex := 65, attributes := #[] }, { accessFlags := 0, nameIndex := 66, descriptorIndex := 39, attributes := #[] }, { accessFlags := 0, nameIndex := 67, descriptorIndex := 68, attributes := #[] }, { accessFlags := 0, nameIndex := 70, descriptorIndex := 61, attributes := #[] }, { accessFlags := 0, nameIndex := 50, descriptorIndex := 6, attributes := #[] }, { accessFlags := 0, nameIndex := 71, descriptorIndex := 6, attributes := #[] }, { accessFlags := 2, nameIndex := 42, descriptorIndex := 43, attributes := #[] }] 32 2 #[] #[{ accessFlags := 18, nameIndex := 24, descriptorIndex := 18, attributes := #[] }, { accessFlags := 18, nameIndex := 27, descriptorIndex := 12, attributes := #[] }, { accessFlags := 18, nameIndex := 30, descriptorIndex := 31, attributes := #[] }, { accessFlags := 2, nameIndex := 11, descriptorIndex := 12, attributes := #[] }, { accessFlags := 2, nameIndex := 17, descriptorIndex := 18, attributes := #[] }, { accessFlags := 2, nameIndex := 21, descriptorIndex := 12, attributes := #[] }, { accessFlags := 2, nameIndex := 46, descriptorIndex := 47, attributes := #[] }])
  fields := #[{ name := "routes", type := (.array (.object "com/example/kiriman/kiriman/route/Route")), accessFlags := 18, slot := 0, constantValue := 0 }, { name := "indexes", type := (.array .int), accessFlags := 18, slot := 1, constantValue := 0 }, { name := "moved", type := (.array .boolean), accessFlags := 18, slot := 2, constantValue := 0 }, { name := "movedCustomers", type := (.array .int), accessFlags := 2, slot := 3, constantValue := 0 }, { name := "keptRoutes", type := (.array (.object "com/example/kiriman/kiriman/route/Route")), accessFlags := 2, slot := 4, constantValue := 0 }, { name := "keptIndexes", type := (.array .int), accessFlags := 2, slot := 5, constantValue := 0 }, { name := "movedCount", type := .int, accessFlags := 2, slot := 6, constantValue := 0 }]
  methods := #[k10m0, k10m1, k10m2, k10m3, k10m4, k10m5, k10m6, k10m7]
  instanceTypes := #[(.array (.object "com/example/kiriman/kiriman/route/Route")), (.array .int), (.array .boolean), (.array .int), (.array (.object "com/example/kiriman/kiriman/route/Route")), (.array .int), .int]
  staticTypes := #[]
  resolved := Array.replicate 74 none
  statics := none }

def pool11 : Array CpInfo := pool [(1, u "java/io/Serializable"), (0, .class_ 1), (0, u "java/lang/Object"), (0, .class_ 3)] 3

/-- java/io/Serializable -/
def k11 : Class := { plain "java/io/Serializable" (some 0) with
  accessFlags := 1537
  interfaces := #[]
  cf := some (fileOf pool11 2 #[] #[] 1537 4 #[] #[])
  fields := #[]
  methods := #[]
  instanceTypes := #[]
  staticTypes := #[]
  resolved := Array.replicate 8 none
  statics := none }

/-- the primitive boolean -/
def k12 : Class := { plain "boolean" none with kind := .primitive 'Z', accessFlags := 0x411 }
/-- [Z -/
def k13 : Class := { plain "[Z" (some 0) with kind := .array 12 .boolean, interfaces := #[8, 11], accessFlags := 1041 }

/-- the primitive byte -/
def k14 : Class := { plain "byte" none with kind := .primitive 'B', accessFlags := 0x411 }
/-- [B -/
def k15 : Class := { plain "[B" (some 0) with kind := .array 14 .byte, interfaces := #[8, 11], accessFlags := 1041 }

/-- the primitive int -/
def k16 : Class := { plain "int" none with kind := .primitive 'I', accessFlags := 0x411 }
/-- [I -/
def k17 : Class := { plain "[I" (some 0) with kind := .array 16 .int, interfaces := #[8, 11], accessFlags := 1041 }

/-- [Lcom/example/kiriman/kiriman/route/Route; -/
def k18 : Class := { plain "[Lcom/example/kiriman/kiriman/route/Route;" (some 0) with kind := .array 2 (.object "com/example/kiriman/kiriman/route/Route"), interfaces := #[8, 11], accessFlags := 1041 }

def heap : Heap := #[]
def classes : Array Class := #[k0, k1, k2, k3, k4, k5, k6, k7, k8, k9, k10, k11, k12, k13, k14, k15, k16, k17, k18]
def interned : List (Array UInt16 × Addr) := []
def slotsUsed : Nat := 0
def theMethod : MethodId := ⟨1, 1⟩
def args0 : Array Value := #[.int 5]
def aboutOver (below : List Frame) : State where
  vm := { classes := classes, interned := interned.toArray }
  heap := heap
  slotsUsed := slotsUsed
  threads := #[{ frames := .invoking theMethod args0 :: below }]
def below0 : List Frame := [.native { method := ⟨0, 0⟩, args := #[] }]
def about1 : State := aboutOver below0
def p0 : Program := .bare "" "" ""
def e0 : Env := launch0.env 0 0 0
theorem w_frames : about1.frames = Frame.invoking theMethod args0 :: below0 := rfl
set_option maxRecDepth 65536 in
theorem w_args : argsFit about1.vm theMethod args0 = true := by decide +kernel
set_option maxRecDepth 65536 in
theorem w_heap : heapFits about1 = true := by decide +kernel
set_option maxRecDepth 65536 in
theorem w_runnable : about1.curStatus? = some .runnable := by decide +kernel
set_option maxRecDepth 65536 in
theorem w_alone : about1.alone = true := by decide +kernel
set_option maxRecDepth 65536 in
theorem w_named : about1.methodNamed? x = some theMethod := by decide +kernel
set_option maxRecDepth 65536 in
theorem w_hears : about1.hears theMethod below0 = true := by decide +kernel
set_option maxRecDepth 65536 in
theorem w_ripe : about1.ripe theMethod args0 below0 = true := by decide +kernel
theorem w_running : about1.status = .running := rfl
set_option maxRecDepth 65536 in
theorem w_room : about1.hasRoom e0.platform room_1 = true :=
  launch0.hasRoom_least _ room_1 (by decide +kernel) (by decide +kernel) (by decide +kernel) (by decide +kernel) (by decide +kernel) (by decide +kernel)
theorem allAtoms_all (ts : List Jvm.Cond) (a : Array Jvm.Value) (st : Jvm.State) : (allAtoms ts).before a st = ts.all (fun c => c.before a st) := by
  induction ts with
  | nil => rfl
  | cons c t ih =>
    show (Jvm.Cond.and c (allAtoms t)).before a st = _
    rw [Jvm.Cond.before_and, ih, List.all_cons]
def words1 : List Jvm.Cond := Jvm.Cond.code x code maxLocals ret :: tables_1
/-- a 'code' word, met by the world's own term for the bytes: nothing is compared byte by byte -/
theorem code_word {y : MethodName} {bytes : ByteArray} {mx : Nat} {rt : Option FieldType} {a : Array Value} {s : State} {m : MethodId} {meth : Method} {c : Code} (h1 : s.methodNamed? y = some m) (h2 : s.vm.method? m = some meth) (h3 : meth.code = some c) (h4 : c.code = bytes)
    (h5 : (c.maxLocals == mx && c.exceptionTable.isEmpty && decide (c.maxStack ≤ mostOperands) && decide (meth.sig.returnType = rt) && !meth.locks && decide (parseMethodDescriptor y.desc = some meth.sig)) = true) : (Jvm.Cond.code y bytes mx rt).before a s = true := by
  simp only [Bool.and_eq_true, beq_iff_eq, Bool.not_eq_true', decide_eq_true_eq] at h5
  obtain ⟨⟨⟨⟨⟨g1, g2⟩, g3⟩, g4⟩, g5⟩, g6⟩ := h5
  simp [Cond.before, Cond.holds, Cond.value, h1, h2, h3, h4, g1, g2, g3, g4, g5, g6]
def isCode : Jvm.Cond → Bool
  | .code _ _ _ _ => true
  | _ => false
theorem all_split {L : List Jvm.Cond} {P : Jvm.Cond → Bool} (h1 : L.all (fun c => isCode c || P c) = true) (h2 : ∀ c ∈ L.filter isCode, P c = true) : L.all P = true := by
  refine List.all_eq_true.mpr fun c hc => ?_
  have h := List.all_eq_true.mp h1 c hc
  rcases Bool.eq_false_or_eq_true (isCode c) with hi | hi
  · exact h2 c (List.mem_filter.mpr ⟨hc, hi⟩)
  · simpa [hi] using h
set_option maxRecDepth 65536 in
theorem w_c0 : (Jvm.Cond.code x code maxLocals ret).before args0 about1 = true := code_word (m := ⟨1, 1⟩) (meth := k1m1) (c := k1c1) (by decide +kernel) rfl rfl rfl (by decide +kernel)
set_option maxRecDepth 65536 in
theorem w_c1 : (Jvm.Cond.code ({ cls := "com/example/kiriman/kiriman/route/Problem", name := "<init>", desc := "(II[I[I[I)V" } : Jvm.MethodName) prog_29_method_1_code (7 : Nat) (Option.none : Option Jvm.ClassFile.FieldType)).before args0 about1 = true := code_word (m := ⟨3, 0⟩) (meth := k3m0) (c := k3c0) (by decide +kernel) rfl rfl rfl (by decide +kernel)
set_option maxRecDepth 65536 in
theorem w_c2 : (Jvm.Cond.code ({ cls := "com/example/kiriman/kiriman/route/Problem", name := "oneForEachCustomer", desc := "(II)[I" } : Jvm.MethodName) prog_29_method_6_code (3 : Nat) (Option.some (Jvm.ClassFile.FieldType.array Jvm.ClassFile.FieldType.int))).before args0 about1 = true := code_word (m := ⟨3, 4⟩) (meth := k3m4) (c := k3c4) (by decide +kernel) rfl rfl rfl (by decide +kernel)
set_option maxRecDepth 65536 in
theorem w_c3 : (Jvm.Cond.code ({ cls := "java/lang/Math", name := "max", desc := "(II)I" } : Jvm.MethodName) jdk_29_method_65_code (2 : Nat) (Option.some Jvm.ClassFile.FieldType.int)).before args0 about1 = true := code_word (m := ⟨4, 1⟩) (meth := k4m1) (c := k4c1) (by decide +kernel) rfl rfl rfl (by decide +kernel)
set_option maxRecDepth 65536 in
theorem w_c4 : (Jvm.Cond.code ({ cls := "java/util/Arrays", name := "fill", desc := "([II)V" } : Jvm.MethodName) jdk_65_method_103_code (4 : Nat) (Option.none : Option Jvm.ClassFile.FieldType)).before args0 about1 = true := code_word (m := ⟨5, 1⟩) (meth := k5m1) (c := k5c1) (by decide +kernel) rfl rfl rfl (by decide +kernel)
set_option maxRecDepth 65536 in
theorem w_c5 : (Jvm.Cond.code ({ cls := "com/example/kiriman/kiriman/route/Problem", name := "<init>", desc := "(I[I[I[I[I)V" } : Jvm.MethodName) prog_29_method_2_code (10 : Nat) (Option.none : Option Jvm.ClassFile.FieldType)).before args0 about1 = true := code_word (m := ⟨3, 1⟩) (meth := k3m1) (c := k3c1) (by decide +kernel) rfl rfl rfl (by decide +kernel)
set_option maxRecDepth 65536 in
theorem w_c6 : (Jvm.Cond.code ({ cls := "com/example/kiriman/kiriman/route/Problem", name := "matrix", desc := "([I[I[I)Lcom/example/kiriman/kiriman/route/Costs;" } : Jvm.MethodName) prog_29_method_5_code (5 : Nat) (Option.some (Jvm.ClassFile.FieldType.object "com/example/kiriman/kiriman/route/Costs"))).before args0 about1 = true := code_word (m := ⟨3, 3⟩) (meth := k3m3) (c := k3c3) (by decide +kernel) rfl rfl rfl (by decide +kernel)
set_option maxRecDepth 65536 in
theorem w_c7 : (Jvm.Cond.code ({ cls := "com/example/kiriman/kiriman/route/CostMatrix", name := "<init>", desc := "(I[I)V" } : Jvm.MethodName) prog_23_method_1_code (3 : Nat) (Option.none : Option Jvm.ClassFile.FieldType)).before args0 about1 = true := code_word (m := ⟨7, 0⟩) (meth := k7m0) (c := k7c0) (by decide +kernel) rfl rfl rfl (by decide +kernel)
set_option maxRecDepth 65536 in
theorem w_c8 : (Jvm.Cond.code ({ cls := "java/lang/Object", name := "<init>", desc := "()V" } : Jvm.MethodName) object_method_1_code (1 : Nat) (Option.none : Option Jvm.ClassFile.FieldType)).before args0 about1 = true := code_word (m := ⟨0, 0⟩) (meth := k0m0) (c := k0c0) (by decide +kernel) rfl rfl rfl (by decide +kernel)
set_option maxRecDepth 65536 in
theorem w_c9 : (Jvm.Cond.code ({ cls := "com/example/kiriman/kiriman/route/Problem", name := "<init>", desc := "(I[I[I[ILcom/example/kiriman/kiriman/route/Costs;)V" } : Jvm.MethodName) prog_29_method_3_code (11 : Nat) (Option.none : Option Jvm.ClassFile.FieldType)).before args0 about1 = true := code_word (m := ⟨3, 2⟩) (meth := k3m2) (c := k3c2) (by decide +kernel) rfl rfl rfl (by decide +kernel)
set_option maxRecDepth 65536 in
theorem w_c10 : (Jvm.Cond.code ({ cls := "com/example/kiriman/kiriman/route/CostMatrix", name := "nodes", desc := "()I" } : Jvm.MethodName) prog_23_method_2_code (1 : Nat) (Option.some Jvm.ClassFile.FieldType.int)).before args0 about1 = true := code_word (m := ⟨7, 1⟩) (meth := k7m1) (c := k7c1) (by decide +kernel) rfl rfl rfl (by decide +kernel)
set_option maxRecDepth 65536 in
theorem w_c11 : (Jvm.Cond.code ({ cls := "java/lang/Math", name := "min", desc := "(II)I" } : Jvm.MethodName) jdk_29_method_69_code (2 : Nat) (Option.some Jvm.ClassFile.FieldType.int)).before args0 about1 = true := code_word (m := ⟨4, 2⟩) (meth := k4m2) (c := k4c2) (by decide +kernel) rfl rfl rfl (by decide +kernel)
set_option maxRecDepth 65536 in
theorem w_c12 : (Jvm.Cond.code ({ cls := "com/example/kiriman/kiriman/route/Route", name := "<init>", desc := "(Lcom/example/kiriman/kiriman/route/Problem;I)V" } : Jvm.MethodName) prog_30_method_1_code (3 : Nat) (Option.none : Option Jvm.ClassFile.FieldType)).before args0 about1 = true := code_word (m := ⟨2, 0⟩) (meth := k2m0) (c := k2c0) (by decide +kernel) rfl rfl rfl (by decide +kernel)
set_option maxRecDepth 65536 in
theorem w_c13 : (Jvm.Cond.code ({ cls := "com/example/kiriman/kiriman/route/Problem", name := "depot", desc := "()I" } : Jvm.MethodName) prog_29_method_9_code (1 : Nat) (Option.some Jvm.ClassFile.FieldType.int)).before args0 about1 = true := code_word (m := ⟨3, 5⟩) (meth := k3m5) (c := k3c5) (by decide +kernel) rfl rfl rfl (by decide +kernel)
set_option maxRecDepth 65536 in
theorem w_c14 : (Jvm.Cond.code ({ cls := "com/example/kiriman/kiriman/route/Problem", name := "cost", desc := "(II)I" } : Jvm.MethodName) prog_29_method_14_code (3 : Nat) (Option.some Jvm.ClassFile.FieldType.int)).before args0 about1 = true := code_word (m := ⟨3, 6⟩) (meth := k3m6) (c := k3c6) (by decide +kernel) rfl rfl rfl (by decide +kernel)
set_option maxRecDepth 65536 in
theorem w_c15 : (Jvm.Cond.code ({ cls := "com/example/kiriman/kiriman/route/CostMatrix", name := "cost", desc := "(II)I" } : Jvm.MethodName) prog_23_method_3_code (3 : Nat) (Option.some Jvm.ClassFile.FieldType.int)).before args0 about1 = true := code_word (m := ⟨7, 2⟩) (meth := k7m2) (c := k7c2) (by decide +kernel) rfl rfl rfl (by decide +kernel)
set_option maxRecDepth 65536 in
theorem w_c16 : (Jvm.Cond.code ({ cls := "com/example/kiriman/kiriman/route/Route", name := "insert", desc := "(II)V" } : Jvm.MethodName) prog_30_method_7_code (5 : Nat) (Option.none : Option Jvm.ClassFile.FieldType)).before args0 about1 = true := code_word (m := ⟨2, 3⟩) (meth := k2m3) (c := k2c3) (by decide +kernel) rfl rfl rfl (by decide +kernel)
set_option maxRecDepth 65536 in
theorem w_c17 : (Jvm.Cond.code ({ cls := "com/example/kiriman/kiriman/route/Route", name := "before", desc := "(I)I" } : Jvm.MethodName) prog_30_method_11_code (2 : Nat) (Option.some Jvm.ClassFile.FieldType.int)).before args0 about1 = true := code_word (m := ⟨2, 4⟩) (meth := k2m4) (c := k2c4) (by decide +kernel) rfl rfl rfl (by decide +kernel)
set_option maxRecDepth 65536 in
theorem w_c18 : (Jvm.Cond.code ({ cls := "com/example/kiriman/kiriman/route/Route", name := "after", desc := "(I)I" } : Jvm.MethodName) prog_30_method_12_code (2 : Nat) (Option.some Jvm.ClassFile.FieldType.int)).before args0 about1 = true := code_word (m := ⟨2, 5⟩) (meth := k2m5) (c := k2c5) (by decide +kernel) rfl rfl rfl (by decide +kernel)
set_option maxRecDepth 65536 in
theorem w_c19 : (Jvm.Cond.code ({ cls := "com/example/kiriman/kiriman/route/Positions", name := "<init>", desc := "(I)V" } : Jvm.MethodName) prog_27_method_1_code (2 : Nat) (Option.none : Option Jvm.ClassFile.FieldType)).before args0 about1 = true := code_word (m := ⟨10, 0⟩) (meth := k10m0) (c := k10c0) (by decide +kernel) rfl rfl rfl (by decide +kernel)
set_option maxRecDepth 65536 in
theorem w_c20 : (Jvm.Cond.code ({ cls := "com/example/kiriman/kiriman/route/Positions", name := "update", desc := "(Lcom/example/kiriman/kiriman/route/Route;I)V" } : Jvm.MethodName) prog_27_method_4_code (4 : Nat) (Option.none : Option Jvm.ClassFile.FieldType)).before args0 about1 = true := code_word (m := ⟨10, 3⟩) (meth := k10m3) (c := k10c3) (by decide +kernel) rfl rfl rfl (by decide +kernel)
set_option maxRecDepth 65536 in
theorem w_c21 : (Jvm.Cond.code ({ cls := "com/example/kiriman/kiriman/route/Route", name := "size", desc := "()I" } : Jvm.MethodName) prog_30_method_5_code (1 : Nat) (Option.some Jvm.ClassFile.FieldType.int)).before args0 about1 = true := code_word (m := ⟨2, 1⟩) (meth := k2m1) (c := k2c1) (by decide +kernel) rfl rfl rfl (by decide +kernel)
set_option maxRecDepth 65536 in
theorem w_c22 : (Jvm.Cond.code ({ cls := "com/example/kiriman/kiriman/route/Route", name := "visit", desc := "(I)I" } : Jvm.MethodName) prog_30_method_6_code (2 : Nat) (Option.some Jvm.ClassFile.FieldType.int)).before args0 about1 = true := code_word (m := ⟨2, 2⟩) (meth := k2m2) (c := k2c2) (by decide +kernel) rfl rfl rfl (by decide +kernel)
set_option maxRecDepth 65536 in
theorem w_c23 : (Jvm.Cond.code ({ cls := "com/example/kiriman/kiriman/route/Positions", name := "move", desc := "(ILcom/example/kiriman/kiriman/route/Route;I)V" } : Jvm.MethodName) prog_27_method_8_code (4 : Nat) (Option.none : Option Jvm.ClassFile.FieldType)).before args0 about1 = true := code_word (m := ⟨10, 7⟩) (meth := k10m7) (c := k10c7) (by decide +kernel) rfl rfl rfl (by decide +kernel)
set_option maxRecDepth 65536 in
theorem w_c24 : (Jvm.Cond.code ({ cls := "com/example/kiriman/kiriman/route/Positions", name := "undo", desc := "()V" } : Jvm.MethodName) prog_27_method_7_code (2 : Nat) (Option.none : Option Jvm.ClassFile.FieldType)).before args0 about1 = true := code_word (m := ⟨10, 6⟩) (meth := k10m6) (c := k10c6) (by decide +kernel) rfl rfl rfl (by decide +kernel)
set_option maxRecDepth 65536 in
theorem w_c25 : (Jvm.Cond.code ({ cls := "com/example/kiriman/kiriman/route/Positions", name := "keep", desc := "()V" } : Jvm.MethodName) prog_27_method_6_code (2 : Nat) (Option.none : Option Jvm.ClassFile.FieldType)).before args0 about1 = true := code_word (m := ⟨10, 5⟩) (meth := k10m5) (c := k10c5) (by decide +kernel) rfl rfl rfl (by decide +kernel)
set_option maxRecDepth 65536 in
theorem w_c26 : (Jvm.Cond.code ({ cls := "com/example/kiriman/kiriman/route/Positions", name := "route", desc := "(I)Lcom/example/kiriman/kiriman/route/Route;" } : Jvm.MethodName) prog_27_method_2_code (2 : Nat) (Option.some (Jvm.ClassFile.FieldType.object "com/example/kiriman/kiriman/route/Route"))).before args0 about1 = true := code_word (m := ⟨10, 1⟩) (meth := k10m1) (c := k10c1) (by decide +kernel) rfl rfl rfl (by decide +kernel)
set_option maxRecDepth 65536 in
theorem w_c27 : (Jvm.Cond.code ({ cls := "com/example/kiriman/kiriman/route/Positions", name := "index", desc := "(I)I" } : Jvm.MethodName) prog_27_method_3_code (2 : Nat) (Option.some Jvm.ClassFile.FieldType.int)).before args0 about1 = true := code_word (m := ⟨10, 2⟩) (meth := k10m2) (c := k10c2) (by decide +kernel) rfl rfl rfl (by decide +kernel)
set_option maxRecDepth 65536 in
theorem w_c28 : (Jvm.Cond.code ({ cls := "com/example/kiriman/kiriman/route/Positions", name := "remove", desc := "(I)V" } : Jvm.MethodName) prog_27_method_5_code (2 : Nat) (Option.none : Option Jvm.ClassFile.FieldType)).before args0 about1 = true := code_word (m := ⟨10, 4⟩) (meth := k10m4) (c := k10c4) (by decide +kernel) rfl rfl rfl (by decide +kernel)
def codes1 : List Jvm.Cond := [Jvm.Cond.code x code maxLocals ret, Jvm.Cond.code ({ cls := "com/example/kiriman/kiriman/route/Problem", name := "<init>", desc := "(II[I[I[I)V" } : Jvm.MethodName) prog_29_method_1_code (7 : Nat) (Option.none : Option Jvm.ClassFile.FieldType), Jvm.Cond.code ({ cls := "com/example/kiriman/kiriman/route/Problem", name := "oneForEachCustomer", desc := "(II)[I" } : Jvm.MethodName) prog_29_method_6_code (3 : Nat) (Option.some (Jvm.ClassFile.FieldType.array Jvm.ClassFile.FieldType.int)), Jvm.Cond.code ({ cls := "java/lang/Math", name := "max", desc := "(II)I" } : Jvm.MethodName) jdk_29_method_65_code (2 : Nat) (Option.some Jvm.ClassFile.FieldType.int), Jvm.Cond.code ({ cls := "java/util/Arrays", name := "fill", desc := "([II)V" } : Jvm.MethodName) jdk_65_method_103_code (4 : Nat) (Option.none : Option Jvm.ClassFile.FieldType), Jvm.Cond.code ({ cls := "com/example/kiriman/kiriman/route/Problem", name := "<init>", desc := "(I[I[I[I[I)V" } : Jvm.MethodName) prog_29_method_2_code (10 : Nat) (Option.none : Option Jvm.ClassFile.FieldType), Jvm.Cond.code ({ cls := "com/example/kiriman/kiriman/route/Problem", name := "matrix", desc := "([I[I[I)Lcom/example/kiriman/kiriman/route/Costs;" } : Jvm.MethodName) prog_29_method_5_code (5 : Nat) (Option.some (Jvm.ClassFile.FieldType.object "com/example/kiriman/kiriman/route/Costs")), Jvm.Cond.code ({ cls := "com/example/kiriman/kiriman/route/CostMatrix", name := "<init>", desc := "(I[I)V" } : Jvm.MethodName) prog_23_method_1_code (3 : Nat) (Option.none : Option Jvm.ClassFile.FieldType), Jvm.Cond.code ({ cls := "java/lang/Object", name := "<init>", desc := "()V" } : Jvm.MethodName) object_method_1_code (1 : Nat) (Option.none : Option Jvm.ClassFile.FieldType), Jvm.Cond.code ({ cls := "com/example/kiriman/kiriman/route/Problem", name := "<init>", desc := "(I[I[I[ILcom/example/kiriman/kiriman/route/Costs;)V" } : Jvm.MethodName) prog_29_method_3_code (11 : Nat) (Option.none : Option Jvm.ClassFile.FieldType), Jvm.Cond.code ({ cls := "com/example/kiriman/kiriman/route/CostMatrix", name := "nodes", desc := "()I" } : Jvm.MethodName) prog_23_method_2_code (1 : Nat) (Option.some Jvm.ClassFile.FieldType.int), Jvm.Cond.code ({ cls := "java/lang/Math", name := "min", desc := "(II)I" } : Jvm.MethodName) jdk_29_method_69_code (2 : Nat) (Option.some Jvm.ClassFile.FieldType.int), Jvm.Cond.code ({ cls := "com/example/kiriman/kiriman/route/Route", name := "<init>", desc := "(Lcom/example/kiriman/kiriman/route/Problem;I)V" } : Jvm.MethodName) prog_30_method_1_code (3 : Nat) (Option.none : Option Jvm.ClassFile.FieldType), Jvm.Cond.code ({ cls := "com/example/kiriman/kiriman/route/Problem", name := "depot", desc := "()I" } : Jvm.MethodName) prog_29_method_9_code (1 : Nat) (Option.some Jvm.ClassFile.FieldType.int), Jvm.Cond.code ({ cls := "com/example/kiriman/kiriman/route/Problem", name := "cost", desc := "(II)I" } : Jvm.MethodName) prog_29_method_14_code (3 : Nat) (Option.some Jvm.ClassFile.FieldType.int), Jvm.Cond.code ({ cls := "com/example/kiriman/kiriman/route/CostMatrix", name := "cost", desc := "(II)I" } : Jvm.MethodName) prog_23_method_3_code (3 : Nat) (Option.some Jvm.ClassFile.FieldType.int), Jvm.Cond.code ({ cls := "com/example/kiriman/kiriman/route/Route", name := "insert", desc := "(II)V" } : Jvm.MethodName) prog_30_method_7_code (5 : Nat) (Option.none : Option Jvm.ClassFile.FieldType), Jvm.Cond.code ({ cls := "com/example/kiriman/kiriman/route/Route", name := "before", desc := "(I)I" } : Jvm.MethodName) prog_30_method_11_code (2 : Nat) (Option.some Jvm.ClassFile.FieldType.int), Jvm.Cond.code ({ cls := "com/example/kiriman/kiriman/route/Route", name := "after", desc := "(I)I" } : Jvm.MethodName) prog_30_method_12_code (2 : Nat) (Option.some Jvm.ClassFile.FieldType.int), Jvm.Cond.code ({ cls := "com/example/kiriman/kiriman/route/Positions", name := "<init>", desc := "(I)V" } : Jvm.MethodName) prog_27_method_1_code (2 : Nat) (Option.none : Option Jvm.ClassFile.FieldType), Jvm.Cond.code ({ cls := "com/example/kiriman/kiriman/route/Positions", name := "update", desc := "(Lcom/example/kiriman/kiriman/route/Route;I)V" } : Jvm.MethodName) prog_27_method_4_code (4 : Nat) (Option.none : Option Jvm.ClassFile.FieldType), Jvm.Cond.code ({ cls := "com/example/kiriman/kiriman/route/Route", name := "size", desc := "()I" } : Jvm.MethodName) prog_30_method_5_code (1 : Nat) (Option.some Jvm.ClassFile.FieldType.int), Jvm.Cond.code ({ cls := "com/example/kiriman/kiriman/route/Route", name := "visit", desc := "(I)I" } : Jvm.MethodName) prog_30_method_6_code (2 : Nat) (Option.some Jvm.ClassFile.FieldType.int), Jvm.Cond.code ({ cls := "com/example/kiriman/kiriman/route/Positions", name := "move", desc := "(ILcom/example/kiriman/kiriman/route/Route;I)V" } : Jvm.MethodName) prog_27_method_8_code (4 : Nat) (Option.none : Option Jvm.ClassFile.FieldType), Jvm.Cond.code ({ cls := "com/example/kiriman/kiriman/route/Positions", name := "undo", desc := "()V" } : Jvm.MethodName) prog_27_method_7_code (2 : Nat) (Option.none : Option Jvm.ClassFile.FieldType), Jvm.Cond.code ({ cls := "com/example/kiriman/kiriman/route/Positions", name := "keep", desc := "()V" } : Jvm.MethodName) prog_27_method_6_code (2 : Nat) (Option.none : Option Jvm.ClassFile.FieldType), Jvm.Cond.code ({ cls := "com/example/kiriman/kiriman/route/Positions", name := "route", desc := "(I)Lcom/example/kiriman/kiriman/route/Route;" } : Jvm.MethodName) prog_27_method_2_code (2 : Nat) (Option.some (Jvm.ClassFile.FieldType.object "com/example/kiriman/kiriman/route/Route")), Jvm.Cond.code ({ cls := "com/example/kiriman/kiriman/route/Positions", name := "index", desc := "(I)I" } : Jvm.MethodName) prog_27_method_3_code (2 : Nat) (Option.some Jvm.ClassFile.FieldType.int), Jvm.Cond.code ({ cls := "com/example/kiriman/kiriman/route/Positions", name := "remove", desc := "(I)V" } : Jvm.MethodName) prog_27_method_5_code (2 : Nat) (Option.none : Option Jvm.ClassFile.FieldType)]
set_option maxRecDepth 65536 in
theorem codes_eq : words1.filter isCode = codes1 := rfl
theorem w_codes : ∀ c ∈ words1.filter isCode, c.before args0 about1 = true := by
  rw [codes_eq]
  intro c hc
  simp only [codes1, List.mem_cons, List.not_mem_nil, or_false] at hc
  rcases hc with rfl | rfl | rfl | rfl | rfl | rfl | rfl | rfl | rfl | rfl | rfl | rfl | rfl | rfl | rfl | rfl | rfl | rfl | rfl | rfl | rfl | rfl | rfl | rfl | rfl | rfl | rfl | rfl | rfl
  · exact w_c0
  · exact w_c1
  · exact w_c2
  · exact w_c3
  · exact w_c4
  · exact w_c5
  · exact w_c6
  · exact w_c7
  · exact w_c8
  · exact w_c9
  · exact w_c10
  · exact w_c11
  · exact w_c12
  · exact w_c13
  · exact w_c14
  · exact w_c15
  · exact w_c16
  · exact w_c17
  · exact w_c18
  · exact w_c19
  · exact w_c20
  · exact w_c21
  · exact w_c22
  · exact w_c23
  · exact w_c24
  · exact w_c25
  · exact w_c26
  · exact w_c27
  · exact w_c28
set_option maxRecDepth 65536 in
theorem w_t1 : (words1.take 24).all (fun c => isCode c || c.before args0 about1) = true := by decide +kernel
set_option maxRecDepth 65536 in
theorem w_t2 : ((words1.drop 24).take 24).all (fun c => isCode c || c.before args0 about1) = true := by decide +kernel
set_option maxRecDepth 65536 in
theorem w_t3 : (((words1.drop 24).drop 24).take 24).all (fun c => isCode c || c.before args0 about1) = true := by decide +kernel
set_option maxRecDepth 65536 in
theorem w_t4 : ((((words1.drop 24).drop 24).drop 24).take 24).all (fun c => isCode c || c.before args0 about1) = true := by decide +kernel
set_option maxRecDepth 65536 in
theorem w_t5 : (((((words1.drop 24).drop 24).drop 24).drop 24).take 24).all (fun c => isCode c || c.before args0 about1) = true := by decide +kernel
set_option maxRecDepth 65536 in
theorem w_t6 : ((((((words1.drop 24).drop 24).drop 24).drop 24).drop 24).take 24).all (fun c => isCode c || c.before args0 about1) = true := by decide +kernel
set_option maxRecDepth 65536 in
theorem w_t7 : (((((((words1.drop 24).drop 24).drop 24).drop 24).drop 24).drop 24).take 24).all (fun c => isCode c || c.before args0 about1) = true := by decide +kernel
set_option maxRecDepth 65536 in
theorem w_t8 : ((((((((words1.drop 24).drop 24).drop 24).drop 24).drop 24).drop 24).drop 24).take 24).all (fun c => isCode c || c.before args0 about1) = true := by decide +kernel
set_option maxRecDepth 65536 in
theorem w_t9 : ((((((((words1.drop 24).drop 24).drop 24).drop 24).drop 24).drop 24).drop 24).drop 24).all (fun c => isCode c || c.before args0 about1) = true := by decide +kernel
theorem w_tables : (allAtoms (Jvm.Cond.code x code maxLocals ret :: tables_1)).before args0 about1 = true := by
  rw [allAtoms_all]
  show words1.all (fun c => c.before args0 about1) = true
  refine all_split ?_ w_codes
  rw [← List.take_append_drop 24 words1, List.all_append, w_t1, ← List.take_append_drop 24 (words1.drop 24), List.all_append, w_t2, ← List.take_append_drop 24 ((words1.drop 24).drop 24), List.all_append, w_t3, ← List.take_append_drop 24 (((words1.drop 24).drop 24).drop 24), List.all_append, w_t4, ← List.take_append_drop 24 ((((words1.drop 24).drop 24).drop 24).drop 24), List.all_append, w_t5, ← List.take_append_drop 24 (((((words1.drop 24).drop 24).drop 24).drop 24).drop 24), List.all_append, w_t6, ← List.take_append_drop 24 ((((((words1.drop 24).drop 24).drop 24).drop 24).drop 24).drop 24), List.all_append, w_t7, ← List.take_append_drop 24 (((((((words1.drop 24).drop 24).drop 24).drop 24).drop 24).drop 24).drop 24), List.all_append, w_t8, w_t9]
  rfl
set_option maxRecDepth 65536 in
theorem w_case : (Jvm.Cond.and given_1 narrow_1).before args0 about1 = true := by decide +kernel
theorem w_applies : (headSpec (Jvm.Cond.code x code maxLocals ret :: tables_1) room_1).applies x e0.platform about1 = true :=
  (Spec.applies_iff w_frames).mpr ⟨w_running, w_runnable, w_alone, w_named, w_hears, w_ripe, w_room, w_tables⟩
theorem atStart : AtStart classFile x code maxLocals ret World_1 tables_1 room_1 Calls_1 rest_1 Pre_1 launch0 p0 e0 about1 theMethod args0 below0 :=
  ⟨lists_1, trivial, launch0.admits_env _ _ _, launch0.least_env, fairChoices_fair.cas, fairChoices_fair.clock, w_frames, w_args, w_heap, w_applies, trivial, trivial, w_case⟩
end start1
theorem witness_1 : WitnessClaimed_1 := ⟨start1.p0, start1.e0, start1.about1, start1.theMethod, start1.args0, start1.below0, start1.atStart⟩
end Jvm.Pilot.@@N@@
