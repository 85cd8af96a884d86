import JvmDerived
import JvmDerived.Pilot.@@N@@Statement
import JvmDerived.Pilot.@@N@@Code
set_option linter.unusedVariables false
set_option linter.unusedSimpArgs false
@@BLOCK:TracedD.lean.txt@@
namespace Jvm.RoadKit
open Sem ClassFile Op Lib Jvm.Stand Jvm.Free Jvm.LawKit
section New
variable {p : Program} {l : Launch} {e : Env} {R : Room} {s : State} {m : MethodId} {args : Array Value} {below : List Frame} {meth : Method} {c : Code} {T : State} {locs : List Loc} {cells slots : Nat}
theorem retI (X : Stand p l e R s m args below meth c T locs cells slots) (hx : p.tables.exec = Jvm.exec) {pc : Nat} {Ls : Array Slot} {z : Int32} {rest : List Value} (hret : meth.sig.returnType = some .int) (hd : decode c.code pc = .ok (.ireturn, 1)) {fs : List Frame}
    (hl : ∀ (f : JFrame) (acts : List Action), f.method = m → f.locked = none → f.entered = [] → (doReturn e (T.setTop f) acts (some (.int z))).1 = T.setFrames fs) : Steps p.tables e below (T.setTop (mkF m pc Ls (.int z :: rest))) (T.setFrames fs) := by
  have hm' : T.vm.method? m = some meth := X.method'
  have hn : narrow .int (.int z) = .int z := rfl
  show Steps p.tables e below (T.setTop { method := m, pc := pc, locals := Ls, stack := _ :: rest, locked := none }) _
  jvm_step X.here [X.here.top, hx, hd, hm', hret, hn]
  first | (intro acts; rw [hl _ acts rfl rfl rfl]) | rw [hl _ _ rfl rfl rfl]
  exact Steps.refl _
end New
end Jvm.RoadKit
namespace Jvm.Pilot.@@N@@
open Jvm Jvm.ClassFile Sem Op Lib Jvm.Free Jvm.Stand Jvm.LawKit Jvm.RoadKit Bundle Jvm.Pilot.@@N@@.Jvm.D
section OwnLayer
variable {p : Program} {l : Launch} {e : Env} {R : Room} {s : State} {m : MethodId} {args : Array Value} {below : List Frame} {meth : Method} {c : Code} {Z : State} {a0 : Array Value} {EL : List (String × Nat)} {n0 : Nat} {kn wd : Bool} {own : String} {bytes : ByteArray} {ml : Nat} {ws : List Addr} {T : State} {h : Heap} {k n : Nat} {Φ : Outcome → State → Prop} {pc pc' : Nat} {Ls : Array Slot} {st rest : List Value}
theorem known_vm {vm0 : Vm} (hW : s.Warmed39 vm0) (q : s.vm.MethodsKnown ∧ s.vm.FramesKnown below) : vm0.MethodsKnown ∧ vm0.FramesKnown below := ⟨Vm.MethodsKnown.alikeC hW.alike q.1, Vm.FramesKnown.alikeC hW.alike q.2⟩
/-- where a walk stands: all that its steps ask -/
def Wk (p : Program) (l : Launch) (e : Env) (R : Room) (s : State) (m : MethodId) (args : Array Value) (below : List Frame) (meth : Method) (c : Code) (Z : State) (a0 : Array Value) (EL : List (String × Nat)) (n0 : Nat) (kn wd : Bool) (own : String) (bytes : ByteArray) (ml : Nat) (ws : List Addr) (T : State) (h : Heap) (k n : Nat) : Prop :=
  (p.tables.exec = Jvm.exec ∧ c.code = bytes ∧ c.maxLocals = ml ∧ Z.vm.findClass own = some m.cls ∧ EW Z a0 EL ∧ meth.locks = false ∧ (kn = true → s.vm.MethodsKnown ∧ s.vm.FramesKnown below)) ∧
  ∃ (vm0 : Vm) (k0 : Nat) (locs : List Loc), Stand p l e R (s.setVm vm0) m args below meth c T locs k n ∧ T.heap = h ∧ s.Since vm0 k0 ∧ k0 ≤ h.size ∧ Z.Warmed39 vm0 ∧ CHr Z EL s.vm s.heap vm0 h ∧ (∀ x ∈ ws, x < h.size ∧ Safe Z EL vm0 h x) ∧ Fr n0 locs ∧ (wd = false → s.WarmedH vm0) ∧ Old Z n0 h
/-- from this frame the method comes to its end, and Φ holds there -/
def Go (p : Program) (e : Env) (below : List Frame) (Φ : Outcome → State → Prop) (T : State) (f : JFrame) : Prop := ∃ s₂ o, Steps p.tables e below (T.setTop f) s₂ ∧ s₂.status = .running ∧ Ended s₂ below o ∧ Φ o s₂
/-- what a contract promises -/
def Po (s : State) (Z : State) (EL : List (String × Nat)) (n0 : Nat) (wd : Bool) (rc rs : Nat) (Q : Option Value → Heap → Prop) (o : Outcome) (t : State) : Prop :=
  ∃ v L, o = .returned v ∧ Q v t.heap ∧ Fr n0 L ∧ CHr Z EL s.vm s.heap t.vm t.heap ∧ (wd = false → s.WarmedH t.vm) ∧ Old Z n0 t.heap ∧ ReturnedEndW s o t L rc rs
/-- a contract: the method y, called with these arguments at this heap -/
def Ct (l : Launch) (Z : State) (a0 : Array Value) (EL : List (String × Nat)) (n0 : Nat) (kn wd : Bool) (y : MethodName) (bytes : ByteArray) (ml : Nat) (ret : Option FieldType) (cs : List Jvm.Cond) (rm : Room) (ws : List Addr) (as' : Array Value) (h : Heap) (Q : Option Value → Heap → Prop) : Prop :=
  MetFree l y (head1 (Jvm.Cond.code y bytes ml ret :: cs) rm) (fun a U => a = as' ∧ Z.Warmed39 U.vm ∧ U.heap = h ∧ CHv Z EL U.vm h ∧ Old Z n0 h ∧ ∀ x ∈ ws, x < h.size ∧ Safe Z EL U.vm h x) (fun _ _ bl s _ => kn = true → s.vm.MethodsKnown ∧ s.vm.FramesKnown bl) (fun _ U o U' => Po U Z EL n0 wd rm.cells rm.slots Q o U')
theorem Go.back {f f' : JFrame} {T' : State} (hs : ∀ t, Steps p.tables e below (T'.setTop f') t → Steps p.tables e below (T.setTop f) t) (G : Go p e below Φ T' f') : Go p e below Φ T f := by
  obtain ⟨s₂, o, h1, h2⟩ := G
  exact ⟨s₂, o, hs _ h1, h2⟩
/-- a plain step -/
theorem g1 {f f' : JFrame} (W : Wk p l e R s m args below meth c Z a0 EL n0 kn wd own bytes ml ws T h k n) (hs : ∀ t, At T m c below → p.tables.exec = Jvm.exec → c.code = bytes → Steps p.tables e below (T.setTop f') t → Steps p.tables e below (T.setTop f) t) (G : Go p e below Φ T f') : Go p e below Φ T f := by
  obtain ⟨⟨hx, hb, -⟩, vm0, k0, locs, X, -⟩ := W
  exact G.back fun t => hs t X.here hx hb
/-- a step that reads the heap -/
theorem g2 {f f' : JFrame} (W : Wk p l e R s m args below meth c Z a0 EL n0 kn wd own bytes ml ws T h k n) (hs : ∀ (vm0 : Vm) (locs : List Loc), Stand p l e R (s.setVm vm0) m args below meth c T locs k n → p.tables.exec = Jvm.exec → c.code = bytes → Z.Warmed39 vm0 → T.heap = h → vm0.findClass own = some m.cls → ∀ t, Steps p.tables e below (T.setTop f') t → Steps p.tables e below (T.setTop f) t) (G : Go p e below Φ T f') : Go p e below Φ T f := by
  obtain ⟨⟨hx, hb, -, hO, -⟩, vm0, k0, locs, X, eT, -, -, hZ, -⟩ := W
  exact G.back (hs vm0 locs X hx hb hZ eT ((hZ.alike.findClass own _).trans hO))
/-- a step after which the state is another, the heap the same -/
theorem g3 {f f' : JFrame} (W : Wk p l e R s m args below meth c Z a0 EL n0 kn wd own bytes ml ws T h k n) (hs : ∀ (vm0 : Vm) (locs : List Loc), Stand p l e R (s.setVm vm0) m args below meth c T locs k n → p.tables.exec = Jvm.exec → c.code = bytes → c.maxLocals = ml → Z.Warmed39 vm0 → T.heap = h → vm0.findClass own = some m.cls → ∃ T', Stand p l e R (s.setVm vm0) m args below meth c T' locs k n ∧ T'.heap = h ∧ ∀ t, Steps p.tables e below (T'.setTop f') t → Steps p.tables e below (T.setTop f) t)
    (G : ∀ T', Wk p l e R s m args below meth c Z a0 EL n0 kn wd own bytes ml ws T' h k n → Go p e below Φ T' f') : Go p e below Φ T f := by
  obtain ⟨⟨hx, hb, hml, hO, hrest⟩, vm0, k0, locs, X, eT, hS, hk, hZ, hr⟩ := W
  obtain ⟨T', X', e', q⟩ := hs vm0 locs X hx hb hml hZ eT ((hZ.alike.findClass own _).trans hO)
  exact (G T' ⟨⟨hx, hb, hml, hO, hrest⟩, vm0, k0, locs, X', e', hS, hk, hZ, hr⟩).back q
/-- the object may be written: it is no booked constant's -/
def Sf (Z : State) (EL : List (String × Nat)) (ws : List Addr) (h : Heap) (a : Addr) : Prop := a ∈ ws ∨ EL = [] ∨ (∃ C, Exa Z h a C ∧ C ≠ "java/lang/String" ∧ C ≠ "[B") ∨ (∃ cl ty, Arr Z h a cl ty ∧ ty ≠ .byte)
theorem Sf.safe {a : Addr} {vm0 : Vm} (hZ : Z.Warmed39 vm0) (hs : ∀ x ∈ ws, x < h.size ∧ Safe Z EL vm0 h x) (q : Sf Z EL ws h a) : Safe Z EL vm0 h a := by
  rcases q with q | rfl | ⟨C, E, h1, h2⟩ | ⟨cl, ty, A, ht⟩
  · exact (hs a q).2
  · intro B
    obtain ⟨p, hp, -⟩ := B
    cases hp
  · exact Safe.exa hZ.alike E h1 h2
  · exact Safe.arr hZ.alike A ht
/-- a step that writes one place -/
theorem g4 {f f' : JFrame} {a : Addr} {sl : Nat} {v : Value} (W : Wk p l e R s m args below meth c Z a0 EL n0 kn wd own bytes ml ws T h k n) (hn : n0 ≤ a) (hsf : Sf Z EL ws h a)
    (hs : ∀ (vm0 : Vm) (locs : List Loc), Stand p l e R (s.setVm vm0) m args below meth c T locs k n → p.tables.exec = Jvm.exec → c.code = bytes → Z.Warmed39 vm0 → T.heap = h → vm0.findClass own = some m.cls → ∃ T' h', Stand p l e R (s.setVm vm0) m args below meth c T' (locs ++ [⟨a, sl⟩]) k n ∧ T'.heap = h' ∧ Wr h h' a sl v ∧ ∀ t, Steps p.tables e below (T'.setTop f') t → Steps p.tables e below (T.setTop f) t)
    (G : ∀ T' h', Wk p l e R s m args below meth c Z a0 EL n0 kn wd own bytes ml ws T' h' k n → Wr h h' a sl v → Go p e below Φ T' f') : Go p e below Φ T f := by
  obtain ⟨⟨hx, hb, hml, hO, hrest⟩, vm0, k0, locs, X, eT, hS, hk, hZ, hC, hws, hF, hwd, hOl⟩ := W
  obtain ⟨T', h', X', e', Wr', q⟩ := hs vm0 locs X hx hb hZ eT ((hZ.alike.findClass own _).trans hO)
  have sa := hsf.safe hZ hws
  exact (G T' h' ⟨⟨hx, hb, hml, hO, hrest⟩, vm0, k0, _, X', e', hS, by rw [Wr'.size]; exact hk, hZ, hC.trans (CHr.wr Wr' sa hC.1), fun x hx' => ⟨by rw [Wr'.size]; exact (hws x hx').1, Safe.wr Wr' sa hC.1 (hws x hx').2⟩, Fr.snoc X' hF hn, hwd, hOl.wr Wr' hn⟩ Wr').back q
/-- a step that makes one cell -/
theorem g5 {f : JFrame} {f' : Addr → JFrame} {nc : Nat} {P : Heap → Addr → Prop} (W : Wk p l e R s m args below meth c Z a0 EL n0 kn wd own bytes ml ws T h k n) (hlt : ∀ h', P h' h.size → h.size < h'.size)
    (hs : ∀ (vm0 : Vm) (locs : List Loc), Stand p l e R (s.setVm vm0) m args below meth c T locs k n → p.tables.exec = Jvm.exec → c.code = bytes → Z.Warmed39 vm0 → T.heap = h → vm0.findClass own = some m.cls → ∃ T' h', Stand p l e R (s.setVm vm0) m args below meth c T' locs (k + 1) (n + nc) ∧ T'.heap = h' ∧ Ext h h' ∧ P h' h.size ∧ ∀ t, Steps p.tables e below (T'.setTop (f' h.size)) t → Steps p.tables e below (T.setTop f) t)
    (G : ∀ T' h' a, a = h.size → Wk p l e R s m args below meth c Z a0 EL n0 kn wd own bytes ml (a :: ws) T' h' (k + 1) (n + nc) → Ext h h' → P h' a → Go p e below Φ T' (f' a)) : Go p e below Φ T f := by
  obtain ⟨⟨hx, hb, hml, hO, hrest⟩, vm0, k0, locs, X, eT, hS, hk, hZ, hC, hws, hF, hwd, hOl⟩ := W
  obtain ⟨T', h', X', e', E, P', q⟩ := hs vm0 locs X hx hb hZ eT ((hZ.alike.findClass own _).trans hO)
  refine (G T' h' h.size rfl ⟨⟨hx, hb, hml, hO, hrest⟩, vm0, k0, _, X', e', hS, Nat.le_trans hk E.1, hZ, hC.trans (CHr.ext E hC.1), fun x hx' => ?_, hF, hwd, hOl.ext E⟩ E P').back q
  rcases List.mem_cons.mp hx' with rfl | hx'
  · exact ⟨hlt h' P', Safe.ext E hC.1 (Safe.new (Nat.le_refl _))⟩
  · exact ⟨Nat.lt_of_lt_of_le (hws x hx').1 E.1, Safe.ext E hC.1 (hws x hx').2⟩
theorem Wk.size0 (W : Wk p l e R s m args below meth c Z a0 EL n0 kn wd own bytes ml ws T h k n) : s.heap.size ≤ h.size := by
  obtain ⟨-, vm0, k0, locs, X, eT, hS, hk, hZ, hC, -⟩ := W
  exact hC.2.1
theorem Wk.old (W : Wk p l e R s m args below meth c Z a0 EL n0 kn wd own bytes ml ws T h k n) : Old Z n0 h := by
  obtain ⟨-, vm0, k0, locs, X, eT, hS, hk, hZ, hC, hws, hF, hwd, hOl⟩ := W
  exact hOl
theorem Wk.lt {a : Addr} (W : Wk p l e R s m args below meth c Z a0 EL n0 kn wd own bytes ml ws T h k n) (q : a ∈ ws) : a < h.size := by
  obtain ⟨-, vm0, k0, locs, X, eT, hS, hk, hZ, hC, hws, -⟩ := W
  exact (hws a q).1
theorem Wk.n0le (W : Wk p l e R s m args below meth c Z a0 EL n0 kn wd own bytes ml ws T h k n) : n0 ≤ h.size := W.old.1 ▸ W.old.2.1
theorem Wk.less {ws' : List Addr} (W : Wk p l e R s m args below meth c Z a0 EL n0 kn wd own bytes ml ws T h k n) (hq : ∀ x ∈ ws', x ∈ ws) : Wk p l e R s m args below meth c Z a0 EL n0 kn wd own bytes ml ws' T h k n := by
  obtain ⟨h1, vm0, k0, locs, X, eT, hS, hk, hZ, hC, hws, hF, hwd⟩ := W
  exact ⟨h1, vm0, k0, locs, X, eT, hS, hk, hZ, hC, fun x hx => hws x (hq x hx), hF, hwd⟩
theorem Wk.up {k' n' : Nat} (W : Wk p l e R s m args below meth c Z a0 EL n0 kn wd own bytes ml ws T h k n) (hk' : k ≤ k') (hn' : n ≤ n') : Wk p l e R s m args below meth c Z a0 EL n0 kn wd own bytes ml ws T h k' n' := by
  obtain ⟨h1, vm0, k0, locs, X, r⟩ := W
  exact ⟨h1, vm0, k0, locs, X.more hk' hn', r⟩
/-- getfield -/
theorem gGetF {R0 O nm d host : String} {index : Nat} {a : Addr} {v : Value} (W : Wk p l e R s m args below meth c Z a0 EL n0 kn wd own bytes ml ws T h k n) (w : (Jvm.Cond.fieldLink own index R0 nm d).before a0 Z = true ∨ (Jvm.Cond.fieldLinkNest own index R0 nm d host).before a0 Z = true) (via : Via Z R0 O nm d) (F : Fld Z h a O nm d v)
    (hd : decode bytes pc = .ok (.getfield index, 3)) (hp : pc + 3 = pc') (G : ∀ T', Wk p l e R s m args below meth c Z a0 EL n0 kn wd own bytes ml ws T' h k n → Go p e below Φ T' (mkF m pc' Ls (v :: rest))) : Go p e below Φ T (mkF m pc Ls (.ref a :: rest)) := by
  subst hp
  exact g3 W (fun vm0 locs X hx hb' _ hZ eT hO => getF X hx hZ hO w via eT F (g := mkF m pc Ls (.ref a :: rest)) rfl rfl (hb hb' hd)) G
/-- getstatic -/
theorem gGetS {R0 O nm d host : String} {index : Nat} {v : Value} (W : Wk p l e R s m args below meth c Z a0 EL n0 kn wd own bytes ml ws T h k n) (w : (Jvm.Cond.fieldLink own index R0 nm d).before a0 Z = true ∨ (Jvm.Cond.fieldLinkNest own index R0 nm d host).before a0 Z = true) (via : Via Z R0 O nm d) (F : Sta Z h O nm d v)
    (hd : decode bytes pc = .ok (.getstatic index, 3)) (hp : pc + 3 = pc') (G : ∀ T', Wk p l e R s m args below meth c Z a0 EL n0 kn wd own bytes ml ws T' h k n → Go p e below Φ T' (mkF m pc' Ls (v :: st))) : Go p e below Φ T (mkF m pc Ls st) := by
  subst hp
  exact g3 W (fun vm0 locs X hx hb' _ hZ eT hO => getS2 X hx hZ hO w via eT F (g := mkF m pc Ls st) rfl (hb hb' hd)) G
/-- checkcast of an object -/
theorem gCast {K : String} {index : Nat} {a : Addr} (W : Wk p l e R s m args below meth c Z a0 EL n0 kn wd own bytes ml ws T h k n) (w : (Jvm.Cond.classLink own index K).before a0 Z = true) (F : Ins Z h a K true)
    (hd : decode bytes pc = .ok (.checkcast index, 3)) (hp : pc + 3 = pc') (G : ∀ T', Wk p l e R s m args below meth c Z a0 EL n0 kn wd own bytes ml ws T' h k n → Go p e below Φ T' (mkF m pc' Ls (.ref a :: rest))) : Go p e below Φ T (mkF m pc Ls (.ref a :: rest)) := by
  subst hp
  exact g3 W (fun vm0 locs X hx hb' _ hZ eT hO => castY X hx hZ hO w eT F (g := mkF m pc Ls (.ref a :: rest)) rfl rfl (hb hb' hd)) G
/-- instanceof, yes -/
theorem gInsY {K : String} {index : Nat} {a : Addr} (W : Wk p l e R s m args below meth c Z a0 EL n0 kn wd own bytes ml ws T h k n) (w : (Jvm.Cond.classLink own index K).before a0 Z = true) (F : Ins Z h a K true)
    (hd : decode bytes pc = .ok (.instanceof index, 3)) (hp : pc + 3 = pc') (G : ∀ T', Wk p l e R s m args below meth c Z a0 EL n0 kn wd own bytes ml ws T' h k n → Go p e below Φ T' (mkF m pc' Ls (.int 1 :: rest))) : Go p e below Φ T (mkF m pc Ls (.ref a :: rest)) := by
  subst hp
  exact g3 W (fun vm0 locs X hx hb' _ hZ eT hO => instY X hx hZ hO w eT F (g := mkF m pc Ls (.ref a :: rest)) rfl rfl (hb hb' hd)) G
/-- putfield -/
theorem gPutF {R0 O nm d host C : String} {index kk : Nat} {ty : FieldType} {a : Addr} {v old : Value} (W : Wk p l e R s m args below meth c Z a0 EL n0 kn wd own bytes ml ws T h k n) (hn : n0 ≤ a) (hsf : Sf Z EL ws h a) (w : (Jvm.Cond.fieldLink own index R0 nm d).before a0 Z = true ∨ (Jvm.Cond.fieldLinkNest own index R0 nm d host).before a0 Z = true) (via : Via Z R0 O nm d) (F : Fld Z h a O nm d old) (E : Exa Z h a C)
    (L : (Jvm.Cond.lays C O nm d).before a0 Z = true ∨ ((Jvm.Cond.laysFinal C O nm d).before a0 Z = true ∧ own = O ∧ meth.name = "<init>")) (wi : (Jvm.Cond.instantiable C kk).before a0 Z = true) (hty : parseFieldDescriptor d = some ty) (hnr : narrow ty v = v) (hf : fits ty v = true)
    (hd : decode bytes pc = .ok (.putfield index, 3)) (hp : pc + 3 = pc') (G : ∀ T' h', Wk p l e R s m args below meth c Z a0 EL n0 kn wd own bytes ml ws T' h' k n → Wr h h' a (Jvm.RoadKit.slotOf Z O nm d) v → Go p e below Φ T' (mkF m pc' Ls rest)) : Go p e below Φ T (mkF m pc Ls (v :: .ref a :: rest)) := by
  subst hp
  exact g4 W hn hsf (fun vm0 locs X hx hb' hZ eT hO => putF X hx hZ hO w via eT F E L wi hty hnr hf (g := mkF m pc Ls (v :: .ref a :: rest)) rfl rfl (hb hb' hd)) G
theorem gPutFN {R0 O nm d C : String} {index kk : Nat} {ty : FieldType} {a : Addr} {v v' old : Value} (W : Wk p l e R s m args below meth c Z a0 EL n0 kn wd own bytes ml ws T h k n) (hn : n0 ≤ a) (hsf : Sf Z EL ws h a) (w : (Jvm.Cond.fieldLink own index R0 nm d).before a0 Z = true) (via : Via Z R0 O nm d) (F : Fld Z h a O nm d old) (E : Exa Z h a C)
    (L : (Jvm.Cond.lays C O nm d).before a0 Z = true ∨ ((Jvm.Cond.laysFinal C O nm d).before a0 Z = true ∧ own = O ∧ meth.name = "<init>")) (wi : (Jvm.Cond.instantiable C kk).before a0 Z = true) (hty : parseFieldDescriptor d = some ty) (hnr : narrow ty v = v') (hf : fits ty v' = true)
    (hd : decode bytes pc = .ok (.putfield index, 3)) (hp : pc + 3 = pc') (G : ∀ T' h', Wk p l e R s m args below meth c Z a0 EL n0 kn wd own bytes ml ws T' h' k n → Wr h h' a (Jvm.RoadKit.slotOf Z O nm d) v' → Go p e below Φ T' (mkF m pc' Ls rest)) : Go p e below Φ T (mkF m pc Ls (v :: .ref a :: rest)) := by
  subst hp
  exact g4 W hn hsf (fun vm0 locs X hx hb' hZ eT hO => putFN X hx hZ hO w via eT F E L wi hty hnr hf (g := mkF m pc Ls (v :: .ref a :: rest)) rfl rfl (hb hb' hd)) G
/-- new -/
theorem gNew {C : String} {index nc : Nat} (W : Wk p l e R s m args below meth c Z a0 EL n0 kn wd own bytes ml ws T h k n) (w : (Jvm.Cond.classLink own index C).before a0 Z = true) (wi : (Jvm.Cond.instantiable C nc).before a0 Z = true) (wz : (Jvm.Cond.initialized C).before a0 Z = true)
    (hd : decode bytes pc = .ok (.new index, 3)) (hp : pc + 3 = pc') (hc : k + 1 ≤ R.cells) (hl : n + nc ≤ R.slots)
    (G : ∀ T' h' a, a = h.size → Wk p l e R s m args below meth c Z a0 EL n0 kn wd own bytes ml (a :: ws) T' h' (k + 1) (n + nc) → Ext h h' → (Exa Z h' a C ∧ (∀ {O nm d : String} {ty : FieldType}, Laid Z a0 C O nm d → parseFieldDescriptor d = some ty → Fld Z h' a O nm d (defaultValue ty)) ∧ Unt h' a) → Go p e below Φ T' (mkF m pc' Ls (.ref a :: st))) : Go p e below Φ T (mkF m pc Ls st) := by
  subst hp
  refine g5 W (f' := fun a => mkF m (pc + 3) Ls (.ref a :: st)) (P := fun h' a => Exa Z h' a C ∧ (∀ {O nm d : String} {ty : FieldType}, Laid Z a0 C O nm d → parseFieldDescriptor d = some ty → Fld Z h' a O nm d (defaultValue ty)) ∧ Unt h' a) (fun h' q => q.1.lt) (fun vm0 locs X hx hb' hZ eT hO => ?_) G
  obtain ⟨T', h', X', e', E, A, D, U, q⟩ := newO X hx hZ hO w wi wz eT (g := mkF m pc Ls st) rfl (hb hb' hd) hc hl
  exact ⟨T', h', X', e', E, ⟨A, D, U⟩, q⟩
/-- newarray -/
theorem gNewP {aty : ArrayType} {z : Int32} {cap : Nat} {ad : String} (W : Wk p l e R s m args below meth c Z a0 EL n0 kn wd own bytes ml ws T h k n) (w : (Jvm.Cond.arrayClass (newarray.typeOf aty)).before a0 Z = true) (had : "[" ++ (newarray.typeOf aty).toString = ad)
    (hd : decode bytes pc = .ok (.newarray aty, 2)) (hp : pc + 2 = pc') (hz : ¬ z < 0) (hcap : z.toNatClampNeg ≤ cap) (hb8 : cap * 8 ≤ 536870912) (hc : k + 1 ≤ R.cells) (hl : n + cap ≤ R.slots)
    (G : ∀ T' h' a, a = h.size → Wk p l e R s m args below meth c Z a0 EL n0 kn wd own bytes ml (a :: ws) T' h' (k + 1) (n + cap) → Ext h h' → (∃ kA, Arv Z h' a kA (newarray.typeOf aty) z [] (defaultValue (newarray.typeOf aty)) ∧ Exa Z h' a ad) → Go p e below Φ T' (mkF m pc' Ls (.ref a :: rest))) : Go p e below Φ T (mkF m pc Ls (.int z :: rest)) := by
  subst hp
  refine g5 W (f' := fun a => mkF m (pc + 2) Ls (.ref a :: rest)) (P := fun h' a => ∃ kA, Arv Z h' a kA (newarray.typeOf aty) z [] (defaultValue (newarray.typeOf aty)) ∧ Exa Z h' a ad) (fun h' q => by obtain ⟨_, q, -⟩ := q; exact q.lt) (fun vm0 locs X hx hb' hZ eT hO => ?_) G
  obtain ⟨T', h', cA, X', e', E, A, D, q⟩ := newPE X hx hZ w eT (g := mkF m pc Ls (.int z :: rest)) rfl (hb hb' hd) rfl hz hcap hb8 hc hl had
  exact ⟨T', h', X', e', E, ⟨cA, Arv.new A hz, D⟩, q⟩
/-- anewarray -/
theorem gNewR {C : String} {index : Nat} {z : Int32} {cap : Nat} {ad : String} (W : Wk p l e R s m args below meth c Z a0 EL n0 kn wd own bytes ml ws T h k n) (w1 : (Jvm.Cond.classLink own index C).before a0 Z = true) (w2 : (Jvm.Cond.arrayOver (.object C)).before a0 Z = true) (had : "[" ++ (FieldType.object C).toString = ad)
    (hd : decode bytes pc = .ok (.anewarray index, 3)) (hp : pc + 3 = pc') (hz : ¬ z < 0) (hcap : z.toNatClampNeg ≤ cap) (hb8 : cap * 8 ≤ 536870912) (hc : k + 1 ≤ R.cells) (hl : n + cap ≤ R.slots)
    (G : ∀ T' h' a, a = h.size → Wk p l e R s m args below meth c Z a0 EL n0 kn wd own bytes ml (a :: ws) T' h' (k + 1) (n + cap) → Ext h h' → (∃ kA, Arv Z h' a kA (.object C) z [] .null ∧ Exa Z h' a ad ∧ Ovr Z kA C) → Go p e below Φ T' (mkF m pc' Ls (.ref a :: rest))) : Go p e below Φ T (mkF m pc Ls (.int z :: rest)) := by
  subst hp
  refine g5 W (f' := fun a => mkF m (pc + 3) Ls (.ref a :: rest)) (P := fun h' a => ∃ kA, Arv Z h' a kA (.object C) z [] .null ∧ Exa Z h' a ad ∧ Ovr Z kA C) (fun h' q => by obtain ⟨_, q, -⟩ := q; exact q.lt) (fun vm0 locs X hx hb' hZ eT hO => ?_) G
  obtain ⟨T', h', cA, X', e', E, A, D, O, q⟩ := newRE X hx hZ hO w1 w2 eT (g := mkF m pc Ls (.int z :: rest)) rfl (hb hb' hd) rfl hz hcap hb8 hc hl had
  exact ⟨T', h', X', e', E, ⟨cA, Arv.new A hz, D, O⟩, q⟩
/-- Object.<init> -/
theorem gInitO {index : Nat} {a : Addr} {wt : Nat} (W : Wk p l e R s m args below meth c Z a0 EL n0 kn wd own bytes ml ws T h k n) (w1 : (Jvm.Cond.methodLink own index Lib.objectInit).before a0 Z = true) (w2 : (Jvm.Cond.instanceMethod Lib.objectInit).before a0 Z = true) (w3 : (Jvm.Cond.code Lib.objectInit ⟨#[0xb1]⟩ 1 none).before a0 Z = true)
    (hd : decode bytes pc = .ok (.invokespecial index, 3)) (hp : pc + 3 = pc') (hsz : Ls.size = ml) (hf : 1 ≤ R.frames) (hW : (rest.map fun v => v.category).sum ≤ wt) (hl : wt + 12 ≤ R.locals)
    (G : ∀ T', Wk p l e R s m args below meth c Z a0 EL n0 kn wd own bytes ml ws T' h k n → Go p e below Φ T' (mkF m pc' Ls rest)) : Go p e below Φ T (mkF m pc Ls (.ref a :: rest)) := by
  subst hp
  exact g3 W (fun vm0 locs X hx hb' hml hZ eT hO => initO X hx hZ hO w1 w2 w3 eT (g := mkF m pc Ls (.ref a :: rest)) rfl (hsz.trans hml.symm) rfl (hb hb' hd) hf (W := wt) (by simpa using hW) hl) G
/-- a store into an array -/
theorem gStC {a : Addr} {kA : ClassId} {z j x : Int32} {vs : List Value} {dv : Value} (W : Wk p l e R s m args below meth c Z a0 EL n0 kn wd own bytes ml ws T h k n) (hn : n0 ≤ a) (A : Arv Z h a kA .char z vs dv) (hj : ¬ j < 0 ∧ j < z) {i : Nat} (hi : j.toNatClampNeg = i) (hv : i < vs.length)
    (hd : decode bytes pc = .ok (.castore, 1)) (hp : pc + 1 = pc') (G : ∀ T' h', Wk p l e R s m args below meth c Z a0 EL n0 kn wd own bytes ml ws T' h' k n → Keep h h' [a] → Arv Z h' a kA .char z (vs.set i (.int (nar .char x))) dv → Go p e below Φ T' (mkF m pc' Ls rest)) : Go p e below Φ T (mkF m pc Ls (.int x :: .int j :: .ref a :: rest)) := by
  subst hp
  obtain ⟨cl, Ar, q1, S, q3, H, Gf⟩ := A
  exact g4 W hn (Or.inr (Or.inr (Or.inr ⟨cl, .char, Ar, by decide⟩))) (fun vm0 locs X hx hb' hZ eT hO => stC X hx hZ eT Ar (j := j) (x := x) (inb_of S hj) (g := mkF m pc Ls (.int x :: .int j :: .ref a :: rest)) rfl rfl (hb hb' hd))
    (fun T' h' W' w => G T' h' W' (Keep.of_wr w) (Arv.set Ar q1 S q3 H Gf (fits_nar_char x) w i hi hv))
theorem gStB {a : Addr} {kA : ClassId} {z j x : Int32} {vs : List Value} {dv : Value} (W : Wk p l e R s m args below meth c Z a0 EL n0 kn wd own bytes ml ws T h k n) (hn : n0 ≤ a) (hsf : a ∈ ws) (A : Arv Z h a kA .byte z vs dv) (hj : ¬ j < 0 ∧ j < z) {i : Nat} (hi : j.toNatClampNeg = i) (hv : i < vs.length)
    (hd : decode bytes pc = .ok (.bastore, 1)) (hp : pc + 1 = pc') (G : ∀ T' h', Wk p l e R s m args below meth c Z a0 EL n0 kn wd own bytes ml ws T' h' k n → Keep h h' [a] → Arv Z h' a kA .byte z (vs.set i (.int x.toInt8.toInt32)) dv → Go p e below Φ T' (mkF m pc' Ls rest)) : Go p e below Φ T (mkF m pc Ls (.int x :: .int j :: .ref a :: rest)) := by
  subst hp
  obtain ⟨cl, Ar, q1, S, q3, H, Gf⟩ := A
  exact g4 W hn (Or.inl hsf) (fun vm0 locs X hx hb' hZ eT hO => stB X hx hZ eT Ar (j := j) (x := x) (inb_of S hj) (g := mkF m pc Ls (.int x :: .int j :: .ref a :: rest)) rfl rfl (hb hb' hd))
    (fun T' h' W' w => G T' h' W' (Keep.of_wr w) (Arv.set Ar q1 S q3 H Gf (fits_nar_byte x) w i hi hv))
theorem gStI {a : Addr} {kA : ClassId} {z j x : Int32} {vs : List Value} {dv : Value} (W : Wk p l e R s m args below meth c Z a0 EL n0 kn wd own bytes ml ws T h k n) (hn : n0 ≤ a) (A : Arv Z h a kA .int z vs dv) (hj : ¬ j < 0 ∧ j < z) {i : Nat} (hi : j.toNatClampNeg = i) (hv : i < vs.length)
    (hd : decode bytes pc = .ok (.iastore, 1)) (hp : pc + 1 = pc') (G : ∀ T' h', Wk p l e R s m args below meth c Z a0 EL n0 kn wd own bytes ml ws T' h' k n → Keep h h' [a] → Arv Z h' a kA .int z (vs.set i (.int x)) dv → Go p e below Φ T' (mkF m pc' Ls rest)) : Go p e below Φ T (mkF m pc Ls (.int x :: .int j :: .ref a :: rest)) := by
  subst hp
  obtain ⟨cl, Ar, q1, S, q3, H, Gf⟩ := A
  exact g4 W hn (Or.inr (Or.inr (Or.inr ⟨cl, .int, Ar, by decide⟩))) (fun vm0 locs X hx hb' hZ eT hO => stI X hx hZ eT Ar (j := j) (x := x) (inb_of S hj) (g := mkF m pc Ls (.int x :: .int j :: .ref a :: rest)) rfl rfl (hb hb' hd))
    (fun T' h' W' w => G T' h' W' (Keep.of_wr w) (Arv.set Ar q1 S q3 H Gf rfl w i hi hv))
theorem gStJ {a : Addr} {kA : ClassId} {z j : Int32} {x : Int64} {vs : List Value} {dv : Value} (W : Wk p l e R s m args below meth c Z a0 EL n0 kn wd own bytes ml ws T h k n) (hn : n0 ≤ a) (A : Arv Z h a kA .long z vs dv) (hj : ¬ j < 0 ∧ j < z) {i : Nat} (hi : j.toNatClampNeg = i) (hv : i < vs.length)
    (hd : decode bytes pc = .ok (.lastore, 1)) (hp : pc + 1 = pc') (G : ∀ T' h', Wk p l e R s m args below meth c Z a0 EL n0 kn wd own bytes ml ws T' h' k n → Keep h h' [a] → Arv Z h' a kA .long z (vs.set i (.long x)) dv → Go p e below Φ T' (mkF m pc' Ls rest)) : Go p e below Φ T (mkF m pc Ls (.long x :: .int j :: .ref a :: rest)) := by
  subst hp
  obtain ⟨cl, Ar, q1, S, q3, H, Gf⟩ := A
  exact g4 W hn (Or.inr (Or.inr (Or.inr ⟨cl, .long, Ar, by decide⟩))) (fun vm0 locs X hx hb' hZ eT hO => stJ X hx hZ eT Ar (j := j) (x := x) (inb_of S hj) (g := mkF m pc Ls (.long x :: .int j :: .ref a :: rest)) rfl rfl (hb hb' hd))
    (fun T' h' W' w => G T' h' W' (Keep.of_wr w) (Arv.set Ar q1 S q3 H Gf rfl w i hi hv))
/-- what an array holds at a place -/
theorem Arv.look {a : Addr} {kA : ClassId} {ty : FieldType} {z j : Int32} {vs : List Value} {dv v : Value} (A : Arv Z h a kA ty z vs dv) (hj : ¬ j < 0 ∧ j < z) (hv : vs.getD j.toNatClampNeg dv = v) : ∃ cl : Cell, Arr Z h a cl ty ∧ ¬ (j < 0 ∨ cl.slots.size ≤ j.toNatClampNeg) ∧ cl.slots[j.toNatClampNeg]? = some v := by
  obtain ⟨cl, Ar, q1, S, q3, H, Gf⟩ := A
  exact ⟨cl, Ar, inb_of S hj, H.at (inb_of S hj) hv⟩
theorem gLdC {a : Addr} {kA : ClassId} {z j : Int32} {vs : List Value} {dv v : Value} (W : Wk p l e R s m args below meth c Z a0 EL n0 kn wd own bytes ml ws T h k n) (A : Arv Z h a kA .char z vs dv) (hj : ¬ j < 0 ∧ j < z) (hv : vs.getD j.toNatClampNeg dv = v)
    (hd : decode bytes pc = .ok (.caload, 1)) (hp : pc + 1 = pc') (G : Go p e below Φ T (mkF m pc' Ls (v :: rest))) : Go p e below Φ T (mkF m pc Ls (.int j :: .ref a :: rest)) := by
  subst hp
  obtain ⟨cl, Ar, i1, i2⟩ := Arv.look A hj hv
  exact g2 W (fun vm0 locs X hx hb' hZ eT hO t q => X.caload hx (by rw [eT]; exact Ar.1) (State.isArrayOf_alike hZ.alike Ar.2.1) Ar.2.2 i1 i2 (g := mkF m pc Ls (.int j :: .ref a :: rest)) rfl rfl (hb hb' hd) t q) G
theorem gLdB {a : Addr} {kA : ClassId} {z j : Int32} {vs : List Value} {dv v : Value} (W : Wk p l e R s m args below meth c Z a0 EL n0 kn wd own bytes ml ws T h k n) (A : Arv Z h a kA .byte z vs dv) (hj : ¬ j < 0 ∧ j < z) (hv : vs.getD j.toNatClampNeg dv = v)
    (hd : decode bytes pc = .ok (.baload, 1)) (hp : pc + 1 = pc') (G : Go p e below Φ T (mkF m pc' Ls (v :: rest))) : Go p e below Φ T (mkF m pc Ls (.int j :: .ref a :: rest)) := by
  subst hp
  obtain ⟨cl, Ar, i1, i2⟩ := Arv.look A hj hv
  exact g2 W (fun vm0 locs X hx hb' hZ eT hO t q => X.baloadBytes hx (by rw [eT]; exact Ar.1) (State.isArrayOf_alike hZ.alike Ar.2.1) Ar.2.2 i1 i2 (g := mkF m pc Ls (.int j :: .ref a :: rest)) rfl rfl (hb hb' hd) t q) G
theorem gLdI {a : Addr} {kA : ClassId} {z j : Int32} {vs : List Value} {dv v : Value} (W : Wk p l e R s m args below meth c Z a0 EL n0 kn wd own bytes ml ws T h k n) (A : Arv Z h a kA .int z vs dv) (hj : ¬ j < 0 ∧ j < z) (hv : vs.getD j.toNatClampNeg dv = v)
    (hd : decode bytes pc = .ok (.iaload, 1)) (hp : pc + 1 = pc') (G : Go p e below Φ T (mkF m pc' Ls (v :: rest))) : Go p e below Φ T (mkF m pc Ls (.int j :: .ref a :: rest)) := by
  subst hp
  obtain ⟨cl, Ar, i1, i2⟩ := Arv.look A hj hv
  exact g2 W (fun vm0 locs X hx hb' hZ eT hO t q => X.iaload hx (by rw [eT]; exact Ar.1) (State.isArrayOf_alike hZ.alike Ar.2.1) Ar.2.2 i1 i2 (g := mkF m pc Ls (.int j :: .ref a :: rest)) rfl rfl (hb hb' hd) t q) G
theorem gLdJ {a : Addr} {kA : ClassId} {z j : Int32} {vs : List Value} {dv v : Value} (W : Wk p l e R s m args below meth c Z a0 EL n0 kn wd own bytes ml ws T h k n) (A : Arv Z h a kA .long z vs dv) (hj : ¬ j < 0 ∧ j < z) (hv : vs.getD j.toNatClampNeg dv = v)
    (hd : decode bytes pc = .ok (.laload, 1)) (hp : pc + 1 = pc') (G : Go p e below Φ T (mkF m pc' Ls (v :: rest))) : Go p e below Φ T (mkF m pc Ls (.int j :: .ref a :: rest)) := by
  subst hp
  obtain ⟨cl, Ar, i1, i2⟩ := Arv.look A hj hv
  exact g2 W (fun vm0 locs X hx hb' hZ eT hO t q => X.laload hx (by rw [eT]; exact Ar.1) (State.isArrayOf_alike hZ.alike Ar.2.1) Ar.2.2 i1 i2 (g := mkF m pc Ls (.int j :: .ref a :: rest)) rfl rfl (hb hb' hd) t q) G
theorem gLdA {a : Addr} {kA : ClassId} {ty : FieldType} {z j : Int32} {vs : List Value} {dv v : Value} (W : Wk p l e R s m args below meth c Z a0 EL n0 kn wd own bytes ml ws T h k n) (A : Arv Z h a kA ty z vs dv) (hty : ty.isReference = true) (hj : ¬ j < 0 ∧ j < z) (hv : vs.getD j.toNatClampNeg dv = v)
    (hd : decode bytes pc = .ok (.aaload, 1)) (hp : pc + 1 = pc') (G : Go p e below Φ T (mkF m pc' Ls (v :: rest))) : Go p e below Φ T (mkF m pc Ls (.int j :: .ref a :: rest)) := by
  subst hp
  obtain ⟨cl, Ar, i1, i2⟩ := Arv.look A hj hv
  exact g2 W (fun vm0 locs X hx hb' hZ eT hO t q => X.aaload hx (by rw [eT]; exact Ar.1) (State.isArrayOf_alike hZ.alike Ar.2.1) hty Ar.2.2 i1 i2 (g := mkF m pc Ls (.int j :: .ref a :: rest)) rfl rfl (hb hb' hd) t q) G
theorem gLen {a : Addr} {kA : ClassId} {ty : FieldType} {z : Int32} {vs : List Value} {dv : Value} (W : Wk p l e R s m args below meth c Z a0 EL n0 kn wd own bytes ml ws T h k n) (A : Arv Z h a kA ty z vs dv)
    (hd : decode bytes pc = .ok (.arraylength, 1)) (hp : pc + 1 = pc') (G : Go p e below Φ T (mkF m pc' Ls (.int z :: rest))) : Go p e below Φ T (mkF m pc Ls (.ref a :: rest)) := by
  subst hp
  obtain ⟨cl, Ar, q1, S, q3, H, Gf⟩ := A
  refine g2 W (fun vm0 locs X hx hb' hZ eT hO t q => X.arraylength hx (by rw [eT]; exact Ar.1) (State.isArrayOf_alike hZ.alike Ar.2.1) (g := mkF m pc Ls (.ref a :: rest)) rfl rfl (hb hb' hd) t ?_) G
  rw [len_of S q3]
  exact q
/-- ldc of a String constant that may be read -/
theorem gLdcS {index : Nat} {text : String} {vs : List Value} {z : Int32} {nn : Nat} (W : Wk p l e R s m args below meth c Z a0 EL n0 kn true own bytes ml ws T h k n) (w : (Jvm.Cond.stringLink own index text).before a0 Z = true) (wS : ∀ a ∈ Bundle.stringAtoms, a.before a0 Z = true) (hmem : (own, index) ∈ EL)
    (ht : (∀ c ∈ text.toList, c.toNat < 256) ∧ text.toList.map (fun c => Value.int (Jvm.Lit.byteI c.toNat.toUInt16)) = vs) (hz : ¬ z < 0) (hlz : z.toNatClampNeg = vs.length) (hd : decode bytes pc = .ok (.ldc index, 2)) (hp : pc + 2 = pc') (hn : 4 * text.toList.length ≤ nn) (hbig : nn ≤ 536870912) (hc : k + 2 ≤ R.cells) (hl : n + (nn + 4) ≤ R.slots)
    (G : ∀ T' h' a b kB, Wk p l e R s m args below meth c Z a0 EL n0 kn true own bytes ml ws T' h' (k + 2) (n + (nn + 4)) → Ext h h' → Exa Z h' a "java/lang/String" → Fld Z h' a "java/lang/String" "coder" "B" (.int 0) → Fld Z h' a "java/lang/String" "value" "[B" (.ref b) → Arv Z h' b kB .byte z vs (.int 0) → (∀ x ∈ ws, x ≠ a ∧ x ≠ b) → Go p e below Φ T' (mkF m pc' Ls (.ref a :: st))) : Go p e below Φ T (mkF m pc Ls st) := by
  subst hp
  obtain ⟨⟨hx, hb', hml, hO, hE, hrest⟩, vm0, k0, locs, X, eT, hS, hk, hZ, hC, hws, hF, hwd, hOl⟩ := W
  obtain ⟨a, T', h', k1, b, kB, X', e', E, hS', hk', hZ', -, A, F1, F2, V, -, -, hC', -, hne, q⟩ := ldcCH X hx hZ ((hZ.alike.findClass own _).trans hO) w wS eT hS hk hE hmem hC.1 ht hz hlz (g := mkF m pc Ls st) rfl (hb hb' hd) hn hbig hc hl
  have sz : ∀ x ∈ ws, x < h'.size ∧ Safe Z EL T'.vm h' x := fun x hx' => ⟨Nat.lt_of_lt_of_le (hws x hx').1 E.1, hC'.safe (hws x hx').1 (hws x hx').2⟩
  exact (G T' h' a b kB ⟨⟨hx, hb', hml, hO, hE, hrest⟩, T'.vm, k1, locs, X', e', hS', hk', hZ', hC.trans hC', sz, hF, (fun q => by cases q), hOl.ext E⟩ E A F1 F2 V (fun x hx' => hne x (sz x hx').2)).back q
/-- the end -/
theorem gEnd {f : JFrame} {v : Option Value} {rc rs : Nat} {Q : Option Value → Heap → Prop} (W : Wk p l e R s m args below meth c Z a0 EL n0 kn wd own bytes ml ws T h k n) (hv : meth.sig.returnType = none → v = none) (hk : k ≤ rc) (hn : n ≤ rs) (hq : Q v h)
    (hs : ∀ (vm0 : Vm) (locs : List Loc) (fs : List Frame), Stand p l e R (s.setVm vm0) m args below meth c T locs k n → p.tables.exec = Jvm.exec → c.code = bytes → (∀ (f : JFrame) (acts : List Action), f.method = m → f.locked = none → f.entered = [] → (doReturn e (T.setTop f) acts v).1 = T.setFrames fs) → Steps p.tables e below (T.setTop f) (T.setFrames fs)) :
    Go p e below (Po s Z EL n0 wd rc rs Q) T f := by
  obtain ⟨⟨hx, hb', hml, hO, hE, hlk, hrest⟩, vm0, k0, locs, X, eT, hS, hk0, hZ, hC, hws, hF, hwd, hOl⟩ := W
  obtain ⟨fs, hr, hrun, hend, hret⟩ := X.leaveW hS (by rw [eT]; exact hk0) hv hlk
  refine ⟨T.setFrames fs, _, hs vm0 locs fs X hx hb' hr, hrun, hend, v, locs, rfl, by rw [show (T.setFrames fs).heap = T.heap from rfl, eT]; exact hq, hF, ?_, fun q => State.WarmedH.trans (hwd q) (show (s.setVm vm0).WarmedH T.vm from X.warmed), by rw [show (T.setFrames fs).heap = T.heap from rfl, eT]; exact hOl, hret.1, hret.2.1, hret.2.2.1, hret.2.2.2.mono hk hn⟩
  have q := hC.trans (CHv.at X hZ hE hC.1)
  rw [show (T.setFrames fs).heap = T.heap from rfl, show (T.setFrames fs).vm = T.vm from rfl, eT]
  exact q
theorem gRetN {x : Int32} {t : FieldType} {rc rs : Nat} {Q : Option Value → Heap → Prop} (W : Wk p l e R s m args below meth c Z a0 EL n0 kn wd own bytes ml ws T h k n) (hret : meth.sig.returnType = some t) (ht : t = .boolean ∨ t = .byte ∨ t = .char ∨ t = .short) (hd : decode bytes pc = .ok (.ireturn, 1)) (hk : k ≤ rc) (hn : n ≤ rs) (hq : Q (some (.int (nar t x))) h) :
    Go p e below (Po s Z EL n0 wd rc rs Q) T (mkF m pc Ls (.int x :: rest)) :=
  gEnd W (fun q => by rw [hret] at q; cases q) hk hn hq (fun vm0 locs fs X hx hb' hr => retN X hx hret ht (hb hb' hd) hr)
theorem gRetI {x : Int32} {rc rs : Nat} {Q : Option Value → Heap → Prop} (W : Wk p l e R s m args below meth c Z a0 EL n0 kn wd own bytes ml ws T h k n) (hret : meth.sig.returnType = some .int) (hd : decode bytes pc = .ok (.ireturn, 1)) (hk : k ≤ rc) (hn : n ≤ rs) (hq : Q (some (.int x)) h) :
    Go p e below (Po s Z EL n0 wd rc rs Q) T (mkF m pc Ls (.int x :: rest)) :=
  gEnd W (fun q => by rw [hret] at q; cases q) hk hn hq (fun vm0 locs fs X hx hb' hr => retI X hx hret (hb hb' hd) hr)
theorem gRetV {rc rs : Nat} {Q : Option Value → Heap → Prop} (W : Wk p l e R s m args below meth c Z a0 EL n0 kn wd own bytes ml ws T h k n) (hret : meth.sig.returnType = none) (hd : decode bytes pc = .ok (.return_, 1)) (hk : k ≤ rc) (hn : n ≤ rs) (hq : Q none h) :
    Go p e below (Po s Z EL n0 wd rc rs Q) T (mkF m pc Ls []) :=
  gEnd W (fun _ => rfl) hk hn hq (fun vm0 locs fs X hx hb' hr => X.returnOut hx hret (hb hb' hd) hr)
theorem gRetJ {x : Int64} {rc rs : Nat} {Q : Option Value → Heap → Prop} (W : Wk p l e R s m args below meth c Z a0 EL n0 kn wd own bytes ml ws T h k n) (hret : meth.sig.returnType = some .long) (hd : decode bytes pc = .ok (.lreturn, 1)) (hk : k ≤ rc) (hn : n ≤ rs) (hq : Q (some (.long x)) h) :
    Go p e below (Po s Z EL n0 wd rc rs Q) T (mkF m pc Ls (.long x :: rest)) :=
  gEnd W (fun q => by rw [hret] at q; cases q) hk hn hq (fun vm0 locs fs X hx hb' hr => by
    have hd' := hb hb' hd
    jvm_step X.here [X.here.top, hx, hd', X.method', hret, narrow]
    first | (intro acts; rw [hr _ acts rfl rfl rfl]) | rw [hr _ _ rfl rfl rfl]
    exact Steps.refl _)
theorem gRetA {v : Value} {t : FieldType} {rc rs : Nat} {Q : Option Value → Heap → Prop} (W : Wk p l e R s m args below meth c Z a0 EL n0 kn wd own bytes ml ws T h k n) (hret : meth.sig.returnType = some t) (ht : t.isReference = true) (hv : v.isRef = true) (hd : decode bytes pc = .ok (.areturn, 1)) (hk : k ≤ rc) (hn : n ≤ rs) (hq : Q (some v) h) :
    Go p e below (Po s Z EL n0 wd rc rs Q) T (mkF m pc Ls (v :: rest)) :=
  gEnd W (fun q => by rw [hret] at q; cases q) hk hn hq (fun vm0 locs fs X hx hb' hr => by
    have hd' := hb hb' hd
    jvm_step X.here [X.here.top, hx, hd', X.method', hret, ht, hv]
    first | (intro acts; rw [hr _ acts rfl rfl rfl]) | rw [hr _ _ rfl rfl rfl]
    exact Steps.refl _)
/-- a callee by its contract: what the walk's own laws ask of it -/
theorem Ct.backS {y : MethodName} {bytes' : ByteArray} {ml' : Nat} {ret' : Option FieldType} {rm : Room} {ws' : List Addr} {as' : Array Value} {Q : Option Value → Heap → Prop} {len wt : Nat} {vm0 : Vm} (C : Ct l Z a0 EL n0 kn wd y bytes' ml' ret' [] rm ws' as' h Q)
    (hZ : Z.Warmed39 vm0) (wc : (Jvm.Cond.code y bytes' ml' ret').before a0 Z = true) (wz : (Jvm.Cond.initialized y.cls).before a0 Z = true) (hf : rm.frames + 1 ≤ R.frames) (hl : wt + (ml' + 11) + rm.locals ≤ R.locals) (hEL : EW Z a0 EL) (H : CHv Z EL vm0 h) (hOl : Old Z n0 h) (hws : ∀ x ∈ ws', x < h.size ∧ Safe Z EL vm0 h x) (hkn : kn = true → vm0.MethodsKnown ∧ vm0.FramesKnown below) :
    BackS l R p e below (s.setVm vm0) args y len wt (fun A a => a = as' ∧ A.U.heap = h ∧ A.cells + rm.cells ≤ R.cells ∧ A.slots + rm.slots ≤ R.slots)
      (fun A _ v B => ∃ L, Q v B.U.heap ∧ Fr n0 L ∧ B.locs = A.locs ++ L ∧ B.cells = A.cells + rm.cells ∧ B.slots = A.slots + rm.slots ∧ CHr Z EL vm0 h B.U.vm B.U.heap ∧ (wd = false → (s.setVm vm0).WarmedH B.U.vm) ∧ Old Z n0 B.U.heap) := by
  refine BackS.of_freeWG (bytes := bytes') (maxL := ml') (ret := ret') (E := fun _ first o t L k n => k = rm.cells ∧ n = rm.slots ∧ (∃ v, o = .returned v ∧ Q v t.heap ∧ Fr n0 L) ∧ CHr Z EL first.vm first.heap t.vm t.heap ∧ (wd = false → first.WarmedH t.vm) ∧ Old Z n0 t.heap) C hf hl ?_ ?_ ?_ ?_ ?_
  · intro m meth c A a Y hp
    have hU : Z.Warmed39 A.U.vm := wtrans (s := s.setVm vm0) hZ Y.warmed
    exact ⟨by show (Jvm.Cond.and _ .tt).before a A.U = true; rw [Cond.before_and, mv hU wc]; rfl, mv hU wc, mv hU wz, hp.2.2.1, hp.2.2.2⟩
  · intro m meth c A a g mk Y hp
    have q := CHv.at Y hZ hEL H
    exact ⟨hp.1, wtrans (s := s.setVm vm0) hZ Y.warmed, hp.2.1, q.1, hOl, fun x hx => ⟨(hws x hx).1, q.safe (hws x hx).1 (hws x hx).2⟩⟩
  · intro m meth c A a g mk Y _ hg q
    exact known_frames Y hg (hkn q).1 (hkn q).2
  · intro a first o t hq
    obtain ⟨v, L, h1, h2, h3, h4, h5, h7, h6⟩ := hq
    exact ⟨L, _, _, h6, rfl, rfl, ⟨v, h1, h2, h3⟩, h4, h5, h7⟩
  · intro m meth c A a g mk v t L k n Y hp _ _ hE
    obtain ⟨e1, e2, ⟨v', e3, e4, e5⟩, e6, e7, e8⟩ := hE
    cases e3; subst e1 e2
    refine ⟨L, e4, e5, rfl, rfl, rfl, (CHv.at Y hZ hEL H).trans ?_, fun q => State.WarmedH.trans Y.warmed (show A.U.WarmedH _ from e7 q), e8⟩
    rw [← hp.2.1]; exact e6
/-- behind a call -/
theorem Wk.after {T' : State} {locs L : List Loc} {vm0 : Vm} {k0 k' n' : Nat} (hall : p.tables.exec = Jvm.exec ∧ c.code = bytes ∧ c.maxLocals = ml ∧ Z.vm.findClass own = some m.cls ∧ EW Z a0 EL ∧ meth.locks = false ∧ (kn = true → s.vm.MethodsKnown ∧ s.vm.FramesKnown below)) (hS : s.Since vm0 k0) (hk : k0 ≤ h.size) (hZ : Z.Warmed39 vm0) (hC : CHr Z EL s.vm s.heap vm0 h) (hws : ∀ x ∈ ws, x < h.size ∧ Safe Z EL vm0 h x) (hF : Fr n0 locs) (hwd : wd = false → s.WarmedH vm0)
    (X' : Stand p l e R ((s.setVm vm0).setVm T'.vm) m args below meth c T' (locs ++ L) k' n') (h2 : (s.setVm vm0).Since T'.vm T'.heap.size) (hg : h.size ≤ T'.heap.size) (hF' : Fr n0 L) (hC' : CHr Z EL vm0 h T'.vm T'.heap) (hwd' : wd = false → (s.setVm vm0).WarmedH T'.vm) (hOl : Old Z n0 T'.heap) :
    Wk p l e R s m args below meth c Z a0 EL n0 kn wd own bytes ml ws T' T'.heap k' n' :=
  ⟨hall, T'.vm, T'.heap.size, locs ++ L, X', rfl, hS.trans h2 (Nat.le_trans hk hg), Nat.le_refl _, State.Warmed39.trans (t := s.setVm vm0) hZ h2.1, hC.trans hC', fun x hx => ⟨Nat.lt_of_lt_of_le (hws x hx).1 hg, hC'.safe (hws x hx).1 (hws x hx).2⟩, hF.app hF', (fun q => State.WarmedH.trans (hwd q) (hwd' q)), hOl⟩
/-- a static call -/
theorem gStatic {index : Nat} {y : MethodName} {bytes' : ByteArray} {ml' : Nat} {ret' : Option FieldType} {rm : Room} {ws' : List Addr} {as' : Array Value} {Q : Option Value → Heap → Prop} {argsL : List Value} {wt : Nat} {ps : List FieldType} {rt : Option FieldType} (W : Wk p l e R s m args below meth c Z a0 EL n0 kn wd own bytes ml ws T h k n)
    (w1 : (Jvm.Cond.methodLink own index y).before a0 Z = true) (w2 : (Jvm.Cond.static y).before a0 Z = true) (w3 : (Jvm.Cond.initialized y.cls).before a0 Z = true) (w4 : (Jvm.Cond.code y bytes' ml' ret').before a0 Z = true) (hy : y.cls ≠ "java/lang/invoke/MethodHandle" ∧ y.cls ≠ "java/lang/invoke/VarHandle") (hdsc : parseMethodDescriptor y.desc = some ⟨ps, rt⟩)
    (C : Ct l Z a0 EL n0 kn wd y bytes' ml' ret' [] rm ws' as' h Q) (hsub : ∀ x ∈ ws', x ∈ ws) (hd : decode bytes pc = .ok (.invokestatic index, 3)) (hp : pc + 3 = pc') (hsz : Ls.size = ml) (has : argsL.toArray = as') (hlen : argsL.length = ps.length) (hst : st = argsL.reverse ++ rest) (hW : (rest.map fun v => v.category).sum ≤ wt)
    (hf : rm.frames + 1 ≤ R.frames) (hl : wt + (ml' + 11) + rm.locals ≤ R.locals) (hc : k + rm.cells ≤ R.cells) (hs : n + rm.slots ≤ R.slots)
    (G : ∀ v T' h', Wk p l e R s m args below meth c Z a0 EL n0 kn wd own bytes ml ws T' h' (k + rm.cells) (n + rm.slots) → h.size ≤ h'.size → Q v h' → Go p e below Φ T' (mkF m pc' Ls (v.toList ++ rest))) : Go p e below Φ T (mkF m pc Ls st) := by
  subst hp has
  obtain ⟨hall, vm0, k0, locs, X, eT, hS, hk, hZ, hC, hws, hF, hwd, hOl⟩ := W
  have hall' := hall
  obtain ⟨hx, hb', hml, hO, hE, hlk, hkn⟩ := hall'
  have hkn' : kn = true → vm0.MethodsKnown ∧ vm0.FramesKnown below := fun q => known_vm hS.1 (hkn q)
  obtain ⟨v, vm₁, ⟨T', L', c', n'⟩, -, X', h2, hg, ⟨L, hQ, hF', l', y', z', hC', hwd', hOl'⟩, stp⟩ := callSS X hx (y := y) ((hZ.alike.findClass own _).trans hO) (mv (s := s.setVm vm0) hZ w1) (mv (s := s.setVm vm0) hZ w2) (mv (s := s.setVm vm0) hZ w3) (mv (s := s.setVm vm0) hZ w4) hy
    (C.backS (p := p) (e := e) (R := R) (s := s) (args := args) (below := below) (wt := wt) hZ w4 w3 hf hl hE hC.1 hOl (fun x q => hws x (hsub x q)) hkn') (g := mkF m pc Ls st) rfl (hsz.trans hml.symm) (argsL := argsL) (rest := rest) (lenOf hdsc hlen) hst (by simpa using hW) (hb hb' hd) (fun _ _ => ⟨rfl, eT, hc, hs⟩)
  dsimp only [Pt.U, Pt.locs, Pt.cells, Pt.slots] at X' h2 hg l' y' z' stp hQ hC' hwd' hOl'
  subst l' y' z'
  rw [eT] at hg
  exact (G v T' T'.heap (Wk.after hall hS hk hZ hC hws hF hwd X' h2 hg hF' hC' hwd' hOl') hg hQ).back fun t q => stp.trans q
/-- a constructor -/
theorem gSpecial {index : Nat} {y : MethodName} {bytes' : ByteArray} {ml' : Nat} {rm : Room} {ws' : List Addr} {as' : Array Value} {Q : Option Value → Heap → Prop} {argsL : List Value} {a : Addr} {wt : Nat} {ps : List FieldType} {rt : Option FieldType} (W : Wk p l e R s m args below meth c Z a0 EL n0 kn wd own bytes ml ws T h k n) (hy1 : y.name = "<init>")
    (w1 : (Jvm.Cond.methodLink own index y).before a0 Z = true) (w2 : (Jvm.Cond.instanceMethod y).before a0 Z = true) (w3 : (Jvm.Cond.initialized y.cls).before a0 Z = true) (w4 : (Jvm.Cond.code y bytes' ml' none).before a0 Z = true) (hy : y.cls ≠ "java/lang/invoke/MethodHandle" ∧ y.cls ≠ "java/lang/invoke/VarHandle") (hdsc : parseMethodDescriptor y.desc = some ⟨ps, rt⟩)
    (C : Ct l Z a0 EL n0 kn wd y bytes' ml' none [] rm ws' as' h Q) (hsub : ∀ x ∈ ws', x ∈ ws) (hd : decode bytes pc = .ok (.invokespecial index, 3)) (hp : pc + 3 = pc') (hsz : Ls.size = ml) (has : (.ref a :: argsL).toArray = as') (hlen : argsL.length = ps.length) (hst : st = argsL.reverse ++ .ref a :: rest) (hW : (rest.map fun v => v.category).sum ≤ wt)
    (hf : rm.frames + 1 ≤ R.frames) (hl : wt + (ml' + 11) + rm.locals ≤ R.locals) (hc : k + rm.cells ≤ R.cells) (hs : n + rm.slots ≤ R.slots)
    (G : ∀ v T' h', Wk p l e R s m args below meth c Z a0 EL n0 kn wd own bytes ml ws T' h' (k + rm.cells) (n + rm.slots) → h.size ≤ h'.size → Q v h' → Go p e below Φ T' (mkF m pc' Ls (v.toList ++ rest))) : Go p e below Φ T (mkF m pc Ls st) := by
  subst hp has
  obtain ⟨hall, vm0, k0, locs, X, eT, hS, hk, hZ, hC, hws, hF, hwd, hOl⟩ := W
  have hall' := hall
  obtain ⟨hx, hb', hml, hO, hE, hlk, hkn⟩ := hall'
  have hkn' : kn = true → vm0.MethodsKnown ∧ vm0.FramesKnown below := fun q => known_vm hS.1 (hkn q)
  obtain ⟨v, vm₁, ⟨T', L', c', n'⟩, -, X', h2, hg, ⟨L, hQ, hF', l', y', z', hC', hwd', hOl'⟩, stp⟩ := X.specialBackS hx (y := y) hy1 ((hZ.alike.findClass own _).trans hO) (mv (s := s.setVm vm0) hZ w1) (mv (s := s.setVm vm0) hZ w2) (mv (s := s.setVm vm0) hZ w4) hy
    (C.backS (p := p) (e := e) (R := R) (s := s) (args := args) (below := below) (wt := wt) hZ w4 w3 hf hl hE hC.1 hOl (fun x q => hws x (hsub x q)) hkn') (g := mkF m pc Ls st) rfl (hsz.trans hml.symm) (Steps.refl _) (a := a) (argsL := argsL) (rest := rest) (lenOf hdsc hlen) hst (by simpa using hW) (hb hb' hd) (fun _ _ => ⟨rfl, eT, hc, hs⟩)
  dsimp only [Pt.U, Pt.locs, Pt.cells, Pt.slots] at X' h2 hg l' y' z' stp hQ hC' hwd' hOl'
  subst l' y' z'
  rw [eT] at hg
  exact (G v T' T'.heap (Wk.after hall hS hk hZ hC hws hF hwd X' h2 hg hF' hC' hwd' hOl') hg hQ).back fun t q => stp.trans q
/-- an instance method of the class that declares it -/
theorem gVirtual {index : Nat} {y z : MethodName} {C' : String} {bytes' : ByteArray} {ml' : Nat} {ret' : Option FieldType} {rm : Room} {ws' : List Addr} {as' : Array Value} {Q : Option Value → Heap → Prop} {argsL : List Value} {a : Addr} {wt : Nat} {ps : List FieldType} {rt : Option FieldType} (W : Wk p l e R s m args below meth c Z a0 EL n0 kn wd own bytes ml ws T h k n) (E : Exa Z h a C')
    (w1 : (Jvm.Cond.methodLink own index y).before a0 Z = true) (w2 : (Jvm.Cond.declares y).before a0 Z = true) (nf : ∀ s : State, Z.Warmed39 s.vm → NotFace s y) (w5 : (Jvm.Cond.selects C' y z).before a0 Z = true) (w6 : (Jvm.Cond.instanceMethod z).before a0 Z = true) (w3 : (Jvm.Cond.initialized z.cls).before a0 Z = true) (w4 : (Jvm.Cond.code z bytes' ml' ret').before a0 Z = true) (hy : y.cls ≠ "java/lang/invoke/MethodHandle" ∧ y.cls ≠ "java/lang/invoke/VarHandle") (hdsc : parseMethodDescriptor y.desc = some ⟨ps, rt⟩)
    (C : Ct l Z a0 EL n0 kn wd z bytes' ml' ret' [] rm ws' as' h Q) (hsub : ∀ x ∈ ws', x ∈ ws) (hd : decode bytes pc = .ok (.invokevirtual index, 3)) (hp : pc + 3 = pc') (hsz : Ls.size = ml) (has : (.ref a :: argsL).toArray = as') (hlen : argsL.length = ps.length) (hst : st = argsL.reverse ++ .ref a :: rest) (hW : (rest.map fun v => v.category).sum ≤ wt)
    (hf : rm.frames + 1 ≤ R.frames) (hl : wt + (ml' + 11) + rm.locals ≤ R.locals) (hc : k + rm.cells ≤ R.cells) (hs : n + rm.slots ≤ R.slots)
    (G : ∀ v T' h', Wk p l e R s m args below meth c Z a0 EL n0 kn wd own bytes ml ws T' h' (k + rm.cells) (n + rm.slots) → h.size ≤ h'.size → Q v h' → Go p e below Φ T' (mkF m pc' Ls (v.toList ++ rest))) : Go p e below Φ T (mkF m pc Ls st) := by
  subst hp has
  obtain ⟨hall, vm0, k0, locs, X, eT, hS, hk, hZ, hC, hws, hF, hwd, hOl⟩ := W
  have hall' := hall
  obtain ⟨hx, hb', hml, hO, hE, hlk, hkn⟩ := hall'
  have hkn' : kn = true → vm0.MethodsKnown ∧ vm0.FramesKnown below := fun q => known_vm hS.1 (hkn q)
  obtain ⟨cq, kq, qa, qb, qc⟩ := isOf (s := s.setVm vm0) hZ eT E
  obtain ⟨v, vm₁, ⟨T', L', c', n'⟩, -, X', h2, hg, ⟨L, hQ, hF', l', y', z', hC', hwd', hOl'⟩, stp⟩ := X.virtualBackS hx (y := y) (z := z) ((hZ.alike.findClass own _).trans hO) (mv (s := s.setVm vm0) hZ w1) (mv (s := s.setVm vm0) hZ w2) (nf (s.setVm vm0) hZ) (mv (s := s.setVm vm0) hZ w5) (mv (s := s.setVm vm0) hZ w6) hy
    (C.backS (p := p) (e := e) (R := R) (s := s) (args := args) (below := below) (wt := wt) hZ w4 w3 hf hl hE hC.1 hOl (fun x q => hws x (hsub x q)) hkn') qa qc (g := mkF m pc Ls st) rfl (hsz.trans hml.symm) (Steps.refl _) (argsL := argsL) (rest := rest) (lenOf hdsc hlen) hst (by simpa using hW) (hb hb' hd) (fun _ _ => ⟨rfl, eT, hc, hs⟩)
  dsimp only [Pt.U, Pt.locs, Pt.cells, Pt.slots] at X' h2 hg l' y' z' stp hQ hC' hwd' hOl'
  subst l' y' z'
  rw [eT] at hg
  exact (G v T' T'.heap (Wk.after hall hS hk hZ hC hws hF hwd X' h2 hg hF' hC' hwd' hOl') hg hQ).back fun t q => stp.trans q
/-- a contract out of a walk -/
theorem Ct.of {y : MethodName} {ret : Option FieldType} {cs : List Jvm.Cond} {rm : Room} {as' : Array Value} {Q : Option Value → Heap → Prop} (hpl : plainFor y = true) (hEL : EW Z a0 EL)
    (body : ∀ (p : Program) (e : Env) (s : State) (m : MethodId) (below : List Frame) (meth : Method) (c : Code) (T : State), Wk p l e rm s m as' below meth c Z a0 EL n0 kn wd y.cls bytes ml ws T h 0 0 → meth.sig.returnType = ret → meth.name = y.name → s.heap = h → Go p e below (Po s Z EL n0 wd rm.cells rm.slots Q) T (entryFrame m as' ml)) :
    Ct l Z a0 EL n0 kn wd y bytes ml ret cs rm ws as' h Q := by
  refine MetFree.of_bodySF hpl hisR ?_
  intro p e s m args below meth c s₁ Bd hml hP hK
  obtain ⟨rfl, hZ, hh, hC, hOl, hws⟩ := hP
  have hown : s.vm.findClass y.cls = some m.cls := findClass_of_methodNamed Bd.named
  have X0 := Stand.of_body Bd
  have e0 : s₁.heap = h := by rw [← hh, Bd.state]; rfl
  have hO : Z.vm.findClass y.cls = some m.cls := by rw [← hZ.alike.findClass]; exact hown
  have hst : s₁.vm = s.vm := by rw [Bd.state]; rfl
  refine body p e s m below meth c s₁ ⟨⟨Bd.exec, Bd.bytes, hml, hO, hEL, BodyLoose.notSynchronized Bd, hK⟩, s.vm, 0, [], X0, e0, (State.WarmedH.refl s).since _, Nat.zero_le _, hZ, ?_, hws, Fr.nil n0, (fun _ => State.WarmedH.refl s), hOl⟩ Bd.returns (name_of_methodNamed Bd.named Bd.method).1 hh
  rw [hh]
  exact CHr.refl hC
end OwnLayer
section OwnLayerMore
variable {p : Program} {l : Launch} {e : Env} {R : Room} {s : State} {m : MethodId} {args : Array Value} {below : List Frame} {meth : Method} {c : Code} {Z : State} {a0 : Array Value} {EL : List (String × Nat)} {n0 : Nat} {kn wd : Bool} {own : String} {bytes : ByteArray} {ml : Nat} {ws : List Addr} {T : State} {h : Heap} {k n : Nat} {Φ : Outcome → State → Prop} {pc pc' : Nat} {Ls : Array Slot} {st rest : List Value}
/-- instanceof, no -/
theorem gInsN {K C : String} {index : Nat} {a : Addr} (W : Wk p l e R s m args below meth c Z a0 EL n0 kn wd own bytes ml ws T h k n) (w : (Jvm.Cond.classLink own index K).before a0 Z = true) (E : Exa Z h a C) (F : ∃ c t, Z.vm.findClass C = some c ∧ Z.vm.findClass K = some t ∧ Z.vm.assignable c t = false)
    (hd : decode bytes pc = .ok (.instanceof index, 3)) (hp : pc + 3 = pc') (G : ∀ T', Wk p l e R s m args below meth c Z a0 EL n0 kn wd own bytes ml ws T' h k n → Go p e below Φ T' (mkF m pc' Ls (.int 0 :: rest))) : Go p e below Φ T (mkF m pc Ls (.ref a :: rest)) := by
  subst hp
  exact g3 W (fun vm0 locs X hx hb' _ hZ eT hO => instNo X hx hZ hO w eT E F (g := mkF m pc Ls (.ref a :: rest)) rfl rfl (hb hb' hd)) G
theorem noSub {C S K : String} {nK : Nat} (w : (Jvm.Cond.superclass C S).before a0 Z = true) (w0 : (Jvm.Cond.noSuperclass S).before a0 Z = true) (wk : (Jvm.Cond.instantiable K nK).before a0 Z = true) (h1 : C ≠ K) (h2 : S ≠ K) : ∃ c t, Z.vm.findClass C = some c ∧ Z.vm.findClass K = some t ∧ Z.vm.assignable c t = false := by
  obtain ⟨t, kt, g1, g2, g3, g4, -⟩ := Cond.instantiable_spec wk
  obtain ⟨cc, q0⟩ := found_sup w
  obtain ⟨pp, kc, kp, a1, a2, a3, a4, a5, a6, a7⟩ := Cond.superclass_spec q0 w
  obtain ⟨o, ko, b1, b2, b3, -⟩ := Cond.noSuperclass_spec w0
  cases a1.symm.trans b1
  cases a3.symm.trans b2
  have ne1 := ids_ne q0 g1 h1
  have ne2 := ids_ne b1 g1 h2
  have gI : kt.isInterface = false := by simp at g4; exact g4.1
  have sub : ∀ fuel, Z.vm.isSubclassAux fuel cc t = false := fun fuel => by
    cases fuel with
    | zero => rfl
    | succ f =>
      cases f with
      | zero => simp [Vm.isSubclassAux, ne1, a2, a4]
      | succ f => simp [Vm.isSubclassAux, ne1, ne2, a2, a4, b2, b3]
  refine ⟨cc, t, q0, g1, ?_⟩
  show Z.vm.assignableAux (255 + 1) cc t = false
  simp [Vm.assignableAux, ne1, a2, g2, a5, g3, gI, Vm.isSubclass, sub]
/-- a call through an interface -/
theorem gFace {index count : Nat} {y z : MethodName} {C' : String} {bytes' : ByteArray} {ml' : Nat} {ret' : Option FieldType} {rm : Room} {ws' : List Addr} {as' : Array Value} {Q : Option Value → Heap → Prop} {argsL : List Value} {a : Addr} {wt : Nat} {ps : List FieldType} {rt : Option FieldType} (W : Wk p l e R s m args below meth c Z a0 EL n0 kn wd own bytes ml ws T h k n) (E : Exa Z h a C')
    (w1 : (Jvm.Cond.methodLink own index y).before a0 Z = true) (w2 : (Jvm.Cond.declares y).before a0 Z = true) (w7 : ∀ (args : Array Value) (s : State), Z.Warmed39 s.vm → (Jvm.Cond.interfaceMethod y.cls y.cls y.name y.desc).before args s = true) (w5 : (Jvm.Cond.selects C' y z).before a0 Z = true) (w6 : (Jvm.Cond.instanceMethod z).before a0 Z = true) (w8 : (Jvm.Cond.publicMethod z).before a0 Z = true) (w9 : (Jvm.Cond.unhidden C' y.name y.desc).before a0 Z = true) (w10 : (Jvm.Cond.castable C' y.cls).before a0 Z = true) (w3 : (Jvm.Cond.initialized z.cls).before a0 Z = true) (w4 : (Jvm.Cond.code z bytes' ml' ret').before a0 Z = true) (hy : y.cls ≠ "java/lang/invoke/MethodHandle" ∧ y.cls ≠ "java/lang/invoke/VarHandle") (hdsc : parseMethodDescriptor y.desc = some ⟨ps, rt⟩)
    (C : Ct l Z a0 EL n0 kn wd z bytes' ml' ret' [] rm ws' as' h Q) (hsub : ∀ x ∈ ws', x ∈ ws) (hd : decode bytes pc = .ok (.invokeinterface index count, 5)) (hp : pc + 5 = pc') (hsz : Ls.size = ml) (has : (.ref a :: argsL).toArray = as') (hlen : argsL.length = ps.length) (hst : st = argsL.reverse ++ .ref a :: rest) (hW : (rest.map fun v => v.category).sum ≤ wt)
    (hf : rm.frames + 1 ≤ R.frames) (hl : wt + (ml' + 11) + rm.locals ≤ R.locals) (hc : k + rm.cells ≤ R.cells) (hs : n + rm.slots ≤ R.slots)
    (G : ∀ v T' h', Wk p l e R s m args below meth c Z a0 EL n0 kn wd own bytes ml ws T' h' (k + rm.cells) (n + rm.slots) → h.size ≤ h'.size → Q v h' → Go p e below Φ T' (mkF m pc' Ls (v.toList ++ rest))) : Go p e below Φ T (mkF m pc Ls st) := by
  subst hp has
  obtain ⟨hall, vm0, k0, locs, X, eT, hS, hk, hZ, hC, hws, hF, hwd, hOl⟩ := W
  have hall' := hall
  obtain ⟨hx, hb', hml, hO, hE, hlk, hkn⟩ := hall'
  have hkn' : kn = true → vm0.MethodsKnown ∧ vm0.FramesKnown below := fun q => known_vm hS.1 (hkn q)
  obtain ⟨cq, kq, qa, qb, qc⟩ := isOf (s := s.setVm vm0) hZ eT E
  obtain ⟨v, vm₁, ⟨T', L', c', n'⟩, -, X', h2, hg, ⟨L, hQ, hF', l', y', z', hC', hwd', hOl'⟩, stp⟩ := X.interfaceBackS hx (xi := y) (y := z) ((hZ.alike.findClass own _).trans hO) (mv (s := s.setVm vm0) hZ w1) (mv (s := s.setVm vm0) hZ w2) (w7 args (s.setVm vm0) hZ) (mv (s := s.setVm vm0) hZ w5) (mv (s := s.setVm vm0) hZ w6) (mv (s := s.setVm vm0) hZ w8) (mv (s := s.setVm vm0) hZ w9) (mv (s := s.setVm vm0) hZ w10) hy
    (C.backS (p := p) (e := e) (R := R) (s := s) (args := args) (below := below) (wt := wt) hZ w4 w3 hf hl hE hC.1 hOl (fun x q => hws x (hsub x q)) hkn') qa qb qc (g := mkF m pc Ls st) rfl (hsz.trans hml.symm) (Steps.refl _) (argsL := argsL) (rest := rest) (lenOf hdsc hlen) hst (by simpa using hW) (hb hb' hd) (fun _ _ => ⟨rfl, eT, hc, hs⟩)
  dsimp only [Pt.U, Pt.locs, Pt.cells, Pt.slots] at X' h2 hg l' y' z' stp hQ hC' hwd' hOl'
  subst l' y' z'
  rw [eT] at hg
  exact (G v T' T'.heap (Wk.after hall hS hk hZ hC hws hF hwd X' h2 hg hF' hC' hwd' hOl') hg hQ).back fun t q => stp.trans q
/-- an instance method that the entry's class inherits -/
theorem gVirtualUp {index : Nat} {x y : MethodName} {C' owner : String} {bytes' : ByteArray} {ml' : Nat} {ret' : Option FieldType} {rm : Room} {ws' : List Addr} {as' : Array Value} {Q : Option Value → Heap → Prop} {argsL : List Value} {a : Addr} {wt : Nat} {ps : List FieldType} {rt : Option FieldType} (W : Wk p l e R s m args below meth c Z a0 EL n0 kn wd own bytes ml ws T h k n) (E : Exa Z h a C')
    (w1 : (Jvm.Cond.methodLink own index x).before a0 Z = true) (w2 : (Jvm.Cond.sameMethod x.cls owner x.name x.desc).before a0 Z = true) (w7 : (Jvm.Cond.declares ⟨owner, x.name, x.desc⟩).before a0 Z = true) (ho : owner ≠ "java/lang/invoke/MethodHandle" ∧ owner ≠ "java/lang/invoke/VarHandle") (w5 : (Jvm.Cond.selects C' x y).before a0 Z = true) (w6 : (Jvm.Cond.instanceMethod y).before a0 Z = true) (w3 : (Jvm.Cond.initialized y.cls).before a0 Z = true) (w4 : (Jvm.Cond.code y bytes' ml' ret').before a0 Z = true) (hdsc : parseMethodDescriptor x.desc = some ⟨ps, rt⟩)
    (C : Ct l Z a0 EL n0 kn wd y bytes' ml' ret' [] rm ws' as' h Q) (hsub : ∀ x ∈ ws', x ∈ ws) (hd : decode bytes pc = .ok (.invokevirtual index, 3)) (hp : pc + 3 = pc') (hsz : Ls.size = ml) (has : (.ref a :: argsL).toArray = as') (hlen : argsL.length = ps.length) (hst : st = argsL.reverse ++ .ref a :: rest) (hW : (rest.map fun v => v.category).sum ≤ wt)
    (hf : rm.frames + 1 ≤ R.frames) (hl : wt + (ml' + 11) + rm.locals ≤ R.locals) (hc : k + rm.cells ≤ R.cells) (hs : n + rm.slots ≤ R.slots)
    (G : ∀ v T' h', Wk p l e R s m args below meth c Z a0 EL n0 kn wd own bytes ml ws T' h' (k + rm.cells) (n + rm.slots) → h.size ≤ h'.size → Q v h' → Go p e below Φ T' (mkF m pc' Ls (v.toList ++ rest))) : Go p e below Φ T (mkF m pc Ls st) := by
  subst hp has
  obtain ⟨hall, vm0, k0, locs, X, eT, hS, hk, hZ, hC, hws, hF, hwd, hOl⟩ := W
  have hall' := hall
  obtain ⟨hx, hb', hml, hO, hE, hlk, hkn⟩ := hall'
  have hkn' : kn = true → vm0.MethodsKnown ∧ vm0.FramesKnown below := fun q => known_vm hS.1 (hkn q)
  obtain ⟨cq, kq, qa, qb, qc⟩ := isOf (s := s.setVm vm0) hZ eT E
  obtain ⟨v, vm₁, ⟨T', L', c', n'⟩, -, X', h2, hg, ⟨L, hQ, hF', l', y', z', hC', hwd', hOl'⟩, stp⟩ := virtualBackUpS X hx (x := x) (y := y) (owner := owner) ((hZ.alike.findClass own _).trans hO) (mv (s := s.setVm vm0) hZ w1) (mv (s := s.setVm vm0) hZ w2) (mv (s := s.setVm vm0) hZ w7) ho (mv (s := s.setVm vm0) hZ w5) (mv (s := s.setVm vm0) hZ w6)
    (C.backS (p := p) (e := e) (R := R) (s := s) (args := args) (below := below) (wt := wt) hZ w4 w3 hf hl hE hC.1 hOl (fun x q => hws x (hsub x q)) hkn') qa qc (g := mkF m pc Ls st) rfl (hsz.trans hml.symm) (Steps.refl _) (argsL := argsL) (rest := rest) (lenOf hdsc hlen) hst (by simpa using hW) (hb hb' hd) (fun _ _ => ⟨rfl, eT, hc, hs⟩)
  dsimp only [Pt.U, Pt.locs, Pt.cells, Pt.slots] at X' h2 hg l' y' z' stp hQ hC' hwd' hOl'
  subst l' y' z'
  rw [eT] at hg
  exact (G v T' T'.heap (Wk.after hall hS hk hZ hC hws hF hwd X' h2 hg hF' hC' hwd' hOl') hg hQ).back fun t q => stp.trans q
end OwnLayerMore
section OwnSteps
variable {p : Program} {l : Launch} {e : Env} {R : Room} {s : State} {m : MethodId} {args : Array Value} {below : List Frame} {meth : Method} {c : Code} {Z : State} {a0 : Array Value} {EL : List (String × Nat)} {n0 : Nat} {kn wd : Bool} {own : String} {bytes : ByteArray} {ml : Nat} {ws : List Addr} {T : State} {h : Heap} {k n : Nat} {Φ : Outcome → State → Prop} {pc pc' : Nat} {Ls : Array Slot} {st rest : List Value}
theorem s_iloadN {j : Fin 4} {v : Int32} (W : Wk p l e R s m args below meth c Z a0 EL n0 kn wd own bytes ml ws T h k n) (hd : decode bytes pc = .ok (.iload_n j, 1)) (hl : Ls[j.val]? = some (.val (.int v))) (hp : pc + 1 = pc') (G : Go p e below Φ T (mkF m pc' Ls ((.int v) :: st))) : Go p e below Φ T (mkF m pc Ls st) := by
  subst hp
  exact g1 W (fun t ha hx hb' q => XS.iloadN ha hx rfl (hb hb' hd) hl q) G
theorem s_iload {j : Nat} {v : Int32} (W : Wk p l e R s m args below meth c Z a0 EL n0 kn wd own bytes ml ws T h k n) (hd : decode bytes pc = .ok (.iload j, 2)) (hl : Ls[j]? = some (.val (.int v))) (hp : pc + 2 = pc') (G : Go p e below Φ T (mkF m pc' Ls ((.int v) :: st))) : Go p e below Φ T (mkF m pc Ls st) := by
  subst hp
  exact g1 W (fun t ha hx hb' q => XS.iload ha hx rfl (hb hb' hd) hl q) G
theorem s_lloadN {j : Fin 4} {v : Int64} (W : Wk p l e R s m args below meth c Z a0 EL n0 kn wd own bytes ml ws T h k n) (hd : decode bytes pc = .ok (.lload_n j, 1)) (hl : Ls[j.val]? = some (.val (.long v))) (hp : pc + 1 = pc') (G : Go p e below Φ T (mkF m pc' Ls ((.long v) :: st))) : Go p e below Φ T (mkF m pc Ls st) := by
  subst hp
  exact g1 W (fun t ha hx hb' q => XS.lloadN ha hx rfl (hb hb' hd) hl q) G
theorem s_lload {j : Nat} {v : Int64} (W : Wk p l e R s m args below meth c Z a0 EL n0 kn wd own bytes ml ws T h k n) (hd : decode bytes pc = .ok (.lload j, 2)) (hl : Ls[j]? = some (.val (.long v))) (hp : pc + 2 = pc') (G : Go p e below Φ T (mkF m pc' Ls ((.long v) :: st))) : Go p e below Φ T (mkF m pc Ls st) := by
  subst hp
  exact g1 W (fun t ha hx hb' q => XS.lload ha hx rfl (hb hb' hd) hl q) G
theorem s_aloadN {j : Fin 4} {v : Value} (W : Wk p l e R s m args below meth c Z a0 EL n0 kn wd own bytes ml ws T h k n) (hd : decode bytes pc = .ok (.aload_n j, 1)) (hl : Ls[j.val]? = some (.val v)) (hv : v.isRef = true) (hp : pc + 1 = pc') (G : Go p e below Φ T (mkF m pc' Ls (v :: st))) : Go p e below Φ T (mkF m pc Ls st) := by
  subst hp
  exact g1 W (fun t ha hx hb' q => XS.aloadN ha hx rfl (hb hb' hd) hl hv q) G
theorem s_aload {j : Nat} {v : Value} (W : Wk p l e R s m args below meth c Z a0 EL n0 kn wd own bytes ml ws T h k n) (hd : decode bytes pc = .ok (.aload j, 2)) (hl : Ls[j]? = some (.val v)) (hv : v.isRef = true) (hp : pc + 2 = pc') (G : Go p e below Φ T (mkF m pc' Ls (v :: st))) : Go p e below Φ T (mkF m pc Ls st) := by
  subst hp
  exact g1 W (fun t ha hx hb' q => XS.aload ha hx rfl (hb hb' hd) hl hv q) G
theorem s_istoreN {j : Fin 4} {v : Int32} {l' : Array Slot} (W : Wk p l e R s m args below meth c Z a0 EL n0 kn wd own bytes ml ws T h k n) (hd : decode bytes pc = .ok (.istore_n j, 1)) (hl : storeLocals Ls j.val (.int v) = some l') (hp : pc + 1 = pc') (G : Go p e below Φ T (mkF m pc' l' rest)) : Go p e below Φ T (mkF m pc Ls ((.int v) :: rest)) := by
  subst hp
  exact g1 W (fun t ha hx hb' q => XS.istoreN ha hx rfl (hb hb' hd) rfl hl q) G
theorem s_istore {j : Nat} {v : Int32} {l' : Array Slot} (W : Wk p l e R s m args below meth c Z a0 EL n0 kn wd own bytes ml ws T h k n) (hd : decode bytes pc = .ok (.istore j, 2)) (hl : storeLocals Ls j (.int v) = some l') (hp : pc + 2 = pc') (G : Go p e below Φ T (mkF m pc' l' rest)) : Go p e below Φ T (mkF m pc Ls ((.int v) :: rest)) := by
  subst hp
  exact g1 W (fun t ha hx hb' q => XS.istore ha hx rfl (hb hb' hd) rfl hl q) G
theorem s_lstoreN {j : Fin 4} {v : Int64} {l' : Array Slot} (W : Wk p l e R s m args below meth c Z a0 EL n0 kn wd own bytes ml ws T h k n) (hd : decode bytes pc = .ok (.lstore_n j, 1)) (hl : storeLocals Ls j.val (.long v) = some l') (hp : pc + 1 = pc') (G : Go p e below Φ T (mkF m pc' l' rest)) : Go p e below Φ T (mkF m pc Ls ((.long v) :: rest)) := by
  subst hp
  exact g1 W (fun t ha hx hb' q => XS.lstoreN ha hx rfl (hb hb' hd) rfl hl q) G
theorem s_lstore {j : Nat} {v : Int64} {l' : Array Slot} (W : Wk p l e R s m args below meth c Z a0 EL n0 kn wd own bytes ml ws T h k n) (hd : decode bytes pc = .ok (.lstore j, 2)) (hl : storeLocals Ls j (.long v) = some l') (hp : pc + 2 = pc') (G : Go p e below Φ T (mkF m pc' l' rest)) : Go p e below Φ T (mkF m pc Ls ((.long v) :: rest)) := by
  subst hp
  exact g1 W (fun t ha hx hb' q => XS.lstore ha hx rfl (hb hb' hd) rfl hl q) G
theorem s_astoreN {j : Fin 4} {v : Value} {l' : Array Slot} (W : Wk p l e R s m args below meth c Z a0 EL n0 kn wd own bytes ml ws T h k n) (hd : decode bytes pc = .ok (.astore_n j, 1)) (hv : v.isRef = true) (hl : storeLocals Ls j.val v = some l') (hp : pc + 1 = pc') (G : Go p e below Φ T (mkF m pc' l' rest)) : Go p e below Φ T (mkF m pc Ls (v :: rest)) := by
  subst hp
  exact g1 W (fun t ha hx hb' q => XS.astoreN ha hx rfl (hb hb' hd) rfl hv hl q) G
theorem s_astore {j : Nat} {v : Value} {l' : Array Slot} (W : Wk p l e R s m args below meth c Z a0 EL n0 kn wd own bytes ml ws T h k n) (hd : decode bytes pc = .ok (.astore j, 2)) (hv : v.isRef = true) (hl : storeLocals Ls j v = some l') (hp : pc + 2 = pc') (G : Go p e below Φ T (mkF m pc' l' rest)) : Go p e below Φ T (mkF m pc Ls (v :: rest)) := by
  subst hp
  exact g1 W (fun t ha hx hb' q => XS.astore ha hx rfl (hb hb' hd) rfl hv hl q) G
theorem s_iconst {i : Int} {v : Int32} (W : Wk p l e R s m args below meth c Z a0 EL n0 kn wd own bytes ml ws T h k n) (hd : decode bytes pc = .ok (.iconst i, 1)) (hv : Int32.ofInt i = v) (hp : pc + 1 = pc') (G : Go p e below Φ T (mkF m pc' Ls (.int v :: st))) : Go p e below Φ T (mkF m pc Ls st) := by
  subst hp hv
  exact g1 W (fun t ha hx hb' q => XS.iconst ha hx rfl (hb hb' hd) q) G
theorem s_bipush {i : Int} {v : Int32} (W : Wk p l e R s m args below meth c Z a0 EL n0 kn wd own bytes ml ws T h k n) (hd : decode bytes pc = .ok (.bipush i, 2)) (hv : (Int8.ofInt i).toInt32 = v) (hp : pc + 2 = pc') (G : Go p e below Φ T (mkF m pc' Ls (.int v :: st))) : Go p e below Φ T (mkF m pc Ls st) := by
  subst hp hv
  exact g1 W (fun t ha hx hb' q => XS.bipush ha hx rfl (hb hb' hd) q) G
theorem s_sipush {i : Int} {v : Int32} (W : Wk p l e R s m args below meth c Z a0 EL n0 kn wd own bytes ml ws T h k n) (hd : decode bytes pc = .ok (.sipush i, 3)) (hv : (Int16.ofInt i).toInt32 = v) (hp : pc + 3 = pc') (G : Go p e below Φ T (mkF m pc' Ls (.int v :: st))) : Go p e below Φ T (mkF m pc Ls st) := by
  subst hp hv
  exact g1 W (fun t ha hx hb' q => XS.sipush ha hx rfl (hb hb' hd) q) G
theorem s_lconst {i : Fin 2} {v : Int64} (W : Wk p l e R s m args below meth c Z a0 EL n0 kn wd own bytes ml ws T h k n) (hd : decode bytes pc = .ok (.lconst i, 1)) (hv : Int64.ofNat i = v) (hp : pc + 1 = pc') (G : Go p e below Φ T (mkF m pc' Ls (.long v :: st))) : Go p e below Φ T (mkF m pc Ls st) := by
  subst hp hv
  exact g1 W (fun t ha hx hb' q => XS.lconst ha hx rfl (hb hb' hd) q) G
theorem s_aconst_null (W : Wk p l e R s m args below meth c Z a0 EL n0 kn wd own bytes ml ws T h k n) (hd : decode bytes pc = .ok (.aconst_null, 1)) (hp : pc + 1 = pc') (G : Go p e below Φ T (mkF m pc' Ls (.null :: st))) : Go p e below Φ T (mkF m pc Ls st) := by
  subst hp
  exact g1 W (fun t ha hx hb' q => XS.aconstNull ha hx rfl (hb hb' hd)  q) G
theorem s_iadd {x y : Int32} (W : Wk p l e R s m args below meth c Z a0 EL n0 kn wd own bytes ml ws T h k n) (hd : decode bytes pc = .ok (.iadd, 1)) (hp : pc + 1 = pc') (G : Go p e below Φ T (mkF m pc' Ls (.int (x + y) :: rest))) : Go p e below Φ T (mkF m pc Ls (.int y :: .int x :: rest)) := by
  subst hp
  exact g1 W (fun t ha hx hb' q => XS.iadd ha hx rfl (hb hb' hd) rfl q) G
theorem s_isub {x y : Int32} (W : Wk p l e R s m args below meth c Z a0 EL n0 kn wd own bytes ml ws T h k n) (hd : decode bytes pc = .ok (.isub, 1)) (hp : pc + 1 = pc') (G : Go p e below Φ T (mkF m pc' Ls (.int (x - y) :: rest))) : Go p e below Φ T (mkF m pc Ls (.int y :: .int x :: rest)) := by
  subst hp
  exact g1 W (fun t ha hx hb' q => XS.isub ha hx rfl (hb hb' hd) rfl q) G
theorem s_imul {x y : Int32} (W : Wk p l e R s m args below meth c Z a0 EL n0 kn wd own bytes ml ws T h k n) (hd : decode bytes pc = .ok (.imul, 1)) (hp : pc + 1 = pc') (G : Go p e below Φ T (mkF m pc' Ls (.int (x * y) :: rest))) : Go p e below Φ T (mkF m pc Ls (.int y :: .int x :: rest)) := by
  subst hp
  exact g1 W (fun t ha hx hb' q => XS.imul ha hx rfl (hb hb' hd) rfl q) G
theorem s_iand {x y : Int32} (W : Wk p l e R s m args below meth c Z a0 EL n0 kn wd own bytes ml ws T h k n) (hd : decode bytes pc = .ok (.iand, 1)) (hp : pc + 1 = pc') (G : Go p e below Φ T (mkF m pc' Ls (.int (x &&& y) :: rest))) : Go p e below Φ T (mkF m pc Ls (.int y :: .int x :: rest)) := by
  subst hp
  exact g1 W (fun t ha hx hb' q => XS.iand ha hx rfl (hb hb' hd) rfl q) G
theorem s_ior {x y : Int32} (W : Wk p l e R s m args below meth c Z a0 EL n0 kn wd own bytes ml ws T h k n) (hd : decode bytes pc = .ok (.ior, 1)) (hp : pc + 1 = pc') (G : Go p e below Φ T (mkF m pc' Ls (.int (x ||| y) :: rest))) : Go p e below Φ T (mkF m pc Ls (.int y :: .int x :: rest)) := by
  subst hp
  exact g1 W (fun t ha hx hb' q => XS.ior ha hx rfl (hb hb' hd) rfl q) G
theorem s_ixor {x y : Int32} (W : Wk p l e R s m args below meth c Z a0 EL n0 kn wd own bytes ml ws T h k n) (hd : decode bytes pc = .ok (.ixor, 1)) (hp : pc + 1 = pc') (G : Go p e below Φ T (mkF m pc' Ls (.int (x ^^^ y) :: rest))) : Go p e below Φ T (mkF m pc Ls (.int y :: .int x :: rest)) := by
  subst hp
  exact g1 W (fun t ha hx hb' q => XS.ixor ha hx rfl (hb hb' hd) rfl q) G
theorem s_ladd {x y : Int64} (W : Wk p l e R s m args below meth c Z a0 EL n0 kn wd own bytes ml ws T h k n) (hd : decode bytes pc = .ok (.ladd, 1)) (hp : pc + 1 = pc') (G : Go p e below Φ T (mkF m pc' Ls (.long (x + y) :: rest))) : Go p e below Φ T (mkF m pc Ls (.long y :: .long x :: rest)) := by
  subst hp
  exact g1 W (fun t ha hx hb' q => XS.ladd ha hx rfl (hb hb' hd) rfl q) G
theorem s_lsub {x y : Int64} (W : Wk p l e R s m args below meth c Z a0 EL n0 kn wd own bytes ml ws T h k n) (hd : decode bytes pc = .ok (.lsub, 1)) (hp : pc + 1 = pc') (G : Go p e below Φ T (mkF m pc' Ls (.long (x - y) :: rest))) : Go p e below Φ T (mkF m pc Ls (.long y :: .long x :: rest)) := by
  subst hp
  exact g1 W (fun t ha hx hb' q => XS.lsub ha hx rfl (hb hb' hd) rfl q) G
theorem s_lmul {x y : Int64} (W : Wk p l e R s m args below meth c Z a0 EL n0 kn wd own bytes ml ws T h k n) (hd : decode bytes pc = .ok (.lmul, 1)) (hp : pc + 1 = pc') (G : Go p e below Φ T (mkF m pc' Ls (.long (x * y) :: rest))) : Go p e below Φ T (mkF m pc Ls (.long y :: .long x :: rest)) := by
  subst hp
  exact g1 W (fun t ha hx hb' q => XS.lmul ha hx rfl (hb hb' hd) rfl q) G
theorem s_land {x y : Int64} (W : Wk p l e R s m args below meth c Z a0 EL n0 kn wd own bytes ml ws T h k n) (hd : decode bytes pc = .ok (.land, 1)) (hp : pc + 1 = pc') (G : Go p e below Φ T (mkF m pc' Ls (.long (x &&& y) :: rest))) : Go p e below Φ T (mkF m pc Ls (.long y :: .long x :: rest)) := by
  subst hp
  exact g1 W (fun t ha hx hb' q => XS.land ha hx rfl (hb hb' hd) rfl q) G
theorem s_lor {x y : Int64} (W : Wk p l e R s m args below meth c Z a0 EL n0 kn wd own bytes ml ws T h k n) (hd : decode bytes pc = .ok (.lor, 1)) (hp : pc + 1 = pc') (G : Go p e below Φ T (mkF m pc' Ls (.long (x ||| y) :: rest))) : Go p e below Φ T (mkF m pc Ls (.long y :: .long x :: rest)) := by
  subst hp
  exact g1 W (fun t ha hx hb' q => XS.lor ha hx rfl (hb hb' hd) rfl q) G
theorem s_lxor {x y : Int64} (W : Wk p l e R s m args below meth c Z a0 EL n0 kn wd own bytes ml ws T h k n) (hd : decode bytes pc = .ok (.lxor, 1)) (hp : pc + 1 = pc') (G : Go p e below Φ T (mkF m pc' Ls (.long (x ^^^ y) :: rest))) : Go p e below Φ T (mkF m pc Ls (.long y :: .long x :: rest)) := by
  subst hp
  exact g1 W (fun t ha hx hb' q => XS.lxor ha hx rfl (hb hb' hd) rfl q) G
theorem s_ishl {x y : Int32} (W : Wk p l e R s m args below meth c Z a0 EL n0 kn wd own bytes ml ws T h k n) (hd : decode bytes pc = .ok (.ishl, 1)) (hp : pc + 1 = pc') (G : Go p e below Φ T (mkF m pc' Ls (.int (x <<< (y &&& 31)) :: rest))) : Go p e below Φ T (mkF m pc Ls (.int y :: .int x :: rest)) := by
  subst hp
  exact g1 W (fun t ha hx hb' q => XS.ishl ha hx rfl (hb hb' hd) rfl q) G
theorem s_ishr {x y : Int32} (W : Wk p l e R s m args below meth c Z a0 EL n0 kn wd own bytes ml ws T h k n) (hd : decode bytes pc = .ok (.ishr, 1)) (hp : pc + 1 = pc') (G : Go p e below Φ T (mkF m pc' Ls (.int (x >>> (y &&& 31)) :: rest))) : Go p e below Φ T (mkF m pc Ls (.int y :: .int x :: rest)) := by
  subst hp
  exact g1 W (fun t ha hx hb' q => XS.ishr ha hx rfl (hb hb' hd) rfl q) G
theorem s_iushr {x y : Int32} (W : Wk p l e R s m args below meth c Z a0 EL n0 kn wd own bytes ml ws T h k n) (hd : decode bytes pc = .ok (.iushr, 1)) (hp : pc + 1 = pc') (G : Go p e below Φ T (mkF m pc' Ls (.int ((x.toUInt32 >>> (y &&& 31).toUInt32).toInt32) :: rest))) : Go p e below Φ T (mkF m pc Ls (.int y :: .int x :: rest)) := by
  subst hp
  exact g1 W (fun t ha hx hb' q => XS.iushr ha hx rfl (hb hb' hd) rfl q) G
theorem s_lshl {x : Int64} {y : Int32} (W : Wk p l e R s m args below meth c Z a0 EL n0 kn wd own bytes ml ws T h k n) (hd : decode bytes pc = .ok (.lshl, 1)) (hp : pc + 1 = pc') (G : Go p e below Φ T (mkF m pc' Ls (.long (x <<< (y &&& 0x3f).toInt64) :: rest))) : Go p e below Φ T (mkF m pc Ls (.int y :: .long x :: rest)) := by
  subst hp
  exact g1 W (fun t ha hx hb' q => XS.lshl ha hx rfl (hb hb' hd) rfl q) G
theorem s_lshr {x : Int64} {y : Int32} (W : Wk p l e R s m args below meth c Z a0 EL n0 kn wd own bytes ml ws T h k n) (hd : decode bytes pc = .ok (.lshr, 1)) (hp : pc + 1 = pc') (G : Go p e below Φ T (mkF m pc' Ls (.long (x >>> (y &&& 0x3f).toInt64) :: rest))) : Go p e below Φ T (mkF m pc Ls (.int y :: .long x :: rest)) := by
  subst hp
  exact g1 W (fun t ha hx hb' q => XS.lshr ha hx rfl (hb hb' hd) rfl q) G
theorem s_lushr {x : Int64} {y : Int32} (W : Wk p l e R s m args below meth c Z a0 EL n0 kn wd own bytes ml ws T h k n) (hd : decode bytes pc = .ok (.lushr, 1)) (hp : pc + 1 = pc') (G : Go p e below Φ T (mkF m pc' Ls (.long ((x.toUInt64 >>> (y &&& 0x3f).toInt64.toUInt64).toInt64) :: rest))) : Go p e below Φ T (mkF m pc Ls (.int y :: .long x :: rest)) := by
  subst hp
  exact g1 W (fun t ha hx hb' q => XS.lushr ha hx rfl (hb hb' hd) rfl q) G
theorem s_idiv {x y : Int32} (W : Wk p l e R s m args below meth c Z a0 EL n0 kn wd own bytes ml ws T h k n) (hd : decode bytes pc = .ok (.idiv, 1)) (hy : y ≠ 0) (hp : pc + 1 = pc') (G : Go p e below Φ T (mkF m pc' Ls (.int (x / y) :: rest))) : Go p e below Φ T (mkF m pc Ls (.int y :: .int x :: rest)) := by
  subst hp
  exact g1 W (fun t ha hx hb' q => XS.idiv ha hx rfl (hb hb' hd) rfl hy q) G
theorem s_irem {x y : Int32} (W : Wk p l e R s m args below meth c Z a0 EL n0 kn wd own bytes ml ws T h k n) (hd : decode bytes pc = .ok (.irem, 1)) (hy : y ≠ 0) (hp : pc + 1 = pc') (G : Go p e below Φ T (mkF m pc' Ls (.int (x % y) :: rest))) : Go p e below Φ T (mkF m pc Ls (.int y :: .int x :: rest)) := by
  subst hp
  exact g2 W (fun vm0 locs X hx hb' hZ eT hO t q => iremM (g := mkF m pc Ls (.int y :: .int x :: rest)) X hx rfl (hb hb' hd) rfl hy q) G
theorem s_ldiv {x y : Int64} (W : Wk p l e R s m args below meth c Z a0 EL n0 kn wd own bytes ml ws T h k n) (hd : decode bytes pc = .ok (.ldiv, 1)) (hy : y ≠ 0) (hp : pc + 1 = pc') (G : Go p e below Φ T (mkF m pc' Ls (.long (x / y) :: rest))) : Go p e below Φ T (mkF m pc Ls (.long y :: .long x :: rest)) := by
  subst hp
  exact g1 W (fun t ha hx hb' q => XS.ldiv ha hx rfl (hb hb' hd) rfl hy q) G
theorem s_ineg {x : Int32} (W : Wk p l e R s m args below meth c Z a0 EL n0 kn wd own bytes ml ws T h k n) (hd : decode bytes pc = .ok (.ineg, 1)) (hp : pc + 1 = pc') (G : Go p e below Φ T (mkF m pc' Ls (.int (-x) :: rest))) : Go p e below Φ T (mkF m pc Ls (.int x :: rest)) := by
  subst hp
  exact g1 W (fun t ha hx hb' q => XS.ineg ha hx rfl (hb hb' hd) rfl q) G
theorem s_lneg {x : Int64} (W : Wk p l e R s m args below meth c Z a0 EL n0 kn wd own bytes ml ws T h k n) (hd : decode bytes pc = .ok (.lneg, 1)) (hp : pc + 1 = pc') (G : Go p e below Φ T (mkF m pc' Ls (.long (-x) :: rest))) : Go p e below Φ T (mkF m pc Ls (.long x :: rest)) := by
  subst hp
  exact g1 W (fun t ha hx hb' q => XS.lneg ha hx rfl (hb hb' hd) rfl q) G
theorem s_i2l {x : Int32} (W : Wk p l e R s m args below meth c Z a0 EL n0 kn wd own bytes ml ws T h k n) (hd : decode bytes pc = .ok (.i2l, 1)) (hp : pc + 1 = pc') (G : Go p e below Φ T (mkF m pc' Ls (.long x.toInt64 :: rest))) : Go p e below Φ T (mkF m pc Ls (.int x :: rest)) := by
  subst hp
  exact g1 W (fun t ha hx hb' q => XS.i2l ha hx rfl (hb hb' hd) rfl q) G
theorem s_l2i {x : Int64} (W : Wk p l e R s m args below meth c Z a0 EL n0 kn wd own bytes ml ws T h k n) (hd : decode bytes pc = .ok (.l2i, 1)) (hp : pc + 1 = pc') (G : Go p e below Φ T (mkF m pc' Ls (.int x.toInt32 :: rest))) : Go p e below Φ T (mkF m pc Ls (.long x :: rest)) := by
  subst hp
  exact g1 W (fun t ha hx hb' q => XS.l2i ha hx rfl (hb hb' hd) rfl q) G
theorem s_i2b {x : Int32} (W : Wk p l e R s m args below meth c Z a0 EL n0 kn wd own bytes ml ws T h k n) (hd : decode bytes pc = .ok (.i2b, 1)) (hp : pc + 1 = pc') (G : Go p e below Φ T (mkF m pc' Ls (.int x.toInt8.toInt32 :: rest))) : Go p e below Φ T (mkF m pc Ls (.int x :: rest)) := by
  subst hp
  exact g1 W (fun t ha hx hb' q => XS.i2b ha hx rfl (hb hb' hd) rfl q) G
theorem s_i2s {x : Int32} (W : Wk p l e R s m args below meth c Z a0 EL n0 kn wd own bytes ml ws T h k n) (hd : decode bytes pc = .ok (.i2s, 1)) (hp : pc + 1 = pc') (G : Go p e below Φ T (mkF m pc' Ls (.int x.toInt16.toInt32 :: rest))) : Go p e below Φ T (mkF m pc Ls (.int x :: rest)) := by
  subst hp
  exact g1 W (fun t ha hx hb' q => XS.i2s ha hx rfl (hb hb' hd) rfl q) G
theorem s_i2c {x : Int32} (W : Wk p l e R s m args below meth c Z a0 EL n0 kn wd own bytes ml ws T h k n) (hd : decode bytes pc = .ok (.i2c, 1)) (hp : pc + 1 = pc') (G : Go p e below Φ T (mkF m pc' Ls (.int x.toUInt32.toUInt16.toUInt32.toInt32 :: rest))) : Go p e below Φ T (mkF m pc Ls (.int x :: rest)) := by
  subst hp
  exact g1 W (fun t ha hx hb' q => XS.i2c ha hx rfl (hb hb' hd) rfl q) G
theorem s_lcmp {x y : Int64} (W : Wk p l e R s m args below meth c Z a0 EL n0 kn wd own bytes ml ws T h k n) (hd : decode bytes pc = .ok (.lcmp, 1)) (hp : pc + 1 = pc') (G : Go p e below Φ T (mkF m pc' Ls (.int (lcmpW x y) :: rest))) : Go p e below Φ T (mkF m pc Ls (.long y :: .long x :: rest)) := by
  subst hp
  exact g1 W (fun t ha hx hb' q => XS.lcmp ha hx rfl (hb hb' hd) rfl q) G
theorem s_dup {v : Value} (W : Wk p l e R s m args below meth c Z a0 EL n0 kn wd own bytes ml ws T h k n) (hd : decode bytes pc = .ok (.dup, 1)) (hv : v.category = 1) (hp : pc + 1 = pc') (G : Go p e below Φ T (mkF m pc' Ls (v :: v :: rest))) : Go p e below Φ T (mkF m pc Ls (v :: rest)) := by
  subst hp
  exact g1 W (fun t ha hx hb' q => XS.dup ha hx rfl (hb hb' hd) rfl hv q) G
theorem s_pop {v : Value} (W : Wk p l e R s m args below meth c Z a0 EL n0 kn wd own bytes ml ws T h k n) (hd : decode bytes pc = .ok (.pop, 1)) (hv : v.category = 1) (hp : pc + 1 = pc') (G : Go p e below Φ T (mkF m pc' Ls rest)) : Go p e below Φ T (mkF m pc Ls (v :: rest)) := by
  subst hp
  exact g1 W (fun t ha hx hb' q => XS.pop ha hx rfl (hb hb' hd) rfl hv q) G
theorem s_dup_x1 {v w : Value} (W : Wk p l e R s m args below meth c Z a0 EL n0 kn wd own bytes ml ws T h k n) (hd : decode bytes pc = .ok (.dup_x1, 1)) (hv : v.category = 1) (hw' : w.category = 1) (hp : pc + 1 = pc') (G : Go p e below Φ T (mkF m pc' Ls (v :: w :: v :: rest))) : Go p e below Φ T (mkF m pc Ls (v :: w :: rest)) := by
  subst hp
  exact g1 W (fun t ha hx hb' q => XS.dupX1 ha hx rfl (hb hb' hd) rfl hv hw' q) G
theorem s_dup2 {v w : Value} (W : Wk p l e R s m args below meth c Z a0 EL n0 kn wd own bytes ml ws T h k n) (hd : decode bytes pc = .ok (.dup2, 1)) (hv : v.category = 1) (hw' : w.category = 1) (hp : pc + 1 = pc') (G : Go p e below Φ T (mkF m pc' Ls (v :: w :: v :: w :: rest))) : Go p e below Φ T (mkF m pc Ls (v :: w :: rest)) := by
  subst hp
  exact g1 W (fun t ha hx hb' q => XT.dup2 ha hx rfl (hb hb' hd) rfl hv hw' q) G
theorem s_dup2L {x : Int64} (W : Wk p l e R s m args below meth c Z a0 EL n0 kn wd own bytes ml ws T h k n) (hd : decode bytes pc = .ok (.dup2, 1)) (hp : pc + 1 = pc') (G : Go p e below Φ T (mkF m pc' Ls (.long x :: .long x :: rest))) : Go p e below Φ T (mkF m pc Ls (.long x :: rest)) := by
  subst hp
  exact g1 W (fun t ha hx hb' q => XT.dup2L ha hx rfl (hb hb' hd) rfl q) G
theorem s_iinc {j : Nat} {cst : Int} {x v : Int32} {l' : Array Slot} (W : Wk p l e R s m args below meth c Z a0 EL n0 kn wd own bytes ml ws T h k n) (hd : decode bytes pc = .ok (.iinc j cst, 3)) (hv : Int32.ofInt cst = v) (hl : Ls[j]? = some (.val (.int x))) (hl' : storeLocals Ls j (.int (x + v)) = some l') (hp : pc + 3 = pc') (G : Go p e below Φ T (mkF m pc' l' st)) : Go p e below Φ T (mkF m pc Ls st) := by
  subst hp hv
  exact g1 W (fun t ha hx hb' q => XS.iinc ha hx rfl (hb hb' hd) hl hl' q) G
theorem s_goto {o : Int} (W : Wk p l e R s m args below meth c Z a0 EL n0 kn wd own bytes ml ws T h k n) (hd : decode bytes pc = .ok (.goto o, 3)) (ho : 0 ≤ (pc : Int) + o) (hp : ((pc : Int) + o).toNat = pc') (G : Go p e below Φ T (mkF m pc' Ls st)) : Go p e below Φ T (mkF m pc Ls st) := by
  subst hp
  exact g1 W (fun t ha hx hb' q => XS.goto ha hx rfl rfl (hb hb' hd) ho rfl q) G
theorem s_ifeq {o : Int} {pc1 pc2 : Nat} {x : Int32} (W : Wk p l e R s m args below meth c Z a0 EL n0 kn wd own bytes ml ws T h k n) (hd : decode bytes pc = .ok (.ifCond .eq o, 3)) (ho : 0 ≤ (pc : Int) + o) (hp1 : ((pc : Int) + o).toNat = pc1) (hp2 : pc + 3 = pc2) (G1 : x = (0 : Int32) → Go p e below Φ T (mkF m pc1 Ls rest)) (G2 : ¬ x = (0 : Int32) → Go p e below Φ T (mkF m pc2 Ls rest)) : Go p e below Φ T (mkF m pc Ls (.int x :: rest)) := by
  subst hp1 hp2
  by_cases q : x = (0 : Int32)
  · exact g1 W (fun t ha hx hb' q' => XS.ifYes ha hx rfl rfl (hb hb' hd) rfl ((if0 _ _).trans (teq q).1) ho rfl q') (G1 q)
  · have q : ¬ x = (0 : Int32) := by first | exact q | exact Classical.not_not.mp q
    exact g1 W (fun t ha hx hb' q' => XS.ifNo ha hx rfl (hb hb' hd) rfl ((if0 _ _).trans (feq q).1) q') (G2 q)
theorem s_icmpeq {o : Int} {pc1 pc2 : Nat} {x y : Int32} (W : Wk p l e R s m args below meth c Z a0 EL n0 kn wd own bytes ml ws T h k n) (hd : decode bytes pc = .ok (.if_icmp .eq o, 3)) (ho : 0 ≤ (pc : Int) + o) (hp1 : ((pc : Int) + o).toNat = pc1) (hp2 : pc + 3 = pc2) (G1 : x = y → Go p e below Φ T (mkF m pc1 Ls rest)) (G2 : ¬ x = y → Go p e below Φ T (mkF m pc2 Ls rest)) : Go p e below Φ T (mkF m pc Ls (.int y :: .int x :: rest)) := by
  subst hp1 hp2
  by_cases q : x = y
  · exact g1 W (fun t ha hx hb' q' => XS.icmpYes ha hx rfl rfl (hb hb' hd) rfl (teq q).1 ho rfl q') (G1 q)
  · have q : ¬ x = y := by first | exact q | exact Classical.not_not.mp q
    exact g1 W (fun t ha hx hb' q' => XS.icmpNo ha hx rfl (hb hb' hd) rfl (feq q).1 q') (G2 q)
theorem s_ifne {o : Int} {pc1 pc2 : Nat} {x : Int32} (W : Wk p l e R s m args below meth c Z a0 EL n0 kn wd own bytes ml ws T h k n) (hd : decode bytes pc = .ok (.ifCond .ne o, 3)) (ho : 0 ≤ (pc : Int) + o) (hp1 : ((pc : Int) + o).toNat = pc1) (hp2 : pc + 3 = pc2) (G1 : ¬ x = (0 : Int32) → Go p e below Φ T (mkF m pc1 Ls rest)) (G2 : x = (0 : Int32) → Go p e below Φ T (mkF m pc2 Ls rest)) : Go p e below Φ T (mkF m pc Ls (.int x :: rest)) := by
  subst hp1 hp2
  by_cases q : ¬ x = (0 : Int32)
  · exact g1 W (fun t ha hx hb' q' => XS.ifYes ha hx rfl rfl (hb hb' hd) rfl ((if0 _ _).trans (feq q).2) ho rfl q') (G1 q)
  · have q : x = (0 : Int32) := by first | exact q | exact Classical.not_not.mp q
    exact g1 W (fun t ha hx hb' q' => XS.ifNo ha hx rfl (hb hb' hd) rfl ((if0 _ _).trans (teq q).2) q') (G2 q)
theorem s_icmpne {o : Int} {pc1 pc2 : Nat} {x y : Int32} (W : Wk p l e R s m args below meth c Z a0 EL n0 kn wd own bytes ml ws T h k n) (hd : decode bytes pc = .ok (.if_icmp .ne o, 3)) (ho : 0 ≤ (pc : Int) + o) (hp1 : ((pc : Int) + o).toNat = pc1) (hp2 : pc + 3 = pc2) (G1 : ¬ x = y → Go p e below Φ T (mkF m pc1 Ls rest)) (G2 : x = y → Go p e below Φ T (mkF m pc2 Ls rest)) : Go p e below Φ T (mkF m pc Ls (.int y :: .int x :: rest)) := by
  subst hp1 hp2
  by_cases q : ¬ x = y
  · exact g1 W (fun t ha hx hb' q' => XS.icmpYes ha hx rfl rfl (hb hb' hd) rfl (feq q).2 ho rfl q') (G1 q)
  · have q : x = y := by first | exact q | exact Classical.not_not.mp q
    exact g1 W (fun t ha hx hb' q' => XS.icmpNo ha hx rfl (hb hb' hd) rfl (teq q).2 q') (G2 q)
theorem s_iflt {o : Int} {pc1 pc2 : Nat} {x : Int32} (W : Wk p l e R s m args below meth c Z a0 EL n0 kn wd own bytes ml ws T h k n) (hd : decode bytes pc = .ok (.ifCond .lt o, 3)) (ho : 0 ≤ (pc : Int) + o) (hp1 : ((pc : Int) + o).toNat = pc1) (hp2 : pc + 3 = pc2) (G1 : x < (0 : Int32) → Go p e below Φ T (mkF m pc1 Ls rest)) (G2 : ¬ x < (0 : Int32) → Go p e below Φ T (mkF m pc2 Ls rest)) : Go p e below Φ T (mkF m pc Ls (.int x :: rest)) := by
  subst hp1 hp2
  by_cases q : x < (0 : Int32)
  · exact g1 W (fun t ha hx hb' q' => XS.ifYes ha hx rfl rfl (hb hb' hd) rfl ((if0 _ _).trans (tlt q).1) ho rfl q') (G1 q)
  · have q : ¬ x < (0 : Int32) := by first | exact q | exact Classical.not_not.mp q
    exact g1 W (fun t ha hx hb' q' => XS.ifNo ha hx rfl (hb hb' hd) rfl ((if0 _ _).trans (flt q).1) q') (G2 q)
theorem s_icmplt {o : Int} {pc1 pc2 : Nat} {x y : Int32} (W : Wk p l e R s m args below meth c Z a0 EL n0 kn wd own bytes ml ws T h k n) (hd : decode bytes pc = .ok (.if_icmp .lt o, 3)) (ho : 0 ≤ (pc : Int) + o) (hp1 : ((pc : Int) + o).toNat = pc1) (hp2 : pc + 3 = pc2) (G1 : x < y → Go p e below Φ T (mkF m pc1 Ls rest)) (G2 : ¬ x < y → Go p e below Φ T (mkF m pc2 Ls rest)) : Go p e below Φ T (mkF m pc Ls (.int y :: .int x :: rest)) := by
  subst hp1 hp2
  by_cases q : x < y
  · exact g1 W (fun t ha hx hb' q' => XS.icmpYes ha hx rfl rfl (hb hb' hd) rfl (tlt q).1 ho rfl q') (G1 q)
  · have q : ¬ x < y := by first | exact q | exact Classical.not_not.mp q
    exact g1 W (fun t ha hx hb' q' => XS.icmpNo ha hx rfl (hb hb' hd) rfl (flt q).1 q') (G2 q)
theorem s_ifge {o : Int} {pc1 pc2 : Nat} {x : Int32} (W : Wk p l e R s m args below meth c Z a0 EL n0 kn wd own bytes ml ws T h k n) (hd : decode bytes pc = .ok (.ifCond .ge o, 3)) (ho : 0 ≤ (pc : Int) + o) (hp1 : ((pc : Int) + o).toNat = pc1) (hp2 : pc + 3 = pc2) (G1 : ¬ x < (0 : Int32) → Go p e below Φ T (mkF m pc1 Ls rest)) (G2 : x < (0 : Int32) → Go p e below Φ T (mkF m pc2 Ls rest)) : Go p e below Φ T (mkF m pc Ls (.int x :: rest)) := by
  subst hp1 hp2
  by_cases q : ¬ x < (0 : Int32)
  · exact g1 W (fun t ha hx hb' q' => XS.ifYes ha hx rfl rfl (hb hb' hd) rfl ((if0 _ _).trans (flt q).2.1) ho rfl q') (G1 q)
  · have q : x < (0 : Int32) := by first | exact q | exact Classical.not_not.mp q
    exact g1 W (fun t ha hx hb' q' => XS.ifNo ha hx rfl (hb hb' hd) rfl ((if0 _ _).trans (tlt q).2.1) q') (G2 q)
theorem s_icmpge {o : Int} {pc1 pc2 : Nat} {x y : Int32} (W : Wk p l e R s m args below meth c Z a0 EL n0 kn wd own bytes ml ws T h k n) (hd : decode bytes pc = .ok (.if_icmp .ge o, 3)) (ho : 0 ≤ (pc : Int) + o) (hp1 : ((pc : Int) + o).toNat = pc1) (hp2 : pc + 3 = pc2) (G1 : ¬ x < y → Go p e below Φ T (mkF m pc1 Ls rest)) (G2 : x < y → Go p e below Φ T (mkF m pc2 Ls rest)) : Go p e below Φ T (mkF m pc Ls (.int y :: .int x :: rest)) := by
  subst hp1 hp2
  by_cases q : ¬ x < y
  · exact g1 W (fun t ha hx hb' q' => XS.icmpYes ha hx rfl rfl (hb hb' hd) rfl (flt q).2.1 ho rfl q') (G1 q)
  · have q : x < y := by first | exact q | exact Classical.not_not.mp q
    exact g1 W (fun t ha hx hb' q' => XS.icmpNo ha hx rfl (hb hb' hd) rfl (tlt q).2.1 q') (G2 q)
theorem s_ifgt {o : Int} {pc1 pc2 : Nat} {x : Int32} (W : Wk p l e R s m args below meth c Z a0 EL n0 kn wd own bytes ml ws T h k n) (hd : decode bytes pc = .ok (.ifCond .gt o, 3)) (ho : 0 ≤ (pc : Int) + o) (hp1 : ((pc : Int) + o).toNat = pc1) (hp2 : pc + 3 = pc2) (G1 : (0 : Int32) < x → Go p e below Φ T (mkF m pc1 Ls rest)) (G2 : ¬ (0 : Int32) < x → Go p e below Φ T (mkF m pc2 Ls rest)) : Go p e below Φ T (mkF m pc Ls (.int x :: rest)) := by
  subst hp1 hp2
  by_cases q : (0 : Int32) < x
  · exact g1 W (fun t ha hx hb' q' => XS.ifYes ha hx rfl rfl (hb hb' hd) rfl ((if0 _ _).trans (tlt q).2.2.1) ho rfl q') (G1 q)
  · have q : ¬ (0 : Int32) < x := by first | exact q | exact Classical.not_not.mp q
    exact g1 W (fun t ha hx hb' q' => XS.ifNo ha hx rfl (hb hb' hd) rfl ((if0 _ _).trans (flt q).2.2.1) q') (G2 q)
theorem s_icmpgt {o : Int} {pc1 pc2 : Nat} {x y : Int32} (W : Wk p l e R s m args below meth c Z a0 EL n0 kn wd own bytes ml ws T h k n) (hd : decode bytes pc = .ok (.if_icmp .gt o, 3)) (ho : 0 ≤ (pc : Int) + o) (hp1 : ((pc : Int) + o).toNat = pc1) (hp2 : pc + 3 = pc2) (G1 : y < x → Go p e below Φ T (mkF m pc1 Ls rest)) (G2 : ¬ y < x → Go p e below Φ T (mkF m pc2 Ls rest)) : Go p e below Φ T (mkF m pc Ls (.int y :: .int x :: rest)) := by
  subst hp1 hp2
  by_cases q : y < x
  · exact g1 W (fun t ha hx hb' q' => XS.icmpYes ha hx rfl rfl (hb hb' hd) rfl (tlt q).2.2.1 ho rfl q') (G1 q)
  · have q : ¬ y < x := by first | exact q | exact Classical.not_not.mp q
    exact g1 W (fun t ha hx hb' q' => XS.icmpNo ha hx rfl (hb hb' hd) rfl (flt q).2.2.1 q') (G2 q)
theorem s_ifle {o : Int} {pc1 pc2 : Nat} {x : Int32} (W : Wk p l e R s m args below meth c Z a0 EL n0 kn wd own bytes ml ws T h k n) (hd : decode bytes pc = .ok (.ifCond .le o, 3)) (ho : 0 ≤ (pc : Int) + o) (hp1 : ((pc : Int) + o).toNat = pc1) (hp2 : pc + 3 = pc2) (G1 : ¬ (0 : Int32) < x → Go p e below Φ T (mkF m pc1 Ls rest)) (G2 : (0 : Int32) < x → Go p e below Φ T (mkF m pc2 Ls rest)) : Go p e below Φ T (mkF m pc Ls (.int x :: rest)) := by
  subst hp1 hp2
  by_cases q : ¬ (0 : Int32) < x
  · exact g1 W (fun t ha hx hb' q' => XS.ifYes ha hx rfl rfl (hb hb' hd) rfl ((if0 _ _).trans (flt q).2.2.2) ho rfl q') (G1 q)
  · have q : (0 : Int32) < x := by first | exact q | exact Classical.not_not.mp q
    exact g1 W (fun t ha hx hb' q' => XS.ifNo ha hx rfl (hb hb' hd) rfl ((if0 _ _).trans (tlt q).2.2.2) q') (G2 q)
theorem s_icmple {o : Int} {pc1 pc2 : Nat} {x y : Int32} (W : Wk p l e R s m args below meth c Z a0 EL n0 kn wd own bytes ml ws T h k n) (hd : decode bytes pc = .ok (.if_icmp .le o, 3)) (ho : 0 ≤ (pc : Int) + o) (hp1 : ((pc : Int) + o).toNat = pc1) (hp2 : pc + 3 = pc2) (G1 : ¬ y < x → Go p e below Φ T (mkF m pc1 Ls rest)) (G2 : y < x → Go p e below Φ T (mkF m pc2 Ls rest)) : Go p e below Φ T (mkF m pc Ls (.int y :: .int x :: rest)) := by
  subst hp1 hp2
  by_cases q : ¬ y < x
  · exact g1 W (fun t ha hx hb' q' => XS.icmpYes ha hx rfl rfl (hb hb' hd) rfl (flt q).2.2.2 ho rfl q') (G1 q)
  · have q : y < x := by first | exact q | exact Classical.not_not.mp q
    exact g1 W (fun t ha hx hb' q' => XS.icmpNo ha hx rfl (hb hb' hd) rfl (tlt q).2.2.2 q') (G2 q)
theorem s_ifnull {o : Int} {pc1 pc2 : Nat} {v : Value} (W : Wk p l e R s m args below meth c Z a0 EL n0 kn wd own bytes ml ws T h k n) (hd : decode bytes pc = .ok (.ifnull o, 3)) (hv : v.isRef = true) (ho : 0 ≤ (pc : Int) + o) (hp1 : ((pc : Int) + o).toNat = pc1) (hp2 : pc + 3 = pc2) (G1 : v = .null → Go p e below Φ T (mkF m pc1 Ls rest)) (G2 : ¬ v = .null → Go p e below Φ T (mkF m pc2 Ls rest)) : Go p e below Φ T (mkF m pc Ls (v :: rest)) := by
  subst hp1 hp2
  by_cases q : v = .null
  · exact g1 W (fun t ha hx hb' q' => XT.nullYes ha hx rfl rfl (hb hb' hd) rfl q ho rfl q') (G1 q)
  · have q : ¬ v = .null := by first | exact q | exact Classical.not_not.mp q
    exact g1 W (fun t ha hx hb' q' => XT.nullNo ha hx rfl (hb hb' hd) rfl hv q q') (G2 q)
theorem s_ifnonnull {o : Int} {pc1 pc2 : Nat} {v : Value} (W : Wk p l e R s m args below meth c Z a0 EL n0 kn wd own bytes ml ws T h k n) (hd : decode bytes pc = .ok (.ifnonnull o, 3)) (hv : v.isRef = true) (ho : 0 ≤ (pc : Int) + o) (hp1 : ((pc : Int) + o).toNat = pc1) (hp2 : pc + 3 = pc2) (G1 : ¬ v = .null → Go p e below Φ T (mkF m pc1 Ls rest)) (G2 : v = .null → Go p e below Φ T (mkF m pc2 Ls rest)) : Go p e below Φ T (mkF m pc Ls (v :: rest)) := by
  subst hp1 hp2
  by_cases q : ¬ v = .null
  · exact g1 W (fun t ha hx hb' q' => XT.nonnullYes ha hx rfl rfl (hb hb' hd) rfl hv q ho rfl q') (G1 q)
  · have q : v = .null := by first | exact q | exact Classical.not_not.mp q
    exact g1 W (fun t ha hx hb' q' => XT.nonnullNo ha hx rfl (hb hb' hd) rfl q q') (G2 q)
theorem s_acmpeq {o : Int} {pc1 pc2 : Nat} {v w : Value} (W : Wk p l e R s m args below meth c Z a0 EL n0 kn wd own bytes ml ws T h k n) (hd : decode bytes pc = .ok (.if_acmp .eq o, 3)) (hv : v.isRef = true) (hw' : w.isRef = true) (ho : 0 ≤ (pc : Int) + o) (hp1 : ((pc : Int) + o).toNat = pc1) (hp2 : pc + 3 = pc2) (G1 : v = w → Go p e below Φ T (mkF m pc1 Ls rest)) (G2 : ¬ v = w → Go p e below Φ T (mkF m pc2 Ls rest)) : Go p e below Φ T (mkF m pc Ls (w :: v :: rest)) := by
  subst hp1 hp2
  by_cases q : v = w
  · exact g1 W (fun t ha hx hb' q' => XT.acmpYes ha hx rfl rfl (hb hb' hd) rfl hv hw' (decide_eq_true q) ho rfl q') (G1 q)
  · have q : ¬ v = w := by first | exact q | exact Classical.not_not.mp q
    exact g1 W (fun t ha hx hb' q' => XT.acmpNo ha hx rfl (hb hb' hd) rfl hv hw' (decide_eq_false q) q') (G2 q)
theorem s_acmpne {o : Int} {pc1 pc2 : Nat} {v w : Value} (W : Wk p l e R s m args below meth c Z a0 EL n0 kn wd own bytes ml ws T h k n) (hd : decode bytes pc = .ok (.if_acmp .ne o, 3)) (hv : v.isRef = true) (hw' : w.isRef = true) (ho : 0 ≤ (pc : Int) + o) (hp1 : ((pc : Int) + o).toNat = pc1) (hp2 : pc + 3 = pc2) (G1 : ¬ v = w → Go p e below Φ T (mkF m pc1 Ls rest)) (G2 : v = w → Go p e below Φ T (mkF m pc2 Ls rest)) : Go p e below Φ T (mkF m pc Ls (w :: v :: rest)) := by
  subst hp1 hp2
  by_cases q : ¬ v = w
  · exact g1 W (fun t ha hx hb' q' => XT.acmpYes ha hx rfl rfl (hb hb' hd) rfl hv hw' (decide_eq_true q) ho rfl q') (G1 q)
  · have q : v = w := by first | exact q | exact Classical.not_not.mp q
    exact g1 W (fun t ha hx hb' q' => XT.acmpNo ha hx rfl (hb hb' hd) rfl hv hw' (decide_eq_false (fun r => r q)) q') (G2 q)
theorem s_ldcI {index : Nat} {v : Int32} (W : Wk p l e R s m args below meth c Z a0 EL n0 kn wd own bytes ml ws T h k n) (w : (Jvm.Cond.constant own index v).before a0 Z = true) (hd : decode bytes pc = .ok (.ldc index, 2)) (hp : pc + 2 = pc') (G : Go p e below Φ T (mkF m pc' Ls (.int v :: st))) : Go p e below Φ T (mkF m pc Ls st) := by
  subst hp
  exact g2 W (fun vm0 locs X hx hb' hZ eT hO t q => X.ldcInt hx hO (mv (s := s.setVm vm0) hZ w) (g := mkF m pc Ls st) rfl (hb hb' hd) t q) G
theorem s_ldcJ {index : Nat} {v : Int64} (W : Wk p l e R s m args below meth c Z a0 EL n0 kn wd own bytes ml ws T h k n) (w : (Jvm.Cond.constantLong own index v).before a0 Z = true) (hd : decode bytes pc = .ok (.ldc2_w index, 3)) (hp : pc + 3 = pc') (G : Go p e below Φ T (mkF m pc' Ls (.long v :: st))) : Go p e below Φ T (mkF m pc Ls st) := by
  subst hp
  exact g2 W (fun vm0 locs X hx hb' hZ eT hO t q => X.ldc2Long hx hO (mv (s := s.setVm vm0) hZ w) (g := mkF m pc Ls st) rfl (hb hb' hd) t q) G
theorem s_castNull {index : Nat} (W : Wk p l e R s m args below meth c Z a0 EL n0 kn wd own bytes ml ws T h k n) (hd : decode bytes pc = .ok (.checkcast index, 3)) (hp : pc + 3 = pc') (G : Go p e below Φ T (mkF m pc' Ls (.null :: rest))) : Go p e below Φ T (mkF m pc Ls (.null :: rest)) := by
  subst hp
  exact g2 W (fun vm0 locs X hx hb' hZ eT hO t q => X.checkcastNull hx (g := mkF m pc Ls (.null :: rest)) rfl rfl (hb hb' hd) t q) G
theorem s_instNull {index : Nat} (W : Wk p l e R s m args below meth c Z a0 EL n0 kn wd own bytes ml ws T h k n) (hd : decode bytes pc = .ok (.instanceof index, 3)) (hp : pc + 3 = pc') (G : Go p e below Φ T (mkF m pc' Ls (.int 0 :: rest))) : Go p e below Φ T (mkF m pc Ls (.null :: rest)) := by
  subst hp
  exact g2 W (fun vm0 locs X hx hb' hZ eT hO t q => X.instanceofNull hx (g := mkF m pc Ls (.null :: rest)) rfl rfl (hb hb' hd) t q) G
theorem Go.cast {f f' : JFrame} (q : f = f') (G : Go p e below Φ T f') : Go p e below Φ T f := q ▸ G
end OwnSteps
section OwnNat
theorem natlt {a n : Nat} (q : a < n) : a < n := q
theorem natle {a n : Nat} (q : a ≤ n) : a ≤ n := q
theorem nateq {a n : Nat} (q : a = n) : a = n := q
theorem ane {a b : Nat} (q : a < b ∨ b < a) : a ≠ b := by omega
end OwnNat
section OwnFacts
variable {Z : State} {h h' h0 : Heap} {a b : Addr} {ws : List Addr} {v w : Value}
theorem isRef_cat (q : v.isRef = true) : v.category = 1 := by cases v <;> first | rfl | (simp [Value.isRef] at q)
theorem narrow_ref {ty : FieldType} (q : v.isRef = true) : narrow ty v = v := by cases v <;> first | (simp [Value.isRef] at q; done) | (cases ty <;> rfl)
theorem fits_ref' {ty : FieldType} (ht : ty.isReference = true) (q : v.isRef = true) : fits ty v = true := by cases ty <;> cases v <;> first | rfl | (simp [Value.isRef] at q; done) | (simp [FieldType.isReference] at ht; done)
/-- a String, its byte array, its coder -/
def Str (Z : State) (h : Heap) (a b : Addr) (kb : ClassId) (cd z : Int32) (bs : List Value) : Prop := Exa Z h a "java/lang/String" ∧ Fld Z h a "java/lang/String" "value" "[B" (.ref b) ∧ Fld Z h a "java/lang/String" "coder" "B" (.int cd) ∧ Arv Z h b kb .byte z bs (.int 0)
theorem Str.keep {kb : ClassId} {cd z : Int32} {bs : List Value} (S : Str Z h a b kb cd z bs) (K : Keep h h' ws) (ha : a ∉ ws) (hb : b ∉ ws) : Str Z h' a b kb cd z bs := ⟨S.1.keep K, S.2.1.keep K ha, S.2.2.1.keep K ha, S.2.2.2.keep K hb⟩
theorem Str.ext {kb : ClassId} {cd z : Int32} {bs : List Value} (S : Str Z h a b kb cd z bs) (E : Ext h h') : Str Z h' a b kb cd z bs := ⟨S.1.ext E, S.2.1.ext E, S.2.2.1.ext E, S.2.2.2.ext E⟩
theorem Unt.keep' (U : Unt h a) (K : Keep h h' ws) (q : a ∉ ws) : Unt h' a := Unt.keep K q U
def One1 (s : Slot) : Prop := s = .unset ∨ ∃ v, s = .val v ∧ v.category = 1
theorem One1.i (x : Int32) : One1 (.val (.int x)) := Or.inr ⟨_, rfl, rfl⟩
theorem One1.u : One1 .unset := Or.inl rfl
theorem n32 {j : Nat} (q : j < 2147483648) : j.toInt32.toInt = (j : Int) := Int32.toInt_ofNat_small (by omega)
theorem n32c {j : Nat} (q : j < 2147483648) : j.toInt32.toNatClampNeg = j := by
  show j.toInt32.toInt.toNat = j
  rw [n32 q]; exact Int.toNat_natCast j
theorem n32s (j : Nat) : j.toInt32 + (1 : Int32) = (j + 1).toInt32 := (Int32.ofNat_add j 1).symm
theorem set_last (vs : List Value) (d x : Value) {j : Nat} (q : j = vs.length) : (vs ++ List.replicate 1 d).set j x = vs ++ [x] := by
  subst q; simp
theorem take_succ' (f : Int32 → Value) (cs : List Int32) {j : Nat} (q : j < cs.length) : (cs.take (j + 1)).map f = (cs.take j).map f ++ [f cs[j]] := by
  rw [List.take_succ_eq_append_getElem q, List.map_append]; rfl
theorem getD_map' (f : Int32 → Value) (cs : List Int32) (d : Value) {j : Nat} (q : j < cs.length) : (cs.map f).getD j d = f cs[j] := by
  rw [List.getD_eq_getElem?_getD, List.getElem?_map, List.getElem?_eq_getElem q]; rfl
theorem lt32 {x y : Int32} (q : x.toInt < y.toInt) : x < y := Int32.lt_iff_toInt_lt.mpr q
theorem nlt32 {x y : Int32} (q : ¬ x.toInt < y.toInt) : ¬ x < y := fun r => q (Int32.lt_iff_toInt_lt.mp r)
theorem eq32 {x y : Int32} (q : x.toInt = y.toInt) : x = y := Int32.toInt_inj.mp q
theorem zero32 : (0 : Int32).toInt = 0 := by decide
end OwnFacts
section OwnWords
theorem allC {P : Jvm.Cond → Prop} {y : Jvm.Cond} {L : List Jvm.Cond} (q : P y) (r : ∀ x ∈ L, P x) : ∀ x ∈ y :: L, P x := fun x z => (List.mem_cons.mp z).elim (fun u => u ▸ q) (r x)
theorem allC0 {P : Jvm.Cond → Prop} : ∀ x ∈ ([] : List Jvm.Cond), P x := fun _ q => nomatch q
end OwnWords
section OwnStr
variable {Z : State} {h h' h0 : Heap} {a b : Addr} {ws : List Addr} {v w : Value} {a0 : Array Value}
theorem Str.uniq {d1 d2 : Addr} {k1 k2 : ClassId} {cd1 cd2 z1 z2 : Int32} {xs1 xs2 : List Int32} (S1 : Str Z h a d1 k1 cd1 z1 (xs1.map Value.int)) (S2 : Str Z h a d2 k2 cd2 z2 (xs2.map Value.int)) (l1 : z1.toInt = xs1.length) (l2 : z2.toInt = xs2.length) : cd1 = cd2 ∧ xs1 = xs2 := by
  have hd : d1 = d2 := by
    by_cases q : d1 = d2
    · exact q
    · exact absurd rfl (S1.2.1.ne S2.2.1 (fun r => q (Value.ref.inj r)))
  have hc : cd1 = cd2 := by
    by_cases q : cd1 = cd2
    · exact q
    · exact absurd rfl (S1.2.2.1.ne S2.2.2.1 (fun r => q (Value.int.inj r)))
  subst hd
  refine ⟨hc, ?_⟩
  have e1 : z1.toNatClampNeg = xs1.length := by show z1.toInt.toNat = _; omega
  have e2 : z2.toNatClampNeg = xs2.length := by show z2.toInt.toNat = _; omega
  have hl : xs1.length = xs2.length := by
    by_cases q : z1.toNatClampNeg = z2.toNatClampNeg
    · rw [← e1, ← e2]; exact q
    · exact absurd rfl (arv_ne S1.2.2.2 S2.2.2.2 (Or.inl q))
  refine List.ext_getElem hl fun i q1 q2 => ?_
  by_cases q : xs1[i] = xs2[i]
  · exact q
  · refine absurd rfl (arv_ne S1.2.2.2 S2.2.2.2 (Or.inr ⟨i, by omega, ?_⟩))
    rw [getD_map' _ _ _ q1, getD_map' _ _ _ q2]
    exact fun r => q (Value.int.inj r)
/-- null, or a String of these bytes -/
def NSt (Z : State) (h : Heap) (w : Value) (o : Option (List Int32)) : Prop := match o with
  | none => w = .null
  | some xs => ∃ (a d : Addr) (kd : ClassId) (z : Int32), w = .ref a ∧ z.toInt = xs.length ∧ xs.length ≤ 64 ∧ Str Z h a d kd 0 z (xs.map Value.int)
theorem NSt.ref {o : Option (List Int32)} (N : NSt Z h w o) : w.isRef = true := by
  cases o with
  | none => cases N; rfl
  | some xs => obtain ⟨a, d, kd, z, rfl, -⟩ := N; rfl
theorem NSt.ext {o : Option (List Int32)} (N : NSt Z h w o) (E : Ext h h') : NSt Z h' w o := by
  cases o with
  | none => exact N
  | some xs => obtain ⟨a, d, kd, z, h1, h2, h3, S⟩ := N; exact ⟨a, d, kd, z, h1, h2, h3, S.ext E⟩
theorem NSt.keep0 {o : Option (List Int32)} (N : NSt Z h w o) (K : Keep h h' []) : NSt Z h' w o := by
  cases o with
  | none => exact N
  | some xs => obtain ⟨a, d, kd, z, h1, h2, h3, S⟩ := N; exact ⟨a, d, kd, z, h1, h2, h3, S.keep K nin0 nin0⟩
theorem NSt.keepX {o : Option (List Int32)} {C : String} {nn : Nat} (N : NSt Z h w o) (E : Exa Z h b C) (hC : C ≠ "java/lang/String") (wi : (Jvm.Cond.instantiable C nn).before a0 Z = true) (K : Keep h h' [b]) : NSt Z h' w o := by
  cases o with
  | none => exact N
  | some xs =>
    obtain ⟨a, d, kd, z, h1, h2, h3, S⟩ := N
    exact ⟨a, d, kd, z, h1, h2, h3, S.keep K (ninS (Ne.symm (ne_exa E S.1 hC)) nin0) (ninS (Ne.symm (E.neArv S.2.2.2 wi)) nin0)⟩
end OwnStr
section OwnChars
theorem byteCharF : ∀ n : Fin 256, nar .char (((Int32.ofNat n.val).toInt8.toInt32 &&& (255 : Int32)).toUInt32.toUInt16.toUInt32.toInt32) = Int32.ofNat n.val := by decide +kernel
theorem byteChar {c : Int32} (q : 0 ≤ c.toInt ∧ c.toInt < 256) : nar .char ((c.toInt8.toInt32 &&& (255 : Int32)).toUInt32.toUInt16.toUInt32.toInt32) = c := by
  have e : c = Int32.ofNat c.toInt.toNat := eq32 (by rw [show (Int32.ofNat c.toInt.toNat).toInt = _ from n32 (by omega)]; omega)
  rw [e]
  exact byteCharF ⟨c.toInt.toNat, by omega⟩
end OwnChars
section OwnChars2
theorem nar_charF : ∀ n : Fin 256, nar .char (Int32.ofNat n.val) = Int32.ofNat n.val := by decide +kernel
theorem nar_char {c : Int32} (q : 0 ≤ c.toInt ∧ c.toInt < 256) : nar .char c = c := by
  have e : c = Int32.ofNat c.toInt.toNat := eq32 (by rw [show (Int32.ofNat c.toInt.toNat).toInt = _ from n32 (by omega)]; omega)
  rw [e]
  exact nar_charF ⟨c.toInt.toNat, by omega⟩
end OwnChars2
section OwnBits
theorem and_nat (x : Int32) {k : Nat} (hk : k < 2147483648) : ∃ n : Nat, n ≤ k ∧ x &&& Int32.ofNat k = Int32.ofNat n := by
  refine ⟨x.toBitVec.toNat &&& k, Nat.and_le_right, ?_⟩
  apply Int32.toBitVec_inj.mp
  apply BitVec.eq_of_toNat_eq
  have e1 : (Int32.ofNat k).toBitVec.toNat = k := by
    show (BitVec.ofNat 32 k).toNat = k
    rw [BitVec.toNat_ofNat]; exact Nat.mod_eq_of_lt (by omega)
  have e2 : (Int32.ofNat (x.toBitVec.toNat &&& k)).toBitVec.toNat = x.toBitVec.toNat &&& k := by
    show (BitVec.ofNat 32 (x.toBitVec.toNat &&& k)).toNat = _
    rw [BitVec.toNat_ofNat]; exact Nat.mod_eq_of_lt (Nat.lt_of_le_of_lt Nat.and_le_right (by omega))
  rw [e2]
  show (x.toBitVec &&& (Int32.ofNat k).toBitVec).toNat = _
  rw [BitVec.toNat_and, e1]
theorem ofN {j : Nat} (q : j < 2147483648) : (Int32.ofNat j).toInt = (j : Int) := n32 q
theorem rem_nat {n k : Nat} (hn : n < 2147483648) (hk : k < 2147483648) : Int32.ofNat n % Int32.ofNat k = Int32.ofNat (n % k) := by
  apply eq32
  rw [Int32.toInt_mod, ofN hn, ofN hk, ofN (Nat.lt_of_le_of_lt (Nat.mod_le n k) hn)]
  exact (Int.ofNat_tmod n k).symm
theorem ofN_add {j k : Nat} (q : j + k < 2147483648) : Int32.ofNat j + Int32.ofNat k = Int32.ofNat (j + k) := (Int32.ofNat_add j k).symm
end OwnBits
abbrev EL0 : List (String × Nat) := [("java/lang/String", 7)]
theorem w_0 {Z : State} {a0 : Array Value} (hw : ∀ d ∈ tables_1, d.before a0 Z = true) : (Jvm.Cond.methodLink "com/example/fjalar/fjalar/ApiExceptionInvalidInputPinLaw" (12 : Nat) ({ cls := "com/example/fjalar/fjalar/ApiExceptionInvalidInputPinLaw", name := "draw", desc := "(IIII)Ljava/lang/String;" } : Jvm.MethodName)).before a0 Z = true := hw _ (List.mem_of_getElem? (i := 0) rfl)
theorem w_1 {Z : State} {a0 : Array Value} (hw : ∀ d ∈ tables_1, d.before a0 Z = true) : (Jvm.Cond.static ({ cls := "com/example/fjalar/fjalar/ApiExceptionInvalidInputPinLaw", name := "draw", desc := "(IIII)Ljava/lang/String;" } : Jvm.MethodName)).before a0 Z = true := hw _ (List.mem_of_getElem? (i := 1) rfl)
theorem w_2 {Z : State} {a0 : Array Value} (hw : ∀ d ∈ tables_1, d.before a0 Z = true) : (Jvm.Cond.initialized "com/example/fjalar/fjalar/ApiExceptionInvalidInputPinLaw").before a0 Z = true := hw _ (List.mem_of_getElem? (i := 2) rfl)
theorem w_3 {Z : State} {a0 : Array Value} (hw : ∀ d ∈ tables_1, d.before a0 Z = true) : (Jvm.Cond.code ({ cls := "com/example/fjalar/fjalar/ApiExceptionInvalidInputPinLaw", name := "draw", desc := "(IIII)Ljava/lang/String;" } : Jvm.MethodName) method_2_code (8 : Nat) (Option.some (Jvm.ClassFile.FieldType.object "java/lang/String"))).before a0 Z = true := hw _ (List.mem_of_getElem? (i := 3) rfl)
theorem w_4 {Z : State} {a0 : Array Value} (hw : ∀ d ∈ tables_1, d.before a0 Z = true) : (Jvm.Cond.classLink "com/example/fjalar/fjalar/ApiExceptionInvalidInputPinLaw" (7 : Nat) "java/lang/String").before a0 Z = true := hw _ (List.mem_of_getElem? (i := 4) rfl)
theorem w_5 {Z : State} {a0 : Array Value} (hw : ∀ d ∈ tables_1, d.before a0 Z = true) : (Jvm.Cond.instantiable "java/lang/String" (4 : Nat)).before a0 Z = true := hw _ (List.mem_of_getElem? (i := 5) rfl)
theorem w_6 {Z : State} {a0 : Array Value} (hw : ∀ d ∈ tables_1, d.before a0 Z = true) : (Jvm.Cond.initialized "java/lang/String").before a0 Z = true := hw _ (List.mem_of_getElem? (i := 6) rfl)
theorem w_7 {Z : State} {a0 : Array Value} (hw : ∀ d ∈ tables_1, d.before a0 Z = true) : (Jvm.Cond.arrayClass Jvm.ClassFile.FieldType.char).before a0 Z = true := hw _ (List.mem_of_getElem? (i := 7) rfl)
theorem w_8 {Z : State} {a0 : Array Value} (hw : ∀ d ∈ tables_1, d.before a0 Z = true) : (Jvm.Cond.methodLink "com/example/fjalar/fjalar/ApiExceptionInvalidInputPinLaw" (9 : Nat) ({ cls := "java/lang/String", name := "<init>", desc := "([C)V" } : Jvm.MethodName)).before a0 Z = true := hw _ (List.mem_of_getElem? (i := 8) rfl)
theorem w_9 {Z : State} {a0 : Array Value} (hw : ∀ d ∈ tables_1, d.before a0 Z = true) : (Jvm.Cond.instanceMethod ({ cls := "java/lang/String", name := "<init>", desc := "([C)V" } : Jvm.MethodName)).before a0 Z = true := hw _ (List.mem_of_getElem? (i := 9) rfl)
theorem w_10 {Z : State} {a0 : Array Value} (hw : ∀ d ∈ tables_1, d.before a0 Z = true) : (Jvm.Cond.code ({ cls := "java/lang/String", name := "<init>", desc := "([C)V" } : Jvm.MethodName) jdk_42_method_3_code (2 : Nat) (Option.none : Option Jvm.ClassFile.FieldType)).before a0 Z = true := hw _ (List.mem_of_getElem? (i := 10) rfl)
theorem w_11 {Z : State} {a0 : Array Value} (hw : ∀ d ∈ tables_1, d.before a0 Z = true) : (Jvm.Cond.methodLink "java/lang/String" (27 : Nat) ({ cls := "java/lang/String", name := "<init>", desc := "([CIILjava/lang/Void;)V" } : Jvm.MethodName)).before a0 Z = true := hw _ (List.mem_of_getElem? (i := 11) rfl)
theorem w_12 {Z : State} {a0 : Array Value} (hw : ∀ d ∈ tables_1, d.before a0 Z = true) : (Jvm.Cond.instanceMethod ({ cls := "java/lang/String", name := "<init>", desc := "([CIILjava/lang/Void;)V" } : Jvm.MethodName)).before a0 Z = true := hw _ (List.mem_of_getElem? (i := 12) rfl)
theorem w_14 {Z : State} {a0 : Array Value} (hw : ∀ d ∈ tables_1, d.before a0 Z = true) : (Jvm.Cond.code ({ cls := "java/lang/String", name := "<init>", desc := "([CIILjava/lang/Void;)V" } : Jvm.MethodName) jdk_42_method_149_code (6 : Nat) (Option.none : Option Jvm.ClassFile.FieldType)).before a0 Z = true := hw _ (List.mem_of_getElem? (i := 14) rfl)
theorem w_15 {Z : State} {a0 : Array Value} (hw : ∀ d ∈ tables_1, d.before a0 Z = true) : (Jvm.Cond.methodLink "java/lang/String" (1 : Nat) ({ cls := "java/lang/Object", name := "<init>", desc := "()V" } : Jvm.MethodName)).before a0 Z = true := hw _ (List.mem_of_getElem? (i := 15) rfl)
theorem w_16 {Z : State} {a0 : Array Value} (hw : ∀ d ∈ tables_1, d.before a0 Z = true) : (Jvm.Cond.instanceMethod ({ cls := "java/lang/Object", name := "<init>", desc := "()V" } : Jvm.MethodName)).before a0 Z = true := hw _ (List.mem_of_getElem? (i := 16) rfl)
theorem w_17 {Z : State} {a0 : Array Value} (hw : ∀ d ∈ tables_1, d.before a0 Z = true) : (Jvm.Cond.code ({ cls := "java/lang/Object", name := "<init>", desc := "()V" } : Jvm.MethodName) object_method_1_code (1 : Nat) (Option.none : Option Jvm.ClassFile.FieldType)).before a0 Z = true := hw _ (List.mem_of_getElem? (i := 17) rfl)
theorem w_18 {Z : State} {a0 : Array Value} (hw : ∀ d ∈ tables_1, d.before a0 Z = true) : (Jvm.Cond.stringLink "java/lang/String" (7 : Nat) "").before a0 Z = true := hw _ (List.mem_of_getElem? (i := 18) rfl)
theorem w_19 {Z : State} {a0 : Array Value} (hw : ∀ d ∈ tables_1, d.before a0 Z = true) : (Jvm.Cond.arrayClass Jvm.ClassFile.FieldType.byte).before a0 Z = true := hw _ (List.mem_of_getElem? (i := 19) rfl)
theorem w_20 {Z : State} {a0 : Array Value} (hw : ∀ d ∈ tables_1, d.before a0 Z = true) : (Jvm.Cond.laysFinal "java/lang/String" "java/lang/String" "value" "[B").before a0 Z = true := hw _ (List.mem_of_getElem? (i := 20) rfl)
theorem w_21 {Z : State} {a0 : Array Value} (hw : ∀ d ∈ tables_1, d.before a0 Z = true) : (Jvm.Cond.laysFinal "java/lang/String" "java/lang/String" "coder" "B").before a0 Z = true := hw _ (List.mem_of_getElem? (i := 21) rfl)
theorem w_22 {Z : State} {a0 : Array Value} (hw : ∀ d ∈ tables_1, d.before a0 Z = true) : (Jvm.Cond.soleField "java/lang/String" "value").before a0 Z = true := hw _ (List.mem_of_getElem? (i := 22) rfl)
theorem w_23 {Z : State} {a0 : Array Value} (hw : ∀ d ∈ tables_1, d.before a0 Z = true) : (Jvm.Cond.soleField "java/lang/String" "coder").before a0 Z = true := hw _ (List.mem_of_getElem? (i := 23) rfl)
theorem w_24 {Z : State} {a0 : Array Value} (hw : ∀ d ∈ tables_1, d.before a0 Z = true) : (Jvm.Cond.fieldLink "java/lang/String" (9 : Nat) "java/lang/String" "value" "[B").before a0 Z = true := hw _ (List.mem_of_getElem? (i := 24) rfl)
theorem w_25 {Z : State} {a0 : Array Value} (hw : ∀ d ∈ tables_1, d.before a0 Z = true) : (Jvm.Cond.fieldLink "java/lang/String" (15 : Nat) "java/lang/String" "coder" "B").before a0 Z = true := hw _ (List.mem_of_getElem? (i := 25) rfl)
theorem w_26 {Z : State} {a0 : Array Value} (hw : ∀ d ∈ tables_1, d.before a0 Z = true) : (Jvm.Cond.methodLink "com/example/fjalar/fjalar/ApiExceptionInvalidInputPinLaw" (18 : Nat) ({ cls := "com/example/fjalar/fjalar/ApiException", name := "invalidInput", desc := "(Ljava/lang/String;)Lcom/example/fjalar/fjalar/ApiException;" } : Jvm.MethodName)).before a0 Z = true := hw _ (List.mem_of_getElem? (i := 26) rfl)
theorem w_27 {Z : State} {a0 : Array Value} (hw : ∀ d ∈ tables_1, d.before a0 Z = true) : (Jvm.Cond.static ({ cls := "com/example/fjalar/fjalar/ApiException", name := "invalidInput", desc := "(Ljava/lang/String;)Lcom/example/fjalar/fjalar/ApiException;" } : Jvm.MethodName)).before a0 Z = true := hw _ (List.mem_of_getElem? (i := 27) rfl)
theorem w_28 {Z : State} {a0 : Array Value} (hw : ∀ d ∈ tables_1, d.before a0 Z = true) : (Jvm.Cond.initialized "com/example/fjalar/fjalar/ApiException").before a0 Z = true := hw _ (List.mem_of_getElem? (i := 28) rfl)
theorem w_29 {Z : State} {a0 : Array Value} (hw : ∀ d ∈ tables_1, d.before a0 Z = true) : (Jvm.Cond.code ({ cls := "com/example/fjalar/fjalar/ApiException", name := "invalidInput", desc := "(Ljava/lang/String;)Lcom/example/fjalar/fjalar/ApiException;" } : Jvm.MethodName) prog_1_method_2_code (1 : Nat) (Option.some (Jvm.ClassFile.FieldType.object "com/example/fjalar/fjalar/ApiException"))).before a0 Z = true := hw _ (List.mem_of_getElem? (i := 29) rfl)
theorem w_30 {Z : State} {a0 : Array Value} (hw : ∀ d ∈ tables_1, d.before a0 Z = true) : (Jvm.Cond.classLink "com/example/fjalar/fjalar/ApiException" (8 : Nat) "com/example/fjalar/fjalar/ApiException").before a0 Z = true := hw _ (List.mem_of_getElem? (i := 30) rfl)
theorem w_31 {Z : State} {a0 : Array Value} (hw : ∀ d ∈ tables_1, d.before a0 Z = true) : (Jvm.Cond.instantiable "com/example/fjalar/fjalar/ApiException" (7 : Nat)).before a0 Z = true := hw _ (List.mem_of_getElem? (i := 31) rfl)
theorem w_32 {Z : State} {a0 : Array Value} (hw : ∀ d ∈ tables_1, d.before a0 Z = true) : (Jvm.Cond.fieldLink "com/example/fjalar/fjalar/ApiException" (13 : Nat) "com/example/fjalar/fjalar/ApiException$Code" "INVALID_INPUT" "Lcom/example/fjalar/fjalar/ApiException$Code;").before a0 Z = true := hw _ (List.mem_of_getElem? (i := 32) rfl)
theorem w_33 {Z : State} {a0 : Array Value} (hw : ∀ d ∈ tables_1, d.before a0 Z = true) : (Jvm.Cond.initialized "com/example/fjalar/fjalar/ApiException$Code").before a0 Z = true := hw _ (List.mem_of_getElem? (i := 33) rfl)
theorem w_34 {Z : State} {a0 : Array Value} (hw : ∀ d ∈ tables_1, d.before a0 Z = true) : (Jvm.Cond.laysStatic "com/example/fjalar/fjalar/ApiException$Code" "INVALID_INPUT" "Lcom/example/fjalar/fjalar/ApiException$Code;").before a0 Z = true := hw _ (List.mem_of_getElem? (i := 34) rfl)
theorem w_35 {Z : State} {a0 : Array Value} (hw : ∀ d ∈ tables_1, d.before a0 Z = true) : (Jvm.Cond.methodLink "com/example/fjalar/fjalar/ApiException" (18 : Nat) ({ cls := "com/example/fjalar/fjalar/ApiException", name := "<init>", desc := "(Lcom/example/fjalar/fjalar/ApiException$Code;Ljava/lang/String;)V" } : Jvm.MethodName)).before a0 Z = true := hw _ (List.mem_of_getElem? (i := 35) rfl)
theorem w_36 {Z : State} {a0 : Array Value} (hw : ∀ d ∈ tables_1, d.before a0 Z = true) : (Jvm.Cond.instanceMethod ({ cls := "com/example/fjalar/fjalar/ApiException", name := "<init>", desc := "(Lcom/example/fjalar/fjalar/ApiException$Code;Ljava/lang/String;)V" } : Jvm.MethodName)).before a0 Z = true := hw _ (List.mem_of_getElem? (i := 36) rfl)
theorem w_37 {Z : State} {a0 : Array Value} (hw : ∀ d ∈ tables_1, d.before a0 Z = true) : (Jvm.Cond.code ({ cls := "com/example/fjalar/fjalar/ApiException", name := "<init>", desc := "(Lcom/example/fjalar/fjalar/ApiException$Code;Ljava/lang/String;)V" } : Jvm.MethodName) prog_1_method_1_code (3 : Nat) (Option.none : Option Jvm.ClassFile.FieldType)).before a0 Z = true := hw _ (List.mem_of_getElem? (i := 37) rfl)
theorem w_38 {Z : State} {a0 : Array Value} (hw : ∀ d ∈ tables_1, d.before a0 Z = true) : (Jvm.Cond.methodLink "com/example/fjalar/fjalar/ApiException" (1 : Nat) ({ cls := "java/lang/RuntimeException", name := "<init>", desc := "(Ljava/lang/String;)V" } : Jvm.MethodName)).before a0 Z = true := hw _ (List.mem_of_getElem? (i := 38) rfl)
theorem w_39 {Z : State} {a0 : Array Value} (hw : ∀ d ∈ tables_1, d.before a0 Z = true) : (Jvm.Cond.instanceMethod ({ cls := "java/lang/RuntimeException", name := "<init>", desc := "(Ljava/lang/String;)V" } : Jvm.MethodName)).before a0 Z = true := hw _ (List.mem_of_getElem? (i := 39) rfl)
theorem w_41 {Z : State} {a0 : Array Value} (hw : ∀ d ∈ tables_1, d.before a0 Z = true) : (Jvm.Cond.initialized "java/lang/RuntimeException").before a0 Z = true := hw _ (List.mem_of_getElem? (i := 41) rfl)
theorem w_42 {Z : State} {a0 : Array Value} (hw : ∀ d ∈ tables_1, d.before a0 Z = true) : (Jvm.Cond.code ({ cls := "java/lang/RuntimeException", name := "<init>", desc := "(Ljava/lang/String;)V" } : Jvm.MethodName) jdk_58_method_2_code (2 : Nat) (Option.none : Option Jvm.ClassFile.FieldType)).before a0 Z = true := hw _ (List.mem_of_getElem? (i := 42) rfl)
theorem w_43 {Z : State} {a0 : Array Value} (hw : ∀ d ∈ tables_1, d.before a0 Z = true) : (Jvm.Cond.methodLink "java/lang/RuntimeException" (7 : Nat) ({ cls := "java/lang/Exception", name := "<init>", desc := "(Ljava/lang/String;)V" } : Jvm.MethodName)).before a0 Z = true := hw _ (List.mem_of_getElem? (i := 43) rfl)
theorem w_44 {Z : State} {a0 : Array Value} (hw : ∀ d ∈ tables_1, d.before a0 Z = true) : (Jvm.Cond.instanceMethod ({ cls := "java/lang/Exception", name := "<init>", desc := "(Ljava/lang/String;)V" } : Jvm.MethodName)).before a0 Z = true := hw _ (List.mem_of_getElem? (i := 44) rfl)
theorem w_47 {Z : State} {a0 : Array Value} (hw : ∀ d ∈ tables_1, d.before a0 Z = true) : (Jvm.Cond.initialized "java/lang/Exception").before a0 Z = true := hw _ (List.mem_of_getElem? (i := 47) rfl)
theorem w_48 {Z : State} {a0 : Array Value} (hw : ∀ d ∈ tables_1, d.before a0 Z = true) : (Jvm.Cond.code ({ cls := "java/lang/Exception", name := "<init>", desc := "(Ljava/lang/String;)V" } : Jvm.MethodName) jdk_59_method_2_code (2 : Nat) (Option.none : Option Jvm.ClassFile.FieldType)).before a0 Z = true := hw _ (List.mem_of_getElem? (i := 48) rfl)
theorem w_49 {Z : State} {a0 : Array Value} (hw : ∀ d ∈ tables_1, d.before a0 Z = true) : (Jvm.Cond.methodLink "java/lang/Exception" (7 : Nat) ({ cls := "java/lang/Throwable", name := "<init>", desc := "(Ljava/lang/String;)V" } : Jvm.MethodName)).before a0 Z = true := hw _ (List.mem_of_getElem? (i := 49) rfl)
theorem w_50 {Z : State} {a0 : Array Value} (hw : ∀ d ∈ tables_1, d.before a0 Z = true) : (Jvm.Cond.instanceMethod ({ cls := "java/lang/Throwable", name := "<init>", desc := "(Ljava/lang/String;)V" } : Jvm.MethodName)).before a0 Z = true := hw _ (List.mem_of_getElem? (i := 50) rfl)
theorem w_53 {Z : State} {a0 : Array Value} (hw : ∀ d ∈ tables_1, d.before a0 Z = true) : (Jvm.Cond.initialized "java/lang/Throwable").before a0 Z = true := hw _ (List.mem_of_getElem? (i := 53) rfl)
theorem w_54 {Z : State} {a0 : Array Value} (hw : ∀ d ∈ tables_1, d.before a0 Z = true) : (Jvm.Cond.code ({ cls := "java/lang/Throwable", name := "<init>", desc := "(Ljava/lang/String;)V" } : Jvm.MethodName) jdk_78_method_2_code (2 : Nat) (Option.none : Option Jvm.ClassFile.FieldType)).before a0 Z = true := hw _ (List.mem_of_getElem? (i := 54) rfl)
theorem w_55 {Z : State} {a0 : Array Value} (hw : ∀ d ∈ tables_1, d.before a0 Z = true) : (Jvm.Cond.methodLink "java/lang/Throwable" (1 : Nat) ({ cls := "java/lang/Object", name := "<init>", desc := "()V" } : Jvm.MethodName)).before a0 Z = true := hw _ (List.mem_of_getElem? (i := 55) rfl)
theorem w_56 {Z : State} {a0 : Array Value} (hw : ∀ d ∈ tables_1, d.before a0 Z = true) : (Jvm.Cond.fieldLink "java/lang/Throwable" (7 : Nat) "java/lang/Throwable" "cause" "Ljava/lang/Throwable;").before a0 Z = true := hw _ (List.mem_of_getElem? (i := 56) rfl)
theorem w_57 {Z : State} {a0 : Array Value} (hw : ∀ d ∈ tables_1, d.before a0 Z = true) : (Jvm.Cond.lays "com/example/fjalar/fjalar/ApiException" "java/lang/Throwable" "cause" "Ljava/lang/Throwable;").before a0 Z = true := hw _ (List.mem_of_getElem? (i := 57) rfl)
theorem w_58 {Z : State} {a0 : Array Value} (hw : ∀ d ∈ tables_1, d.before a0 Z = true) : (Jvm.Cond.fieldLink "java/lang/Throwable" (13 : Nat) "java/lang/Throwable" "UNASSIGNED_STACK" "[Ljava/lang/StackTraceElement;").before a0 Z = true := hw _ (List.mem_of_getElem? (i := 58) rfl)
theorem w_59 {Z : State} {a0 : Array Value} (hw : ∀ d ∈ tables_1, d.before a0 Z = true) : (Jvm.Cond.fieldLink "java/lang/Throwable" (17 : Nat) "java/lang/Throwable" "stackTrace" "[Ljava/lang/StackTraceElement;").before a0 Z = true := hw _ (List.mem_of_getElem? (i := 59) rfl)
theorem w_60 {Z : State} {a0 : Array Value} (hw : ∀ d ∈ tables_1, d.before a0 Z = true) : (Jvm.Cond.lays "com/example/fjalar/fjalar/ApiException" "java/lang/Throwable" "stackTrace" "[Ljava/lang/StackTraceElement;").before a0 Z = true := hw _ (List.mem_of_getElem? (i := 60) rfl)
theorem w_61 {Z : State} {a0 : Array Value} (hw : ∀ d ∈ tables_1, d.before a0 Z = true) : (Jvm.Cond.fieldLink "java/lang/Throwable" (20 : Nat) "java/lang/Throwable" "SUPPRESSED_SENTINEL" "Ljava/util/List;").before a0 Z = true := hw _ (List.mem_of_getElem? (i := 61) rfl)
theorem w_62 {Z : State} {a0 : Array Value} (hw : ∀ d ∈ tables_1, d.before a0 Z = true) : (Jvm.Cond.fieldLink "java/lang/Throwable" (24 : Nat) "java/lang/Throwable" "suppressedExceptions" "Ljava/util/List;").before a0 Z = true := hw _ (List.mem_of_getElem? (i := 62) rfl)
theorem w_63 {Z : State} {a0 : Array Value} (hw : ∀ d ∈ tables_1, d.before a0 Z = true) : (Jvm.Cond.lays "com/example/fjalar/fjalar/ApiException" "java/lang/Throwable" "suppressedExceptions" "Ljava/util/List;").before a0 Z = true := hw _ (List.mem_of_getElem? (i := 63) rfl)
theorem w_64 {Z : State} {a0 : Array Value} (hw : ∀ d ∈ tables_1, d.before a0 Z = true) : (Jvm.Cond.methodLink "java/lang/Throwable" (27 : Nat) ({ cls := "java/lang/Throwable", name := "fillInStackTrace", desc := "()Ljava/lang/Throwable;" } : Jvm.MethodName)).before a0 Z = true := hw _ (List.mem_of_getElem? (i := 64) rfl)
theorem w_65 {Z : State} {a0 : Array Value} (hw : ∀ d ∈ tables_1, d.before a0 Z = true) : (Jvm.Cond.declares ({ cls := "java/lang/Throwable", name := "fillInStackTrace", desc := "()Ljava/lang/Throwable;" } : Jvm.MethodName)).before a0 Z = true := hw _ (List.mem_of_getElem? (i := 65) rfl)
theorem w_66 {Z : State} {a0 : Array Value} (hw : ∀ d ∈ tables_1, d.before a0 Z = true) : (Jvm.Cond.instanceMethod ({ cls := "java/lang/Throwable", name := "fillInStackTrace", desc := "()Ljava/lang/Throwable;" } : Jvm.MethodName)).before a0 Z = true := hw _ (List.mem_of_getElem? (i := 66) rfl)
theorem w_67 {Z : State} {a0 : Array Value} (hw : ∀ d ∈ tables_1, d.before a0 Z = true) : (Jvm.Cond.selects "com/example/fjalar/fjalar/ApiException" ({ cls := "java/lang/Throwable", name := "fillInStackTrace", desc := "()Ljava/lang/Throwable;" } : Jvm.MethodName) ({ cls := "java/lang/Throwable", name := "fillInStackTrace", desc := "()Ljava/lang/Throwable;" } : Jvm.MethodName)).before a0 Z = true := hw _ (List.mem_of_getElem? (i := 67) rfl)
theorem w_68 {Z : State} {a0 : Array Value} (hw : ∀ d ∈ tables_1, d.before a0 Z = true) : (Jvm.Cond.arrayOver (Jvm.ClassFile.FieldType.object "java/lang/Object")).before a0 Z = true := hw _ (List.mem_of_getElem? (i := 68) rfl)
theorem w_69 {Z : State} {a0 : Array Value} (hw : ∀ d ∈ tables_1, d.before a0 Z = true) : (Jvm.Cond.soleField "java/lang/Throwable" "backtrace").before a0 Z = true := hw _ (List.mem_of_getElem? (i := 69) rfl)
theorem w_70 {Z : State} {a0 : Array Value} (hw : ∀ d ∈ tables_1, d.before a0 Z = true) : (Jvm.Cond.soleField "java/lang/Throwable" "depth").before a0 Z = true := hw _ (List.mem_of_getElem? (i := 70) rfl)
theorem w_71 {Z : State} {a0 : Array Value} (hw : ∀ d ∈ tables_1, d.before a0 Z = true) : (Jvm.Cond.superclass "java/lang/Throwable" "java/lang/Object").before a0 Z = true := hw _ (List.mem_of_getElem? (i := 71) rfl)
theorem w_72 {Z : State} {a0 : Array Value} (hw : ∀ d ∈ tables_1, d.before a0 Z = true) : (Jvm.Cond.codeSync ({ cls := "java/lang/Throwable", name := "fillInStackTrace", desc := "()Ljava/lang/Throwable;" } : Jvm.MethodName) jdk_78_method_18_code (1 : Nat) (Option.some (Jvm.ClassFile.FieldType.object "java/lang/Throwable"))).before a0 Z = true := hw _ (List.mem_of_getElem? (i := 72) rfl)
theorem w_73 {Z : State} {a0 : Array Value} (hw : ∀ d ∈ tables_1, d.before a0 Z = true) : (Jvm.Cond.instanceMethod ({ cls := "java/lang/Throwable", name := "fillInStackTrace", desc := "(I)Ljava/lang/Throwable;" } : Jvm.MethodName)).before a0 Z = true := hw _ (List.mem_of_getElem? (i := 73) rfl)
theorem w_74 {Z : State} {a0 : Array Value} (hw : ∀ d ∈ tables_1, d.before a0 Z = true) : (Jvm.Cond.native ({ cls := "java/lang/Throwable", name := "fillInStackTrace", desc := "(I)Ljava/lang/Throwable;" } : Jvm.MethodName)).before a0 Z = true := hw _ (List.mem_of_getElem? (i := 74) rfl)
theorem w_77 {Z : State} {a0 : Array Value} (hw : ∀ d ∈ tables_1, d.before a0 Z = true) : (Jvm.Cond.methodLink "java/lang/Throwable" (202 : Nat) ({ cls := "java/lang/Throwable", name := "fillInStackTrace", desc := "(I)Ljava/lang/Throwable;" } : Jvm.MethodName)).before a0 Z = true := hw _ (List.mem_of_getElem? (i := 77) rfl)
theorem w_82 {Z : State} {a0 : Array Value} (hw : ∀ d ∈ tables_1, d.before a0 Z = true) : (Jvm.Cond.fieldLink "java/lang/Throwable" (198 : Nat) "java/lang/Throwable" "backtrace" "Ljava/lang/Object;").before a0 Z = true := hw _ (List.mem_of_getElem? (i := 82) rfl)
theorem w_84 {Z : State} {a0 : Array Value} (hw : ∀ d ∈ tables_1, d.before a0 Z = true) : (Jvm.Cond.laysStatic "java/lang/Throwable" "UNASSIGNED_STACK" "[Ljava/lang/StackTraceElement;").before a0 Z = true := hw _ (List.mem_of_getElem? (i := 84) rfl)
theorem w_85 {Z : State} {a0 : Array Value} (hw : ∀ d ∈ tables_1, d.before a0 Z = true) : (Jvm.Cond.laysStatic "java/lang/Throwable" "SUPPRESSED_SENTINEL" "Ljava/util/List;").before a0 Z = true := hw _ (List.mem_of_getElem? (i := 85) rfl)
theorem w_86 {Z : State} {a0 : Array Value} (hw : ∀ d ∈ tables_1, d.before a0 Z = true) : (Jvm.Cond.selects "com/example/fjalar/fjalar/ApiException" ({ cls := "java/lang/Throwable", name := "fillInStackTrace", desc := "(I)Ljava/lang/Throwable;" } : Jvm.MethodName) ({ cls := "java/lang/Throwable", name := "fillInStackTrace", desc := "(I)Ljava/lang/Throwable;" } : Jvm.MethodName)).before a0 Z = true := hw _ (List.mem_of_getElem? (i := 86) rfl)
theorem w_87 {Z : State} {a0 : Array Value} (hw : ∀ d ∈ tables_1, d.before a0 Z = true) : (Jvm.Cond.lays "com/example/fjalar/fjalar/ApiException" "java/lang/Throwable" "detailMessage" "Ljava/lang/String;").before a0 Z = true := hw _ (List.mem_of_getElem? (i := 87) rfl)
theorem w_88 {Z : State} {a0 : Array Value} (hw : ∀ d ∈ tables_1, d.before a0 Z = true) : (Jvm.Cond.lays "com/example/fjalar/fjalar/ApiException" "java/lang/Throwable" "backtrace" "Ljava/lang/Object;").before a0 Z = true := hw _ (List.mem_of_getElem? (i := 88) rfl)
theorem w_89 {Z : State} {a0 : Array Value} (hw : ∀ d ∈ tables_1, d.before a0 Z = true) : (Jvm.Cond.lays "com/example/fjalar/fjalar/ApiException" "java/lang/Throwable" "depth" "I").before a0 Z = true := hw _ (List.mem_of_getElem? (i := 89) rfl)
theorem w_91 {Z : State} {a0 : Array Value} (hw : ∀ d ∈ tables_1, d.before a0 Z = true) : (Jvm.Cond.fieldLink "java/lang/Throwable" (31 : Nat) "java/lang/Throwable" "detailMessage" "Ljava/lang/String;").before a0 Z = true := hw _ (List.mem_of_getElem? (i := 91) rfl)
theorem w_92 {Z : State} {a0 : Array Value} (hw : ∀ d ∈ tables_1, d.before a0 Z = true) : (Jvm.Cond.fieldLink "com/example/fjalar/fjalar/ApiException" (7 : Nat) "com/example/fjalar/fjalar/ApiException" "code" "Lcom/example/fjalar/fjalar/ApiException$Code;").before a0 Z = true := hw _ (List.mem_of_getElem? (i := 92) rfl)
theorem w_93 {Z : State} {a0 : Array Value} (hw : ∀ d ∈ tables_1, d.before a0 Z = true) : (Jvm.Cond.laysFinal "com/example/fjalar/fjalar/ApiException" "com/example/fjalar/fjalar/ApiException" "code" "Lcom/example/fjalar/fjalar/ApiException$Code;").before a0 Z = true := hw _ (List.mem_of_getElem? (i := 93) rfl)
theorem w_94 {Z : State} {a0 : Array Value} (hw : ∀ d ∈ tables_1, d.before a0 Z = true) : (Jvm.Cond.methodLink "com/example/fjalar/fjalar/ApiExceptionInvalidInputPinLaw" (24 : Nat) ({ cls := "com/example/fjalar/fjalar/ApiException", name := "code", desc := "()Lcom/example/fjalar/fjalar/ApiException$Code;" } : Jvm.MethodName)).before a0 Z = true := hw _ (List.mem_of_getElem? (i := 94) rfl)
theorem w_95 {Z : State} {a0 : Array Value} (hw : ∀ d ∈ tables_1, d.before a0 Z = true) : (Jvm.Cond.declares ({ cls := "com/example/fjalar/fjalar/ApiException", name := "code", desc := "()Lcom/example/fjalar/fjalar/ApiException$Code;" } : Jvm.MethodName)).before a0 Z = true := hw _ (List.mem_of_getElem? (i := 95) rfl)
theorem w_96 {Z : State} {a0 : Array Value} (hw : ∀ d ∈ tables_1, d.before a0 Z = true) : (Jvm.Cond.instanceMethod ({ cls := "com/example/fjalar/fjalar/ApiException", name := "code", desc := "()Lcom/example/fjalar/fjalar/ApiException$Code;" } : Jvm.MethodName)).before a0 Z = true := hw _ (List.mem_of_getElem? (i := 96) rfl)
theorem w_97 {Z : State} {a0 : Array Value} (hw : ∀ d ∈ tables_1, d.before a0 Z = true) : (Jvm.Cond.selects "com/example/fjalar/fjalar/ApiException" ({ cls := "com/example/fjalar/fjalar/ApiException", name := "code", desc := "()Lcom/example/fjalar/fjalar/ApiException$Code;" } : Jvm.MethodName) ({ cls := "com/example/fjalar/fjalar/ApiException", name := "code", desc := "()Lcom/example/fjalar/fjalar/ApiException$Code;" } : Jvm.MethodName)).before a0 Z = true := hw _ (List.mem_of_getElem? (i := 97) rfl)
theorem w_98 {Z : State} {a0 : Array Value} (hw : ∀ d ∈ tables_1, d.before a0 Z = true) : (Jvm.Cond.code ({ cls := "com/example/fjalar/fjalar/ApiException", name := "code", desc := "()Lcom/example/fjalar/fjalar/ApiException$Code;" } : Jvm.MethodName) prog_1_method_3_code (1 : Nat) (Option.some (Jvm.ClassFile.FieldType.object "com/example/fjalar/fjalar/ApiException$Code"))).before a0 Z = true := hw _ (List.mem_of_getElem? (i := 98) rfl)
theorem w_99 {Z : State} {a0 : Array Value} (hw : ∀ d ∈ tables_1, d.before a0 Z = true) : (Jvm.Cond.fieldLink "com/example/fjalar/fjalar/ApiExceptionInvalidInputPinLaw" (28 : Nat) "com/example/fjalar/fjalar/ApiException$Code" "INVALID_INPUT" "Lcom/example/fjalar/fjalar/ApiException$Code;").before a0 Z = true := hw _ (List.mem_of_getElem? (i := 99) rfl)
theorem w_100 {Z : State} {a0 : Array Value} (hw : ∀ d ∈ tables_1, d.before a0 Z = true) : (Jvm.Cond.methodLink "com/example/fjalar/fjalar/ApiExceptionInvalidInputPinLaw" (34 : Nat) ({ cls := "com/example/fjalar/fjalar/ApiException$Code", name := "status", desc := "()I" } : Jvm.MethodName)).before a0 Z = true := hw _ (List.mem_of_getElem? (i := 100) rfl)
theorem w_101 {Z : State} {a0 : Array Value} (hw : ∀ d ∈ tables_1, d.before a0 Z = true) : (Jvm.Cond.declares ({ cls := "com/example/fjalar/fjalar/ApiException$Code", name := "status", desc := "()I" } : Jvm.MethodName)).before a0 Z = true := hw _ (List.mem_of_getElem? (i := 101) rfl)
theorem w_102 {Z : State} {a0 : Array Value} (hw : ∀ d ∈ tables_1, d.before a0 Z = true) : (Jvm.Cond.instanceMethod ({ cls := "com/example/fjalar/fjalar/ApiException$Code", name := "status", desc := "()I" } : Jvm.MethodName)).before a0 Z = true := hw _ (List.mem_of_getElem? (i := 102) rfl)
theorem w_103 {Z : State} {a0 : Array Value} (hw : ∀ d ∈ tables_1, d.before a0 Z = true) : (Jvm.Cond.selects "com/example/fjalar/fjalar/ApiException$Code" ({ cls := "com/example/fjalar/fjalar/ApiException$Code", name := "status", desc := "()I" } : Jvm.MethodName) ({ cls := "com/example/fjalar/fjalar/ApiException$Code", name := "status", desc := "()I" } : Jvm.MethodName)).before a0 Z = true := hw _ (List.mem_of_getElem? (i := 103) rfl)
theorem w_104 {Z : State} {a0 : Array Value} (hw : ∀ d ∈ tables_1, d.before a0 Z = true) : (Jvm.Cond.code ({ cls := "com/example/fjalar/fjalar/ApiException$Code", name := "status", desc := "()I" } : Jvm.MethodName) prog_2_method_4_code (1 : Nat) (Option.some Jvm.ClassFile.FieldType.int)).before a0 Z = true := hw _ (List.mem_of_getElem? (i := 104) rfl)
theorem w_105 {Z : State} {a0 : Array Value} (hw : ∀ d ∈ tables_1, d.before a0 Z = true) : (Jvm.Cond.fieldLink "com/example/fjalar/fjalar/ApiException$Code" (35 : Nat) "com/example/fjalar/fjalar/ApiException$Code" "status" "I").before a0 Z = true := hw _ (List.mem_of_getElem? (i := 105) rfl)
theorem w_107 {Z : State} {a0 : Array Value} (hw : ∀ d ∈ tables_1, d.before a0 Z = true) : (Jvm.Cond.methodLink "com/example/fjalar/fjalar/ApiExceptionInvalidInputPinLaw" (38 : Nat) ({ cls := "com/example/fjalar/fjalar/ApiException", name := "getMessage", desc := "()Ljava/lang/String;" } : Jvm.MethodName)).before a0 Z = true := hw _ (List.mem_of_getElem? (i := 107) rfl)
theorem w_108 {Z : State} {a0 : Array Value} (hw : ∀ d ∈ tables_1, d.before a0 Z = true) : (Jvm.Cond.sameMethod "com/example/fjalar/fjalar/ApiException" "java/lang/Throwable" "getMessage" "()Ljava/lang/String;").before a0 Z = true := hw _ (List.mem_of_getElem? (i := 108) rfl)
theorem w_109 {Z : State} {a0 : Array Value} (hw : ∀ d ∈ tables_1, d.before a0 Z = true) : (Jvm.Cond.declares ({ cls := "java/lang/Throwable", name := "getMessage", desc := "()Ljava/lang/String;" } : Jvm.MethodName)).before a0 Z = true := hw _ (List.mem_of_getElem? (i := 109) rfl)
theorem w_110 {Z : State} {a0 : Array Value} (hw : ∀ d ∈ tables_1, d.before a0 Z = true) : (Jvm.Cond.instanceMethod ({ cls := "java/lang/Throwable", name := "getMessage", desc := "()Ljava/lang/String;" } : Jvm.MethodName)).before a0 Z = true := hw _ (List.mem_of_getElem? (i := 110) rfl)
theorem w_111 {Z : State} {a0 : Array Value} (hw : ∀ d ∈ tables_1, d.before a0 Z = true) : (Jvm.Cond.selects "com/example/fjalar/fjalar/ApiException" ({ cls := "com/example/fjalar/fjalar/ApiException", name := "getMessage", desc := "()Ljava/lang/String;" } : Jvm.MethodName) ({ cls := "java/lang/Throwable", name := "getMessage", desc := "()Ljava/lang/String;" } : Jvm.MethodName)).before a0 Z = true := hw _ (List.mem_of_getElem? (i := 111) rfl)
theorem w_112 {Z : State} {a0 : Array Value} (hw : ∀ d ∈ tables_1, d.before a0 Z = true) : (Jvm.Cond.code ({ cls := "java/lang/Throwable", name := "getMessage", desc := "()Ljava/lang/String;" } : Jvm.MethodName) jdk_78_method_6_code (1 : Nat) (Option.some (Jvm.ClassFile.FieldType.object "java/lang/String"))).before a0 Z = true := hw _ (List.mem_of_getElem? (i := 112) rfl)
theorem w_113 {Z : State} {a0 : Array Value} (hw : ∀ d ∈ tables_1, d.before a0 Z = true) : (Jvm.Cond.methodLink "com/example/fjalar/fjalar/ApiExceptionInvalidInputPinLaw" (42 : Nat) ({ cls := "java/lang/String", name := "equals", desc := "(Ljava/lang/Object;)Z" } : Jvm.MethodName)).before a0 Z = true := hw _ (List.mem_of_getElem? (i := 113) rfl)
theorem w_114 {Z : State} {a0 : Array Value} (hw : ∀ d ∈ tables_1, d.before a0 Z = true) : (Jvm.Cond.declares ({ cls := "java/lang/String", name := "equals", desc := "(Ljava/lang/Object;)Z" } : Jvm.MethodName)).before a0 Z = true := hw _ (List.mem_of_getElem? (i := 114) rfl)
theorem w_115 {Z : State} {a0 : Array Value} (hw : ∀ d ∈ tables_1, d.before a0 Z = true) : (Jvm.Cond.instanceMethod ({ cls := "java/lang/String", name := "equals", desc := "(Ljava/lang/Object;)Z" } : Jvm.MethodName)).before a0 Z = true := hw _ (List.mem_of_getElem? (i := 115) rfl)
theorem w_116 {Z : State} {a0 : Array Value} (hw : ∀ d ∈ tables_1, d.before a0 Z = true) : (Jvm.Cond.selects "java/lang/String" ({ cls := "java/lang/String", name := "equals", desc := "(Ljava/lang/Object;)Z" } : Jvm.MethodName) ({ cls := "java/lang/String", name := "equals", desc := "(Ljava/lang/Object;)Z" } : Jvm.MethodName)).before a0 Z = true := hw _ (List.mem_of_getElem? (i := 116) rfl)
theorem w_117 {Z : State} {a0 : Array Value} (hw : ∀ d ∈ tables_1, d.before a0 Z = true) : (Jvm.Cond.code ({ cls := "java/lang/String", name := "equals", desc := "(Ljava/lang/Object;)Z" } : Jvm.MethodName) jdk_42_method_66_code (3 : Nat) (Option.some Jvm.ClassFile.FieldType.boolean)).before a0 Z = true := hw _ (List.mem_of_getElem? (i := 117) rfl)
theorem w_118 {Z : State} {a0 : Array Value} (hw : ∀ d ∈ tables_1, d.before a0 Z = true) : (Jvm.Cond.fieldLink "java/lang/String" (38 : Nat) "java/lang/String" "COMPACT_STRINGS" "Z").before a0 Z = true := hw _ (List.mem_of_getElem? (i := 118) rfl)
theorem w_119 {Z : State} {a0 : Array Value} (hw : ∀ d ∈ tables_1, d.before a0 Z = true) : (Jvm.Cond.methodLink "java/lang/String" (177 : Nat) ({ cls := "java/lang/StringUTF16", name := "compress", desc := "([CII)[B" } : Jvm.MethodName)).before a0 Z = true := hw _ (List.mem_of_getElem? (i := 119) rfl)
theorem w_120 {Z : State} {a0 : Array Value} (hw : ∀ d ∈ tables_1, d.before a0 Z = true) : (Jvm.Cond.static ({ cls := "java/lang/StringUTF16", name := "compress", desc := "([CII)[B" } : Jvm.MethodName)).before a0 Z = true := hw _ (List.mem_of_getElem? (i := 120) rfl)
theorem w_121 {Z : State} {a0 : Array Value} (hw : ∀ d ∈ tables_1, d.before a0 Z = true) : (Jvm.Cond.initialized "java/lang/StringUTF16").before a0 Z = true := hw _ (List.mem_of_getElem? (i := 121) rfl)
theorem w_122 {Z : State} {a0 : Array Value} (hw : ∀ d ∈ tables_1, d.before a0 Z = true) : (Jvm.Cond.code ({ cls := "java/lang/StringUTF16", name := "compress", desc := "([CII)[B" } : Jvm.MethodName) jdk_52_method_16_code (6 : Nat) (Option.some (Jvm.ClassFile.FieldType.array Jvm.ClassFile.FieldType.byte))).before a0 Z = true := hw _ (List.mem_of_getElem? (i := 122) rfl)
theorem w_123 {Z : State} {a0 : Array Value} (hw : ∀ d ∈ tables_1, d.before a0 Z = true) : (Jvm.Cond.methodLink "java/lang/StringUTF16" (115 : Nat) ({ cls := "java/lang/StringUTF16", name := "compress", desc := "([CI[BII)I" } : Jvm.MethodName)).before a0 Z = true := hw _ (List.mem_of_getElem? (i := 123) rfl)
theorem w_124 {Z : State} {a0 : Array Value} (hw : ∀ d ∈ tables_1, d.before a0 Z = true) : (Jvm.Cond.static ({ cls := "java/lang/StringUTF16", name := "compress", desc := "([CI[BII)I" } : Jvm.MethodName)).before a0 Z = true := hw _ (List.mem_of_getElem? (i := 124) rfl)
theorem w_125 {Z : State} {a0 : Array Value} (hw : ∀ d ∈ tables_1, d.before a0 Z = true) : (Jvm.Cond.code ({ cls := "java/lang/StringUTF16", name := "compress", desc := "([CI[BII)I" } : Jvm.MethodName) jdk_52_method_21_code (7 : Nat) (Option.some Jvm.ClassFile.FieldType.int)).before a0 Z = true := hw _ (List.mem_of_getElem? (i := 125) rfl)
theorem w_126 {Z : State} {a0 : Array Value} (hw : ∀ d ∈ tables_1, d.before a0 Z = true) : (Jvm.Cond.methodLink "java/lang/String" (47 : Nat) ({ cls := "java/lang/StringUTF16", name := "coderFromArrayLen", desc := "([BI)B" } : Jvm.MethodName)).before a0 Z = true := hw _ (List.mem_of_getElem? (i := 126) rfl)
theorem w_127 {Z : State} {a0 : Array Value} (hw : ∀ d ∈ tables_1, d.before a0 Z = true) : (Jvm.Cond.static ({ cls := "java/lang/StringUTF16", name := "coderFromArrayLen", desc := "([BI)B" } : Jvm.MethodName)).before a0 Z = true := hw _ (List.mem_of_getElem? (i := 127) rfl)
theorem w_128 {Z : State} {a0 : Array Value} (hw : ∀ d ∈ tables_1, d.before a0 Z = true) : (Jvm.Cond.code ({ cls := "java/lang/StringUTF16", name := "coderFromArrayLen", desc := "([BI)B" } : Jvm.MethodName) jdk_52_method_15_code (2 : Nat) (Option.some Jvm.ClassFile.FieldType.byte)).before a0 Z = true := hw _ (List.mem_of_getElem? (i := 128) rfl)
theorem pd_0 : parseMethodDescriptor "([CI[BII)I" = some ⟨[(.array .char), .int, (.array .byte), .int, .int], some .int⟩ := by decide +kernel
theorem pd_1 : parseMethodDescriptor "([CII)[B" = some ⟨[(.array .char), .int, .int], some (.array .byte)⟩ := by decide +kernel
theorem pd_2 : parseMethodDescriptor "([BI)B" = some ⟨[(.array .byte), .int], some .byte⟩ := by decide +kernel
theorem pd_3 : parseMethodDescriptor "([CIILjava/lang/Void;)V" = some ⟨[(.array .char), .int, .int, (.object "java/lang/Void")], none⟩ := by decide +kernel
theorem pd_4 : parseMethodDescriptor "([C)V" = some ⟨[(.array .char)], none⟩ := by decide +kernel
theorem pd_5 : parseMethodDescriptor "(Ljava/lang/String;)V" = some ⟨[(.object "java/lang/String")], none⟩ := by decide +kernel
theorem pd_6 : parseMethodDescriptor "(Lcom/example/fjalar/fjalar/ApiException$Code;Ljava/lang/String;)V" = some ⟨[(.object "com/example/fjalar/fjalar/ApiException$Code"), (.object "java/lang/String")], none⟩ := by decide +kernel
theorem pd_7 : parseMethodDescriptor "(IIII)Ljava/lang/String;" = some ⟨[.int, .int, .int, .int], some (.object "java/lang/String")⟩ := by decide +kernel
theorem pd_8 : parseMethodDescriptor "(Ljava/lang/String;)Lcom/example/fjalar/fjalar/ApiException;" = some ⟨[(.object "java/lang/String")], some (.object "com/example/fjalar/fjalar/ApiException")⟩ := by decide +kernel
theorem pd_9 : parseMethodDescriptor "()Lcom/example/fjalar/fjalar/ApiException$Code;" = some ⟨[], some (.object "com/example/fjalar/fjalar/ApiException$Code")⟩ := by decide +kernel
theorem pd_10 : parseMethodDescriptor "()I" = some ⟨[], some .int⟩ := by decide +kernel
theorem pd_11 : parseMethodDescriptor "()Ljava/lang/String;" = some ⟨[], some (.object "java/lang/String")⟩ := by decide +kernel
theorem pd_12 : parseMethodDescriptor "(Ljava/lang/Object;)Z" = some ⟨[(.object "java/lang/Object")], some .boolean⟩ := by decide +kernel
theorem pn_0 : plainName "java/lang/StringUTF16" = true := by first | (simp [plainName, overriddenIn]; done) | decide +kernel
theorem pn_1 : plainName "java/lang/String" = true := by first | (simp [plainName, overriddenIn]; done) | decide +kernel
theorem pn_2 : plainName "com/example/fjalar/fjalar/ApiExceptionInvalidInputPinLaw" = true := by first | (simp [plainName, overriddenIn]; done) | decide +kernel
theorem pn_3 : plainName "java/lang/Throwable" = true := by first | (simp [plainName, overriddenIn]; done) | decide +kernel
theorem pn_4 : plainName "java/lang/Exception" = true := by first | (simp [plainName, overriddenIn]; done) | decide +kernel
theorem pn_5 : plainName "java/lang/RuntimeException" = true := by first | (simp [plainName, overriddenIn]; done) | decide +kernel
theorem pn_6 : plainName "com/example/fjalar/fjalar/ApiException" = true := by first | (simp [plainName, overriddenIn]; done) | decide +kernel
theorem pn_7 : plainName "com/example/fjalar/fjalar/ApiException$Code" = true := by first | (simp [plainName, overriddenIn]; done) | decide +kernel
theorem d1_0 : decode method_2_code 0 = .ok (.iload_n 1, 1) := by decide +kernel
theorem d1_1 : decode method_2_code 1 = .ok (.sipush 255, 3) := by decide +kernel
theorem d1_4 : decode method_2_code 4 = .ok (.iand, 1) := by decide +kernel
theorem d1_5 : decode method_2_code 5 = .ok (.i2c, 1) := by decide +kernel
theorem d1_6 : decode method_2_code 6 = .ok (.istore 4, 2) := by decide +kernel
theorem d1_8 : decode method_2_code 8 = .ok (.iload_n 2, 1) := by decide +kernel
theorem d1_9 : decode method_2_code 9 = .ok (.sipush 255, 3) := by decide +kernel
theorem d1_12 : decode method_2_code 12 = .ok (.iand, 1) := by decide +kernel
theorem d1_13 : decode method_2_code 13 = .ok (.i2c, 1) := by decide +kernel
theorem d1_14 : decode method_2_code 14 = .ok (.istore 5, 2) := by decide +kernel
theorem d1_16 : decode method_2_code 16 = .ok (.iload_n 3, 1) := by decide +kernel
theorem d1_17 : decode method_2_code 17 = .ok (.sipush 255, 3) := by decide +kernel
theorem d1_20 : decode method_2_code 20 = .ok (.iand, 1) := by decide +kernel
theorem d1_21 : decode method_2_code 21 = .ok (.i2c, 1) := by decide +kernel
theorem d1_22 : decode method_2_code 22 = .ok (.istore 6, 2) := by decide +kernel
theorem d1_24 : decode method_2_code 24 = .ok (.iload_n 0, 1) := by decide +kernel
theorem d1_25 : decode method_2_code 25 = .ok (.iconst 2, 1) := by decide +kernel
theorem d1_26 : decode method_2_code 26 = .ok (.ishr, 1) := by decide +kernel
theorem d1_27 : decode method_2_code 27 = .ok (.iconst 1, 1) := by decide +kernel
theorem d1_28 : decode method_2_code 28 = .ok (.iand, 1) := by decide +kernel
theorem d1_29 : decode method_2_code 29 = .ok (.ifCond .eq 5, 3) := by decide +kernel
theorem d1_32 : decode method_2_code 32 = .ok (.aconst_null, 1) := by decide +kernel
theorem d1_33 : decode method_2_code 33 = .ok (.areturn, 1) := by decide +kernel
theorem d1_34 : decode method_2_code 34 = .ok (.iload_n 0, 1) := by decide +kernel
theorem d1_35 : decode method_2_code 35 = .ok (.iconst 3, 1) := by decide +kernel
theorem d1_36 : decode method_2_code 36 = .ok (.iand, 1) := by decide +kernel
theorem d1_37 : decode method_2_code 37 = .ok (.istore 7, 2) := by decide +kernel
theorem d1_39 : decode method_2_code 39 = .ok (.iload 7, 2) := by decide +kernel
theorem d1_41 : decode method_2_code 41 = .ok (.ifCond .ne 14, 3) := by decide +kernel
theorem d1_44 : decode method_2_code 44 = .ok (.new 7, 3) := by decide +kernel
theorem d1_47 : decode method_2_code 47 = .ok (.dup, 1) := by decide +kernel
theorem d1_48 : decode method_2_code 48 = .ok (.iconst 0, 1) := by decide +kernel
theorem d1_49 : decode method_2_code 49 = .ok (.newarray .char, 2) := by decide +kernel
theorem d1_51 : decode method_2_code 51 = .ok (.invokespecial 9, 3) := by decide +kernel
theorem d1_54 : decode method_2_code 54 = .ok (.areturn, 1) := by decide +kernel
theorem d1_55 : decode method_2_code 55 = .ok (.iload 7, 2) := by decide +kernel
theorem d1_57 : decode method_2_code 57 = .ok (.iconst 1, 1) := by decide +kernel
theorem d1_58 : decode method_2_code 58 = .ok (.if_icmp .ne 19, 3) := by decide +kernel
theorem d1_61 : decode method_2_code 61 = .ok (.new 7, 3) := by decide +kernel
theorem d1_64 : decode method_2_code 64 = .ok (.dup, 1) := by decide +kernel
theorem d1_65 : decode method_2_code 65 = .ok (.iconst 1, 1) := by decide +kernel
theorem d1_66 : decode method_2_code 66 = .ok (.newarray .char, 2) := by decide +kernel
theorem d1_68 : decode method_2_code 68 = .ok (.dup, 1) := by decide +kernel
theorem d1_69 : decode method_2_code 69 = .ok (.iconst 0, 1) := by decide +kernel
theorem d1_70 : decode method_2_code 70 = .ok (.iload 4, 2) := by decide +kernel
theorem d1_72 : decode method_2_code 72 = .ok (.castore, 1) := by decide +kernel
theorem d1_73 : decode method_2_code 73 = .ok (.invokespecial 9, 3) := by decide +kernel
theorem d1_76 : decode method_2_code 76 = .ok (.areturn, 1) := by decide +kernel
theorem d1_77 : decode method_2_code 77 = .ok (.iload 7, 2) := by decide +kernel
theorem d1_79 : decode method_2_code 79 = .ok (.iconst 2, 1) := by decide +kernel
theorem d1_80 : decode method_2_code 80 = .ok (.if_icmp .ne 24, 3) := by decide +kernel
theorem d1_83 : decode method_2_code 83 = .ok (.new 7, 3) := by decide +kernel
theorem d1_86 : decode method_2_code 86 = .ok (.dup, 1) := by decide +kernel
theorem d1_87 : decode method_2_code 87 = .ok (.iconst 2, 1) := by decide +kernel
theorem d1_88 : decode method_2_code 88 = .ok (.newarray .char, 2) := by decide +kernel
theorem d1_90 : decode method_2_code 90 = .ok (.dup, 1) := by decide +kernel
theorem d1_91 : decode method_2_code 91 = .ok (.iconst 0, 1) := by decide +kernel
theorem d1_92 : decode method_2_code 92 = .ok (.iload 4, 2) := by decide +kernel
theorem d1_94 : decode method_2_code 94 = .ok (.castore, 1) := by decide +kernel
theorem d1_95 : decode method_2_code 95 = .ok (.dup, 1) := by decide +kernel
theorem d1_96 : decode method_2_code 96 = .ok (.iconst 1, 1) := by decide +kernel
theorem d1_97 : decode method_2_code 97 = .ok (.iload 5, 2) := by decide +kernel
theorem d1_99 : decode method_2_code 99 = .ok (.castore, 1) := by decide +kernel
theorem d1_100 : decode method_2_code 100 = .ok (.invokespecial 9, 3) := by decide +kernel
theorem d1_103 : decode method_2_code 103 = .ok (.areturn, 1) := by decide +kernel
theorem d1_104 : decode method_2_code 104 = .ok (.new 7, 3) := by decide +kernel
theorem d1_107 : decode method_2_code 107 = .ok (.dup, 1) := by decide +kernel
theorem d1_108 : decode method_2_code 108 = .ok (.iconst 3, 1) := by decide +kernel
theorem d1_109 : decode method_2_code 109 = .ok (.newarray .char, 2) := by decide +kernel
theorem d1_111 : decode method_2_code 111 = .ok (.dup, 1) := by decide +kernel
theorem d1_112 : decode method_2_code 112 = .ok (.iconst 0, 1) := by decide +kernel
theorem d1_113 : decode method_2_code 113 = .ok (.iload 4, 2) := by decide +kernel
theorem d1_115 : decode method_2_code 115 = .ok (.castore, 1) := by decide +kernel
theorem d1_116 : decode method_2_code 116 = .ok (.dup, 1) := by decide +kernel
theorem d1_117 : decode method_2_code 117 = .ok (.iconst 1, 1) := by decide +kernel
theorem d1_118 : decode method_2_code 118 = .ok (.iload 5, 2) := by decide +kernel
theorem d1_120 : decode method_2_code 120 = .ok (.castore, 1) := by decide +kernel
theorem d1_121 : decode method_2_code 121 = .ok (.dup, 1) := by decide +kernel
theorem d1_122 : decode method_2_code 122 = .ok (.iconst 2, 1) := by decide +kernel
theorem d1_123 : decode method_2_code 123 = .ok (.iload 6, 2) := by decide +kernel
theorem d1_125 : decode method_2_code 125 = .ok (.castore, 1) := by decide +kernel
theorem d1_126 : decode method_2_code 126 = .ok (.invokespecial 9, 3) := by decide +kernel
theorem d1_129 : decode method_2_code 129 = .ok (.areturn, 1) := by decide +kernel
theorem d2_0 : decode jdk_42_method_3_code 0 = .ok (.aload_n 0, 1) := by decide +kernel
theorem d2_1 : decode jdk_42_method_3_code 1 = .ok (.aload_n 1, 1) := by decide +kernel
theorem d2_2 : decode jdk_42_method_3_code 2 = .ok (.iconst 0, 1) := by decide +kernel
theorem d2_3 : decode jdk_42_method_3_code 3 = .ok (.aload_n 1, 1) := by decide +kernel
theorem d2_4 : decode jdk_42_method_3_code 4 = .ok (.arraylength, 1) := by decide +kernel
theorem d2_5 : decode jdk_42_method_3_code 5 = .ok (.aconst_null, 1) := by decide +kernel
theorem d2_6 : decode jdk_42_method_3_code 6 = .ok (.invokespecial 27, 3) := by decide +kernel
theorem d2_9 : decode jdk_42_method_3_code 9 = .ok (.return_, 1) := by decide +kernel
theorem d3_0 : decode jdk_42_method_149_code 0 = .ok (.aload_n 0, 1) := by decide +kernel
theorem d3_1 : decode jdk_42_method_149_code 1 = .ok (.invokespecial 1, 3) := by decide +kernel
theorem d3_4 : decode jdk_42_method_149_code 4 = .ok (.iload_n 3, 1) := by decide +kernel
theorem d3_5 : decode jdk_42_method_149_code 5 = .ok (.ifCond .ne 22, 3) := by decide +kernel
theorem d3_8 : decode jdk_42_method_149_code 8 = .ok (.aload_n 0, 1) := by decide +kernel
theorem d3_9 : decode jdk_42_method_149_code 9 = .ok (.ldc 7, 2) := by decide +kernel
theorem d3_11 : decode jdk_42_method_149_code 11 = .ok (.getfield 9, 3) := by decide +kernel
theorem d3_14 : decode jdk_42_method_149_code 14 = .ok (.putfield 9, 3) := by decide +kernel
theorem d3_17 : decode jdk_42_method_149_code 17 = .ok (.aload_n 0, 1) := by decide +kernel
theorem d3_18 : decode jdk_42_method_149_code 18 = .ok (.ldc 7, 2) := by decide +kernel
theorem d3_20 : decode jdk_42_method_149_code 20 = .ok (.getfield 15, 3) := by decide +kernel
theorem d3_23 : decode jdk_42_method_149_code 23 = .ok (.putfield 15, 3) := by decide +kernel
theorem d3_26 : decode jdk_42_method_149_code 26 = .ok (.return_, 1) := by decide +kernel
theorem d3_27 : decode jdk_42_method_149_code 27 = .ok (.getstatic 38, 3) := by decide +kernel
theorem d3_30 : decode jdk_42_method_149_code 30 = .ok (.ifCond .eq 28, 3) := by decide +kernel
theorem d3_33 : decode jdk_42_method_149_code 33 = .ok (.aload_n 1, 1) := by decide +kernel
theorem d3_34 : decode jdk_42_method_149_code 34 = .ok (.iload_n 2, 1) := by decide +kernel
theorem d3_35 : decode jdk_42_method_149_code 35 = .ok (.iload_n 3, 1) := by decide +kernel
theorem d3_36 : decode jdk_42_method_149_code 36 = .ok (.invokestatic 177, 3) := by decide +kernel
theorem d3_39 : decode jdk_42_method_149_code 39 = .ok (.astore 5, 2) := by decide +kernel
theorem d3_41 : decode jdk_42_method_149_code 41 = .ok (.aload_n 0, 1) := by decide +kernel
theorem d3_42 : decode jdk_42_method_149_code 42 = .ok (.aload 5, 2) := by decide +kernel
theorem d3_44 : decode jdk_42_method_149_code 44 = .ok (.iload_n 3, 1) := by decide +kernel
theorem d3_45 : decode jdk_42_method_149_code 45 = .ok (.invokestatic 47, 3) := by decide +kernel
theorem d3_48 : decode jdk_42_method_149_code 48 = .ok (.putfield 15, 3) := by decide +kernel
theorem d3_51 : decode jdk_42_method_149_code 51 = .ok (.aload_n 0, 1) := by decide +kernel
theorem d3_52 : decode jdk_42_method_149_code 52 = .ok (.aload 5, 2) := by decide +kernel
theorem d3_54 : decode jdk_42_method_149_code 54 = .ok (.putfield 9, 3) := by decide +kernel
theorem d3_57 : decode jdk_42_method_149_code 57 = .ok (.return_, 1) := by decide +kernel
theorem d5_0 : decode prog_1_method_2_code 0 = .ok (.new 8, 3) := by decide +kernel
theorem d5_3 : decode prog_1_method_2_code 3 = .ok (.dup, 1) := by decide +kernel
theorem d5_4 : decode prog_1_method_2_code 4 = .ok (.getstatic 13, 3) := by decide +kernel
theorem d5_7 : decode prog_1_method_2_code 7 = .ok (.aload_n 0, 1) := by decide +kernel
theorem d5_8 : decode prog_1_method_2_code 8 = .ok (.invokespecial 18, 3) := by decide +kernel
theorem d5_11 : decode prog_1_method_2_code 11 = .ok (.areturn, 1) := by decide +kernel
theorem d6_0 : decode prog_1_method_1_code 0 = .ok (.aload_n 0, 1) := by decide +kernel
theorem d6_1 : decode prog_1_method_1_code 1 = .ok (.aload_n 2, 1) := by decide +kernel
theorem d6_2 : decode prog_1_method_1_code 2 = .ok (.invokespecial 1, 3) := by decide +kernel
theorem d6_5 : decode prog_1_method_1_code 5 = .ok (.aload_n 0, 1) := by decide +kernel
theorem d6_6 : decode prog_1_method_1_code 6 = .ok (.aload_n 1, 1) := by decide +kernel
theorem d6_7 : decode prog_1_method_1_code 7 = .ok (.putfield 7, 3) := by decide +kernel
theorem d6_10 : decode prog_1_method_1_code 10 = .ok (.return_, 1) := by decide +kernel
theorem d7_0 : decode jdk_58_method_2_code 0 = .ok (.aload_n 0, 1) := by decide +kernel
theorem d7_1 : decode jdk_58_method_2_code 1 = .ok (.aload_n 1, 1) := by decide +kernel
theorem d7_2 : decode jdk_58_method_2_code 2 = .ok (.invokespecial 7, 3) := by decide +kernel
theorem d7_5 : decode jdk_58_method_2_code 5 = .ok (.return_, 1) := by decide +kernel
theorem d8_0 : decode jdk_59_method_2_code 0 = .ok (.aload_n 0, 1) := by decide +kernel
theorem d8_1 : decode jdk_59_method_2_code 1 = .ok (.aload_n 1, 1) := by decide +kernel
theorem d8_2 : decode jdk_59_method_2_code 2 = .ok (.invokespecial 7, 3) := by decide +kernel
theorem d8_5 : decode jdk_59_method_2_code 5 = .ok (.return_, 1) := by decide +kernel
theorem d9_0 : decode jdk_78_method_2_code 0 = .ok (.aload_n 0, 1) := by decide +kernel
theorem d9_1 : decode jdk_78_method_2_code 1 = .ok (.invokespecial 1, 3) := by decide +kernel
theorem d9_4 : decode jdk_78_method_2_code 4 = .ok (.aload_n 0, 1) := by decide +kernel
theorem d9_5 : decode jdk_78_method_2_code 5 = .ok (.aload_n 0, 1) := by decide +kernel
theorem d9_6 : decode jdk_78_method_2_code 6 = .ok (.putfield 7, 3) := by decide +kernel
theorem d9_9 : decode jdk_78_method_2_code 9 = .ok (.aload_n 0, 1) := by decide +kernel
theorem d9_10 : decode jdk_78_method_2_code 10 = .ok (.getstatic 13, 3) := by decide +kernel
theorem d9_13 : decode jdk_78_method_2_code 13 = .ok (.putfield 17, 3) := by decide +kernel
theorem d9_16 : decode jdk_78_method_2_code 16 = .ok (.aload_n 0, 1) := by decide +kernel
theorem d9_17 : decode jdk_78_method_2_code 17 = .ok (.getstatic 20, 3) := by decide +kernel
theorem d9_20 : decode jdk_78_method_2_code 20 = .ok (.putfield 24, 3) := by decide +kernel
theorem d9_23 : decode jdk_78_method_2_code 23 = .ok (.aload_n 0, 1) := by decide +kernel
theorem d9_24 : decode jdk_78_method_2_code 24 = .ok (.invokevirtual 27, 3) := by decide +kernel
theorem d9_27 : decode jdk_78_method_2_code 27 = .ok (.pop, 1) := by decide +kernel
theorem d9_28 : decode jdk_78_method_2_code 28 = .ok (.aload_n 0, 1) := by decide +kernel
theorem d9_29 : decode jdk_78_method_2_code 29 = .ok (.aload_n 1, 1) := by decide +kernel
theorem d9_30 : decode jdk_78_method_2_code 30 = .ok (.putfield 31, 3) := by decide +kernel
theorem d9_33 : decode jdk_78_method_2_code 33 = .ok (.return_, 1) := by decide +kernel
theorem d11_0 : decode prog_1_method_3_code 0 = .ok (.aload_n 0, 1) := by decide +kernel
theorem d11_1 : decode prog_1_method_3_code 1 = .ok (.getfield 7, 3) := by decide +kernel
theorem d11_4 : decode prog_1_method_3_code 4 = .ok (.areturn, 1) := by decide +kernel
theorem d12_0 : decode prog_2_method_4_code 0 = .ok (.aload_n 0, 1) := by decide +kernel
theorem d12_1 : decode prog_2_method_4_code 1 = .ok (.getfield 35, 3) := by decide +kernel
theorem d12_4 : decode prog_2_method_4_code 4 = .ok (.ireturn, 1) := by decide +kernel
theorem d13_0 : decode jdk_78_method_6_code 0 = .ok (.aload_n 0, 1) := by decide +kernel
theorem d13_1 : decode jdk_78_method_6_code 1 = .ok (.getfield 31, 3) := by decide +kernel
theorem d13_4 : decode jdk_78_method_6_code 4 = .ok (.areturn, 1) := by decide +kernel
theorem d14_0 : decode jdk_42_method_66_code 0 = .ok (.aload_n 0, 1) := by decide +kernel
theorem d14_1 : decode jdk_42_method_66_code 1 = .ok (.aload_n 1, 1) := by decide +kernel
theorem d14_2 : decode jdk_42_method_66_code 2 = .ok (.if_acmp .ne 5, 3) := by decide +kernel
theorem d14_5 : decode jdk_42_method_66_code 5 = .ok (.iconst 1, 1) := by decide +kernel
theorem d14_6 : decode jdk_42_method_66_code 6 = .ok (.ireturn, 1) := by decide +kernel
theorem d15_0 : decode jdk_52_method_16_code 0 = .ok (.iload_n 2, 1) := by decide +kernel
theorem d15_1 : decode jdk_52_method_16_code 1 = .ok (.newarray .byte, 2) := by decide +kernel
theorem d15_3 : decode jdk_52_method_16_code 3 = .ok (.astore_n 3, 1) := by decide +kernel
theorem d15_4 : decode jdk_52_method_16_code 4 = .ok (.aload_n 0, 1) := by decide +kernel
theorem d15_5 : decode jdk_52_method_16_code 5 = .ok (.iload_n 1, 1) := by decide +kernel
theorem d15_6 : decode jdk_52_method_16_code 6 = .ok (.aload_n 3, 1) := by decide +kernel
theorem d15_7 : decode jdk_52_method_16_code 7 = .ok (.iconst 0, 1) := by decide +kernel
theorem d15_8 : decode jdk_52_method_16_code 8 = .ok (.iload_n 2, 1) := by decide +kernel
theorem d15_9 : decode jdk_52_method_16_code 9 = .ok (.invokestatic 115, 3) := by decide +kernel
theorem d15_12 : decode jdk_52_method_16_code 12 = .ok (.istore 4, 2) := by decide +kernel
theorem d15_14 : decode jdk_52_method_16_code 14 = .ok (.iload 4, 2) := by decide +kernel
theorem d15_16 : decode jdk_52_method_16_code 16 = .ok (.iload_n 2, 1) := by decide +kernel
theorem d15_17 : decode jdk_52_method_16_code 17 = .ok (.if_icmp .eq 40, 3) := by decide +kernel
theorem d15_57 : decode jdk_52_method_16_code 57 = .ok (.aload_n 3, 1) := by decide +kernel
theorem d15_58 : decode jdk_52_method_16_code 58 = .ok (.areturn, 1) := by decide +kernel
theorem d16_0 : decode jdk_52_method_21_code 0 = .ok (.iconst 0, 1) := by decide +kernel
theorem d16_1 : decode jdk_52_method_21_code 1 = .ok (.istore 5, 2) := by decide +kernel
theorem d16_3 : decode jdk_52_method_21_code 3 = .ok (.iload 5, 2) := by decide +kernel
theorem d16_5 : decode jdk_52_method_21_code 5 = .ok (.iload 4, 2) := by decide +kernel
theorem d16_7 : decode jdk_52_method_21_code 7 = .ok (.if_icmp .ge 37, 3) := by decide +kernel
theorem d16_10 : decode jdk_52_method_21_code 10 = .ok (.aload_n 0, 1) := by decide +kernel
theorem d16_11 : decode jdk_52_method_21_code 11 = .ok (.iload_n 1, 1) := by decide +kernel
theorem d16_12 : decode jdk_52_method_21_code 12 = .ok (.caload, 1) := by decide +kernel
theorem d16_13 : decode jdk_52_method_21_code 13 = .ok (.istore 6, 2) := by decide +kernel
theorem d16_15 : decode jdk_52_method_21_code 15 = .ok (.iload 6, 2) := by decide +kernel
theorem d16_17 : decode jdk_52_method_21_code 17 = .ok (.sipush 255, 3) := by decide +kernel
theorem d16_20 : decode jdk_52_method_21_code 20 = .ok (.if_icmp .le 6, 3) := by decide +kernel
theorem d16_26 : decode jdk_52_method_21_code 26 = .ok (.aload_n 2, 1) := by decide +kernel
theorem d16_27 : decode jdk_52_method_21_code 27 = .ok (.iload_n 3, 1) := by decide +kernel
theorem d16_28 : decode jdk_52_method_21_code 28 = .ok (.iload 6, 2) := by decide +kernel
theorem d16_30 : decode jdk_52_method_21_code 30 = .ok (.i2b, 1) := by decide +kernel
theorem d16_31 : decode jdk_52_method_21_code 31 = .ok (.bastore, 1) := by decide +kernel
theorem d16_32 : decode jdk_52_method_21_code 32 = .ok (.iinc 1 1, 3) := by decide +kernel
theorem d16_35 : decode jdk_52_method_21_code 35 = .ok (.iinc 3 1, 3) := by decide +kernel
theorem d16_38 : decode jdk_52_method_21_code 38 = .ok (.iinc 5 1, 3) := by decide +kernel
theorem d16_41 : decode jdk_52_method_21_code 41 = .ok (.goto (-38), 3) := by decide +kernel
theorem d16_44 : decode jdk_52_method_21_code 44 = .ok (.iload 4, 2) := by decide +kernel
theorem d16_46 : decode jdk_52_method_21_code 46 = .ok (.ireturn, 1) := by decide +kernel
theorem d17_0 : decode jdk_52_method_15_code 0 = .ok (.iload_n 1, 1) := by decide +kernel
theorem d17_1 : decode jdk_52_method_15_code 1 = .ok (.aload_n 0, 1) := by decide +kernel
theorem d17_2 : decode jdk_52_method_15_code 2 = .ok (.arraylength, 1) := by decide +kernel
theorem d17_3 : decode jdk_52_method_15_code 3 = .ok (.isub, 1) := by decide +kernel
theorem d17_4 : decode jdk_52_method_15_code 4 = .ok (.bipush 31, 2) := by decide +kernel
theorem d17_6 : decode jdk_52_method_15_code 6 = .ok (.iushr, 1) := by decide +kernel
theorem d17_7 : decode jdk_52_method_15_code 7 = .ok (.i2b, 1) := by decide +kernel
theorem d17_8 : decode jdk_52_method_15_code 8 = .ok (.ireturn, 1) := by decide +kernel
theorem ef_RIRII_7 (m : MethodId) (x0 : Addr) (x1 : Int32) (x2 : Addr) (x3 : Int32) (x4 : Int32) : entryFrame m #[(.ref x0), (.int x1), (.ref x2), (.int x3), (.int x4)] 7 = mkF m 0 #[.val (.ref x0), .val (.int x1), .val (.ref x2), .val (.int x3), .val (.int x4), .unset, .unset] [] := by first | (simp [entryFrame, mkF, argsToLocals, Value.category]; done) | rfl
theorem ef_RII_6 (m : MethodId) (x0 : Addr) (x1 : Int32) (x2 : Int32) : entryFrame m #[(.ref x0), (.int x1), (.int x2)] 6 = mkF m 0 #[.val (.ref x0), .val (.int x1), .val (.int x2), .unset, .unset, .unset] [] := by first | (simp [entryFrame, mkF, argsToLocals, Value.category]; done) | rfl
theorem ef_RI_2 (m : MethodId) (x0 : Addr) (x1 : Int32) : entryFrame m #[(.ref x0), (.int x1)] 2 = mkF m 0 #[.val (.ref x0), .val (.int x1)] [] := by first | (simp [entryFrame, mkF, argsToLocals, Value.category]; done) | rfl
theorem ef_RRIIN_6 (m : MethodId) (x0 : Addr) (x1 : Addr) (x2 : Int32) (x3 : Int32) : entryFrame m #[(.ref x0), (.ref x1), (.int x2), (.int x3), .null] 6 = mkF m 0 #[.val (.ref x0), .val (.ref x1), .val (.int x2), .val (.int x3), .val .null, .unset] [] := by first | (simp [entryFrame, mkF, argsToLocals, Value.category]; done) | rfl
theorem ef_RR_2 (m : MethodId) (x0 : Addr) (x1 : Addr) : entryFrame m #[(.ref x0), (.ref x1)] 2 = mkF m 0 #[.val (.ref x0), .val (.ref x1)] [] := by first | (simp [entryFrame, mkF, argsToLocals, Value.category]; done) | rfl
theorem ef_IIII_8 (m : MethodId) (x0 : Int32) (x1 : Int32) (x2 : Int32) (x3 : Int32) : entryFrame m #[(.int x0), (.int x1), (.int x2), (.int x3)] 8 = mkF m 0 #[.val (.int x0), .val (.int x1), .val (.int x2), .val (.int x3), .unset, .unset, .unset, .unset] [] := by first | (simp [entryFrame, mkF, argsToLocals, Value.category]; done) | rfl
theorem ef_RO_2 (m : MethodId) (x0 : Addr) (x1 : Value) (hx1 : x1.isRef = true) : entryFrame m #[(.ref x0), x1] 2 = mkF m 0 #[.val (.ref x0), .val x1] [] := by rcases ref_cases hx1 with rfl | ⟨_, rfl⟩ <;> first | (simp [entryFrame, mkF, argsToLocals, Value.category]; done) | rfl
theorem ef_RRO_3 (m : MethodId) (x0 : Addr) (x1 : Addr) (x2 : Value) (hx2 : x2.isRef = true) : entryFrame m #[(.ref x0), (.ref x1), x2] 3 = mkF m 0 #[.val (.ref x0), .val (.ref x1), .val x2] [] := by rcases ref_cases hx2 with rfl | ⟨_, rfl⟩ <;> first | (simp [entryFrame, mkF, argsToLocals, Value.category]; done) | rfl
theorem ef_O_1 (m : MethodId) (x0 : Value) (hx0 : x0.isRef = true) : entryFrame m #[x0] 1 = mkF m 0 #[.val x0] [] := by rcases ref_cases hx0 with rfl | ⟨_, rfl⟩ <;> first | (simp [entryFrame, mkF, argsToLocals, Value.category]; done) | rfl
theorem ef_R_1 (m : MethodId) (x0 : Addr) : entryFrame m #[(.ref x0)] 1 = mkF m 0 #[.val (.ref x0)] [] := by first | (simp [entryFrame, mkF, argsToLocals, Value.category]; done) | rfl
theorem ef_RR_3 (m : MethodId) (x0 : Addr) (x1 : Addr) : entryFrame m #[(.ref x0), (.ref x1)] 3 = mkF m 0 #[.val (.ref x0), .val (.ref x1), .unset] [] := by first | (simp [entryFrame, mkF, argsToLocals, Value.category]; done) | rfl
section OwnFill
open Jvm.Free.Exc Jvm.Lib.Cold LibCode.Throwable
variable {p : Program} {l : Launch} {e : Env} {R : Room} {s : State} {m : MethodId} {args : Array Value} {below : List Frame} {meth : Method} {c : Code} {Z : State} {a0 : Array Value} {EL : List (String × Nat)} {n0 : Nat} {kn wd : Bool} {own : String} {bytes : ByteArray} {ml : Nat} {ws : List Addr} {T : State} {h : Heap} {k n : Nat} {Φ : Outcome → State → Prop} {pc pc' : Nat} {Ls : Array Slot} {st rest : List Value}
/-- what the filling of the stack trace asks of the tables, for a receiver of the class rc (no word of Throwable's own layout) -/
def fillAtoms (rc : String) : List Jvm.Cond := [.native tFill0, .superclass tN "java/lang/Object", .initialized tN, .instanceMethod tFill0, .instanceMethod tFill, .codeSync tFill Fill.code 1 (some (.object tN)), .instanceMethod oInit, .code oInit ⟨#[0xb1]⟩ 1 none,
  .methodLink tN 1 oInit, .methodLink tN 27 tFill, .methodLink tN 202 tFill0,
  .fieldLink tN 7 tN "cause" thD, .lays rc tN "cause" thD, .fieldLink tN 17 tN "stackTrace" steD, .lays rc tN "stackTrace" steD, .fieldLink tN 24 tN "suppressedExceptions" listD, .lays rc tN "suppressedExceptions" listD,
  .fieldLink tN 13 tN "UNASSIGNED_STACK" steD, .laysStatic tN "UNASSIGNED_STACK" steD, .fieldLink tN 20 tN "SUPPRESSED_SENTINEL" listD, .laysStatic tN "SUPPRESSED_SENTINEL" listD, .lays rc tN "detailMessage" msgD,
  .declares tFill, .selects rc tFill0 tFill0, .selects rc tFill tFill, .fieldLink tN 198 tN "backtrace" obD, .lays rc tN "backtrace" obD, .lays rc tN "depth" "I", .arrayOver (.object "java/lang/Object"), .soleField tN "backtrace", .soleField tN "depth"]
theorem fill_ok {rc : String} : (fillAtoms rc).all xOk = true := rfl
/-- Throwable's tables, out of words on a subclass's layout -/
theorem own_thr {pl : Platform} {rc : String} (o1 : pl.frameOwnsMonitors = true) (o2 : pl.finalization = false) (o3 : pl.magicAccessors = ({} : Platform).magicAccessors) (hw : ∀ d ∈ fillAtoms rc, d.before args s = true) :
    ∃ Th : ThrowableC, Th.Links pl s ∧ s.vm.findClass tN = some Th.cT ∧ s.methodNamed? tFill = some Th.fill ∧ s.methodNamed? tFill0 = some Th.fill0 ∧ s.fieldFound? tN "stackTrace" steD = some (Th.cT, Th.kT, Th.i17, Th.fStack) ∧ Th.fStack.type = .array (.object "java/lang/StackTraceElement") ∧ s.fieldFound? tN "UNASSIGNED_STACK" steD = some (Th.cT, Th.kT, Th.i13, Th.fUnassigned) := by
  have w : ∀ (i : Nat) {d : Jvm.Cond}, (fillAtoms rc)[i]? = some d → d.holds args s none s [] = true := fun i d q => hw d (List.mem_of_getElem? q)
  -- the class and the two fillers
  obtain ⟨⟨cT, jN⟩, mN, nN, gN, isN, noN, lkN, sgN⟩ := Cond.native_spec (x := tFill0) (w 0 rfl)
  have fT : s.vm.findClass tN = some cT := findClass_of_methodNamed nN
  obtain ⟨kT, kT1, kTn⟩ := Vm.findClass_spec fT
  have noIf : kT.isInterface = false := by
    obtain ⟨_, k', _, -, q, -, -, -, -, r⟩ := Cond.superclass_spec fT (w 1 rfl)
    rw [Option.some.inj (kT1.symm.trans q)]; exact r
  obtain ⟨jN', mN', nN', gN', atN, stN, abN, nmN, dsN⟩ := Cond.ownMethod (x := tFill0) fT kT1 (w 3 rfl)
  cases Option.some.inj (nN.symm.trans nN')
  cases Option.some.inj (gN.symm.trans gN')
  obtain ⟨jF, mF, nF, gF, atF, stF, abF, -, -⟩ := Cond.ownMethod (x := tFill) fT kT1 (w 4 rfl)
  obtain ⟨mF', cF, gF', cdF, byF, mlF, rtF, lkF, -, sgF⟩ := Cond.codeSync_spec nF (w 5 rfl)
  cases Option.some.inj (gF.symm.trans gF')
  -- Object's constructor
  obtain ⟨mo, mO, nO, gO, stO, abO⟩ := Cond.instanceMethod_spec (x := oInit) (w 6 rfl)
  obtain ⟨mO', cO, gO', cdO, byO, -, -, lkO, -, sgO⟩ := Cond.code_spec nO (w 7 rfl)
  cases Option.some.inj (gO.symm.trans gO')
  obtain ⟨kO, kO1, kOn⟩ := Vm.findClass_spec (findClass_of_methodNamed nO)
  obtain ⟨nmO, dsO⟩ := name_of_methodNamed nO gO
  -- links of methods
  obtain ⟨ca, na, cf, la, ra, fa, pa⟩ := Cond.linkedMethod fT kT1 nO (w 8 rfl) pl o3
  obtain ⟨cb, nb, cf2, lb, rb, fb, pb⟩ := Cond.linkedMethod fT kT1 nF (w 9 rfl) pl o3
  cases Option.some.inj (fa.symm.trans fb)
  obtain ⟨cc, nc, cf3, lc, rc', fc, pc⟩ := Cond.linkedMethod fT kT1 nN (w 10 rfl) pl o3
  cases Option.some.inj (fa.symm.trans fc)
  -- fields
  obtain ⟨i1, i2, fC, l1, r1, a1, s1, v1, -, -, -⟩ := Cond.ownField (t := .object tN) fT kT1 (by decide +kernel) (w 11 rfl) (w 12 rfl) pl o3
  obtain ⟨j1, j2, fS, l2, r2, a2, s2, v2, n2, t2, ff2⟩ := Cond.ownField (t := .array (.object "java/lang/StackTraceElement")) fT kT1 (by decide +kernel) (w 13 rfl) (w 14 rfl) pl o3
  obtain ⟨k1, k2, fP, l3, r3, a3, s3, v3, n3, -, ff3⟩ := Cond.ownField (t := .object "java/util/List") fT kT1 (by decide +kernel) (w 15 rfl) (w 16 rfl) pl o3
  obtain ⟨u1, u2, fU, aS, cS, l4, r4, a4, s4, -, -, aSt, -, -, -, -, ff4⟩ := Cond.ownStatic (t := .array (.object "java/lang/StackTraceElement")) fT kT1 (by decide +kernel) (w 17 rfl) (w 18 rfl) pl o3
  obtain ⟨x1, x2, fX, _, _, l5, r5, a5, s5, -⟩ := Cond.ownStatic (t := .object "java/util/List") fT kT1 (by decide +kernel) (w 19 rfl) (w 20 rfl) pl o3
  obtain ⟨cX, kX, _, _, _, fM, fX1, kX1, _, sM, vM, -⟩ := Cond.lays_spec (w 21 rfl)
  have apart : fS.slot ≠ fP.slot := by
    obtain ⟨-, d1, e1, e2⟩ := Cond.laysAt fX1 kX1 ff2 (w 14 rfl)
    obtain ⟨-, d2, e3, e4⟩ := Cond.laysAt fX1 kX1 ff3 (w 16 rfl)
    exact Cond.laysApart e1 e3 e2 e4 (by rw [n2, n3]; decide)
  have parF : mF.sig.parameters = [] := by
    have q : (parseMethodDescriptor tFill.desc).map (·.parameters) = some [] := by decide +kernel
    rw [sgF] at q; simpa using q
  have parN : mN.sig.parameters = [.int] := by
    have q : (parseMethodDescriptor tFill0.desc).map (·.parameters) = some [.int] := by decide +kernel
    rw [sgN] at q; simpa using q
  have parO : mO.sig.parameters.length = 0 := by
    have q : (parseMethodDescriptor oInit.desc).map (·.parameters.length) = some 0 := by decide +kernel
    rw [sgO] at q; simpa using q
  let Th : ThrowableC := { cT := cT, kT := kT, cO := cT, aS := aS, fillIdx := jF, fill0Idx := jN, initSIdx := jF, obj := mo, kObj := kO, methFill := mF, methFill0 := mN, methInitS := mF, methObj := mO, codeFill := cF, codeInitS := cF, codeObj := cO, fBack := fC, fDepth := fC, fStack := fS, fCause := fC, fSupp := fP, fMsg := fM, fUnassigned := fU, fSentinel := fX, cfT := cf, ci1 := ca, n1 := na, ci27 := cb, n27 := nb, ci202 := cc, n202 := nc, ci7 := i1, i7 := i2, ci13 := u1, i13 := u2, ci17 := j1, i17 := j2, ci20 := x1, i20 := x2, ci24 := k1, i24 := k2 }
  have LK : Th.Links pl s := by
    constructor
    case owns => exact o1
    case noFinalization => exact o2
    case cls => exact kT1
    case name => exact kTn
    case boot => exact Vm.findClass_boot fT kT1
    case notInterface => exact noIf
    case initialized => exact Cond.initialized_spec fT kT1 (w 2 rfl)
    case statics => exact aSt
    case objFound => show lookupSpecial s.vm mo.cls "<init>" mO.desc = _; rw [dsO]; exact lookupSpecial_of_named nO gO stO
    case stackApartSupp => exact apart
    case pool1 => exact pa
    case pool27 => exact pb
    case pool202 => exact pc
    all_goals assumption
  exact ⟨Th, LK, fT, nF, nN, ff2, t2, ff4⟩
theorem slotAt {O nm d : String} {vm0 : Vm} {cf i : Nat} {kf : Class} {f : Field} (hal : Z.vm.Alike vm0) (q : (s.setVm vm0).fieldFound? O nm d = some (cf, kf, i, f)) : Jvm.RoadKit.slotOf Z O nm d = f.slot := by
  obtain ⟨c2, k2, i2, q2⟩ := Jvm.Free.BdW.found_ride (U := s.setVm vm0) (U' := Z) hal.symm ⟨cf, kf, i, q⟩
  simp [Jvm.RoadKit.slotOf, q2]
theorem own_slotv {O nm d : String} {a : Addr} {v : Value} {cell : Cell} (F : Fld Z h a O nm d v) (hc : h[a]? = some cell) : cell.slots[Jvm.RoadKit.slotOf Z O nm d]? = some v := by
  obtain ⟨c3, cf, kf, i, f, b1, b2, -, -, -, -, b7⟩ := F
  cases hc.symm.trans b1
  simp only [Jvm.RoadKit.slotOf, b2, Option.map_some, Option.getD_some]; exact b7
theorem own_re {O nm d : String} {a : Addr} {v : Value} {cell cell' : Cell} {h' : Heap} (F : Fld Z h a O nm d v) (hc : h[a]? = some cell) (hc' : h'[a]? = some cell') (e1 : cell'.cls = cell.cls) (e2 : cell'.vm = cell.vm) (e3 : cell'.slots[Jvm.RoadKit.slotOf Z O nm d]? = cell.slots[Jvm.RoadKit.slotOf Z O nm d]?) : Fld Z h' a O nm d v := by
  have hv := own_slotv F hc
  obtain ⟨c3, cf, kf, i, f, b1, b2, b3, b4, b5, b6, b7⟩ := F
  cases hc.symm.trans b1
  refine ⟨cell', cf, kf, i, f, hc', b2, b3, by rw [e2]; exact b4, by rw [e2]; exact b5, by rw [e1]; exact b6, ?_⟩
  rw [← b7]
  simpa only [Jvm.RoadKit.slotOf, b2, Option.map_some, Option.getD_some] using e3
theorem Unt.wr' {h' : Heap} {a b : Addr} {sl : Nat} {v : Value} (U : Unt h a) (W : Wr h h' b sl v) : Unt h' a := by
  obtain ⟨cell, u1, u2, u3⟩ := U
  obtain ⟨c0, w1, w2, w3, rfl⟩ := W
  by_cases q : b = a
  · subst q
    cases u1.symm.trans w1
    refine ⟨cell.setSlot sl v, ?_, u2, u3⟩
    rw [Array.getElem?_setIfInBounds_self, if_pos (Array.getElem?_eq_some_iff.mp u1).1]
  · exact ⟨cell, by rw [Array.getElem?_setIfInBounds_ne q]; exact u1, u2, u3⟩
theorem ths_of_old (q : Old Z n0 h) : ThS Z h := ThS.start.ext q.2
/-- fillInStackTrace, called by Throwable's constructor -/
theorem gFill {rc : String} {nn wt : Nat} {a x : Addr} (W : Wk p l e R s m args below meth c Z a0 EL n0 true wd tN bytes ml ws T h k n) (hl : l.stackTraces = true) (hT0 : ThS Z s.heap) (hw : ∀ d ∈ fillAtoms rc, d.before a0 Z = true) (wi : (Jvm.Cond.instantiable rc nn).before a0 Z = true)
    (E : Exa Z h a rc) (hC : rc ≠ "java/lang/String" ∧ rc ≠ "[B") (U : Unt h a) (B : Fld Z h a tN "backtrace" obD .null) (F : Fld Z h a tN "stackTrace" steD (.ref x)) (SU : Sta Z Z.heap tN "UNASSIGNED_STACK" steD (.ref x)) (hn : n0 ≤ a)
    (hd : decode bytes pc = .ok (.invokevirtual 27, 3)) (hp : pc + 3 = pc') (hsz : Ls.size = ml) (hf : 3 ≤ R.frames) (hW : (rest.map fun v => v.category).sum ≤ wt) (hlo : wt + 42 ≤ R.locals) (hc : k + 1 ≤ R.cells) (hsl : n + 2752 ≤ R.slots)
    (G : ∀ T' h', Wk p l e R s m args below meth c Z a0 EL n0 true wd tN bytes ml ws T' h' (k + 1) (n + 2752) → Keep h h' [a] → (∀ O nm d v, Fld Z h a O nm d v → Jvm.RoadKit.slotOf Z O nm d ≠ Jvm.RoadKit.slotOf Z tN "backtrace" obD → Jvm.RoadKit.slotOf Z O nm d ≠ Jvm.RoadKit.slotOf Z tN "depth" "I" → Jvm.RoadKit.slotOf Z O nm d ≠ Jvm.RoadKit.slotOf Z tN "stackTrace" steD → Fld Z h' a O nm d v) → Go p e below Φ T' (mkF m pc' Ls (.ref a :: rest))) : Go p e below Φ T (mkF m pc Ls (.ref a :: rest)) := by
  subst hp
  obtain ⟨⟨hx, hb', hml, hO, hE, hlk, hkn⟩, vm0, k0, locs, X, eT, hS, hk, hZ, hCh, hws, hF, hwd, hOl⟩ := W
  have hkn' := known_vm hS.1 (hkn rfl)
  have hal : Z.vm.Alike vm0 := hZ.alike
  have hw' : ∀ d ∈ fillAtoms rc, d.before args (s.setVm vm0) = true := fun d q => mvX (s := s.setVm vm0) hT0 hZ (List.all_eq_true.mp fill_ok d q) (hw d q)
  have w : ∀ (i : Nat) {d : Jvm.Cond}, (fillAtoms rc)[i]? = some d → d.before args (s.setVm vm0) = true := fun i d q => hw' d (List.mem_of_getElem? q)
  have hpl : e.platform.magicAccessors = ({} : Platform).magicAccessors := by rw [X.admits.platform]
  have htr : e.platform.stackTraces = true := by rw [X.admits.platform]; exact hl
  obtain ⟨Th, L, fT, nF, nN, ffS, tS, ffU⟩ := own_thr (s := s.setVm vm0) (pl := e.platform) (by rw [X.admits.platform]) (by rw [X.admits.platform]) hpl hw'
  obtain ⟨cell, kz, h1, h2, h3, -, h5⟩ := id E
  obtain ⟨c2, u1, u2, u3⟩ := id U
  cases h1.symm.trans u1
  obtain ⟨_, _, i1, i2, i3, -⟩ := Cond.instantiable_spec wi
  cases h2.symm.trans i1
  cases h3.symm.trans i2
  obtain ⟨kX, hkX, heX⟩ := hal.2.2 _ _ h3
  have hfound : (s.setVm vm0).vm.findClass rc = some cell.cls := (hal.findClass rc _).trans h2
  have hord : kX.kind = .ordinary := by rw [heX]; exact i3
  have hsz' : cell.slots.size = kX.instanceTypes.size := by rw [heX]; exact h5 i3
  obtain ⟨ci, ib, fB, l198, r198, at198, sB, -, nB, tB, ffB⟩ := Cond.ownField (t := .object "java/lang/Object") fT L.cls (by decide +kernel) (w 25 rfl) (w 26 rfl) e.platform hpl
  obtain ⟨_, _, cD, kD, iD, fD, -, -, ffD, sD, -⟩ := Cond.lays_spec (w 27 rfl)
  cases Option.some.inj ((Cond.lays_declared (w 27 rfl) ffD).symm.trans fT)
  obtain ⟨kkD, atD⟩ := State.fieldFound?_spec ffD
  cases Option.some.inj (kkD.symm.trans L.cls)
  obtain ⟨nD, tD⟩ := State.fieldFound?_type ffD (t := .int) (by decide +kernel)
  have fb := Cond.soleField_find fT L.cls (w 29 rfl) at198 nB sB
  have fd := Cond.soleField_find fT L.cls (w 30 rfl) atD nD sD
  obtain ⟨comp, cO, kO, -, -, hkO, hkindO, hOO⟩ := Cond.arrayOver_spec (w 28 rfl)
  obtain ⟨tyS, -⟩ := Cond.laysAt hfound hkX ffS (w 14 rfl)
  obtain ⟨tyB, -⟩ := Cond.laysAt hfound hkX ffB (w 26 rfl)
  obtain ⟨tyD, -⟩ := Cond.laysAt hfound hkX ffD (w 27 rfl)
  have tk : ∀ {f : Field} {v : Value}, kX.instanceTypes[f.slot]? = some f.type → fits f.type v = true → Jvm.Takes (s.setVm vm0) cell f v := fun {f v} g1 g2 => by
    obtain ⟨q1, q2⟩ := Takes.of_laid (s := s.setVm vm0) (v := v) hkX hord g1 g2
    exact ⟨by rw [hsz']; simpa using q1, by rw [u2]; exact q2⟩
  have eS := slotAt (Z := Z) hal ffS
  have eB := slotAt (Z := Z) hal ffB
  have eD := slotAt (Z := Z) hal ffD
  have hvS : cell.slots[Th.fStack.slot]? = some (.ref x) := by rw [← eS]; exact own_slotv F h1
  have hvB : cell.slots[fB.slot]? = some .null := by rw [← eB]; exact own_slotv B h1
  obtain ⟨cf, iU, kS, fU, sta, cS, g1, g2, g3, g4, g5, g6, g7⟩ := SU
  obtain ⟨k4, q3, he4⟩ := State.fieldFound?_setVm (s := Z) hal g1
  cases (show (s.setVm vm0).fieldFound? tN "UNASSIGNED_STACK" steD = _ from q3).symm.trans ffU
  have e4 : Th.kT.statics = some sta := by rw [he4]; exact g4
  obtain rfl : Th.aS = sta := Option.some.inj (L.statics.symm.trans e4)
  have hcS : h[Th.aS]? = some cS := hOl.2.2 _ _ g5
  have hneS : Th.aS ≠ a := fun q => by
    rw [q] at hcS
    cases h1.symm.trans hcS
    rw [u2] at g6; cases g6
  have hsel0 : selectMethod e.platform (s.setVm vm0).vm cell.cls Th.fill0 = .method Th.fill0 := by
    obtain ⟨c2, r2, m2, q1, q2, q3, q4, -⟩ := Cond.selects_spec (w 23 rfl)
    cases Option.some.inj (q1.symm.trans hfound)
    cases Option.some.inj (q2.symm.trans (State.methodFound?_of_named nN (by decide)))
    cases Option.some.inj (q3.symm.trans nN)
    rw [Launch.admits_selectMethod X.admits]; exact q4
  have hSE : (Jvm.Cond.selects rc tFill tFill).before args (s.setVm vm0) = true := w 24 rfl
  obtain ⟨v6, vm6, ⟨T6, L6, c6, n6⟩, -, X6, ⟨hv6, vm', lines, hln, -, hU6, hL6, hc6, hn6⟩, stp⟩ := X.virtualBack hx (own := tN) (C := rc) (index := 27) (y := tFill) (z := tFill) ((hal.findClass tN _).trans hO) (w 9 rfl) (w 22 rfl) (notFace_of_selects hSE) hSE (w 4 rfl) (by decide)
    (Jvm.Free.Str.fillPays (l := l) (R := R) (W := wt) hx htr Th L nF (u0 := ⟨.ref x, rfl⟩) (by simp) (self := a) (cell := cell) (cellS := cS) (fun _ => by rw [u2]; simp) (by rw [u2]; simp) (by rw [u3]) (by rw [u3]) hvS hsel0 hneS (fun q => by rw [q] at g6; cases g6) g7 (tk tyS (by rw [tS]; rfl))
      ⟨{ ci198 := ci, i198 := ib, fBack := fB }, ⟨l198, r198, at198, sB⟩, hvB⟩ hkn'.1 hkn'.2 fT hOO hkO hkindO fb fd (fun y => tk tyB (by rw [tB]; rfl)) (fun y => tk tyD (by rw [tD]; rfl)) (by omega) hlo)
    (b := a) (cB := cell.cls) hfound ⟨cell, by rw [eT]; exact h1, rfl, by rw [u2]; rfl⟩ (g := mkF m pc Ls (.ref a :: rest)) rfl (hsz.trans hml.symm) (Steps.refl _) (argsL := []) (rest := rest)
    (fun sig q => by rw [show parseMethodDescriptor tFill.desc = some ⟨[], some (.object tN)⟩ from by decide +kernel] at q; rw [← Option.some.inj q]; rfl) rfl (by simpa using hW) (hb hb' hd)
    (fun vmx _ => ⟨rfl, hc, hsl, by show T.heap[a]? = _; rw [eT]; exact h1, by show T.heap[Th.aS]? = _; rw [eT]; exact hcS⟩)
  dsimp only [Pt.U, Pt.locs, Pt.cells, Pt.slots] at X6 hU6 hL6 hc6 hn6 stp
  subst hv6 hL6 hc6 hn6
  generalize hC6 : Jvm.Free.Str.filledOn Th.toThrowableT fB fD cell ⟨.ref x, rfl⟩ (T.setVm vm6).heap.size lines.length.toInt32 = C6 at hU6
  have ha := natlt (Array.getElem?_eq_some_iff.mp h1).1
  have eh : T6.heap = (h.push (traceHolder cO lines)).setIfInBounds a C6 := by rw [hU6, ← eT]; rfl
  have cc1 : C6.cls = cell.cls := by rw [← hC6]; rfl
  have cc2 : C6.vm = cell.vm := by rw [← hC6]; rfl
  have cc3 : C6.slots.size = cell.slots.size := by rw [← hC6]; simp [Jvm.Free.Str.filledOn, Cell.setSlot]
  have cc4 : ∀ i, i ≠ fB.slot → i ≠ fD.slot → i ≠ Th.fStack.slot → C6.slots[i]? = cell.slots[i]? := fun i q1 q2 q3 => by
    rw [← hC6]; simp [Jvm.Free.Str.filledOn, Cell.setSlot, Array.getElem?_setIfInBounds, Ne.symm q1, Ne.symm q2, Ne.symm q3]
  have at6 : T6.heap[a]? = some C6 := by
    rw [eh, Array.getElem?_setIfInBounds_self]
    simp; omega
  have oth : ∀ (y : Addr) (cy : Cell), h[y]? = some cy → y ≠ a → T6.heap[y]? = some cy := fun y cy q ne => by
    have hy := (Array.getElem?_eq_some_iff.mp q).1
    rw [eh, Array.getElem?_setIfInBounds_ne (Ne.symm ne), Array.getElem?_push_lt hy]
    rw [← q, Array.getElem?_eq_getElem hy]
  have KK : Keep h T6.heap [a] := by
    refine ⟨by rw [eh]; simp, fun y cy q ne => oth y cy q (fun r => ne (by simp [r])), fun y cy q => ?_⟩
    by_cases r : y = a
    · subst r
      cases h1.symm.trans q
      exact ⟨C6, at6, cc1, cc2, cc3⟩
    · exact ⟨cy, oth y cy q r, rfl, rfl, rfl⟩
  have sa : ∀ x ∈ [a], Safe Z EL vm0 h x := fun y hy => by
    rcases List.mem_singleton.mp hy with rfl
    exact Safe.exa hal E hC.1 hC.2
  refine (G T6 T6.heap ⟨⟨hx, hb', hml, hO, hE, hlk, hkn⟩, vm0, k0, _, X6.more (Nat.le_refl _) (Nat.add_le_add_left (traceHolder_size_le cO hln) _), rfl, hS, Nat.le_trans hk KK.1, hZ, hCh.trans (CHr.keep KK sa hCh.1), fun y hy => ⟨Nat.lt_of_lt_of_le (hws y hy).1 KK.1, Safe.keep KK sa hCh.1 (hws y hy).2⟩, hF.app (fun y hy => ?_), hwd, hOl.keep KK (allS hn all0)⟩ KK (fun O nm d v Fx q1 q2 q3 => ?_)).back (fun t q => stp.trans q)
  · simp only [List.mem_cons, List.not_mem_nil, or_false] at hy
    rcases hy with rfl | rfl | rfl <;> exact hn
  · exact own_re Fx h1 at6 cc1 cc2 (cc4 _ (by rw [← eB]; exact q1) (by rw [← eD]; exact q2) (by rw [← eS]; exact q3))
end OwnFill
def Q_cmp5 (Z : State) (n0 : Nat) (b d : Addr) (kb kd : ClassId) (z : Int32) (cs : List Int32) (h0 : Heap) (v : Option Value) (h : Heap) : Prop := v = some (.int z) ∧ Keep h0 h [d] ∧ Arv Z h d kd .byte z (cs.map fun c => Value.int c.toInt8.toInt32) (.int 0)
set_option maxRecDepth 65536 in
set_option maxHeartbeats 40000000 in
theorem ct_cmp5 {l : Launch} {Z : State} {a0 : Array Value} (hw : ∀ d ∈ tables_1, d.before a0 Z = true) (hEL : EW Z a0 EL0) {n0 : Nat} (cds : List Jvm.Cond) (b d : Addr) (kb kd : ClassId) (z : Int32) (cs : List Int32) (h0 : Heap) (hz : z.toInt = cs.length) (hlen : cs.length ≤ 3) (hcs : ∀ c ∈ cs, 0 ≤ c.toInt ∧ c.toInt < 256) (Vb : Arv Z h0 b kb .char z (cs.map Value.int) (.int 0)) (Vd : Arv Z h0 d kd .byte z [] (.int 0)) (n0_d : n0 ≤ d) (hne : b ≠ d) :
    Ct l Z a0 EL0 n0 true true (⟨"java/lang/StringUTF16", "compress", "([CI[BII)I"⟩ : MethodName) jdk_52_method_21_code 7 (Option.some Jvm.ClassFile.FieldType.int) cds ({ frames := 0, cells := 0, slots := 0, locals := 0 } : Room) [d] #[(.ref b), (.int (0 : Int32)), (.ref d), (.int (0 : Int32)), (.int z)] h0 (Q_cmp5 Z n0 b d kb kd z cs h0) := by
  refine Ct.of (plainFor_of_name pn_0) hEL ?_
  intro p e s m below meth c T0 W0 hret hnm hs0
  refine Go.cast (ef_RIRII_7 m b (0 : Int32) d (0 : Int32) z) ?_
  show Go p e below _ T0 (mkF m 0 #[.val (.ref b), .val (.int (0 : Int32)), .val (.ref d), .val (.int (0 : Int32)), .val (.int z), .unset, .unset] [])
  refine s_iconst W0 d16_0 (v := (0 : Int32)) (by decide) (pc' := 1) rfl ?_
  refine s_istore W0 d16_1 (l' := #[.val (.ref b), .val (.int (0 : Int32)), .val (.ref d), .val (.int (0 : Int32)), .val (.int z), .val (.int (0 : Int32)), .unset]) rfl (pc' := 3) rfl ?_
  suffices loop : ∀ (r j : Nat), j + r = cs.length → ∀ (T : State) (h : Heap) (s6 : Slot), One1 s6 → Wk p l e _ s m _ below meth c Z a0 EL0 n0 true true _ _ _ [d] T h 0 0 → Keep h0 h [d] → Arv Z h d kd .byte z ((cs.take j).map fun c => Value.int c.toInt8.toInt32) (.int 0) → Go p e below (Po s Z EL0 n0 true _ _ (Q_cmp5 Z n0 b d kb kd z cs h0)) T (mkF m 3 #[.val (.ref b), .val (.int j.toInt32), .val (.ref d), .val (.int j.toInt32), .val (.int z), .val (.int j.toInt32), s6] []) from
    loop cs.length 0 (Nat.zero_add _) T0 h0 .unset One1.u W0 (Keep.refl _ _) Vd
  intro r
  induction r with
  | zero =>
    intro j hj T1 h1 s6 h6 W1 K1 Vj
    have ej : j.toInt32.toInt = j := n32 (by omega)
    refine s_iload W1 d16_3 rfl (pc' := 5) rfl ?_
    refine s_iload W1 d16_5 rfl (pc' := 7) rfl ?_
    refine s_icmpge W1 d16_7 (by decide) (pc1 := 44) (by decide) (pc2 := 10) rfl ?_ (fun q => absurd q (nlt32 (by omega)))
    intro q7
    refine s_iload W1 d16_44 rfl (pc' := 46) rfl ?_
    exact gRetI W1 hret d16_46 (by decide) (by decide) ⟨rfl, K1, by rw [List.take_of_length_le (by omega)] at Vj; exact Vj⟩
  | succ r ih =>
    intro j hj T1 h1 s6 h6 W1 K1 Vj
    have hjl : j < cs.length := by omega
    have ej : j.toInt32.toInt = j := n32 (by omega)
    have hc := hcs cs[j] (List.getElem_mem hjl)
    have os : storeLocals #[.val (.ref b), .val (.int j.toInt32), .val (.ref d), .val (.int j.toInt32), .val (.int z), .val (.int j.toInt32), s6] 6 (.int cs[j]) = some #[.val (.ref b), .val (.int j.toInt32), .val (.ref d), .val (.int j.toInt32), .val (.int z), .val (.int j.toInt32), .val (.int cs[j])] := by
      rcases h6 with rfl | ⟨w, rfl, hw⟩
      · rfl
      · cases w <;> first | rfl | (simp [Value.category] at hw)
    refine s_iload W1 d16_3 rfl (pc' := 5) rfl ?_
    refine s_iload W1 d16_5 rfl (pc' := 7) rfl ?_
    refine s_icmpge W1 d16_7 (by decide) (pc1 := 44) (by decide) (pc2 := 10) rfl (fun q => absurd q (fun q' => q' (lt32 (by omega)))) ?_
    intro q7
    refine s_aloadN W1 d16_10 rfl rfl (pc' := 11) rfl ?_
    refine s_iloadN W1 d16_11 rfl (pc' := 12) rfl ?_
    have Vb1 := Vb.keep K1 (ninS hne nin0)
    refine gLdC W1 Vb1 ⟨nlt32 (by rw [zero32]; omega), lt32 (by omega)⟩ (v := .int cs[j]) (by rw [n32c (by omega)]; exact getD_map' _ _ _ hjl) d16_12 (pc' := 13) rfl ?_
    refine s_istore W1 d16_13 (l' := #[.val (.ref b), .val (.int j.toInt32), .val (.ref d), .val (.int j.toInt32), .val (.int z), .val (.int j.toInt32), .val (.int cs[j])]) os (pc' := 15) rfl ?_
    refine s_iload W1 d16_15 rfl (pc' := 17) rfl ?_
    refine s_sipush W1 d16_17 (v := (255 : Int32)) (by decide) (pc' := 20) rfl ?_
    refine s_icmple W1 d16_20 (by decide) (pc1 := 26) (by decide) (pc2 := 23) rfl ?_ (fun q => absurd q (nlt32 (by rw [show (255 : Int32).toInt = 255 from by decide]; omega)))
    intro q20
    refine s_aloadN W1 d16_26 rfl rfl (pc' := 27) rfl ?_
    refine s_iloadN W1 d16_27 rfl (pc' := 28) rfl ?_
    refine s_iload W1 d16_28 rfl (pc' := 30) rfl ?_
    refine s_i2b W1 d16_30 (pc' := 31) rfl ?_
    have Vp := Arv.pad Vj (pad_rep _ (.int 0) 1)
    refine gStB W1 n0_d (List.mem_of_getElem? (i := 0) rfl) Vp ⟨nlt32 (by rw [zero32]; omega), lt32 (by omega)⟩ (i := j) (n32c (by omega)) (by simp; omega) d16_31 (pc' := 32) rfl ?_
    intro T2 h2 W2 K2 V2
    refine s_iinc W2 d16_32 (v := (1 : Int32)) (by decide) rfl (l' := #[.val (.ref b), .val (.int (j.toInt32 + (1 : Int32))), .val (.ref d), .val (.int j.toInt32), .val (.int z), .val (.int j.toInt32), .val (.int cs[j])]) rfl (pc' := 35) rfl ?_
    refine s_iinc W2 d16_35 (v := (1 : Int32)) (by decide) rfl (l' := #[.val (.ref b), .val (.int (j.toInt32 + (1 : Int32))), .val (.ref d), .val (.int (j.toInt32 + (1 : Int32))), .val (.int z), .val (.int j.toInt32), .val (.int cs[j])]) rfl (pc' := 38) rfl ?_
    refine s_iinc W2 d16_38 (v := (1 : Int32)) (by decide) rfl (l' := #[.val (.ref b), .val (.int (j.toInt32 + (1 : Int32))), .val (.ref d), .val (.int (j.toInt32 + (1 : Int32))), .val (.int z), .val (.int (j.toInt32 + (1 : Int32))), .val (.int cs[j])]) rfl (pc' := 41) rfl ?_
    refine s_goto W2 d16_41 (by decide) (pc' := 3) (by decide) ?_
    rw [n32s]
    refine ih (j + 1) (by omega) T2 h2 _ (One1.i _) W2 (K1.trans K2 (allS (Or.inl (by simp)) all0)) ?_
    rw [take_succ' _ _ hjl]
    rw [set_last _ _ _ (by simp; omega)] at V2
    have e2 : cs[j].toInt8.toInt32.toInt8.toInt32 = cs[j].toInt8.toInt32 := by simp
    rw [e2] at V2
    exact V2
def Q_cmp3 (Z : State) (n0 : Nat) (b : Addr) (kb : ClassId) (z : Int32) (cs : List Int32) (h0 : Heap) (v : Option Value) (h : Heap) : Prop := ∃ d kd, v = some (.ref d) ∧ Keep h0 h [] ∧ h0.size ≤ d ∧ Arv Z h d kd .byte z (cs.map fun c => Value.int c.toInt8.toInt32) (.int 0)
set_option maxRecDepth 65536 in
set_option maxHeartbeats 40000000 in
theorem ct_cmp3 {l : Launch} {Z : State} {a0 : Array Value} (hw : ∀ d ∈ tables_1, d.before a0 Z = true) (hEL : EW Z a0 EL0) {n0 : Nat} (cds : List Jvm.Cond) (b : Addr) (kb : ClassId) (z : Int32) (cs : List Int32) (h0 : Heap) (hz : z.toInt = cs.length) (hlen : cs.length ≤ 3) (hcs : ∀ c ∈ cs, 0 ≤ c.toInt ∧ c.toInt < 256) (Vb : Arv Z h0 b kb .char z (cs.map Value.int) (.int 0)) :
    Ct l Z a0 EL0 n0 true true (⟨"java/lang/StringUTF16", "compress", "([CII)[B"⟩ : MethodName) jdk_52_method_16_code 6 (Option.some (Jvm.ClassFile.FieldType.array Jvm.ClassFile.FieldType.byte)) cds ({ frames := 1, cells := 1, slots := 3, locals := 18 } : Room) [] #[(.ref b), (.int (0 : Int32)), (.int z)] h0 (Q_cmp3 Z n0 b kb z cs h0) := by
  refine Ct.of (plainFor_of_name pn_0) hEL ?_
  intro p e s m below meth c T0 W0 hret hnm hs0
  refine Go.cast (ef_RII_6 m b (0 : Int32) z) ?_
  show Go p e below _ T0 (mkF m 0 #[.val (.ref b), .val (.int (0 : Int32)), .val (.int z), .unset, .unset, .unset] [])
  have lt_b := natlt Vb.lt
  refine s_iloadN W0 d15_0 rfl (pc' := 1) rfl ?_
  refine gNewP (aty := .byte) W0 (w_19 hw) (ad := "[B") (by decide +kernel) d15_1 (pc' := 3) rfl (nlt32 (by rw [zero32]; omega)) (cap := 3) (by show z.toInt.toNat ≤ _; omega) (by decide) (by decide) (by decide) ?_
  intro T1 h1 b1 g1 W1 E1 ⟨k1, V1, A1⟩
  have z1 : h0.size ≤ h1.size := E1.1
  have lt_b1 := natlt A1.lt
  have gg1 := nateq g1
  have n0_b1 : n0 ≤ b1 := by have := W0.n0le; omega
  have Vp1 : Arv Z h1 b1 k1 .byte z [] (.int (0 : Int32)) := V1
  refine s_astoreN W1 d15_3 rfl (l' := #[.val (.ref b), .val (.int (0 : Int32)), .val (.int z), .val (.ref b1), .unset, .unset]) rfl (pc' := 4) rfl ?_
  refine s_aloadN W1 d15_4 rfl rfl (pc' := 5) rfl ?_
  refine s_iloadN W1 d15_5 rfl (pc' := 6) rfl ?_
  refine s_aloadN W1 d15_6 rfl rfl (pc' := 7) rfl ?_
  refine s_iconst W1 d15_7 (v := (0 : Int32)) (by decide) (pc' := 8) rfl ?_
  refine s_iloadN W1 d15_8 rfl (pc' := 9) rfl ?_
  have fx2 := (Vb.ext E1)
  refine gStatic W1 (w_123 hw) (w_124 hw) (w_121 hw) (w_125 hw) (by decide) pd_0 (ct_cmp5 hw hEL [] b b1 kb k1 z cs h1 hz hlen hcs fx2 Vp1 n0_b1 (ane (by omega))) (by simp) d15_9 (pc' := 12) rfl rfl (argsL := [(.ref b), (.int (0 : Int32)), (.ref b1), (.int (0 : Int32)), (.int z)]) rfl rfl (rest := []) rfl (wt := 0) (Nat.le_of_eq rfl) (by decide) (by decide) (by decide) (by decide) ?_
  rintro v3 T3 h3 W3 z3 ⟨rfl, K, V⟩
  show Go p e below _ T3 (mkF m 12 #[.val (.ref b), .val (.int (0 : Int32)), .val (.int z), .val (.ref b1), .unset, .unset] [(.int z)])
  refine s_istore W3 d15_12 (l' := #[.val (.ref b), .val (.int (0 : Int32)), .val (.int z), .val (.ref b1), .val (.int z), .unset]) rfl (pc' := 14) rfl ?_
  refine s_iload W3 d15_14 rfl (pc' := 16) rfl ?_
  refine s_iloadN W3 d15_16 rfl (pc' := 17) rfl ?_
  refine s_icmpeq W3 d15_17 (by decide) (pc1 := 57) (by decide) (pc2 := 20) rfl ?_ (fun q => (q rfl).elim)
  intro q17
  refine s_aloadN W3 d15_57 rfl rfl (pc' := 58) rfl ?_
  exact gRetA W3 hret rfl rfl d15_58 (by decide) (by decide) ⟨_, _, rfl, (((Keep.refl h0 []).ext E1).trans K (allS (Or.inr (natle (by omega))) all0)), by omega, V⟩
def Q_coder (Z : State) (n0 : Nat) (d : Addr) (kd : ClassId) (z zz : Int32) (vs : List Value) (h0 : Heap) (v : Option Value) (h : Heap) : Prop := v = some (.int (nar .byte (((z - zz).toUInt32 >>> ((31 : Int32) &&& 31).toUInt32).toInt32.toInt8.toInt32))) ∧ h0 = h
set_option maxRecDepth 65536 in
set_option maxHeartbeats 40000000 in
theorem ct_coder {l : Launch} {Z : State} {a0 : Array Value} (hw : ∀ d ∈ tables_1, d.before a0 Z = true) (hEL : EW Z a0 EL0) {n0 : Nat} (cds : List Jvm.Cond) (d : Addr) (kd : ClassId) (z zz : Int32) (vs : List Value) (h0 : Heap) (Vd : Arv Z h0 d kd .byte zz vs (.int 0)) :
    Ct l Z a0 EL0 n0 true true (⟨"java/lang/StringUTF16", "coderFromArrayLen", "([BI)B"⟩ : MethodName) jdk_52_method_15_code 2 (Option.some Jvm.ClassFile.FieldType.byte) cds ({ frames := 0, cells := 0, slots := 0, locals := 0 } : Room) [] #[(.ref d), (.int z)] h0 (Q_coder Z n0 d kd z zz vs h0) := by
  refine Ct.of (plainFor_of_name pn_0) hEL ?_
  intro p e s m below meth c T0 W0 hret hnm hs0
  refine Go.cast (ef_RI_2 m d z) ?_
  show Go p e below _ T0 (mkF m 0 #[.val (.ref d), .val (.int z)] [])
  refine s_iloadN W0 d17_0 rfl (pc' := 1) rfl ?_
  refine s_aloadN W0 d17_1 rfl rfl (pc' := 2) rfl ?_
  refine gLen W0 Vd d17_2 (pc' := 3) rfl ?_
  refine s_isub W0 d17_3 (pc' := 4) rfl ?_
  refine s_bipush W0 d17_4 (v := (31 : Int32)) (by decide) (pc' := 6) rfl ?_
  refine s_iushr W0 d17_6 (pc' := 7) rfl ?_
  refine s_i2b W0 d17_7 (pc' := 8) rfl ?_
  exact gRetN W0 hret (by simp) d17_8 (by decide) (by decide) ⟨rfl, rfl⟩
theorem wS {Z : State} {a0 : Array Value} (hw : ∀ d ∈ tables_1, d.before a0 Z = true) : ∀ a ∈ Bundle.stringAtoms, a.before a0 Z = true := (allC (P := fun a => a.before a0 Z = true) (w_6 hw) (allC (P := fun a => a.before a0 Z = true) (w_5 hw) (allC (P := fun a => a.before a0 Z = true) (w_19 hw) (allC (P := fun a => a.before a0 Z = true) (w_20 hw) (allC (P := fun a => a.before a0 Z = true) (w_21 hw) (allC (P := fun a => a.before a0 Z = true) (w_22 hw) (allC (P := fun a => a.before a0 Z = true) (w_23 hw) allC0)))))))
def Q_str4 (Z : State) (n0 : Nat) (a b : Addr) (kb : ClassId) (z ccs : Int32) (cs : List Int32) (h0 : Heap) (v : Option Value) (h : Heap) : Prop := v = none ∧ Keep h0 h [a] ∧ ∃ d kd, Str Z h a d kd 0 z (cs.map fun c => Value.int c.toInt8.toInt32) ∧ (cs ≠ [] → h0.size ≤ d)
set_option maxRecDepth 65536 in
set_option maxHeartbeats 40000000 in
theorem ct_str4 {l : Launch} {Z : State} {a0 : Array Value} (hw : ∀ d ∈ tables_1, d.before a0 Z = true) (hEL : EW Z a0 EL0) {n0 : Nat} (cds : List Jvm.Cond) (a b : Addr) (kb : ClassId) (z ccs : Int32) (cs : List Int32) (h0 : Heap) (hz : z.toInt = cs.length) (hlen : cs.length ≤ 3) (hcs : ∀ c ∈ cs, 0 ≤ c.toInt ∧ c.toInt < 256) (Vb : Arv Z h0 b kb .char z (cs.map Value.int) (.int 0)) (Ea : Exa Z h0 a "java/lang/String") (Fv : Fld Z h0 a "java/lang/String" "value" "[B" .null) (Fc : Fld Z h0 a "java/lang/String" "coder" "B" (.int 0)) (n0_a : n0 ≤ a) (SCS : Sta Z Z.heap "java/lang/String" "COMPACT_STRINGS" "Z" (.int ccs)) (hccs : ¬ ccs = 0) :
    Ct l Z a0 EL0 n0 true true (⟨"java/lang/String", "<init>", "([CIILjava/lang/Void;)V"⟩ : MethodName) jdk_42_method_149_code 6 (Option.none : Option Jvm.ClassFile.FieldType) cds ({ frames := 2, cells := 4, slots := 8, locals := 35 } : Room) [a] #[(.ref a), (.ref b), (.int (0 : Int32)), (.int z), .null] h0 (Q_str4 Z n0 a b kb z ccs cs h0) := by
  refine Ct.of (plainFor_of_name pn_1) hEL ?_
  intro p e s m below meth c T0 W0 hret hnm hs0
  refine Go.cast (ef_RRIIN_6 m a b (0 : Int32) z) ?_
  show Go p e below _ T0 (mkF m 0 #[.val (.ref a), .val (.ref b), .val (.int (0 : Int32)), .val (.int z), .val .null, .unset] [])
  have lt_a := natlt Ea.lt
  have lt_b := natlt Vb.lt
  refine s_aloadN W0 d3_0 rfl rfl (pc' := 1) rfl ?_
  refine gInitO W0 (w_15 hw) (w_16 hw) (w_17 hw) d3_1 (pc' := 4) rfl rfl (by decide) (wt := 0) (Nat.le_of_eq rfl) (by decide) ?_
  intro T1 W1
  refine s_iloadN W1 d3_4 rfl (pc' := 5) rfl ?_
  refine s_ifne W1 d3_5 (by decide) (pc1 := 27) (by decide) (pc2 := 8) rfl ?_ ?_
  · intro q5
    refine gGetS W1 (host := "") (Or.inl (w_118 hw)) Via.refl (SCS.ext W1.old.2) d3_27 (pc' := 30) rfl ?_
    intro T2 W2
    refine s_ifeq W2 d3_30 (by decide) (pc1 := 58) (by decide) (pc2 := 33) rfl (fun q => absurd q hccs) ?_
    intro q30
    refine s_aloadN W2 d3_33 rfl rfl (pc' := 34) rfl ?_
    refine s_iloadN W2 d3_34 rfl (pc' := 35) rfl ?_
    refine s_iloadN W2 d3_35 rfl (pc' := 36) rfl ?_
    refine gStatic W2 (w_119 hw) (w_120 hw) (w_121 hw) (w_122 hw) (by decide) pd_1 (ct_cmp3 hw hEL [] b kb z cs h0 hz hlen hcs Vb) (by simp) d3_36 (pc' := 39) rfl rfl (argsL := [(.ref b), (.int (0 : Int32)), (.int z)]) rfl rfl (rest := []) rfl (wt := 0) (Nat.le_of_eq rfl) (by decide) (by decide) (by decide) (by decide) ?_
    rintro v3 T3 h3 W3 z3 ⟨d, kd, rfl, K3, g3, V3⟩
    have lt_d := natlt V3.lt
    show Go p e below _ T3 (mkF m 39 #[.val (.ref a), .val (.ref b), .val (.int (0 : Int32)), .val (.int z), .val .null, .unset] [(.ref d)])
    refine s_astore W3 d3_39 rfl (l' := #[.val (.ref a), .val (.ref b), .val (.int (0 : Int32)), .val (.int z), .val .null, .val (.ref d)]) rfl (pc' := 41) rfl ?_
    refine s_aloadN W3 d3_41 rfl rfl (pc' := 42) rfl ?_
    refine s_aload W3 d3_42 rfl rfl (pc' := 44) rfl ?_
    refine s_iloadN W3 d3_44 rfl (pc' := 45) rfl ?_
    refine gStatic W3 (w_126 hw) (w_127 hw) (w_121 hw) (w_128 hw) (by decide) pd_2 (ct_coder hw hEL [] d kd z z (cs.map fun c => Value.int c.toInt8.toInt32) h3 V3) (by simp) d3_45 (pc' := 48) rfl rfl (argsL := [(.ref d), (.int z)]) rfl rfl (rest := [(.ref a)]) rfl (wt := 1) (Nat.le_of_eq rfl) (by decide) (by decide) (by decide) (by decide) ?_
    rintro v4 T4 h4 W4 z4 ⟨rfl, rfl⟩
    have ec : (nar .byte (((z - z).toUInt32 >>> ((31 : Int32) &&& 31).toUInt32).toInt32.toInt8.toInt32)) = 0 := by rw [Int32.sub_self]; decide
    rw [ec]
    show Go p e below _ T4 (mkF m 48 #[.val (.ref a), .val (.ref b), .val (.int (0 : Int32)), .val (.int z), .val .null, .val (.ref d)] [(.int (0 : Int32)), (.ref a)])
    have fx6 := (Fc.keep K3 nin0)
    have fx7 := (Ea.keep K3)
    refine gPutFN W4 n0_a (Or.inl (List.mem_of_getElem? (i := 0) rfl)) (w_25 hw) Via.refl fx6 fx7 (Or.inr ⟨(w_21 hw), rfl, hnm⟩) (w_5 hw) (ty := .byte) (v' := (.int (0 : Int32))) (by decide) (by decide) (by decide) d3_48 (pc' := 51) rfl ?_
    intro T5 h5 W5 Wr5
    have Fw5 := fx6.same Wr5
    have z5 : h3.size ≤ h5.size := Nat.le_of_eq Wr5.size.symm
    refine s_aloadN W5 d3_51 rfl rfl (pc' := 52) rfl ?_
    refine s_aload W5 d3_52 rfl rfl (pc' := 54) rfl ?_
    have fx9 := ((Fv.keep K3 nin0).other Wr5 (Or.inr (slot_ne (Or.inr (w_20 hw)) (Or.inr (w_21 hw)) (by decide) (t := (.array .byte)) (t' := .byte) (by decide) (by decide))))
    have fx10 := (fx7.wr Wr5)
    refine gPutF W5 n0_a (Or.inl (List.mem_of_getElem? (i := 0) rfl)) (host := "") (Or.inl (w_24 hw)) Via.refl fx9 fx10 (Or.inr ⟨(w_20 hw), rfl, hnm⟩) (w_5 hw) (ty := (.array .byte)) (by decide) rfl rfl d3_54 (pc' := 57) rfl ?_
    intro T8 h8 W8 Wr8
    have Fw8 := fx9.same Wr8
    have z8 : h5.size ≤ h8.size := Nat.le_of_eq Wr8.size.symm
    have fx11 := (fx10.wr Wr8)
    have fx12 := (Fw5.other Wr8 (Or.inr (slot_ne (Or.inr (w_21 hw)) (Or.inr (w_20 hw)) (by decide) (t := .byte) (t' := (.array .byte)) (by decide) (by decide))))
    have fx13 := ((V3.other Wr5 (ane (by omega))).other Wr8 (ane (by omega)))
    exact gRetV W8 hret d3_57 (by decide) (by decide) ⟨rfl, ((((Keep.refl h0 [a]).trans K3 all0).wr Wr5 (Or.inl (by simp))).wr Wr8 (Or.inl (by simp))), d, kd, ⟨fx11, Fw8, fx12, fx13⟩, fun _ => by omega⟩
  · intro q5
    subst q5
    obtain rfl : cs = [] := List.eq_nil_of_length_eq_zero (by rw [zero32] at hz; omega)
    refine s_aloadN W1 d3_8 rfl rfl (pc' := 9) rfl ?_
    refine gLdcS W1 (w_18 hw) (wS hw) (List.mem_of_getElem? (i := 0) rfl) (vs := []) (z := (0 : Int32)) ⟨by decide +kernel, by decide +kernel⟩ (by decide) (by decide) d3_9 (pc' := 11) rfl (nn := 0) (by decide) (by decide) (by decide) (by decide) ?_
    intro T14 h14 s14 d14 k14 W14 E14 A14 C14 F14 V14 N14
    have z14 : h0.size ≤ h14.size := E14.1
    have lt_s14 := natlt A14.lt
    have lt_d14 := natlt V14.lt
    refine gGetF W14 (host := "") (Or.inl (w_24 hw)) Via.refl F14 d3_11 (pc' := 14) rfl ?_
    intro T15 W15
    have fx17 := (Fv.ext E14)
    have fx18 := (Ea.ext E14)
    refine gPutF W15 n0_a (Or.inl (List.mem_of_getElem? (i := 0) rfl)) (host := "") (Or.inl (w_24 hw)) Via.refl fx17 fx18 (Or.inr ⟨(w_20 hw), rfl, hnm⟩) (w_5 hw) (ty := (.array .byte)) (by decide) rfl rfl d3_14 (pc' := 17) rfl ?_
    intro T16 h16 W16 Wr16
    have Fw16 := fx17.same Wr16
    have z16 : h14.size ≤ h16.size := Nat.le_of_eq Wr16.size.symm
    refine s_aloadN W16 d3_17 rfl rfl (pc' := 18) rfl ?_
    refine gLdcS W16 (w_18 hw) (wS hw) (List.mem_of_getElem? (i := 0) rfl) (vs := []) (z := (0 : Int32)) ⟨by decide +kernel, by decide +kernel⟩ (by decide) (by decide) d3_18 (pc' := 20) rfl (nn := 0) (by decide) (by decide) (by decide) (by decide) ?_
    intro T19 h19 s19 d19 k19 W19 E19 A19 C19 F19 V19 N19
    have z19 : h16.size ≤ h19.size := E19.1
    have lt_s19 := natlt A19.lt
    have lt_d19 := natlt V19.lt
    refine gGetF W19 (host := "") (Or.inl (w_25 hw)) Via.refl C19 d3_20 (pc' := 23) rfl ?_
    intro T20 W20
    have fx22 := (((Fc.ext E14).other Wr16 (Or.inr (slot_ne (Or.inr (w_21 hw)) (Or.inr (w_20 hw)) (by decide) (t := .byte) (t' := (.array .byte)) (by decide) (by decide)))).ext E19)
    have fx23 := ((fx18.wr Wr16).ext E19)
    refine gPutFN W20 n0_a (Or.inl (List.mem_of_getElem? (i := 0) rfl)) (w_25 hw) Via.refl fx22 fx23 (Or.inr ⟨(w_21 hw), rfl, hnm⟩) (w_5 hw) (ty := .byte) (v' := (.int (0 : Int32))) (by decide) (by decide) (by decide) d3_23 (pc' := 26) rfl ?_
    intro T21 h21 W21 Wr21
    have Fw21 := fx22.same Wr21
    have z21 : h19.size ≤ h21.size := Nat.le_of_eq Wr21.size.symm
    have fx24 := (fx23.wr Wr21)
    have fx25 := ((Fw16.ext E19).other Wr21 (Or.inr (slot_ne (Or.inr (w_20 hw)) (Or.inr (w_21 hw)) (by decide) (t := (.array .byte)) (t' := .byte) (by decide) (by decide))))
    have fx26 := (((V14.other Wr16 (Ne.symm (N14 _ (List.mem_of_getElem? (i := 0) rfl)).2)).ext E19).other Wr21 (Ne.symm (N14 _ (List.mem_of_getElem? (i := 0) rfl)).2))
    exact gRetV W21 hret d3_26 (by decide) (by decide) ⟨rfl, (((((Keep.refl h0 [a]).ext E14).wr Wr16 (Or.inl (by simp))).ext E19).wr Wr21 (Or.inl (by simp))), d14, _, ⟨fx24, fx25, Fw21, fx26⟩, fun q => (q rfl).elim⟩
def Q_str1 (Z : State) (n0 : Nat) (a b : Addr) (kb : ClassId) (z ccs : Int32) (cs : List Int32) (h0 : Heap) (v : Option Value) (h : Heap) : Prop := v = none ∧ Keep h0 h [a] ∧ ∃ d kd, Str Z h a d kd 0 z (cs.map fun c => Value.int c.toInt8.toInt32) ∧ (cs ≠ [] → h0.size ≤ d)
set_option maxRecDepth 65536 in
set_option maxHeartbeats 40000000 in
theorem ct_str1 {l : Launch} {Z : State} {a0 : Array Value} (hw : ∀ d ∈ tables_1, d.before a0 Z = true) (hEL : EW Z a0 EL0) {n0 : Nat} (cds : List Jvm.Cond) (a b : Addr) (kb : ClassId) (z ccs : Int32) (cs : List Int32) (h0 : Heap) (hz : z.toInt = cs.length) (hlen : cs.length ≤ 3) (hcs : ∀ c ∈ cs, 0 ≤ c.toInt ∧ c.toInt < 256) (Vb : Arv Z h0 b kb .char z (cs.map Value.int) (.int 0)) (Ea : Exa Z h0 a "java/lang/String") (Fv : Fld Z h0 a "java/lang/String" "value" "[B" .null) (Fc : Fld Z h0 a "java/lang/String" "coder" "B" (.int 0)) (n0_a : n0 ≤ a) (SCS : Sta Z Z.heap "java/lang/String" "COMPACT_STRINGS" "Z" (.int ccs)) (hccs : ¬ ccs = 0) :
    Ct l Z a0 EL0 n0 true true (⟨"java/lang/String", "<init>", "([C)V"⟩ : MethodName) jdk_42_method_3_code 2 (Option.none : Option Jvm.ClassFile.FieldType) cds ({ frames := 3, cells := 4, slots := 8, locals := 52 } : Room) [a] #[(.ref a), (.ref b)] h0 (Q_str1 Z n0 a b kb z ccs cs h0) := by
  refine Ct.of (plainFor_of_name pn_1) hEL ?_
  intro p e s m below meth c T0 W0 hret hnm hs0
  refine Go.cast (ef_RR_2 m a b) ?_
  show Go p e below _ T0 (mkF m 0 #[.val (.ref a), .val (.ref b)] [])
  refine s_aloadN W0 d2_0 rfl rfl (pc' := 1) rfl ?_
  refine s_aloadN W0 d2_1 rfl rfl (pc' := 2) rfl ?_
  refine s_iconst W0 d2_2 (v := (0 : Int32)) (by decide) (pc' := 3) rfl ?_
  refine s_aloadN W0 d2_3 rfl rfl (pc' := 4) rfl ?_
  refine gLen W0 Vb d2_4 (pc' := 5) rfl ?_
  refine s_aconst_null W0 d2_5 (pc' := 6) rfl ?_
  refine gSpecial W0 rfl (w_11 hw) (w_12 hw) (w_6 hw) (w_14 hw) (by decide) pd_3 (ct_str4 hw hEL [] a b kb z ccs cs h0 hz hlen hcs Vb Ea Fv Fc n0_a SCS hccs) (fun x hx => hx) d2_6 (pc' := 9) rfl rfl (argsL := [(.ref b), (.int (0 : Int32)), (.int z), .null]) rfl rfl (rest := []) rfl (wt := 0) (Nat.le_of_eq rfl) (by decide) (by decide) (by decide) (by decide) ?_
  rintro v1 T1 h1 W1 z1 ⟨rfl, K, S⟩
  show Go p e below _ T1 (mkF m 9 #[.val (.ref a), .val (.ref b)] [])
  exact gRetV W1 hret d2_9 (by decide) (by decide) ⟨rfl, K, S⟩
theorem fillW {Z : State} {a0 : Array Value} (hw : ∀ d ∈ tables_1, d.before a0 Z = true) : ∀ a ∈ fillAtoms "com/example/fjalar/fjalar/ApiException", a.before a0 Z = true := (allC (P := fun a => a.before a0 Z = true) (w_74 hw) (allC (P := fun a => a.before a0 Z = true) (w_71 hw) (allC (P := fun a => a.before a0 Z = true) (w_53 hw) (allC (P := fun a => a.before a0 Z = true) (w_73 hw) (allC (P := fun a => a.before a0 Z = true) (w_66 hw) (allC (P := fun a => a.before a0 Z = true) (w_72 hw) (allC (P := fun a => a.before a0 Z = true) (w_16 hw) (allC (P := fun a => a.before a0 Z = true) (w_17 hw) (allC (P := fun a => a.before a0 Z = true) (w_55 hw) (allC (P := fun a => a.before a0 Z = true) (w_64 hw) (allC (P := fun a => a.before a0 Z = true) (w_77 hw) (allC (P := fun a => a.before a0 Z = true) (w_56 hw) (allC (P := fun a => a.before a0 Z = true) (w_57 hw) (allC (P := fun a => a.before a0 Z = true) (w_59 hw) (allC (P := fun a => a.before a0 Z = true) (w_60 hw) (allC (P := fun a => a.before a0 Z = true) (w_62 hw) (allC (P := fun a => a.before a0 Z = true) (w_63 hw) (allC (P := fun a => a.before a0 Z = true) (w_58 hw) (allC (P := fun a => a.before a0 Z = true) (w_84 hw) (allC (P := fun a => a.before a0 Z = true) (w_61 hw) (allC (P := fun a => a.before a0 Z = true) (w_85 hw) (allC (P := fun a => a.before a0 Z = true) (w_87 hw) (allC (P := fun a => a.before a0 Z = true) (w_65 hw) (allC (P := fun a => a.before a0 Z = true) (w_86 hw) (allC (P := fun a => a.before a0 Z = true) (w_67 hw) (allC (P := fun a => a.before a0 Z = true) (w_82 hw) (allC (P := fun a => a.before a0 Z = true) (w_88 hw) (allC (P := fun a => a.before a0 Z = true) (w_89 hw) (allC (P := fun a => a.before a0 Z = true) (w_68 hw) (allC (P := fun a => a.before a0 Z = true) (w_69 hw) (allC (P := fun a => a.before a0 Z = true) (w_70 hw) allC0)))))))))))))))))))))))))))))))
def mcx (q : Int32) : Int32 := nar .char ((q &&& (255 : Int32)).toUInt32.toUInt16.toUInt32.toInt32)
theorem mcx_small : ∀ n : Fin 256, (nar .char (Int32.ofNat n.val).toUInt32.toUInt16.toUInt32.toInt32).toInt = n.val := by decide +kernel
theorem mcx_lat (q : Int32) : 0 ≤ (mcx q).toInt ∧ (mcx q).toInt < 256 := by
  obtain ⟨n, h1, h2⟩ := and_nat q (k := 255) (by decide)
  have e := mcx_small ⟨n, by omega⟩
  unfold mcx
  rw [show (255 : Int32) = Int32.ofNat 255 from rfl, h2, e]
  show (0 : Int) ≤ (n : Int) ∧ (n : Int) < 256
  omega
def Q_draw (Z : State) (n0 : Nat) (pa pb px pd ccs : Int32) (h0 : Heap) (v : Option Value) (h : Heap) : Prop := ∃ w, v = some w ∧ Keep h0 h [] ∧ (w = .null ∨ ∃ a, w = .ref a ∧ Exa Z h a "java/lang/String")
set_option maxRecDepth 65536 in
set_option maxHeartbeats 40000000 in
theorem ct_draw {l : Launch} {Z : State} {a0 : Array Value} (hw : ∀ d ∈ tables_1, d.before a0 Z = true) (hEL : EW Z a0 EL0) {n0 : Nat} (cds : List Jvm.Cond) (pa pb px pd ccs : Int32) (h0 : Heap) (SCS : Sta Z Z.heap "java/lang/String" "COMPACT_STRINGS" "Z" (.int ccs)) (hccs : ¬ ccs = 0) :
    Ct l Z a0 EL0 n0 true true (⟨"com/example/fjalar/fjalar/ApiExceptionInvalidInputPinLaw", "draw", "(IIII)Ljava/lang/String;"⟩ : MethodName) method_2_code 8 (Option.some (Jvm.ClassFile.FieldType.object "java/lang/String")) cds ({ frames := 4, cells := 6, slots := 15, locals := 66 } : Room) [] #[(.int pa), (.int pb), (.int px), (.int pd)] h0 (Q_draw Z n0 pa pb px pd ccs h0) := by
  refine Ct.of (plainFor_of_name pn_2) hEL ?_
  intro p e s m below meth c T0 W0 hret hnm hs0
  refine Go.cast (ef_IIII_8 m pa pb px pd) ?_
  show Go p e below _ T0 (mkF m 0 #[.val (.int pa), .val (.int pb), .val (.int px), .val (.int pd), .unset, .unset, .unset, .unset] [])
  refine s_iloadN W0 d1_0 rfl (pc' := 1) rfl ?_
  refine s_sipush W0 d1_1 (v := (255 : Int32)) (by decide) (pc' := 4) rfl ?_
  refine s_iand W0 d1_4 (pc' := 5) rfl ?_
  refine s_i2c W0 d1_5 (pc' := 6) rfl ?_
  refine s_istore W0 d1_6 (l' := #[.val (.int pa), .val (.int pb), .val (.int px), .val (.int pd), .val (.int (pb &&& (255 : Int32)).toUInt32.toUInt16.toUInt32.toInt32), .unset, .unset, .unset]) rfl (pc' := 8) rfl ?_
  refine s_iloadN W0 d1_8 rfl (pc' := 9) rfl ?_
  refine s_sipush W0 d1_9 (v := (255 : Int32)) (by decide) (pc' := 12) rfl ?_
  refine s_iand W0 d1_12 (pc' := 13) rfl ?_
  refine s_i2c W0 d1_13 (pc' := 14) rfl ?_
  refine s_istore W0 d1_14 (l' := #[.val (.int pa), .val (.int pb), .val (.int px), .val (.int pd), .val (.int (pb &&& (255 : Int32)).toUInt32.toUInt16.toUInt32.toInt32), .val (.int (px &&& (255 : Int32)).toUInt32.toUInt16.toUInt32.toInt32), .unset, .unset]) rfl (pc' := 16) rfl ?_
  refine s_iloadN W0 d1_16 rfl (pc' := 17) rfl ?_
  refine s_sipush W0 d1_17 (v := (255 : Int32)) (by decide) (pc' := 20) rfl ?_
  refine s_iand W0 d1_20 (pc' := 21) rfl ?_
  refine s_i2c W0 d1_21 (pc' := 22) rfl ?_
  refine s_istore W0 d1_22 (l' := #[.val (.int pa), .val (.int pb), .val (.int px), .val (.int pd), .val (.int (pb &&& (255 : Int32)).toUInt32.toUInt16.toUInt32.toInt32), .val (.int (px &&& (255 : Int32)).toUInt32.toUInt16.toUInt32.toInt32), .val (.int (pd &&& (255 : Int32)).toUInt32.toUInt16.toUInt32.toInt32), .unset]) rfl (pc' := 24) rfl ?_
  refine s_iloadN W0 d1_24 rfl (pc' := 25) rfl ?_
  refine s_iconst W0 d1_25 (v := (2 : Int32)) (by decide) (pc' := 26) rfl ?_
  refine s_ishr W0 d1_26 (pc' := 27) rfl ?_
  refine s_iconst W0 d1_27 (v := (1 : Int32)) (by decide) (pc' := 28) rfl ?_
  refine s_iand W0 d1_28 (pc' := 29) rfl ?_
  refine s_ifeq W0 d1_29 (by decide) (pc1 := 34) (by decide) (pc2 := 32) rfl ?_ ?_
  · intro q29
    refine s_iloadN W0 d1_34 rfl (pc' := 35) rfl ?_
    refine s_iconst W0 d1_35 (v := (3 : Int32)) (by decide) (pc' := 36) rfl ?_
    refine s_iand W0 d1_36 (pc' := 37) rfl ?_
    refine s_istore W0 d1_37 (l' := #[.val (.int pa), .val (.int pb), .val (.int px), .val (.int pd), .val (.int (pb &&& (255 : Int32)).toUInt32.toUInt16.toUInt32.toInt32), .val (.int (px &&& (255 : Int32)).toUInt32.toUInt16.toUInt32.toInt32), .val (.int (pd &&& (255 : Int32)).toUInt32.toUInt16.toUInt32.toInt32), .val (.int (pa &&& (3 : Int32)))]) rfl (pc' := 39) rfl ?_
    refine s_iload W0 d1_39 rfl (pc' := 41) rfl ?_
    refine s_ifne W0 d1_41 (by decide) (pc1 := 55) (by decide) (pc2 := 44) rfl ?_ ?_
    · intro q41
      refine s_iload W0 d1_55 rfl (pc' := 57) rfl ?_
      refine s_iconst W0 d1_57 (v := (1 : Int32)) (by decide) (pc' := 58) rfl ?_
      refine s_icmpne W0 d1_58 (by decide) (pc1 := 77) (by decide) (pc2 := 61) rfl ?_ ?_
      · intro q58
        refine s_iload W0 d1_77 rfl (pc' := 79) rfl ?_
        refine s_iconst W0 d1_79 (v := (2 : Int32)) (by decide) (pc' := 80) rfl ?_
        refine s_icmpne W0 d1_80 (by decide) (pc1 := 104) (by decide) (pc2 := 83) rfl ?_ ?_
        · intro q80
          refine gNew W0 (w_4 hw) (w_5 hw) (w_6 hw) d1_104 (pc' := 107) rfl (by decide) (by decide) ?_
          intro T1 h1 b1 g1 W1 E1 ⟨A1, D1, U1⟩
          have z1 : h0.size ≤ h1.size := E1.1
          have lt_b1 := natlt A1.lt
          have gg1 := nateq g1
          have n0_b1 : n0 ≤ b1 := by have := W0.n0le; omega
          have F1_value : Fld Z h1 b1 "java/lang/String" "value" "[B" .null := D1 (Or.inr (w_20 hw)) (ty := (.array .byte)) (by decide)
          have F1_coder : Fld Z h1 b1 "java/lang/String" "coder" "B" (.int (0 : Int32)) := D1 (Or.inr (w_21 hw)) (ty := .byte) (by decide)
          refine s_dup W1 d1_107 rfl (pc' := 108) rfl ?_
          refine s_iconst W1 d1_108 (v := (3 : Int32)) (by decide) (pc' := 109) rfl ?_
          refine gNewP (aty := .char) W1 (w_7 hw) (ad := "[C") (by decide +kernel) d1_109 (pc' := 111) rfl (by decide) (cap := 3) (by decide) (by decide) (by decide) (by decide) ?_
          intro T2 h2 b2 g2 W2 E2 ⟨k2, V2, A2⟩
          have z2 : h1.size ≤ h2.size := E2.1
          have lt_b2 := natlt A2.lt
          have gg2 := nateq g2
          have n0_b2 : n0 ≤ b2 := by have := W1.n0le; omega
          have Vp2 : Arv Z h2 b2 k2 .char (3 : Int32) [(.int (0 : Int32)), (.int (0 : Int32)), (.int (0 : Int32))] (.int (0 : Int32)) := Arv.pad V2 (pad_rep [] (.int (0 : Int32)) 3)
          refine s_dup W2 d1_111 rfl (pc' := 112) rfl ?_
          refine s_iconst W2 d1_112 (v := (0 : Int32)) (by decide) (pc' := 113) rfl ?_
          refine s_iload W2 d1_113 rfl (pc' := 115) rfl ?_
          refine gStC W2 n0_b2 Vp2 ⟨by decide, by decide⟩ (i := 0) (by decide) (show 0 < 3 by decide) d1_115 (pc' := 116) rfl ?_
          intro T3 h3 W3 K3 V3
          replace V3 : Arv Z h3 b2 k2 .char (3 : Int32) [(.int (nar .char (pb &&& (255 : Int32)).toUInt32.toUInt16.toUInt32.toInt32)), (.int (0 : Int32)), (.int (0 : Int32))] (.int (0 : Int32)) := V3
          have z3 : h2.size ≤ h3.size := K3.1
          refine s_dup W3 d1_116 rfl (pc' := 117) rfl ?_
          refine s_iconst W3 d1_117 (v := (1 : Int32)) (by decide) (pc' := 118) rfl ?_
          refine s_iload W3 d1_118 rfl (pc' := 120) rfl ?_
          refine gStC W3 n0_b2 V3 ⟨by decide, by decide⟩ (i := 1) (by decide) (show 1 < 3 by decide) d1_120 (pc' := 121) rfl ?_
          intro T4 h4 W4 K4 V4
          replace V4 : Arv Z h4 b2 k2 .char (3 : Int32) [(.int (nar .char (pb &&& (255 : Int32)).toUInt32.toUInt16.toUInt32.toInt32)), (.int (nar .char (px &&& (255 : Int32)).toUInt32.toUInt16.toUInt32.toInt32)), (.int (0 : Int32))] (.int (0 : Int32)) := V4
          have z4 : h3.size ≤ h4.size := K4.1
          refine s_dup W4 d1_121 rfl (pc' := 122) rfl ?_
          refine s_iconst W4 d1_122 (v := (2 : Int32)) (by decide) (pc' := 123) rfl ?_
          refine s_iload W4 d1_123 rfl (pc' := 125) rfl ?_
          refine gStC W4 n0_b2 V4 ⟨by decide, by decide⟩ (i := 2) (by decide) (show 2 < 3 by decide) d1_125 (pc' := 126) rfl ?_
          intro T5 h5 W5 K5 V5
          replace V5 : Arv Z h5 b2 k2 .char (3 : Int32) [(.int (nar .char (pb &&& (255 : Int32)).toUInt32.toUInt16.toUInt32.toInt32)), (.int (nar .char (px &&& (255 : Int32)).toUInt32.toUInt16.toUInt32.toInt32)), (.int (nar .char (pd &&& (255 : Int32)).toUInt32.toUInt16.toUInt32.toInt32))] (.int (0 : Int32)) := V5
          have z5 : h4.size ≤ h5.size := K5.1
          have fx6 := ((((A1.ext E2).keep K3).keep K4).keep K5)
          have fx7 := ((((F1_value.ext E2).keep K3 (ninS (ane (by omega)) nin0)).keep K4 (ninS (ane (by omega)) nin0)).keep K5 (ninS (ane (by omega)) nin0))
          have fx8 := ((((F1_coder.ext E2).keep K3 (ninS (ane (by omega)) nin0)).keep K4 (ninS (ane (by omega)) nin0)).keep K5 (ninS (ane (by omega)) nin0))
          refine gSpecial W5 rfl (w_8 hw) (w_9 hw) (w_6 hw) (w_10 hw) (by decide) pd_4 (ct_str1 hw hEL [] b1 b2 k2 (3 : Int32) ccs [mcx pb, mcx px, mcx pd] h5 (show (3 : Int32).toInt = ((3 : Nat) : Int) by decide) (show 3 ≤ 3 by decide) (by intro c hc; simp only [List.mem_cons, List.not_mem_nil, or_false] at hc; rcases hc with rfl | rfl | rfl <;> exact mcx_lat _) V5 fx6 fx7 fx8 n0_b1 SCS hccs) (fun x hx => by rcases List.mem_singleton.mp hx with rfl; exact List.mem_of_getElem? (i := 1) rfl) d1_126 (pc' := 129) rfl rfl (argsL := [(.ref b2)]) rfl rfl (rest := [(.ref b1)]) rfl (wt := 1) (Nat.le_of_eq rfl) (by decide) (by decide) (by decide) (by decide) ?_
          rintro v9 T9 h9 W9 z9 ⟨rfl, Ks, ds, ks, Ss, gs⟩
          show Go p e below _ T9 (mkF m 129 #[.val (.int pa), .val (.int pb), .val (.int px), .val (.int pd), .val (.int (pb &&& (255 : Int32)).toUInt32.toUInt16.toUInt32.toInt32), .val (.int (px &&& (255 : Int32)).toUInt32.toUInt16.toUInt32.toInt32), .val (.int (pd &&& (255 : Int32)).toUInt32.toUInt16.toUInt32.toInt32), .val (.int (pa &&& (3 : Int32)))] [(.ref b1)])
          have lt_ds := natlt Ss.2.2.2.lt
          exact gRetA W9 hret rfl rfl d1_129 (by decide) (by decide) ⟨_, rfl, (((((((Keep.refl h0 []).ext E1).ext E2).trans K3 (allS (Or.inr (natle (by omega))) all0)).trans K4 (allS (Or.inr (natle (by omega))) all0)).trans K5 (allS (Or.inr (natle (by omega))) all0)).trans Ks (allS (Or.inr (natle (by omega))) all0)), Or.inr ⟨_, rfl, Ss.1⟩⟩
        · intro q80
          refine gNew W0 (w_4 hw) (w_5 hw) (w_6 hw) d1_83 (pc' := 86) rfl (by decide) (by decide) ?_
          intro T10 h10 b10 g10 W10 E10 ⟨A10, D10, U10⟩
          have z10 : h0.size ≤ h10.size := E10.1
          have lt_b10 := natlt A10.lt
          have gg10 := nateq g10
          have n0_b10 : n0 ≤ b10 := by have := W0.n0le; omega
          have F10_value : Fld Z h10 b10 "java/lang/String" "value" "[B" .null := D10 (Or.inr (w_20 hw)) (ty := (.array .byte)) (by decide)
          have F10_coder : Fld Z h10 b10 "java/lang/String" "coder" "B" (.int (0 : Int32)) := D10 (Or.inr (w_21 hw)) (ty := .byte) (by decide)
          refine s_dup W10 d1_86 rfl (pc' := 87) rfl ?_
          refine s_iconst W10 d1_87 (v := (2 : Int32)) (by decide) (pc' := 88) rfl ?_
          refine gNewP (aty := .char) W10 (w_7 hw) (ad := "[C") (by decide +kernel) d1_88 (pc' := 90) rfl (by decide) (cap := 2) (by decide) (by decide) (by decide) (by decide) ?_
          intro T11 h11 b11 g11 W11 E11 ⟨k11, V11, A11⟩
          have z11 : h10.size ≤ h11.size := E11.1
          have lt_b11 := natlt A11.lt
          have gg11 := nateq g11
          have n0_b11 : n0 ≤ b11 := by have := W10.n0le; omega
          have Vp11 : Arv Z h11 b11 k11 .char (2 : Int32) [(.int (0 : Int32)), (.int (0 : Int32))] (.int (0 : Int32)) := Arv.pad V11 (pad_rep [] (.int (0 : Int32)) 2)
          refine s_dup W11 d1_90 rfl (pc' := 91) rfl ?_
          refine s_iconst W11 d1_91 (v := (0 : Int32)) (by decide) (pc' := 92) rfl ?_
          refine s_iload W11 d1_92 rfl (pc' := 94) rfl ?_
          refine gStC W11 n0_b11 Vp11 ⟨by decide, by decide⟩ (i := 0) (by decide) (show 0 < 2 by decide) d1_94 (pc' := 95) rfl ?_
          intro T12 h12 W12 K12 V12
          replace V12 : Arv Z h12 b11 k11 .char (2 : Int32) [(.int (nar .char (pb &&& (255 : Int32)).toUInt32.toUInt16.toUInt32.toInt32)), (.int (0 : Int32))] (.int (0 : Int32)) := V12
          have z12 : h11.size ≤ h12.size := K12.1
          refine s_dup W12 d1_95 rfl (pc' := 96) rfl ?_
          refine s_iconst W12 d1_96 (v := (1 : Int32)) (by decide) (pc' := 97) rfl ?_
          refine s_iload W12 d1_97 rfl (pc' := 99) rfl ?_
          refine gStC W12 n0_b11 V12 ⟨by decide, by decide⟩ (i := 1) (by decide) (show 1 < 2 by decide) d1_99 (pc' := 100) rfl ?_
          intro T13 h13 W13 K13 V13
          replace V13 : Arv Z h13 b11 k11 .char (2 : Int32) [(.int (nar .char (pb &&& (255 : Int32)).toUInt32.toUInt16.toUInt32.toInt32)), (.int (nar .char (px &&& (255 : Int32)).toUInt32.toUInt16.toUInt32.toInt32))] (.int (0 : Int32)) := V13
          have z13 : h12.size ≤ h13.size := K13.1
          have fx14 := (((A10.ext E11).keep K12).keep K13)
          have fx15 := (((F10_value.ext E11).keep K12 (ninS (ane (by omega)) nin0)).keep K13 (ninS (ane (by omega)) nin0))
          have fx16 := (((F10_coder.ext E11).keep K12 (ninS (ane (by omega)) nin0)).keep K13 (ninS (ane (by omega)) nin0))
          refine gSpecial W13 rfl (w_8 hw) (w_9 hw) (w_6 hw) (w_10 hw) (by decide) pd_4 (ct_str1 hw hEL [] b10 b11 k11 (2 : Int32) ccs [mcx pb, mcx px] h13 (show (2 : Int32).toInt = ((2 : Nat) : Int) by decide) (show 2 ≤ 3 by decide) (by intro c hc; simp only [List.mem_cons, List.not_mem_nil, or_false] at hc; rcases hc with rfl | rfl <;> exact mcx_lat _) V13 fx14 fx15 fx16 n0_b10 SCS hccs) (fun x hx => by rcases List.mem_singleton.mp hx with rfl; exact List.mem_of_getElem? (i := 1) rfl) d1_100 (pc' := 103) rfl rfl (argsL := [(.ref b11)]) rfl rfl (rest := [(.ref b10)]) rfl (wt := 1) (Nat.le_of_eq rfl) (by decide) (by decide) (by decide) (by decide) ?_
          rintro v17 T17 h17 W17 z17 ⟨rfl, Ks, ds, ks, Ss, gs⟩
          show Go p e below _ T17 (mkF m 103 #[.val (.int pa), .val (.int pb), .val (.int px), .val (.int pd), .val (.int (pb &&& (255 : Int32)).toUInt32.toUInt16.toUInt32.toInt32), .val (.int (px &&& (255 : Int32)).toUInt32.toUInt16.toUInt32.toInt32), .val (.int (pd &&& (255 : Int32)).toUInt32.toUInt16.toUInt32.toInt32), .val (.int (pa &&& (3 : Int32)))] [(.ref b10)])
          have lt_ds := natlt Ss.2.2.2.lt
          exact gRetA W17 hret rfl rfl d1_103 (by decide) (by decide) ⟨_, rfl, ((((((Keep.refl h0 []).ext E10).ext E11).trans K12 (allS (Or.inr (natle (by omega))) all0)).trans K13 (allS (Or.inr (natle (by omega))) all0)).trans Ks (allS (Or.inr (natle (by omega))) all0)), Or.inr ⟨_, rfl, Ss.1⟩⟩
      · intro q58
        refine gNew W0 (w_4 hw) (w_5 hw) (w_6 hw) d1_61 (pc' := 64) rfl (by decide) (by decide) ?_
        intro T18 h18 b18 g18 W18 E18 ⟨A18, D18, U18⟩
        have z18 : h0.size ≤ h18.size := E18.1
        have lt_b18 := natlt A18.lt
        have gg18 := nateq g18
        have n0_b18 : n0 ≤ b18 := by have := W0.n0le; omega
        have F18_value : Fld Z h18 b18 "java/lang/String" "value" "[B" .null := D18 (Or.inr (w_20 hw)) (ty := (.array .byte)) (by decide)
        have F18_coder : Fld Z h18 b18 "java/lang/String" "coder" "B" (.int (0 : Int32)) := D18 (Or.inr (w_21 hw)) (ty := .byte) (by decide)
        refine s_dup W18 d1_64 rfl (pc' := 65) rfl ?_
        refine s_iconst W18 d1_65 (v := (1 : Int32)) (by decide) (pc' := 66) rfl ?_
        refine gNewP (aty := .char) W18 (w_7 hw) (ad := "[C") (by decide +kernel) d1_66 (pc' := 68) rfl (by decide) (cap := 1) (by decide) (by decide) (by decide) (by decide) ?_
        intro T19 h19 b19 g19 W19 E19 ⟨k19, V19, A19⟩
        have z19 : h18.size ≤ h19.size := E19.1
        have lt_b19 := natlt A19.lt
        have gg19 := nateq g19
        have n0_b19 : n0 ≤ b19 := by have := W18.n0le; omega
        have Vp19 : Arv Z h19 b19 k19 .char (1 : Int32) [(.int (0 : Int32))] (.int (0 : Int32)) := Arv.pad V19 (pad_rep [] (.int (0 : Int32)) 1)
        refine s_dup W19 d1_68 rfl (pc' := 69) rfl ?_
        refine s_iconst W19 d1_69 (v := (0 : Int32)) (by decide) (pc' := 70) rfl ?_
        refine s_iload W19 d1_70 rfl (pc' := 72) rfl ?_
        refine gStC W19 n0_b19 Vp19 ⟨by decide, by decide⟩ (i := 0) (by decide) (show 0 < 1 by decide) d1_72 (pc' := 73) rfl ?_
        intro T20 h20 W20 K20 V20
        replace V20 : Arv Z h20 b19 k19 .char (1 : Int32) [(.int (nar .char (pb &&& (255 : Int32)).toUInt32.toUInt16.toUInt32.toInt32))] (.int (0 : Int32)) := V20
        have z20 : h19.size ≤ h20.size := K20.1
        have fx21 := ((A18.ext E19).keep K20)
        have fx22 := ((F18_value.ext E19).keep K20 (ninS (ane (by omega)) nin0))
        have fx23 := ((F18_coder.ext E19).keep K20 (ninS (ane (by omega)) nin0))
        refine gSpecial W20 rfl (w_8 hw) (w_9 hw) (w_6 hw) (w_10 hw) (by decide) pd_4 (ct_str1 hw hEL [] b18 b19 k19 (1 : Int32) ccs [mcx pb] h20 (show (1 : Int32).toInt = ((1 : Nat) : Int) by decide) (show 1 ≤ 3 by decide) (by intro c hc; simp only [List.mem_cons, List.not_mem_nil, or_false] at hc; rcases hc with rfl <;> exact mcx_lat _) V20 fx21 fx22 fx23 n0_b18 SCS hccs) (fun x hx => by rcases List.mem_singleton.mp hx with rfl; exact List.mem_of_getElem? (i := 1) rfl) d1_73 (pc' := 76) rfl rfl (argsL := [(.ref b19)]) rfl rfl (rest := [(.ref b18)]) rfl (wt := 1) (Nat.le_of_eq rfl) (by decide) (by decide) (by decide) (by decide) ?_
        rintro v24 T24 h24 W24 z24 ⟨rfl, Ks, ds, ks, Ss, gs⟩
        show Go p e below _ T24 (mkF m 76 #[.val (.int pa), .val (.int pb), .val (.int px), .val (.int pd), .val (.int (pb &&& (255 : Int32)).toUInt32.toUInt16.toUInt32.toInt32), .val (.int (px &&& (255 : Int32)).toUInt32.toUInt16.toUInt32.toInt32), .val (.int (pd &&& (255 : Int32)).toUInt32.toUInt16.toUInt32.toInt32), .val (.int (pa &&& (3 : Int32)))] [(.ref b18)])
        have lt_ds := natlt Ss.2.2.2.lt
        exact gRetA W24 hret rfl rfl d1_76 (by decide) (by decide) ⟨_, rfl, (((((Keep.refl h0 []).ext E18).ext E19).trans K20 (allS (Or.inr (natle (by omega))) all0)).trans Ks (allS (Or.inr (natle (by omega))) all0)), Or.inr ⟨_, rfl, Ss.1⟩⟩
    · intro q41
      refine gNew W0 (w_4 hw) (w_5 hw) (w_6 hw) d1_44 (pc' := 47) rfl (by decide) (by decide) ?_
      intro T25 h25 b25 g25 W25 E25 ⟨A25, D25, U25⟩
      have z25 : h0.size ≤ h25.size := E25.1
      have lt_b25 := natlt A25.lt
      have gg25 := nateq g25
      have n0_b25 : n0 ≤ b25 := by have := W0.n0le; omega
      have F25_value : Fld Z h25 b25 "java/lang/String" "value" "[B" .null := D25 (Or.inr (w_20 hw)) (ty := (.array .byte)) (by decide)
      have F25_coder : Fld Z h25 b25 "java/lang/String" "coder" "B" (.int (0 : Int32)) := D25 (Or.inr (w_21 hw)) (ty := .byte) (by decide)
      refine s_dup W25 d1_47 rfl (pc' := 48) rfl ?_
      refine s_iconst W25 d1_48 (v := (0 : Int32)) (by decide) (pc' := 49) rfl ?_
      refine gNewP (aty := .char) W25 (w_7 hw) (ad := "[C") (by decide +kernel) d1_49 (pc' := 51) rfl (by decide) (cap := 0) (by decide) (by decide) (by decide) (by decide) ?_
      intro T26 h26 b26 g26 W26 E26 ⟨k26, V26, A26⟩
      have z26 : h25.size ≤ h26.size := E26.1
      have lt_b26 := natlt A26.lt
      have gg26 := nateq g26
      have n0_b26 : n0 ≤ b26 := by have := W25.n0le; omega
      have Vp26 : Arv Z h26 b26 k26 .char (0 : Int32) [] (.int (0 : Int32)) := V26
      have fx27 := (A25.ext E26)
      have fx28 := (F25_value.ext E26)
      have fx29 := (F25_coder.ext E26)
      refine gSpecial W26 rfl (w_8 hw) (w_9 hw) (w_6 hw) (w_10 hw) (by decide) pd_4 (ct_str1 hw hEL [] b25 b26 k26 (0 : Int32) ccs [] h26 (show (0 : Int32).toInt = ((0 : Nat) : Int) by decide) (show 0 ≤ 3 by decide) (by intro c hc; cases hc) Vp26 fx27 fx28 fx29 n0_b25 SCS hccs) (fun x hx => by rcases List.mem_singleton.mp hx with rfl; exact List.mem_of_getElem? (i := 1) rfl) d1_51 (pc' := 54) rfl rfl (argsL := [(.ref b26)]) rfl rfl (rest := [(.ref b25)]) rfl (wt := 1) (Nat.le_of_eq rfl) (by decide) (by decide) (by decide) (by decide) ?_
      rintro v30 T30 h30 W30 z30 ⟨rfl, Ks, ds, ks, Ss, gs⟩
      show Go p e below _ T30 (mkF m 54 #[.val (.int pa), .val (.int pb), .val (.int px), .val (.int pd), .val (.int (pb &&& (255 : Int32)).toUInt32.toUInt16.toUInt32.toInt32), .val (.int (px &&& (255 : Int32)).toUInt32.toUInt16.toUInt32.toInt32), .val (.int (pd &&& (255 : Int32)).toUInt32.toUInt16.toUInt32.toInt32), .val (.int (pa &&& (3 : Int32)))] [(.ref b25)])
      have lt_ds := natlt Ss.2.2.2.lt
      exact gRetA W30 hret rfl rfl d1_54 (by decide) (by decide) ⟨_, rfl, ((((Keep.refl h0 []).ext E25).ext E26).trans Ks (allS (Or.inr (natle (by omega))) all0)), Or.inr ⟨_, rfl, Ss.1⟩⟩
  · intro q29
    refine s_aconst_null W0 d1_32 (pc' := 33) rfl ?_
    exact gRetA W0 hret rfl rfl d1_33 (by decide) (by decide) ⟨_, rfl, (Keep.refl h0 []), Or.inl rfl⟩
def Q_tinit (Z : State) (n0 : Nat) (a xu : Addr) (mg vse : Value) (h0 : Heap) (v : Option Value) (h : Heap) : Prop := v = none ∧ Keep h0 h [a] ∧ Exa Z h a "com/example/fjalar/fjalar/ApiException" ∧ Fld Z h a "java/lang/Throwable" "detailMessage" "Ljava/lang/String;" mg ∧ Fld Z h a "com/example/fjalar/fjalar/ApiException" "code" "Lcom/example/fjalar/fjalar/ApiException$Code;" .null
set_option maxRecDepth 65536 in
set_option maxHeartbeats 40000000 in
theorem ct_tinit {l : Launch} {Z : State} {a0 : Array Value} (hw : ∀ d ∈ tables_1, d.before a0 Z = true) (hEL : EW Z a0 EL0) {n0 : Nat} (cds : List Jvm.Cond) (a xu : Addr) (mg vse : Value) (h0 : Heap) (rmg : mg.isRef = true) (Ea : Exa Z h0 a "com/example/fjalar/fjalar/ApiException") (Ua : Unt h0 a) (Fcau : Fld Z h0 a "java/lang/Throwable" "cause" "Ljava/lang/Throwable;" .null) (Fsta : Fld Z h0 a "java/lang/Throwable" "stackTrace" "[Ljava/lang/StackTraceElement;" .null) (Fsup : Fld Z h0 a "java/lang/Throwable" "suppressedExceptions" "Ljava/util/List;" .null) (Fdet : Fld Z h0 a "java/lang/Throwable" "detailMessage" "Ljava/lang/String;" .null) (Fbac : Fld Z h0 a "java/lang/Throwable" "backtrace" "Ljava/lang/Object;" .null) (Fcod : Fld Z h0 a "com/example/fjalar/fjalar/ApiException" "code" "Lcom/example/fjalar/fjalar/ApiException$Code;" .null) (n0_a : n0 ≤ a) (SUS : Sta Z Z.heap "java/lang/Throwable" "UNASSIGNED_STACK" "[Ljava/lang/StackTraceElement;" (.ref xu)) (SSE : Sta Z Z.heap "java/lang/Throwable" "SUPPRESSED_SENTINEL" "Ljava/util/List;" vse) (rse : vse.isRef = true) (hlt : l.stackTraces = true) :
    Ct l Z a0 EL0 n0 true true (⟨"java/lang/Throwable", "<init>", "(Ljava/lang/String;)V"⟩ : MethodName) jdk_78_method_2_code 2 (Option.none : Option Jvm.ClassFile.FieldType) cds ({ frames := 3, cells := 1, slots := 2752, locals := 42 } : Room) [] #[(.ref a), mg] h0 (Q_tinit Z n0 a xu mg vse h0) := by
  refine Ct.of (plainFor_of_name pn_3) hEL ?_
  intro p e s m below meth c T0 W0 hret hnm hs0
  refine Go.cast (ef_RO_2 m a mg rmg) ?_
  show Go p e below _ T0 (mkF m 0 #[.val (.ref a), .val mg] [])
  have lt_a := natlt Ea.lt
  refine s_aloadN W0 d9_0 rfl rfl (pc' := 1) rfl ?_
  refine gInitO W0 (w_55 hw) (w_16 hw) (w_17 hw) d9_1 (pc' := 4) rfl rfl (by decide) (wt := 0) (Nat.le_of_eq rfl) (by decide) ?_
  intro T1 W1
  refine s_aloadN W1 d9_4 rfl rfl (pc' := 5) rfl ?_
  refine s_aloadN W1 d9_5 rfl rfl (pc' := 6) rfl ?_
  refine gPutF W1 n0_a (Or.inr (Or.inr (Or.inl ⟨_, Ea, by decide, by decide⟩))) (host := "") (Or.inl (w_56 hw)) Via.refl Fcau Ea (Or.inl (w_57 hw)) (w_31 hw) (ty := (.object "java/lang/Throwable")) (by decide) rfl rfl d9_6 (pc' := 9) rfl ?_
  intro T2 h2 W2 Wr2
  have Fw2 := Fcau.same Wr2
  have z2 : h0.size ≤ h2.size := Nat.le_of_eq Wr2.size.symm
  refine s_aloadN W2 d9_9 rfl rfl (pc' := 10) rfl ?_
  refine gGetS W2 (host := "") (Or.inl (w_58 hw)) Via.refl (SUS.ext W2.old.2) d9_10 (pc' := 13) rfl ?_
  intro T3 W3
  have fx5 := (Fsta.other Wr2 (Or.inr (slot_ne (Or.inl (w_60 hw)) (Or.inl (w_57 hw)) (by decide) (t := (.array (.object "java/lang/StackTraceElement"))) (t' := (.object "java/lang/Throwable")) (by decide) (by decide))))
  have fx6 := (Ea.wr Wr2)
  refine gPutF W3 n0_a (Or.inr (Or.inr (Or.inl ⟨_, fx6, by decide, by decide⟩))) (host := "") (Or.inl (w_59 hw)) Via.refl fx5 fx6 (Or.inl (w_60 hw)) (w_31 hw) (ty := (.array (.object "java/lang/StackTraceElement"))) (by decide) rfl rfl d9_13 (pc' := 16) rfl ?_
  intro T4 h4 W4 Wr4
  have Fw4 := fx5.same Wr4
  have z4 : h2.size ≤ h4.size := Nat.le_of_eq Wr4.size.symm
  refine s_aloadN W4 d9_16 rfl rfl (pc' := 17) rfl ?_
  refine gGetS W4 (host := "") (Or.inl (w_61 hw)) Via.refl (SSE.ext W4.old.2) d9_17 (pc' := 20) rfl ?_
  intro T7 W7
  have fx9 := ((Fsup.other Wr2 (Or.inr (slot_ne (Or.inl (w_63 hw)) (Or.inl (w_57 hw)) (by decide) (t := (.object "java/util/List")) (t' := (.object "java/lang/Throwable")) (by decide) (by decide)))).other Wr4 (Or.inr (slot_ne (Or.inl (w_63 hw)) (Or.inl (w_60 hw)) (by decide) (t := (.object "java/util/List")) (t' := (.array (.object "java/lang/StackTraceElement"))) (by decide) (by decide))))
  have fx10 := (fx6.wr Wr4)
  refine gPutF W7 n0_a (Or.inr (Or.inr (Or.inl ⟨_, fx10, by decide, by decide⟩))) (host := "") (Or.inl (w_62 hw)) Via.refl fx9 fx10 (Or.inl (w_63 hw)) (w_31 hw) (ty := (.object "java/util/List")) (by decide) (narrow_ref rse) (fits_ref' rfl rse) d9_20 (pc' := 23) rfl ?_
  intro T8 h8 W8 Wr8
  have Fw8 := fx9.same Wr8
  have z8 : h4.size ≤ h8.size := Nat.le_of_eq Wr8.size.symm
  refine s_aloadN W8 d9_23 rfl rfl (pc' := 24) rfl ?_
  have fx12 := (((Fdet.other Wr2 (Or.inr (slot_ne (Or.inl (w_87 hw)) (Or.inl (w_57 hw)) (by decide) (t := (.object "java/lang/String")) (t' := (.object "java/lang/Throwable")) (by decide) (by decide)))).other Wr4 (Or.inr (slot_ne (Or.inl (w_87 hw)) (Or.inl (w_60 hw)) (by decide) (t := (.object "java/lang/String")) (t' := (.array (.object "java/lang/StackTraceElement"))) (by decide) (by decide)))).other Wr8 (Or.inr (slot_ne (Or.inl (w_87 hw)) (Or.inl (w_63 hw)) (by decide) (t := (.object "java/lang/String")) (t' := (.object "java/util/List")) (by decide) (by decide))))
  have fx13 := (((Fcod.other Wr2 (Or.inr (slot_ne (Or.inr (w_93 hw)) (Or.inl (w_57 hw)) (by decide) (t := (.object "com/example/fjalar/fjalar/ApiException$Code")) (t' := (.object "java/lang/Throwable")) (by decide) (by decide)))).other Wr4 (Or.inr (slot_ne (Or.inr (w_93 hw)) (Or.inl (w_60 hw)) (by decide) (t := (.object "com/example/fjalar/fjalar/ApiException$Code")) (t' := (.array (.object "java/lang/StackTraceElement"))) (by decide) (by decide)))).other Wr8 (Or.inr (slot_ne (Or.inr (w_93 hw)) (Or.inl (w_63 hw)) (by decide) (t := (.object "com/example/fjalar/fjalar/ApiException$Code")) (t' := (.object "java/util/List")) (by decide) (by decide))))
  have fx14 := (fx10.wr Wr8)
  have fx15 := (Unt.wr' (Unt.wr' (Unt.wr' Ua Wr2) Wr4) Wr8)
  have fx16 := (((Fbac.other Wr2 (Or.inr (slot_ne (Or.inl (w_88 hw)) (Or.inl (w_57 hw)) (by decide) (t := (.object "java/lang/Object")) (t' := (.object "java/lang/Throwable")) (by decide) (by decide)))).other Wr4 (Or.inr (slot_ne (Or.inl (w_88 hw)) (Or.inl (w_60 hw)) (by decide) (t := (.object "java/lang/Object")) (t' := (.array (.object "java/lang/StackTraceElement"))) (by decide) (by decide)))).other Wr8 (Or.inr (slot_ne (Or.inl (w_88 hw)) (Or.inl (w_63 hw)) (by decide) (t := (.object "java/lang/Object")) (t' := (.object "java/util/List")) (by decide) (by decide))))
  have fx17 := (Fw4.other Wr8 (Or.inr (slot_ne (Or.inl (w_60 hw)) (Or.inl (w_63 hw)) (by decide) (t := (.array (.object "java/lang/StackTraceElement"))) (t' := (.object "java/util/List")) (by decide) (by decide))))
  refine gFill W8 hlt (by rw [hs0]; exact ths_of_old W0.old) (fillW hw) (w_31 hw) fx14 ⟨by decide, by decide⟩ fx15 fx16 fx17 SUS n0_a d9_24 (pc' := 27) rfl rfl (by decide) (wt := 0) (Nat.le_of_eq rfl) (by decide) (by decide) (by decide) ?_
  intro T11 h11 W11 K11 FK11
  have z11 : h8.size ≤ h11.size := K11.1
  have FXdet := FK11 _ _ _ _ fx12 (slot_ne (Or.inl (w_87 hw)) (Or.inl (w_88 hw)) (by decide) (t := (.object "java/lang/String")) (t' := (.object "java/lang/Object")) (by decide) (by decide)) (slot_ne (Or.inl (w_87 hw)) (Or.inl (w_89 hw)) (by decide) (t := (.object "java/lang/String")) (t' := .int) (by decide) (by decide)) (slot_ne (Or.inl (w_87 hw)) (Or.inl (w_60 hw)) (by decide) (t := (.object "java/lang/String")) (t' := (.array (.object "java/lang/StackTraceElement"))) (by decide) (by decide))
  have FXcod := FK11 _ _ _ _ fx13 (slot_ne (Or.inr (w_93 hw)) (Or.inl (w_88 hw)) (by decide) (t := (.object "com/example/fjalar/fjalar/ApiException$Code")) (t' := (.object "java/lang/Object")) (by decide) (by decide)) (slot_ne (Or.inr (w_93 hw)) (Or.inl (w_89 hw)) (by decide) (t := (.object "com/example/fjalar/fjalar/ApiException$Code")) (t' := .int) (by decide) (by decide)) (slot_ne (Or.inr (w_93 hw)) (Or.inl (w_60 hw)) (by decide) (t := (.object "com/example/fjalar/fjalar/ApiException$Code")) (t' := (.array (.object "java/lang/StackTraceElement"))) (by decide) (by decide))
  refine s_pop W11 d9_27 rfl (pc' := 28) rfl ?_
  refine s_aloadN W11 d9_28 rfl rfl (pc' := 29) rfl ?_
  refine s_aloadN W11 d9_29 rfl rmg (pc' := 30) rfl ?_
  have fx19 := (fx14.keep K11)
  refine gPutF W11 n0_a (Or.inr (Or.inr (Or.inl ⟨_, fx19, by decide, by decide⟩))) (host := "") (Or.inl (w_91 hw)) Via.refl FXdet fx19 (Or.inl (w_87 hw)) (w_31 hw) (ty := (.object "java/lang/String")) (by decide) (narrow_ref rmg) (fits_ref' rfl rmg) d9_30 (pc' := 33) rfl ?_
  intro T18 h18 W18 Wr18
  have Fw18 := FXdet.same Wr18
  have z18 : h11.size ≤ h18.size := Nat.le_of_eq Wr18.size.symm
  have fx20 := (fx19.wr Wr18)
  have fx21 := (FXcod.other Wr18 (Or.inr (slot_ne (Or.inr (w_93 hw)) (Or.inl (w_87 hw)) (by decide) (t := (.object "com/example/fjalar/fjalar/ApiException$Code")) (t' := (.object "java/lang/String")) (by decide) (by decide))))
  exact gRetV W18 hret d9_33 (by decide) (by decide) ⟨rfl, ((((((Keep.refl h0 [a]).wr Wr2 (Or.inl (by simp))).wr Wr4 (Or.inl (by simp))).wr Wr8 (Or.inl (by simp))).trans K11 (allS (Or.inl (by simp)) all0)).wr Wr18 (Or.inl (by simp))), fx20, Fw18, fx21⟩
def Q_einit (Z : State) (n0 : Nat) (a xu : Addr) (mg vse : Value) (h0 : Heap) (v : Option Value) (h : Heap) : Prop := v = none ∧ Keep h0 h [a] ∧ Exa Z h a "com/example/fjalar/fjalar/ApiException" ∧ Fld Z h a "java/lang/Throwable" "detailMessage" "Ljava/lang/String;" mg ∧ Fld Z h a "com/example/fjalar/fjalar/ApiException" "code" "Lcom/example/fjalar/fjalar/ApiException$Code;" .null
set_option maxRecDepth 65536 in
set_option maxHeartbeats 40000000 in
theorem ct_einit {l : Launch} {Z : State} {a0 : Array Value} (hw : ∀ d ∈ tables_1, d.before a0 Z = true) (hEL : EW Z a0 EL0) {n0 : Nat} (cds : List Jvm.Cond) (a xu : Addr) (mg vse : Value) (h0 : Heap) (rmg : mg.isRef = true) (Ea : Exa Z h0 a "com/example/fjalar/fjalar/ApiException") (Ua : Unt h0 a) (Fcau : Fld Z h0 a "java/lang/Throwable" "cause" "Ljava/lang/Throwable;" .null) (Fsta : Fld Z h0 a "java/lang/Throwable" "stackTrace" "[Ljava/lang/StackTraceElement;" .null) (Fsup : Fld Z h0 a "java/lang/Throwable" "suppressedExceptions" "Ljava/util/List;" .null) (Fdet : Fld Z h0 a "java/lang/Throwable" "detailMessage" "Ljava/lang/String;" .null) (Fbac : Fld Z h0 a "java/lang/Throwable" "backtrace" "Ljava/lang/Object;" .null) (Fcod : Fld Z h0 a "com/example/fjalar/fjalar/ApiException" "code" "Lcom/example/fjalar/fjalar/ApiException$Code;" .null) (n0_a : n0 ≤ a) (SUS : Sta Z Z.heap "java/lang/Throwable" "UNASSIGNED_STACK" "[Ljava/lang/StackTraceElement;" (.ref xu)) (SSE : Sta Z Z.heap "java/lang/Throwable" "SUPPRESSED_SENTINEL" "Ljava/util/List;" vse) (rse : vse.isRef = true) (hlt : l.stackTraces = true) :
    Ct l Z a0 EL0 n0 true true (⟨"java/lang/Exception", "<init>", "(Ljava/lang/String;)V"⟩ : MethodName) jdk_59_method_2_code 2 (Option.none : Option Jvm.ClassFile.FieldType) cds ({ frames := 4, cells := 1, slots := 2752, locals := 55 } : Room) [] #[(.ref a), mg] h0 (Q_einit Z n0 a xu mg vse h0) := by
  refine Ct.of (plainFor_of_name pn_4) hEL ?_
  intro p e s m below meth c T0 W0 hret hnm hs0
  refine Go.cast (ef_RO_2 m a mg rmg) ?_
  show Go p e below _ T0 (mkF m 0 #[.val (.ref a), .val mg] [])
  refine s_aloadN W0 d8_0 rfl rfl (pc' := 1) rfl ?_
  refine s_aloadN W0 d8_1 rfl rmg (pc' := 2) rfl ?_
  refine gSpecial W0 rfl (w_49 hw) (w_50 hw) (w_53 hw) (w_54 hw) (by decide) pd_5 (ct_tinit hw hEL [] a xu mg vse h0 rmg Ea Ua Fcau Fsta Fsup Fdet Fbac Fcod n0_a SUS SSE rse hlt) (by simp) d8_2 (pc' := 5) rfl rfl (argsL := [mg]) rfl rfl (rest := []) rfl (wt := 0) (Nat.le_of_eq rfl) (by decide) (by decide) (by decide) (by decide) ?_
  rintro v1 T1 h1 W1 z1 ⟨rfl, K, Q⟩
  show Go p e below _ T1 (mkF m 5 #[.val (.ref a), .val mg] [])
  exact gRetV W1 hret d8_5 (by decide) (by decide) ⟨rfl, K, Q⟩
def Q_rinit (Z : State) (n0 : Nat) (a xu : Addr) (mg vse : Value) (h0 : Heap) (v : Option Value) (h : Heap) : Prop := v = none ∧ Keep h0 h [a] ∧ Exa Z h a "com/example/fjalar/fjalar/ApiException" ∧ Fld Z h a "java/lang/Throwable" "detailMessage" "Ljava/lang/String;" mg ∧ Fld Z h a "com/example/fjalar/fjalar/ApiException" "code" "Lcom/example/fjalar/fjalar/ApiException$Code;" .null
set_option maxRecDepth 65536 in
set_option maxHeartbeats 40000000 in
theorem ct_rinit {l : Launch} {Z : State} {a0 : Array Value} (hw : ∀ d ∈ tables_1, d.before a0 Z = true) (hEL : EW Z a0 EL0) {n0 : Nat} (cds : List Jvm.Cond) (a xu : Addr) (mg vse : Value) (h0 : Heap) (rmg : mg.isRef = true) (Ea : Exa Z h0 a "com/example/fjalar/fjalar/ApiException") (Ua : Unt h0 a) (Fcau : Fld Z h0 a "java/lang/Throwable" "cause" "Ljava/lang/Throwable;" .null) (Fsta : Fld Z h0 a "java/lang/Throwable" "stackTrace" "[Ljava/lang/StackTraceElement;" .null) (Fsup : Fld Z h0 a "java/lang/Throwable" "suppressedExceptions" "Ljava/util/List;" .null) (Fdet : Fld Z h0 a "java/lang/Throwable" "detailMessage" "Ljava/lang/String;" .null) (Fbac : Fld Z h0 a "java/lang/Throwable" "backtrace" "Ljava/lang/Object;" .null) (Fcod : Fld Z h0 a "com/example/fjalar/fjalar/ApiException" "code" "Lcom/example/fjalar/fjalar/ApiException$Code;" .null) (n0_a : n0 ≤ a) (SUS : Sta Z Z.heap "java/lang/Throwable" "UNASSIGNED_STACK" "[Ljava/lang/StackTraceElement;" (.ref xu)) (SSE : Sta Z Z.heap "java/lang/Throwable" "SUPPRESSED_SENTINEL" "Ljava/util/List;" vse) (rse : vse.isRef = true) (hlt : l.stackTraces = true) :
    Ct l Z a0 EL0 n0 true true (⟨"java/lang/RuntimeException", "<init>", "(Ljava/lang/String;)V"⟩ : MethodName) jdk_58_method_2_code 2 (Option.none : Option Jvm.ClassFile.FieldType) cds ({ frames := 5, cells := 1, slots := 2752, locals := 68 } : Room) [] #[(.ref a), mg] h0 (Q_rinit Z n0 a xu mg vse h0) := by
  refine Ct.of (plainFor_of_name pn_5) hEL ?_
  intro p e s m below meth c T0 W0 hret hnm hs0
  refine Go.cast (ef_RO_2 m a mg rmg) ?_
  show Go p e below _ T0 (mkF m 0 #[.val (.ref a), .val mg] [])
  refine s_aloadN W0 d7_0 rfl rfl (pc' := 1) rfl ?_
  refine s_aloadN W0 d7_1 rfl rmg (pc' := 2) rfl ?_
  refine gSpecial W0 rfl (w_43 hw) (w_44 hw) (w_47 hw) (w_48 hw) (by decide) pd_5 (ct_einit hw hEL [] a xu mg vse h0 rmg Ea Ua Fcau Fsta Fsup Fdet Fbac Fcod n0_a SUS SSE rse hlt) (by simp) d7_2 (pc' := 5) rfl rfl (argsL := [mg]) rfl rfl (rest := []) rfl (wt := 0) (Nat.le_of_eq rfl) (by decide) (by decide) (by decide) (by decide) ?_
  rintro v1 T1 h1 W1 z1 ⟨rfl, K, Q⟩
  show Go p e below _ T1 (mkF m 5 #[.val (.ref a), .val mg] [])
  exact gRetV W1 hret d7_5 (by decide) (by decide) ⟨rfl, K, Q⟩
def Q_ainit (Z : State) (n0 : Nat) (a xu : Addr) (mg vse : Value) (ci : Addr) (h0 : Heap) (v : Option Value) (h : Heap) : Prop := v = none ∧ Keep h0 h [a] ∧ Exa Z h a "com/example/fjalar/fjalar/ApiException" ∧ Fld Z h a "java/lang/Throwable" "detailMessage" "Ljava/lang/String;" mg ∧ Fld Z h a "com/example/fjalar/fjalar/ApiException" "code" "Lcom/example/fjalar/fjalar/ApiException$Code;" (.ref ci)
set_option maxRecDepth 65536 in
set_option maxHeartbeats 40000000 in
theorem ct_ainit {l : Launch} {Z : State} {a0 : Array Value} (hw : ∀ d ∈ tables_1, d.before a0 Z = true) (hEL : EW Z a0 EL0) {n0 : Nat} (cds : List Jvm.Cond) (a xu : Addr) (mg vse : Value) (ci : Addr) (h0 : Heap) (rmg : mg.isRef = true) (Ea : Exa Z h0 a "com/example/fjalar/fjalar/ApiException") (Ua : Unt h0 a) (Fcau : Fld Z h0 a "java/lang/Throwable" "cause" "Ljava/lang/Throwable;" .null) (Fsta : Fld Z h0 a "java/lang/Throwable" "stackTrace" "[Ljava/lang/StackTraceElement;" .null) (Fsup : Fld Z h0 a "java/lang/Throwable" "suppressedExceptions" "Ljava/util/List;" .null) (Fdet : Fld Z h0 a "java/lang/Throwable" "detailMessage" "Ljava/lang/String;" .null) (Fbac : Fld Z h0 a "java/lang/Throwable" "backtrace" "Ljava/lang/Object;" .null) (Fcod : Fld Z h0 a "com/example/fjalar/fjalar/ApiException" "code" "Lcom/example/fjalar/fjalar/ApiException$Code;" .null) (n0_a : n0 ≤ a) (SUS : Sta Z Z.heap "java/lang/Throwable" "UNASSIGNED_STACK" "[Ljava/lang/StackTraceElement;" (.ref xu)) (SSE : Sta Z Z.heap "java/lang/Throwable" "SUPPRESSED_SENTINEL" "Ljava/util/List;" vse) (rse : vse.isRef = true) (hlt : l.stackTraces = true) :
    Ct l Z a0 EL0 n0 true true (⟨"com/example/fjalar/fjalar/ApiException", "<init>", "(Lcom/example/fjalar/fjalar/ApiException$Code;Ljava/lang/String;)V"⟩ : MethodName) prog_1_method_1_code 3 (Option.none : Option Jvm.ClassFile.FieldType) cds ({ frames := 6, cells := 1, slots := 2752, locals := 81 } : Room) [] #[(.ref a), (.ref ci), mg] h0 (Q_ainit Z n0 a xu mg vse ci h0) := by
  refine Ct.of (plainFor_of_name pn_6) hEL ?_
  intro p e s m below meth c T0 W0 hret hnm hs0
  refine Go.cast (ef_RRO_3 m a ci mg rmg) ?_
  show Go p e below _ T0 (mkF m 0 #[.val (.ref a), .val (.ref ci), .val mg] [])
  have lt_a := natlt Ea.lt
  refine s_aloadN W0 d6_0 rfl rfl (pc' := 1) rfl ?_
  refine s_aloadN W0 d6_1 rfl rmg (pc' := 2) rfl ?_
  refine gSpecial W0 rfl (w_38 hw) (w_39 hw) (w_41 hw) (w_42 hw) (by decide) pd_5 (ct_rinit hw hEL [] a xu mg vse h0 rmg Ea Ua Fcau Fsta Fsup Fdet Fbac Fcod n0_a SUS SSE rse hlt) (by simp) d6_2 (pc' := 5) rfl rfl (argsL := [mg]) rfl rfl (rest := []) rfl (wt := 0) (Nat.le_of_eq rfl) (by decide) (by decide) (by decide) (by decide) ?_
  rintro v1 T1 h1 W1 z1 ⟨rfl, K, Er, Fmr, Fcr⟩
  show Go p e below _ T1 (mkF m 5 #[.val (.ref a), .val (.ref ci), .val mg] [])
  refine s_aloadN W1 d6_5 rfl rfl (pc' := 6) rfl ?_
  refine s_aloadN W1 d6_6 rfl rfl (pc' := 7) rfl ?_
  refine gPutF W1 n0_a (Or.inr (Or.inr (Or.inl ⟨_, Er, by decide, by decide⟩))) (host := "") (Or.inl (w_92 hw)) Via.refl Fcr Er (Or.inr ⟨(w_93 hw), rfl, hnm⟩) (w_31 hw) (ty := (.object "com/example/fjalar/fjalar/ApiException$Code")) (by decide) rfl rfl d6_7 (pc' := 10) rfl ?_
  intro T2 h2 W2 Wr2
  have Fw2 := Fcr.same Wr2
  have z2 : h1.size ≤ h2.size := Nat.le_of_eq Wr2.size.symm
  have fx3 := (Er.wr Wr2)
  have fx4 := (Fmr.other Wr2 (Or.inr (slot_ne (Or.inl (w_87 hw)) (Or.inr (w_93 hw)) (by decide) (t := (.object "java/lang/String")) (t' := (.object "com/example/fjalar/fjalar/ApiException$Code")) (by decide) (by decide))))
  exact gRetV W2 hret d6_10 (by decide) (by decide) ⟨rfl, (((Keep.refl h0 [a]).trans K (allS (Or.inl (by simp)) all0)).wr Wr2 (Or.inl (by simp))), fx3, fx4, Fw2⟩
def Q_inv (Z : State) (n0 : Nat) (xu ci : Addr) (mg vse : Value) (h0 : Heap) (v : Option Value) (h : Heap) : Prop := ∃ a, v = some (.ref a) ∧ Keep h0 h [] ∧ h0.size ≤ a ∧ Exa Z h a "com/example/fjalar/fjalar/ApiException" ∧ Fld Z h a "java/lang/Throwable" "detailMessage" "Ljava/lang/String;" mg ∧ Fld Z h a "com/example/fjalar/fjalar/ApiException" "code" "Lcom/example/fjalar/fjalar/ApiException$Code;" (.ref ci)
set_option maxRecDepth 65536 in
set_option maxHeartbeats 40000000 in
theorem ct_inv {l : Launch} {Z : State} {a0 : Array Value} (hw : ∀ d ∈ tables_1, d.before a0 Z = true) (hEL : EW Z a0 EL0) {n0 : Nat} (cds : List Jvm.Cond) (xu ci : Addr) (mg vse : Value) (h0 : Heap) (rmg : mg.isRef = true) (SUS : Sta Z Z.heap "java/lang/Throwable" "UNASSIGNED_STACK" "[Ljava/lang/StackTraceElement;" (.ref xu)) (SSE : Sta Z Z.heap "java/lang/Throwable" "SUPPRESSED_SENTINEL" "Ljava/util/List;" vse) (rse : vse.isRef = true) (hlt : l.stackTraces = true) (SII : Sta Z Z.heap "com/example/fjalar/fjalar/ApiException$Code" "INVALID_INPUT" "Lcom/example/fjalar/fjalar/ApiException$Code;" (.ref ci)) :
    Ct l Z a0 EL0 n0 true true (⟨"com/example/fjalar/fjalar/ApiException", "invalidInput", "(Ljava/lang/String;)Lcom/example/fjalar/fjalar/ApiException;"⟩ : MethodName) prog_1_method_2_code 1 (Option.some (Jvm.ClassFile.FieldType.object "com/example/fjalar/fjalar/ApiException")) cds ({ frames := 7, cells := 2, slots := 2759, locals := 96 } : Room) [] #[mg] h0 (Q_inv Z n0 xu ci mg vse h0) := by
  refine Ct.of (plainFor_of_name pn_6) hEL ?_
  intro p e s m below meth c T0 W0 hret hnm hs0
  refine Go.cast (ef_O_1 m mg rmg) ?_
  show Go p e below _ T0 (mkF m 0 #[.val mg] [])
  refine gNew W0 (w_30 hw) (w_31 hw) (w_28 hw) d5_0 (pc' := 3) rfl (by decide) (by decide) ?_
  intro T1 h1 b1 g1 W1 E1 ⟨A1, D1, U1⟩
  have z1 : h0.size ≤ h1.size := E1.1
  have lt_b1 := natlt A1.lt
  have gg1 := nateq g1
  have n0_b1 : n0 ≤ b1 := by have := W0.n0le; omega
  have F1_cause : Fld Z h1 b1 "java/lang/Throwable" "cause" "Ljava/lang/Throwable;" .null := D1 (Or.inl (w_57 hw)) (ty := (.object "java/lang/Throwable")) (by decide)
  have F1_stackTrace : Fld Z h1 b1 "java/lang/Throwable" "stackTrace" "[Ljava/lang/StackTraceElement;" .null := D1 (Or.inl (w_60 hw)) (ty := (.array (.object "java/lang/StackTraceElement"))) (by decide)
  have F1_suppressedExceptions : Fld Z h1 b1 "java/lang/Throwable" "suppressedExceptions" "Ljava/util/List;" .null := D1 (Or.inl (w_63 hw)) (ty := (.object "java/util/List")) (by decide)
  have F1_detailMessage : Fld Z h1 b1 "java/lang/Throwable" "detailMessage" "Ljava/lang/String;" .null := D1 (Or.inl (w_87 hw)) (ty := (.object "java/lang/String")) (by decide)
  have F1_backtrace : Fld Z h1 b1 "java/lang/Throwable" "backtrace" "Ljava/lang/Object;" .null := D1 (Or.inl (w_88 hw)) (ty := (.object "java/lang/Object")) (by decide)
  have F1_depth : Fld Z h1 b1 "java/lang/Throwable" "depth" "I" (.int (0 : Int32)) := D1 (Or.inl (w_89 hw)) (ty := .int) (by decide)
  have F1_code : Fld Z h1 b1 "com/example/fjalar/fjalar/ApiException" "code" "Lcom/example/fjalar/fjalar/ApiException$Code;" .null := D1 (Or.inr (w_93 hw)) (ty := (.object "com/example/fjalar/fjalar/ApiException$Code")) (by decide)
  refine s_dup W1 d5_3 rfl (pc' := 4) rfl ?_
  refine gGetS W1 (host := "") (Or.inl (w_32 hw)) Via.refl (SII.ext W1.old.2) d5_4 (pc' := 7) rfl ?_
  intro T2 W2
  refine s_aloadN W2 d5_7 rfl rmg (pc' := 8) rfl ?_
  refine gSpecial W2 rfl (w_35 hw) (w_36 hw) (w_28 hw) (w_37 hw) (by decide) pd_6 (ct_ainit hw hEL [] b1 xu mg vse ci h1 rmg A1 U1 F1_cause F1_stackTrace F1_suppressedExceptions F1_detailMessage F1_backtrace F1_code n0_b1 SUS SSE rse hlt) (by simp) d5_8 (pc' := 11) rfl rfl (argsL := [(.ref ci), mg]) rfl rfl (rest := [(.ref b1)]) rfl (wt := 1) (Nat.le_of_eq rfl) (by decide) (by decide) (by decide) (by decide) ?_
  rintro v3 T3 h3 W3 z3 ⟨rfl, K, Er, Fmr, Fcr⟩
  show Go p e below _ T3 (mkF m 11 #[.val mg] [(.ref b1)])
  exact gRetA W3 hret rfl rfl d5_11 (by decide) (by decide) ⟨b1, rfl, (((Keep.refl h0 []).ext E1).trans K (allS (Or.inr (natle (by omega))) all0)), natle (by omega), Er, Fmr, Fcr⟩
def Q_code (Z : State) (n0 : Nat) (a ci : Addr) (h0 : Heap) (v : Option Value) (h : Heap) : Prop := v = some (.ref ci) ∧ h0 = h
set_option maxRecDepth 65536 in
set_option maxHeartbeats 40000000 in
theorem ct_code {l : Launch} {Z : State} {a0 : Array Value} (hw : ∀ d ∈ tables_1, d.before a0 Z = true) (hEL : EW Z a0 EL0) {n0 : Nat} (cds : List Jvm.Cond) (a ci : Addr) (h0 : Heap) (Fa : Fld Z h0 a "com/example/fjalar/fjalar/ApiException" "code" "Lcom/example/fjalar/fjalar/ApiException$Code;" (.ref ci)) :
    Ct l Z a0 EL0 n0 true true (⟨"com/example/fjalar/fjalar/ApiException", "code", "()Lcom/example/fjalar/fjalar/ApiException$Code;"⟩ : MethodName) prog_1_method_3_code 1 (Option.some (Jvm.ClassFile.FieldType.object "com/example/fjalar/fjalar/ApiException$Code")) cds ({ frames := 0, cells := 0, slots := 0, locals := 0 } : Room) [] #[(.ref a)] h0 (Q_code Z n0 a ci h0) := by
  refine Ct.of (plainFor_of_name pn_6) hEL ?_
  intro p e s m below meth c T0 W0 hret hnm hs0
  refine Go.cast (ef_R_1 m a) ?_
  show Go p e below _ T0 (mkF m 0 #[.val (.ref a)] [])
  refine s_aloadN W0 d11_0 rfl rfl (pc' := 1) rfl ?_
  refine gGetF W0 (host := "") (Or.inl (w_92 hw)) Via.refl Fa d11_1 (pc' := 4) rfl ?_
  intro T1 W1
  exact gRetA W1 hret rfl rfl d11_4 (by decide) (by decide) ⟨rfl, rfl⟩
def Q_status (Z : State) (n0 : Nat) (a : Addr) (h0 : Heap) (v : Option Value) (h : Heap) : Prop := v = some (.int 400) ∧ h0 = h
set_option maxRecDepth 65536 in
set_option maxHeartbeats 40000000 in
theorem ct_status {l : Launch} {Z : State} {a0 : Array Value} (hw : ∀ d ∈ tables_1, d.before a0 Z = true) (hEL : EW Z a0 EL0) {n0 : Nat} (cds : List Jvm.Cond) (a : Addr) (h0 : Heap) (Fa : Fld Z h0 a "com/example/fjalar/fjalar/ApiException$Code" "status" "I" (.int 400)) :
    Ct l Z a0 EL0 n0 true true (⟨"com/example/fjalar/fjalar/ApiException$Code", "status", "()I"⟩ : MethodName) prog_2_method_4_code 1 (Option.some Jvm.ClassFile.FieldType.int) cds ({ frames := 0, cells := 0, slots := 0, locals := 0 } : Room) [] #[(.ref a)] h0 (Q_status Z n0 a h0) := by
  refine Ct.of (plainFor_of_name pn_7) hEL ?_
  intro p e s m below meth c T0 W0 hret hnm hs0
  refine Go.cast (ef_R_1 m a) ?_
  show Go p e below _ T0 (mkF m 0 #[.val (.ref a)] [])
  refine s_aloadN W0 d12_0 rfl rfl (pc' := 1) rfl ?_
  refine gGetF W0 (host := "") (Or.inl (w_105 hw)) Via.refl Fa d12_1 (pc' := 4) rfl ?_
  intro T1 W1
  exact gRetI W1 hret d12_4 (by decide) (by decide) ⟨rfl, rfl⟩
def Q_gmsg (Z : State) (n0 : Nat) (a : Addr) (mg : Value) (h0 : Heap) (v : Option Value) (h : Heap) : Prop := v = some mg ∧ h0 = h
set_option maxRecDepth 65536 in
set_option maxHeartbeats 40000000 in
theorem ct_gmsg {l : Launch} {Z : State} {a0 : Array Value} (hw : ∀ d ∈ tables_1, d.before a0 Z = true) (hEL : EW Z a0 EL0) {n0 : Nat} (cds : List Jvm.Cond) (a : Addr) (mg : Value) (h0 : Heap) (rmg : mg.isRef = true) (Fa : Fld Z h0 a "java/lang/Throwable" "detailMessage" "Ljava/lang/String;" mg) :
    Ct l Z a0 EL0 n0 true true (⟨"java/lang/Throwable", "getMessage", "()Ljava/lang/String;"⟩ : MethodName) jdk_78_method_6_code 1 (Option.some (Jvm.ClassFile.FieldType.object "java/lang/String")) cds ({ frames := 0, cells := 0, slots := 0, locals := 0 } : Room) [] #[(.ref a)] h0 (Q_gmsg Z n0 a mg h0) := by
  refine Ct.of (plainFor_of_name pn_3) hEL ?_
  intro p e s m below meth c T0 W0 hret hnm hs0
  refine Go.cast (ef_R_1 m a) ?_
  show Go p e below _ T0 (mkF m 0 #[.val (.ref a)] [])
  refine s_aloadN W0 d13_0 rfl rfl (pc' := 1) rfl ?_
  refine gGetF W0 (host := "") (Or.inl (w_91 hw)) Via.refl Fa d13_1 (pc' := 4) rfl ?_
  intro T1 W1
  exact gRetA W1 hret rfl rmg d13_4 (by decide) (by decide) ⟨rfl, rfl⟩
def Q_seqI (Z : State) (n0 : Nat) (a : Addr) (h0 : Heap) (v : Option Value) (h : Heap) : Prop := v = some (.int 1) ∧ h0 = h
set_option maxRecDepth 65536 in
set_option maxHeartbeats 40000000 in
theorem ct_seqI {l : Launch} {Z : State} {a0 : Array Value} (hw : ∀ d ∈ tables_1, d.before a0 Z = true) (hEL : EW Z a0 EL0) {n0 : Nat} (cds : List Jvm.Cond) (a : Addr) (h0 : Heap)  :
    Ct l Z a0 EL0 n0 true true (⟨"java/lang/String", "equals", "(Ljava/lang/Object;)Z"⟩ : MethodName) jdk_42_method_66_code 3 (Option.some Jvm.ClassFile.FieldType.boolean) cds ({ frames := 0, cells := 0, slots := 0, locals := 0 } : Room) [] #[(.ref a), (.ref a)] h0 (Q_seqI Z n0 a h0) := by
  refine Ct.of (plainFor_of_name pn_1) hEL ?_
  intro p e s m below meth c T0 W0 hret hnm hs0
  refine Go.cast (ef_RR_3 m a a) ?_
  show Go p e below _ T0 (mkF m 0 #[.val (.ref a), .val (.ref a), .unset] [])
  refine s_aloadN W0 d14_0 rfl rfl (pc' := 1) rfl ?_
  refine s_aloadN W0 d14_1 rfl rfl (pc' := 2) rfl ?_
  refine s_acmpne W0 d14_2 rfl rfl (by decide) (pc1 := 7) (by decide) (pc2 := 5) rfl (fun q => (q rfl).elim) ?_
  intro q2
  refine s_iconst W0 d14_5 (v := (1 : Int32)) (by decide) (pc' := 6) rfl ?_
  exact gRetN W0 hret (by simp) d14_6 (by decide) (by decide) ⟨rfl, rfl⟩
def Q_law (Z : State) (n0 : Nat) (pa pb px pd ccs : Int32) (xu ci : Addr) (vse : Value) (h0 : Heap) (v : Option Value) (h : Heap) : Prop := v = some (.int 1)
set_option maxRecDepth 65536 in
set_option maxHeartbeats 40000000 in
theorem ct_law {l : Launch} {Z : State} {a0 : Array Value} (hw : ∀ d ∈ tables_1, d.before a0 Z = true) (hEL : EW Z a0 EL0) {n0 : Nat} (cds : List Jvm.Cond) (pa pb px pd ccs : Int32) (xu ci : Addr) (vse : Value) (h0 : Heap) (SCS : Sta Z Z.heap "java/lang/String" "COMPACT_STRINGS" "Z" (.int ccs)) (hccs : ¬ ccs = 0) (SUS : Sta Z Z.heap "java/lang/Throwable" "UNASSIGNED_STACK" "[Ljava/lang/StackTraceElement;" (.ref xu)) (SSE : Sta Z Z.heap "java/lang/Throwable" "SUPPRESSED_SENTINEL" "Ljava/util/List;" vse) (rse : vse.isRef = true) (hlt : l.stackTraces = true) (SII : Sta Z Z.heap "com/example/fjalar/fjalar/ApiException$Code" "INVALID_INPUT" "Lcom/example/fjalar/fjalar/ApiException$Code;" (.ref ci)) (Eci : Exa Z Z.heap ci "com/example/fjalar/fjalar/ApiException$Code") (Fst : Fld Z Z.heap ci "com/example/fjalar/fjalar/ApiException$Code" "status" "I" (.int 400)) :
    Ct l Z a0 EL0 n0 true true x code maxLocals ret cds room_1 [] #[(.int pa), (.int pb), (.int px), (.int pd)] h0 (Q_law Z n0 pa pb px pd ccs xu ci vse h0) := by
  refine Ct.of (plainFor_of_name pn_2) hEL ?_
  intro p e s m below meth c T0 W0 hret hnm hs0
  refine Go.cast (ef_IIII_8 m pa pb px pd) ?_
  show Go p e below _ T0 (mkF m 0 #[.val (.int pa), .val (.int pb), .val (.int px), .val (.int pd), .unset, .unset, .unset, .unset] [])
  refine s_iloadN W0 at_0 rfl (pc' := 1) rfl ?_
  refine s_iloadN W0 at_1 rfl (pc' := 2) rfl ?_
  refine s_iloadN W0 at_2 rfl (pc' := 3) rfl ?_
  refine s_iloadN W0 at_3 rfl (pc' := 4) rfl ?_
  refine gStatic W0 (w_0 hw) (w_1 hw) (w_2 hw) (w_3 hw) (by decide) pd_7 (ct_draw hw hEL [] pa pb px pd ccs h0 SCS hccs) (by simp) at_4 (pc' := 7) rfl rfl (argsL := [(.int pa), (.int pb), (.int px), (.int pd)]) rfl rfl (rest := []) rfl (wt := 0) (Nat.le_of_eq rfl) (by decide) (by decide) (by decide) (by decide) ?_
  rintro v1 T1 h1 W1 z1 ⟨mg, rfl, Kd, hmg⟩
  have rmg : mg.isRef = true := by rcases hmg with rfl | ⟨q, rfl, -⟩ <;> rfl
  show Go p e below _ T1 (mkF m 7 #[.val (.int pa), .val (.int pb), .val (.int px), .val (.int pd), .unset, .unset, .unset, .unset] [mg])
  refine s_astore W1 at_7 rmg (l' := #[.val (.int pa), .val (.int pb), .val (.int px), .val (.int pd), .val mg, .unset, .unset, .unset]) (storeLocals_cat1 rfl (isRef_cat rmg) trivial) (pc' := 9) rfl ?_
  refine s_aload W1 at_9 rfl rmg (pc' := 11) rfl ?_
  refine gStatic W1 (w_26 hw) (w_27 hw) (w_28 hw) (w_29 hw) (by decide) pd_8 (ct_inv hw hEL [] xu ci mg vse h1 rmg SUS SSE rse hlt SII) (by simp) at_11 (pc' := 14) rfl rfl (argsL := [mg]) rfl rfl (rest := []) rfl (wt := 0) (Nat.le_of_eq rfl) (by decide) (by decide) (by decide) (by decide) ?_
  rintro v2 T2 h2 W2 z2 ⟨ax, rfl, Ki, gx, Ex, Fm, Fc⟩
  show Go p e below _ T2 (mkF m 14 #[.val (.int pa), .val (.int pb), .val (.int px), .val (.int pd), .val mg, .unset, .unset, .unset] [(.ref ax)])
  refine s_astore W2 at_14 rfl (l' := #[.val (.int pa), .val (.int pb), .val (.int px), .val (.int pd), .val mg, .val (.ref ax), .unset, .unset]) rfl (pc' := 16) rfl ?_
  refine s_aload W2 at_16 rfl rfl (pc' := 18) rfl ?_
  refine s_ifnonnull W2 at_18 rfl (by decide) (pc1 := 23) (by decide) (pc2 := 21) rfl ?_ (fun q => absurd q (nofun : ¬ (Value.ref ax = .null)))
  intro q18
  refine s_aload W2 at_23 rfl rfl (pc' := 25) rfl ?_
  refine gVirtual W2 Ex (w_94 hw) (w_95 hw) (fun s hZ => notFace_of_selects (args := #[]) (mv hZ (w_97 hw))) (w_97 hw) (w_96 hw) (w_28 hw) (w_98 hw) (by decide) pd_9 (ct_code hw hEL [] ax ci h2 Fc) (by simp) at_25 (pc' := 28) rfl rfl (argsL := []) rfl rfl (rest := []) rfl (wt := 0) (Nat.le_of_eq rfl) (by decide) (by decide) (by decide) (by decide) ?_
  rintro v3 T3 h3 W3 z3 ⟨rfl, rfl⟩
  show Go p e below _ T3 (mkF m 28 #[.val (.int pa), .val (.int pb), .val (.int px), .val (.int pd), .val mg, .val (.ref ax), .unset, .unset] [(.ref ci)])
  refine s_astore W3 at_28 rfl (l' := #[.val (.int pa), .val (.int pb), .val (.int px), .val (.int pd), .val mg, .val (.ref ax), .val (.ref ci), .unset]) rfl (pc' := 30) rfl ?_
  refine s_aload W3 at_30 rfl rfl (pc' := 32) rfl ?_
  refine gGetS W3 (host := "") (Or.inl (w_99 hw)) Via.refl (SII.ext W3.old.2) at_32 (pc' := 35) rfl ?_
  intro T4 W4
  refine s_acmpeq W4 at_35 rfl rfl (by decide) (pc1 := 40) (by decide) (pc2 := 38) rfl ?_ (fun q => (q rfl).elim)
  intro q35
  refine s_aload W4 at_40 rfl rfl (pc' := 42) rfl ?_
  refine gVirtual W4 (Eci.ext W4.old.2) (w_100 hw) (w_101 hw) (fun s hZ => notFace_of_selects (args := #[]) (mv hZ (w_103 hw))) (w_103 hw) (w_102 hw) (w_33 hw) (w_104 hw) (by decide) pd_10 (ct_status hw hEL [] ci h2 (Fst.ext W4.old.2)) (by simp) at_42 (pc' := 45) rfl rfl (argsL := []) rfl rfl (rest := []) rfl (wt := 0) (Nat.le_of_eq rfl) (by decide) (by decide) (by decide) (by decide) ?_
  rintro v5 T5 h5 W5 z5 ⟨rfl, rfl⟩
  show Go p e below _ T5 (mkF m 45 #[.val (.int pa), .val (.int pb), .val (.int px), .val (.int pd), .val mg, .val (.ref ax), .val (.ref ci), .unset] [(.int (400 : Int32))])
  refine s_sipush W5 at_45 (v := (400 : Int32)) (by decide) (pc' := 48) rfl ?_
  refine s_icmpeq W5 at_48 (by decide) (pc1 := 53) (by decide) (pc2 := 51) rfl ?_ (fun q => absurd q (by decide))
  intro q48
  refine s_aload W5 at_53 rfl rfl (pc' := 55) rfl ?_
  refine gVirtualUp W5 Ex (w_107 hw) (w_108 hw) (w_109 hw) (by decide) (w_111 hw) (w_110 hw) (w_53 hw) (w_112 hw) pd_11 (ct_gmsg hw hEL [] ax mg h2 rmg Fm) (by simp) at_55 (pc' := 58) rfl rfl (argsL := []) rfl rfl (rest := []) rfl (wt := 0) (Nat.le_of_eq rfl) (by decide) (by decide) (by decide) (by decide) ?_
  rintro v6 T6 h6 W6 z6 ⟨rfl, rfl⟩
  show Go p e below _ T6 (mkF m 58 #[.val (.int pa), .val (.int pb), .val (.int px), .val (.int pd), .val mg, .val (.ref ax), .val (.ref ci), .unset] [mg])
  refine s_astore W6 at_58 rmg (l' := #[.val (.int pa), .val (.int pb), .val (.int px), .val (.int pd), .val mg, .val (.ref ax), .val (.ref ci), .val mg]) (storeLocals_cat1 rfl (isRef_cat rmg) trivial) (pc' := 60) rfl ?_
  refine s_aload W6 at_60 rfl rmg (pc' := 62) rfl ?_
  refine s_ifnonnull W6 at_62 rmg (by decide) (pc1 := 76) (by decide) (pc2 := 65) rfl ?_ ?_
  · intro q62
    obtain ⟨sa, rfl, Es⟩ := hmg.resolve_left q62
    show Go p e below _ T6 (mkF m 76 #[.val (.int pa), .val (.int pb), .val (.int px), .val (.int pd), .val (.ref sa), .val (.ref ax), .val (.ref ci), .val (.ref sa)] [])
    refine s_aload W6 at_76 rfl rfl (pc' := 78) rfl ?_
    refine s_ifnull W6 at_78 rfl (by decide) (pc1 := 95) (by decide) (pc2 := 81) rfl (fun q => absurd q (nofun : ¬ (Value.ref sa = .null))) ?_
    intro q78
    refine s_aload W6 at_81 rfl rfl (pc' := 83) rfl ?_
    refine s_aload W6 at_83 rfl rfl (pc' := 85) rfl ?_
    refine gVirtual W6 (Es.keep Ki) (w_113 hw) (w_114 hw) (fun s hZ => notFace_of_selects (args := #[]) (mv hZ (w_116 hw))) (w_116 hw) (w_115 hw) (w_6 hw) (w_117 hw) (by decide) pd_12 (ct_seqI hw hEL [] sa h2) (by simp) at_85 (pc' := 88) rfl rfl (argsL := [(.ref sa)]) rfl rfl (rest := []) rfl (wt := 0) (Nat.le_of_eq rfl) (by decide) (by decide) (by decide) (by decide) ?_
    rintro v7 T7 h7 W7 z7 ⟨rfl, rfl⟩
    show Go p e below _ T7 (mkF m 88 #[.val (.int pa), .val (.int pb), .val (.int px), .val (.int pd), .val (.ref sa), .val (.ref ax), .val (.ref ci), .val (.ref sa)] [(.int (1 : Int32))])
    refine s_ifeq W7 at_88 (by decide) (pc1 := 95) (by decide) (pc2 := 91) rfl (fun q => absurd q (by decide)) ?_
    intro q88
    refine s_iconst W7 at_91 (v := (1 : Int32)) (by decide) (pc' := 92) rfl ?_
    refine s_goto W7 at_92 (by decide) (pc' := 96) (by decide) ?_
    exact gRetN W7 hret (by simp) at_96 (by decide) (by decide) rfl
  · intro q62
    refine s_aload W6 at_65 rfl rmg (pc' := 67) rfl ?_
    refine s_ifnonnull W6 at_67 rmg (by decide) (pc1 := 74) (by decide) (pc2 := 70) rfl (fun q => (q q62).elim) ?_
    intro q67
    refine s_iconst W6 at_70 (v := (1 : Int32)) (by decide) (pc' := 71) rfl ?_
    refine s_goto W6 at_71 (by decide) (pc' := 75) (by decide) ?_
    exact gRetN W6 hret (by simp) at_75 (by decide) (by decide) rfl
set_option maxRecDepth 65536 in
set_option maxHeartbeats 40000000 in
theorem comes_1 {Post : Tables → Env → Array Value → State → Outcome → State → Prop} (hpost : ∀ tb e args s v u, (limb_1_1.after args s (.returned v) u = true ∧ limb_1_2.after args s (.returned v) u = true ∧ True) → Jvm.D.FramedW s (.returned v) u (Jvm.fieldLocs frame_1_writes args s ++ Jvm.arrayLocs frame_1_arrays args s ++ Jvm.staticLocs frame_1_statics s) 24 6656 → Post tb e args s (.returned v) u) :
    ArmFor flags0 classFile x code maxLocals ret World_1 tables_1 room_1 Calls_1 rest_1 Pre_1 Post := by
  intro l hfl _ _ p e ha hc hk s m args below hf hA hF happ hP
  obtain ⟨hcalls, hrest, hpre⟩ := hP
  obtain ⟨-, -, -, hnamed, -, -, -, hat⟩ := (Spec.applies_iff hf).mp happ
  obtain ⟨hg, hn⟩ := and_e (Cond.before_iff.mp (show (Jvm.Cond.and given_1 narrow_1).before args s = true from hpre))
  obtain ⟨h1, g0⟩ := and_e hg
  obtain ⟨a0, g1⟩ := and_e g0
  obtain ⟨a1, g2⟩ := and_e g1
  obtain ⟨a2, g3⟩ := and_e g2
  have a3 := g3
  obtain ⟨u0, u1, u2, u3, rfl⟩ : ∃ u0 u1 u2 u3 : Value, args = #[u0, u1, u2, u3] := by
    have hs : args.size = 4 := by simpa [Cond.value, given_1] using h1
    obtain ⟨L⟩ := args
    match L, hs with
    | [u0, u1, u2, u3], _ => exact ⟨u0, u1, u2, u3, rfl⟩
  have hw := fun d (hd : d ∈ tables_1) => atoms_spec (ws := Jvm.Cond.code x code maxLocals ret :: tables_1) hat d (List.mem_cons_of_mem _ hd)
  obtain ⟨hsets, hown0⟩ := atoms_of _ (rest_1_c_eq ▸ (show rest_1_c.before _ s = true from hrest))
  have hfit : Fit s := fun {y c} hc i hi => by
    obtain ⟨ha, rfl⟩ := Array.getElem?_eq_some_iff.mp hc
    have q := List.all_eq_true.mp ((Array.all_eq_true_iff_forall_mem.mp hF) _ (Array.getElem_mem ha)) i (List.mem_range.mpr hi)
    simpa [Array.getElem?_eq_getElem hi] using q
  obtain ⟨pa, e_pa⟩ := is_v a0
  obtain rfl : u0 = (.int pa) := Option.some.inj e_pa
  obtain ⟨pb, e_pb⟩ := is_v a1
  obtain rfl : u1 = (.int pb) := Option.some.inj e_pb
  obtain ⟨px, e_px⟩ := is_v a2
  obtain rfl : u2 = (.int px) := Option.some.inj e_px
  obtain ⟨pd, e_pd⟩ := is_v a3
  obtain rfl : u3 = (.int pd) := Option.some.inj e_pd
  have ncs := not_v (Cond.before_iff.mp (hsets _ (List.mem_of_getElem? (i := 22) rfl)))
  obtain ⟨ccs, ecs⟩ := is_v (Cond.before_iff.mp (hsets _ (List.mem_of_getElem? (i := 21) rfl)))
  have SCS : Sta s s.heap "java/lang/String" "COMPACT_STRINGS" "Z" (.int ccs) := Sta.start ecs (Or.inl (hsets _ (List.mem_of_getElem? (i := 20) rfl)))
  have hccs : ¬ (ccs = (0 : Int32)) := gotF (Cond.eq_ints ecs (Term.int_eval (0))) ncs
  obtain ⟨xu, eus⟩ := arr_v (Cond.before_iff.mp (hsets _ (List.mem_of_getElem? (i := 8) rfl)))
  have SUS := Sta.start eus (Or.inl (hsets _ (List.mem_of_getElem? (i := 6) rfl)))
  obtain ⟨vse, ese, rse⟩ := isR_v (Cond.before_iff.mp (hsets _ (List.mem_of_getElem? (i := 12) rfl)))
  have SSE := Sta.start ese (Or.inl (hsets _ (List.mem_of_getElem? (i := 11) rfl)))
  have hlt : l.stackTraces = true := by unfold Launch.stackTraces; rw [show l.flags = pinnedFlags from hfl]; decide
  obtain ⟨hn1, hn2⟩ := and_e hn
  obtain ⟨ci, eci⟩ := exa_v hn1
  have Eci := Exa.start eci hn1
  have SII := Sta.start eci (Or.inr ⟨(w_33 hw), (w_34 hw)⟩)
  obtain ⟨xst, yst, est, fst, -, kst⟩ := cmp_v (Or.inl hn2)
  obtain rfl : yst = .int 400 := Option.some.inj (fst.symm.trans (Term.int_eval (400)))
  obtain ⟨zst, rfl⟩ := kst
  obtain rfl : zst = 400 := gotT (Cond.eq_ints est (Term.int_eval (400))) hn2
  have Fst := Fld.start ((fld_at eci).symm.trans est)
  have hEL : EW s #[(.int pa), (.int pb), (.int px), (.int pd)] EL0 := (EW.cons (w_18 hw) (by decide +kernel) EW.nil)
  have hCH : CHv s EL0 s.vm s.heap := CHv.start hEL (fun p hp => hcalls.2.2.1 p hp) (hsets _ (List.mem_of_getElem? (i := 22) rfl)) (w_19 hw) (w_5 hw)
  obtain ⟨n, o, h1, h2, h3, v, L, rfl, hQ, N, hC, hwd, hOl, hq⟩ := ct_law (l := l) (n0 := s.heap.size) hw hEL tables_1 pa pb px pd ccs xu ci vse s.heap SCS hccs SUS SSE rse hlt SII Eci Fst p e ha hc hk s m _ below hf ((Spec.applies_iff_loose hf).mp happ).1 ⟨rfl, State.Warmed39.refl s, rfl, hCH, Old.start s, fun x hx => by cases hx⟩ (fun _ => ⟨MethodsKnown_of_tablesKnown hcalls.2.1, FramesKnown_of_framesKnown hcalls.1 hf⟩)
  obtain rfl : v = some (.int 1) := hQ
  refine ⟨n, _, h1, h2, h3, hpost _ _ _ _ _ _ ⟨Cond.after_iff.mpr rfl, Cond.after_iff.mpr (eq_i res_at (Term.int_eval (1)) rfl), trivial⟩ ⟨hq.1, hq.2.1, hq.2.2.1, (hq.2.2.2.sift fun y hy => Or.inr (N y hy)).mono (by decide) (by decide)⟩⟩
theorem main_1_1 : Claimed_1_1 := comes_1 fun _ _ _ _ _ _ h hF => ⟨h.1, hF⟩
theorem main_1_2 : Claimed_1_2 := comes_1 fun _ _ _ _ _ _ h hF => ⟨h.2.1, hF⟩
end Jvm.Pilot.@@N@@
namespace Jvm.Pilot.@@N@@
open Jvm Jvm.ClassFile Sem Op Lib Jvm.Free Jvm.Stand Jvm.Pilot.@@N@@.Jvm.D
/-! MADE BY PROGRAM (witnessworld.py) out of the Statement's table words and the real class files: 38 classes; the members and pool entries that the words name. The judged class is class 1, her method 2. -/
namespace start1
open Jvm.ClassFile
def u (s : String) : CpInfo := .utf8 (stringToUtf16 s)
/-- a pool by its gaps: so many unusable entries, then the entry; so many at the end -/
def gap : Nat → List CpInfo → List CpInfo
  | 0, r => r
  | n + 1, r => .unusable :: gap n r
def poolList (es : List (Nat × CpInfo)) (last : Nat) : List CpInfo := es.foldr (fun e r => gap e.1 (e.2 :: r)) (gap last [])
def pool (es : List (Nat × CpInfo)) (last : Nat) : Array CpInfo := ⟨poolList es last⟩
def fileOf (pool : Array CpInfo) (this : Nat) (attrs : Array Attribute := #[]) (ms : Array MethodInfo := #[]) (fl : Nat := 33) (sup : Nat := 0) (ifs : Array Nat := #[]) (fds : Array FieldInfo := #[]) : ClassFile where
  minorVersion := 0
  majorVersion := 65
  constantPool := pool
  accessFlags := fl
  thisClass := this
  superClass := sup
  interfaces := ifs
  fields := fds
  methods := ms
  attributes := attrs
def plain (name : String) (sup : Option ClassId) : Class where
  name := name
  kind := .ordinary
  loader := none
  accessFlags := 33
  super := sup
  interfaces := #[]
  cf := none
  fields := #[]
  methods := #[]
  instanceTypes := #[]
  staticTypes := #[]
  resolved := #[]
  callSites := []
  init := .initialized
  statics := none
  mirror := none

def pool0 : Array CpInfo := pool [(5, u "<init>"), (0, u "()V"), (1, .class_ 10), (1, u "java/lang/Object")] 113

def k0c0 : Code := { maxStack := 0, maxLocals := 1, code := object_method_1_code, exceptionTable := #[], attributes := #[] }
def k0m0 : Method := { name := "<init>", desc := "()V", sig := { parameters := [], returnType := none }, accessFlags := 1, code := some k0c0 }
/-- java/lang/Object -/
def k0 : Class := { plain "java/lang/Object" none with
  accessFlags := 33
  interfaces := #[]
  cf := some (fileOf pool0 8 #[] #[{ accessFlags := 1, nameIndex := 5, descriptorIndex := 6, attributes := #[] }] 33 0 #[] #[])
  fields := #[]
  methods := #[k0m0]
  instanceTypes := #[]
  staticTypes := #[]
  resolved := Array.replicate 124 none
  statics := none }

def pool1 : Array CpInfo := pool [(2, .class_ 4), (1, u "java/lang/Object"), (0, u "<init>"), (0, u "()V"), (0, .class_ 8), (0, u "java/lang/String"), (0, .methodref 7 10), (0, .nameAndType 5 11), (0, u "([C)V"), (0, .methodref 13 14), (0, .class_ 15), (0, .nameAndType 16 17), (0, u "com/example/fjalar/fjalar/ApiExceptionInvalidInputPinLaw"), (0, u "draw"), (0, u "(IIII)Ljava/lang/String;"), (0, .methodref 19 20), (0, .class_ 21), (0, .nameAndType 22 23), (0, u "com/example/fjalar/fjalar/ApiException"), (0, u "invalidInput"), (0, u "(Ljava/lang/String;)Lcom/example/fjalar/fjalar/ApiException;"), (0, .methodref 19 25), (0, .nameAndType 26 27), (0, u "code"), (0, u "()Lcom/example/fjalar/fjalar/ApiException$Code;"), (0, .fieldref 29 30), (0, .class_ 31), (0, .nameAndType 32 33), (0, u "com/example/fjalar/fjalar/ApiException$Code"), (0, u "INVALID_INPUT"), (0, u "Lcom/example/fjalar/fjalar/ApiException$Code;"), (0, .methodref 29 35), (0, .nameAndType 36 37), (0, u "status"), (0, u "()I"), (0, .methodref 19 39), (0, .nameAndType 40 41), (0, u "getMessage"), (0, u "()Ljava/lang/String;"), (0, .methodref 7 43), (0, .nameAndType 44 45), (0, u "equals"), (0, u "(Ljava/lang/Object;)Z"), (3, u "law"), (0, u "(IIII)Z")] 3

def k1m0 : Method := { name := "<init>", desc := "()V", sig := { parameters := [], returnType := none }, accessFlags := 1, code := none }
def k1c1 : Code := { maxStack := 6, maxLocals := 8, code := method_2_code, exceptionTable := #[], attributes := #[] }
def k1m1 : Method := { name := "draw", desc := "(IIII)Ljava/lang/String;", sig := { parameters := [.int, .int, .int, .int], returnType := some (.object "java/lang/String") }, accessFlags := 10, code := some k1c1 }
def k1c2 : Code := { maxStack := 4, maxLocals := 8, code := code, exceptionTable := #[], attributes := #[] }
def k1m2 : Method := { name := "law", desc := "(IIII)Z", sig := { parameters := [.int, .int, .int, .int], returnType := some .boolean }, accessFlags := 9, code := some k1c2 }
/-- com/example/fjalar/fjalar/ApiExceptionInvalidInputPinLaw -/
def k1 : Class := { plain "com/example/fjalar/fjalar/ApiExceptionInvalidInputPinLaw" (some 0) with
  accessFlags := 49
  interfaces := #[]
  cf := some (fileOf pool1 13 #[] #[{ accessFlags := 1, nameIndex := 5, descriptorIndex := 6, attributes := #[] }, { accessFlags := 10, nameIndex := 16, descriptorIndex := 17, attributes := #[] }, { accessFlags := 9, nameIndex := 49, descriptorIndex := 50, attributes := #[] }] 49 2 #[] #[])
  fields := #[]
  methods := #[k1m0, k1m1, k1m2]
  instanceTypes := #[]
  staticTypes := #[]
  resolved := Array.replicate 54 none
  statics := none }

def pool2 : Array CpInfo := pool [(1, .class_ 2), (0, u "java/io/Serializable"), (0, .class_ 4), (0, u "java/lang/Object")] 2

/-- java/io/Serializable -/
def k2 : Class := { plain "java/io/Serializable" (some 0) with
  accessFlags := 1537
  interfaces := #[]
  cf := some (fileOf pool2 1 #[] #[] 1537 3 #[] #[])
  fields := #[]
  methods := #[]
  instanceTypes := #[]
  staticTypes := #[]
  resolved := Array.replicate 7 none
  statics := none }

def pool3 : Array CpInfo := pool [(1, .class_ 2), (0, u "java/lang/Comparable"), (0, .class_ 4), (0, u "java/lang/Object")] 7

/-- java/lang/Comparable -/
def k3 : Class := { plain "java/lang/Comparable" (some 0) with
  accessFlags := 1537
  interfaces := #[]
  cf := some (fileOf pool3 1 #[] #[] 1537 3 #[] #[])
  fields := #[]
  methods := #[]
  instanceTypes := #[]
  staticTypes := #[]
  resolved := Array.replicate 12 none
  statics := none }

def pool4 : Array CpInfo := pool [(2, .class_ 4), (1, u "java/lang/CharSequence"), (42, .class_ 48), (0, u "java/lang/CharSequence$1CodePointIterator"), (10, .class_ 60), (0, u "java/lang/CharSequence$1CharIterator"), (5, .class_ 67), (0, u "java/lang/Object")] 63

/-- java/lang/CharSequence -/
def k4 : Class := { plain "java/lang/CharSequence" (some 0) with
  accessFlags := 1537
  interfaces := #[]
  cf := some (fileOf pool4 2 #[.nestMembers #[47, 59]] #[] 1537 66 #[] #[])
  fields := #[]
  methods := #[]
  instanceTypes := #[]
  staticTypes := #[]
  resolved := Array.replicate 131 none
  statics := none }

def pool5 : Array CpInfo := pool [(1, .class_ 2), (0, u "java/lang/constant/Constable"), (0, .class_ 4), (0, u "java/lang/Object")] 6

/-- java/lang/constant/Constable -/
def k5 : Class := { plain "java/lang/constant/Constable" (some 0) with
  accessFlags := 1537
  interfaces := #[]
  cf := some (fileOf pool5 1 #[] #[] 1537 3 #[] #[])
  fields := #[]
  methods := #[]
  instanceTypes := #[]
  staticTypes := #[]
  resolved := Array.replicate 11 none
  statics := none }

def pool6 : Array CpInfo := pool [(1, .class_ 2), (0, u "java/lang/constant/ConstantDesc"), (0, .class_ 4), (0, u "java/lang/Object")] 32

/-- java/lang/constant/ConstantDesc -/
def k6 : Class := { plain "java/lang/constant/ConstantDesc" (some 0) with
  accessFlags := 1537
  interfaces := #[]
  cf := some (fileOf pool6 1 #[] #[] 1537 3 #[] #[])
  fields := #[]
  methods := #[]
  instanceTypes := #[]
  staticTypes := #[]
  resolved := Array.replicate 37 none
  statics := none }

def pool7 : Array CpInfo := pool [(1, .methodref 2 3), (0, .class_ 4), (0, .nameAndType 5 6), (0, u "java/lang/Object"), (0, u "<init>"), (0, u "()V"), (0, .string 8), (0, u ""), (0, .fieldref 10 11), (0, .class_ 12), (0, .nameAndType 13 14), (0, u "java/lang/String"), (0, u "value"), (0, u "[B"), (0, .fieldref 10 16), (0, .nameAndType 17 18), (0, u "coder"), (0, u "B"), (2, u "hash"), (0, u "I"), (2, u "hashIsZero"), (0, u "Z"), (0, .methodref 10 28), (0, .nameAndType 5 29), (0, u "([CIILjava/lang/Void;)V"), (8, .fieldref 10 39), (0, .nameAndType 40 26), (0, u "COMPACT_STRINGS"), (1, .class_ 44), (1, u "java/lang/StringUTF16"), (0, u "compress"), (1, .methodref 42 48), (0, .nameAndType 49 50), (0, u "coderFromArrayLen"), (0, u "([BI)B"), (126, .methodref 42 178), (0, .nameAndType 45 179), (0, u "([CII)[B"), (363, u "equals"), (29, u "(Ljava/lang/Object;)Z"), (1, .class_ 576), (0, u "java/lang/CharSequence"), (22, u "CASE_INSENSITIVE_ORDER"), (0, u "Ljava/util/Comparator;"), (409, u "([C)V"), (90, u "serialPersistentFields"), (0, u "[Ljava/io/ObjectStreamField;"), (0, .class_ 1104), (0, u "java/lang/String$CaseInsensitiveComparator"), (1, .class_ 1107), (0, u "java/io/Serializable"), (0, .class_ 1109), (0, u "java/lang/Comparable"), (0, .class_ 1111), (0, u "java/lang/constant/Constable"), (0, .class_ 1113), (0, u "java/lang/constant/ConstantDesc"), (2, u "serialVersionUID"), (0, u "J"), (3, u "REPL"), (0, u "C"), (2, u "LATIN1"), (1, u "UTF16")] 323

def k7m0 : Method := { name := "<init>", desc := "()V", sig := { parameters := [], returnType := none }, accessFlags := 1, code := none }
def k7c1 : Code := { maxStack := 5, maxLocals := 2, code := jdk_42_method_3_code, exceptionTable := #[], attributes := #[] }
def k7m1 : Method := { name := "<init>", desc := "([C)V", sig := { parameters := [(.array .char)], returnType := none }, accessFlags := 1, code := some k7c1 }
def k7c2 : Code := { maxStack := 2, maxLocals := 3, code := jdk_42_method_66_code, exceptionTable := #[], attributes := #[] }
def k7m2 : Method := { name := "equals", desc := "(Ljava/lang/Object;)Z", sig := { parameters := [(.object "java/lang/Object")], returnType := some .boolean }, accessFlags := 1, code := some k7c2 }
def k7c3 : Code := { maxStack := 4, maxLocals := 6, code := jdk_42_method_149_code, exceptionTable := #[], attributes := #[] }
def k7m3 : Method := { name := "<init>", desc := "([CIILjava/lang/Void;)V", sig := { parameters := [(.array .char), .int, .int, (.object "java/lang/Void")], returnType := none }, accessFlags := 2, code := some k7c3 }
/-- java/lang/String -/
def k7 : Class := { plain "java/lang/String" (some 0) with
  accessFlags := 49
  interfaces := #[2, 3, 4, 5, 6]
  cf := some (fileOf pool7 10 #[.nestMembers #[1103]] #[{ accessFlags := 1, nameIndex := 5, descriptorIndex := 6, attributes := #[] }, { accessFlags := 1, nameIndex := 5, descriptorIndex := 1010, attributes := #[] }, { accessFlags := 1, nameIndex := 543, descriptorIndex := 573, attributes := #[] }, { accessFlags := 2, nameIndex := 5, descriptorIndex := 29, attributes := #[] }] 49 2 #[1106, 1108, 575, 1110, 1112] #[{ accessFlags := 18, nameIndex := 13, descriptorIndex := 14, attributes := #[] }, { accessFlags := 18, nameIndex := 17, descriptorIndex := 18, attributes := #[] }, { accessFlags := 2, nameIndex := 21, descriptorIndex := 22, attributes := #[] }, { accessFlags := 2, nameIndex := 25, descriptorIndex := 26, attributes := #[] }, { accessFlags := 26, nameIndex := 1116, descriptorIndex := 1117, attributes := #[] }, { accessFlags := 24, nameIndex := 40, descriptorIndex := 26, attributes := #[] }, { accessFlags := 26, nameIndex := 1101, descriptorIndex := 1102, attributes := #[] }, { accessFlags := 26, nameIndex := 1121, descriptorIndex := 1122, attributes := #[] }, { accessFlags := 25, nameIndex := 599, descriptorIndex := 600, attributes := #[] }, { accessFlags := 24, nameIndex := 1125, descriptorIndex := 18, attributes := #[] }, { accessFlags := 24, nameIndex := 1127, descriptorIndex := 18, attributes := #[] }])
  fields := #[{ name := "value", type := (.array .byte), accessFlags := 18, slot := 0, constantValue := 0 }, { name := "coder", type := .byte, accessFlags := 18, slot := 1, constantValue := 0 }, { name := "hash", type := .int, accessFlags := 2, slot := 2, constantValue := 0 }, { name := "hashIsZero", type := .boolean, accessFlags := 2, slot := 3, constantValue := 0 }, { name := "serialVersionUID", type := .long, accessFlags := 26, slot := 0, constantValue := 0 }, { name := "COMPACT_STRINGS", type := .boolean, accessFlags := 24, slot := 1, constantValue := 0 }, { name := "serialPersistentFields", type := (.array (.object "java/io/ObjectStreamField")), accessFlags := 26, slot := 2, constantValue := 0 }, { name := "REPL", type := .char, accessFlags := 26, slot := 3, constantValue := 0 }, { name := "CASE_INSENSITIVE_ORDER", type := (.object "java/util/Comparator"), accessFlags := 25, slot := 4, constantValue := 0 }, { name := "LATIN1", type := .byte, accessFlags := 24, slot := 5, constantValue := 0 }, { name := "UTF16", type := .byte, accessFlags := 24, slot := 6, constantValue := 0 }]
  methods := #[k7m0, k7m1, k7m2, k7m3]
  instanceTypes := #[(.array .byte), .byte, .int, .boolean]
  staticTypes := #[.long, .boolean, (.array (.object "java/io/ObjectStreamField")), .char, (.object "java/util/Comparator"), .byte, .byte]
  resolved := Array.replicate 1451 none
  statics := some 0 }

def pool8 : Array CpInfo := pool [(1, .methodref 2 3), (0, .class_ 4), (0, .nameAndType 5 6), (0, u "java/lang/Object"), (0, u "<init>"), (0, u "()V"), (0, .fieldref 8 9), (0, .class_ 10), (0, .nameAndType 11 12), (0, u "java/lang/Throwable"), (0, u "cause"), (0, u "Ljava/lang/Throwable;"), (0, .fieldref 8 14), (0, .nameAndType 15 16), (0, u "UNASSIGNED_STACK"), (0, u "[Ljava/lang/StackTraceElement;"), (0, .fieldref 8 18), (0, .nameAndType 19 16), (0, u "stackTrace"), (0, .fieldref 8 21), (0, .nameAndType 22 23), (0, u "SUPPRESSED_SENTINEL"), (0, u "Ljava/util/List;"), (0, .fieldref 8 25), (0, .nameAndType 26 23), (0, u "suppressedExceptions"), (0, .methodref 8 28), (0, .nameAndType 29 30), (0, u "fillInStackTrace"), (0, u "()Ljava/lang/Throwable;"), (0, .fieldref 8 32), (0, .nameAndType 33 34), (0, u "detailMessage"), (0, u "Ljava/lang/String;"), (3, u "()Ljava/lang/String;"), (2, u "getMessage"), (51, .class_ 94), (0, u "java/lang/Throwable$WrappedPrintStream"), (6, .class_ 103), (1, u "java/lang/Throwable$PrintStreamOrWriter"), (61, u "$assertionsDisabled"), (0, u "Z"), (26, .class_ 194), (0, u "java/lang/Throwable$WrappedPrintWriter"), (3, .fieldref 8 199), (0, .nameAndType 200 201), (0, u "backtrace"), (0, u "Ljava/lang/Object;"), (0, .methodref 8 203), (0, .nameAndType 29 204), (0, u "(I)Ljava/lang/Throwable;"), (6, u "depth"), (0, u "I"), (10, u "(Ljava/lang/String;)V"), (45, .class_ 271), (1, u "java/lang/Throwable$SentinelHolder"), (32, u "EMPTY_THROWABLE_ARRAY"), (0, u "[Ljava/lang/Throwable;"), (12, .class_ 319), (0, u "java/io/Serializable"), (0, u "serialVersionUID"), (0, u "J"), (5, u "NULL_CAUSE_MESSAGE"), (0, u "SELF_SUPPRESSION_MESSAGE"), (0, u "CAUSE_CAPTION"), (0, u "SUPPRESSED_CAPTION")] 73

def k8c0 : Code := { maxStack := 2, maxLocals := 1, code := jdk_78_method_1_code, exceptionTable := #[], attributes := #[] }
def k8m0 : Method := { name := "<init>", desc := "()V", sig := { parameters := [], returnType := none }, accessFlags := 1, code := some k8c0 }
def k8c1 : Code := { maxStack := 2, maxLocals := 2, code := jdk_78_method_2_code, exceptionTable := #[], attributes := #[] }
def k8m1 : Method := { name := "<init>", desc := "(Ljava/lang/String;)V", sig := { parameters := [(.object "java/lang/String")], returnType := none }, accessFlags := 1, code := some k8c1 }
def k8c2 : Code := { maxStack := 1, maxLocals := 1, code := jdk_78_method_6_code, exceptionTable := #[], attributes := #[] }
def k8m2 : Method := { name := "getMessage", desc := "()Ljava/lang/String;", sig := { parameters := [], returnType := some (.object "java/lang/String") }, accessFlags := 1, code := some k8c2 }
def k8c3 : Code := { maxStack := 2, maxLocals := 1, code := ⟨#[0x2a, 0xb4, 0x00, 0x11, 0xc7, 0x00, 0x0a, 0x2a, 0xb4, 0x00, 0xc6, 0xc6, 0x00, 0x10, 0x2a, 0x03, 0xb6, 0x00, 0xca, 0x57, 0x2a, 0xb2, 0x00, 0x0d, 0xb5, 0x00, 0x11, 0x2a, 0xb0]⟩, exceptionTable := #[], attributes := #[] }
def k8m3 : Method := { name := "fillInStackTrace", desc := "()Ljava/lang/Throwable;", sig := { parameters := [], returnType := some (.object "java/lang/Throwable") }, accessFlags := 33, code := some k8c3 }
def k8m4 : Method := { name := "fillInStackTrace", desc := "(I)Ljava/lang/Throwable;", sig := { parameters := [.int], returnType := some (.object "java/lang/Throwable") }, accessFlags := 258, code := none }
/-- java/lang/Throwable -/
def k8 : Class := { plain "java/lang/Throwable" (some 0) with
  accessFlags := 33
  interfaces := #[2]
  cf := some (fileOf pool8 8 #[.nestMembers #[193, 93, 101, 269]] #[{ accessFlags := 1, nameIndex := 5, descriptorIndex := 6, attributes := #[] }, { accessFlags := 1, nameIndex := 5, descriptorIndex := 223, attributes := #[] }, { accessFlags := 1, nameIndex := 41, descriptorIndex := 38, attributes := #[] }, { accessFlags := 33, nameIndex := 29, descriptorIndex := 30, attributes := #[] }, { accessFlags := 258, nameIndex := 29, descriptorIndex := 204, attributes := #[] }] 33 2 #[318] #[{ accessFlags := 26, nameIndex := 320, descriptorIndex := 321, attributes := #[] }, { accessFlags := 130, nameIndex := 200, descriptorIndex := 201, attributes := #[] }, { accessFlags := 2, nameIndex := 33, descriptorIndex := 34, attributes := #[] }, { accessFlags := 26, nameIndex := 15, descriptorIndex := 16, attributes := #[] }, { accessFlags := 2, nameIndex := 11, descriptorIndex := 12, attributes := #[] }, { accessFlags := 2, nameIndex := 19, descriptorIndex := 16, attributes := #[] }, { accessFlags := 130, nameIndex := 211, descriptorIndex := 212, attributes := #[] }, { accessFlags := 26, nameIndex := 22, descriptorIndex := 23, attributes := #[] }, { accessFlags := 2, nameIndex := 26, descriptorIndex := 23, attributes := #[] }, { accessFlags := 26, nameIndex := 327, descriptorIndex := 34, attributes := #[] }, { accessFlags := 26, nameIndex := 328, descriptorIndex := 34, attributes := #[] }, { accessFlags := 26, nameIndex := 329, descriptorIndex := 34, attributes := #[] }, { accessFlags := 26, nameIndex := 330, descriptorIndex := 34, attributes := #[] }, { accessFlags := 26, nameIndex := 304, descriptorIndex := 305, attributes := #[] }, { accessFlags := 4120, nameIndex := 165, descriptorIndex := 166, attributes := #[] }])
  fields := #[{ name := "serialVersionUID", type := .long, accessFlags := 26, slot := 0, constantValue := 0 }, { name := "backtrace", type := (.object "java/lang/Object"), accessFlags := 130, slot := 0, constantValue := 0 }, { name := "detailMessage", type := (.object "java/lang/String"), accessFlags := 2, slot := 1, constantValue := 0 }, { name := "UNASSIGNED_STACK", type := (.array (.object "java/lang/StackTraceElement")), accessFlags := 26, slot := 1, constantValue := 0 }, { name := "cause", type := (.object "java/lang/Throwable"), accessFlags := 2, slot := 2, constantValue := 0 }, { name := "stackTrace", type := (.array (.object "java/lang/StackTraceElement")), accessFlags := 2, slot := 3, constantValue := 0 }, { name := "depth", type := .int, accessFlags := 130, slot := 4, constantValue := 0 }, { name := "SUPPRESSED_SENTINEL", type := (.object "java/util/List"), accessFlags := 26, slot := 2, constantValue := 0 }, { name := "suppressedExceptions", type := (.object "java/util/List"), accessFlags := 2, slot := 5, constantValue := 0 }, { name := "NULL_CAUSE_MESSAGE", type := (.object "java/lang/String"), accessFlags := 26, slot := 3, constantValue := 0 }, { name := "SELF_SUPPRESSION_MESSAGE", type := (.object "java/lang/String"), accessFlags := 26, slot := 4, constantValue := 0 }, { name := "CAUSE_CAPTION", type := (.object "java/lang/String"), accessFlags := 26, slot := 5, constantValue := 0 }, { name := "SUPPRESSED_CAPTION", type := (.object "java/lang/String"), accessFlags := 26, slot := 6, constantValue := 0 }, { name := "EMPTY_THROWABLE_ARRAY", type := (.array (.object "java/lang/Throwable")), accessFlags := 26, slot := 7, constantValue := 0 }, { name := "$assertionsDisabled", type := .boolean, accessFlags := 4120, slot := 8, constantValue := 0 }]
  methods := #[k8m0, k8m1, k8m2, k8m3, k8m4]
  instanceTypes := #[(.object "java/lang/Object"), (.object "java/lang/String"), (.object "java/lang/Throwable"), (.array (.object "java/lang/StackTraceElement")), .int, (.object "java/util/List")]
  staticTypes := #[.long, (.array (.object "java/lang/StackTraceElement")), (.object "java/util/List"), (.object "java/lang/String"), (.object "java/lang/String"), (.object "java/lang/String"), (.object "java/lang/String"), (.array (.object "java/lang/Throwable")), .boolean]
  resolved := Array.replicate 404 none
  statics := some 1 }

def pool9 : Array CpInfo := pool [(2, .class_ 4), (1, u "java/lang/Throwable"), (0, u "<init>"), (0, u "()V"), (0, .methodref 2 8), (0, .nameAndType 5 9), (0, u "(Ljava/lang/String;)V"), (9, .class_ 20), (0, u "java/lang/Exception"), (0, u "serialVersionUID"), (0, u "J")] 17

def k9m0 : Method := { name := "<init>", desc := "()V", sig := { parameters := [], returnType := none }, accessFlags := 1, code := none }
def k9c1 : Code := { maxStack := 2, maxLocals := 2, code := jdk_59_method_2_code, exceptionTable := #[], attributes := #[] }
def k9m1 : Method := { name := "<init>", desc := "(Ljava/lang/String;)V", sig := { parameters := [(.object "java/lang/String")], returnType := none }, accessFlags := 1, code := some k9c1 }
/-- java/lang/Exception -/
def k9 : Class := { plain "java/lang/Exception" (some 8) with
  accessFlags := 33
  interfaces := #[]
  cf := some (fileOf pool9 19 #[] #[{ accessFlags := 1, nameIndex := 5, descriptorIndex := 6, attributes := #[] }, { accessFlags := 1, nameIndex := 5, descriptorIndex := 9, attributes := #[] }] 33 2 #[] #[{ accessFlags := 24, nameIndex := 21, descriptorIndex := 22, attributes := #[] }])
  fields := #[{ name := "serialVersionUID", type := .long, accessFlags := 24, slot := 0, constantValue := 0 }]
  methods := #[k9m0, k9m1]
  instanceTypes := #[(.object "java/lang/Object"), (.object "java/lang/String"), (.object "java/lang/Throwable"), (.array (.object "java/lang/StackTraceElement")), .int, (.object "java/util/List")]
  staticTypes := #[.long]
  resolved := Array.replicate 40 none
  statics := none }

def pool10 : Array CpInfo := pool [(2, .class_ 4), (1, u "java/lang/Exception"), (0, u "<init>"), (0, u "()V"), (0, .methodref 2 8), (0, .nameAndType 5 9), (0, u "(Ljava/lang/String;)V"), (9, .class_ 20), (0, u "java/lang/RuntimeException"), (0, u "serialVersionUID"), (0, u "J")] 17

def k10m0 : Method := { name := "<init>", desc := "()V", sig := { parameters := [], returnType := none }, accessFlags := 1, code := none }
def k10c1 : Code := { maxStack := 2, maxLocals := 2, code := jdk_58_method_2_code, exceptionTable := #[], attributes := #[] }
def k10m1 : Method := { name := "<init>", desc := "(Ljava/lang/String;)V", sig := { parameters := [(.object "java/lang/String")], returnType := none }, accessFlags := 1, code := some k10c1 }
/-- java/lang/RuntimeException -/
def k10 : Class := { plain "java/lang/RuntimeException" (some 9) with
  accessFlags := 33
  interfaces := #[]
  cf := some (fileOf pool10 19 #[] #[{ accessFlags := 1, nameIndex := 5, descriptorIndex := 6, attributes := #[] }, { accessFlags := 1, nameIndex := 5, descriptorIndex := 9, attributes := #[] }] 33 2 #[] #[{ accessFlags := 24, nameIndex := 21, descriptorIndex := 22, attributes := #[] }])
  fields := #[{ name := "serialVersionUID", type := .long, accessFlags := 24, slot := 0, constantValue := 0 }]
  methods := #[k10m0, k10m1]
  instanceTypes := #[(.object "java/lang/Object"), (.object "java/lang/String"), (.object "java/lang/Throwable"), (.array (.object "java/lang/StackTraceElement")), .int, (.object "java/util/List")]
  staticTypes := #[.long]
  resolved := Array.replicate 40 none
  statics := none }

def pool11 : Array CpInfo := pool [(1, .methodref 2 3), (0, .class_ 4), (0, .nameAndType 5 6), (0, u "java/lang/RuntimeException"), (0, u "<init>"), (0, u "(Ljava/lang/String;)V"), (0, .fieldref 8 9), (0, .class_ 10), (0, .nameAndType 11 12), (0, u "com/example/fjalar/fjalar/ApiException"), (0, u "code"), (0, u "Lcom/example/fjalar/fjalar/ApiException$Code;"), (0, .fieldref 14 15), (0, .class_ 16), (0, .nameAndType 17 12), (0, u "com/example/fjalar/fjalar/ApiException$Code"), (0, u "INVALID_INPUT"), (0, .methodref 8 19), (0, .nameAndType 5 20), (0, u "(Lcom/example/fjalar/fjalar/ApiException$Code;Ljava/lang/String;)V"), (0, u "serialVersionUID"), (0, u "J"), (5, u "invalidInput"), (0, u "(Ljava/lang/String;)Lcom/example/fjalar/fjalar/ApiException;"), (0, u "()Lcom/example/fjalar/fjalar/ApiException$Code;")] 4

def k11c0 : Code := { maxStack := 2, maxLocals := 3, code := prog_1_method_1_code, exceptionTable := #[], attributes := #[] }
def k11m0 : Method := { name := "<init>", desc := "(Lcom/example/fjalar/fjalar/ApiException$Code;Ljava/lang/String;)V", sig := { parameters := [(.object "com/example/fjalar/fjalar/ApiException$Code"), (.object "java/lang/String")], returnType := none }, accessFlags := 0, code := some k11c0 }
def k11c1 : Code := { maxStack := 4, maxLocals := 1, code := prog_1_method_2_code, exceptionTable := #[], attributes := #[] }
def k11m1 : Method := { name := "invalidInput", desc := "(Ljava/lang/String;)Lcom/example/fjalar/fjalar/ApiException;", sig := { parameters := [(.object "java/lang/String")], returnType := some (.object "com/example/fjalar/fjalar/ApiException") }, accessFlags := 8, code := some k11c1 }
def k11c2 : Code := { maxStack := 1, maxLocals := 1, code := prog_1_method_3_code, exceptionTable := #[], attributes := #[] }
def k11m2 : Method := { name := "code", desc := "()Lcom/example/fjalar/fjalar/ApiException$Code;", sig := { parameters := [], returnType := some (.object "com/example/fjalar/fjalar/ApiException$Code") }, accessFlags := 0, code := some k11c2 }
/-- com/example/fjalar/fjalar/ApiException -/
def k11 : Class := { plain "com/example/fjalar/fjalar/ApiException" (some 10) with
  accessFlags := 48
  interfaces := #[]
  cf := some (fileOf pool11 8 #[.nestMembers #[14]] #[{ accessFlags := 0, nameIndex := 5, descriptorIndex := 20, attributes := #[] }, { accessFlags := 8, nameIndex := 28, descriptorIndex := 29, attributes := #[] }, { accessFlags := 0, nameIndex := 11, descriptorIndex := 30, attributes := #[] }] 48 2 #[] #[{ accessFlags := 26, nameIndex := 21, descriptorIndex := 22, attributes := #[] }, { accessFlags := 18, nameIndex := 11, descriptorIndex := 12, attributes := #[] }])
  fields := #[{ name := "serialVersionUID", type := .long, accessFlags := 26, slot := 0, constantValue := 0 }, { name := "code", type := (.object "com/example/fjalar/fjalar/ApiException$Code"), accessFlags := 18, slot := 6, constantValue := 0 }]
  methods := #[k11m0, k11m1, k11m2]
  instanceTypes := #[(.object "java/lang/Object"), (.object "java/lang/String"), (.object "java/lang/Throwable"), (.array (.object "java/lang/StackTraceElement")), .int, (.object "java/util/List"), (.object "com/example/fjalar/fjalar/ApiException$Code")]
  staticTypes := #[.long]
  resolved := Array.replicate 35 none
  statics := none }

def pool12 : Array CpInfo := pool [(2, .class_ 4), (1, u "java/lang/Enum"), (0, u "name"), (0, u "Ljava/lang/String;"), (2, u "ordinal"), (0, u "I"), (1, .class_ 14), (1, u "java/lang/Object"), (4, u "hash"), (86, .class_ 108), (1, u "java/lang/Enum$EnumDesc"), (2, .class_ 112), (0, u "java/lang/constant/Constable"), (0, .class_ 114), (0, u "java/lang/Comparable"), (0, .class_ 116), (0, u "java/io/Serializable")] 87

/-- java/lang/Enum -/
def k12 : Class := { plain "java/lang/Enum" (some 0) with
  accessFlags := 1057
  interfaces := #[5, 3, 2]
  cf := some (fileOf pool12 2 #[.nestMembers #[106]] #[] 1057 12 #[111, 113, 115] #[{ accessFlags := 18, nameIndex := 5, descriptorIndex := 6, attributes := #[] }, { accessFlags := 18, nameIndex := 9, descriptorIndex := 10, attributes := #[] }, { accessFlags := 2, nameIndex := 19, descriptorIndex := 10, attributes := #[] }])
  fields := #[{ name := "name", type := (.object "java/lang/String"), accessFlags := 18, slot := 0, constantValue := 0 }, { name := "ordinal", type := .int, accessFlags := 18, slot := 1, constantValue := 0 }, { name := "hash", type := .int, accessFlags := 2, slot := 2, constantValue := 0 }]
  methods := #[]
  instanceTypes := #[(.object "java/lang/String"), .int, .int]
  staticTypes := #[]
  resolved := Array.replicate 204 none
  statics := none }

def pool13 : Array CpInfo := pool [(1, .class_ 2), (0, u "com/example/fjalar/fjalar/ApiException$Code"), (2, u "INVALID_INPUT"), (0, u "Lcom/example/fjalar/fjalar/ApiException$Code;"), (2, u "UNKNOWN_NAMESPACE"), (2, u "TIMER_NOT_FOUND"), (2, u "INTERNAL_ERROR"), (2, u "$VALUES"), (0, u "[Lcom/example/fjalar/fjalar/ApiException$Code;"), (6, .class_ 28), (1, u "java/lang/Enum"), (6, .fieldref 1 36), (0, .nameAndType 37 38), (0, u "status"), (0, u "I"), (18, u "()I"), (6, .class_ 65), (0, u "com/example/fjalar/fjalar/ApiException")] 1

def k13c0 : Code := { maxStack := 1, maxLocals := 1, code := prog_2_method_4_code, exceptionTable := #[], attributes := #[] }
def k13m0 : Method := { name := "status", desc := "()I", sig := { parameters := [], returnType := some .int }, accessFlags := 0, code := some k13c0 }
/-- com/example/fjalar/fjalar/ApiException$Code -/
def k13 : Class := { plain "com/example/fjalar/fjalar/ApiException$Code" (some 12) with
  accessFlags := 16432
  interfaces := #[]
  cf := some (fileOf pool13 1 #[.nestHost 64] #[{ accessFlags := 0, nameIndex := 37, descriptorIndex := 57, attributes := #[] }] 16432 26 #[] #[{ accessFlags := 16409, nameIndex := 5, descriptorIndex := 6, attributes := #[] }, { accessFlags := 16409, nameIndex := 9, descriptorIndex := 6, attributes := #[] }, { accessFlags := 16409, nameIndex := 12, descriptorIndex := 6, attributes := #[] }, { accessFlags := 16409, nameIndex := 15, descriptorIndex := 6, attributes := #[] }, { accessFlags := 18, nameIndex := 37, descriptorIndex := 38, attributes := #[] }, { accessFlags := 4122, nameIndex := 18, descriptorIndex := 19, attributes := #[] }])
  fields := #[{ name := "INVALID_INPUT", type := (.object "com/example/fjalar/fjalar/ApiException$Code"), accessFlags := 16409, slot := 0, constantValue := 0 }, { name := "UNKNOWN_NAMESPACE", type := (.object "com/example/fjalar/fjalar/ApiException$Code"), accessFlags := 16409, slot := 1, constantValue := 0 }, { name := "TIMER_NOT_FOUND", type := (.object "com/example/fjalar/fjalar/ApiException$Code"), accessFlags := 16409, slot := 2, constantValue := 0 }, { name := "INTERNAL_ERROR", type := (.object "com/example/fjalar/fjalar/ApiException$Code"), accessFlags := 16409, slot := 3, constantValue := 0 }, { name := "status", type := .int, accessFlags := 18, slot := 3, constantValue := 0 }, { name := "$VALUES", type := (.array (.object "com/example/fjalar/fjalar/ApiException$Code")), accessFlags := 4122, slot := 4, constantValue := 0 }]
  methods := #[k13m0]
  instanceTypes := #[(.object "java/lang/String"), .int, .int, .int]
  staticTypes := #[(.object "com/example/fjalar/fjalar/ApiException$Code"), (.object "com/example/fjalar/fjalar/ApiException$Code"), (.object "com/example/fjalar/fjalar/ApiException$Code"), (.object "com/example/fjalar/fjalar/ApiException$Code"), (.array (.object "com/example/fjalar/fjalar/ApiException$Code"))]
  resolved := Array.replicate 67 none
  statics := some 2 }

def pool14 : Array CpInfo := pool [(6, .class_ 8), (1, u "java/lang/Object"), (0, u "<init>"), (0, u "()V"), (1, .class_ 14), (1, u "java/lang/StringUTF16"), (31, u "$assertionsDisabled"), (0, u "Z"), (13, u "HI_BYTE_SHIFT"), (0, u "I"), (2, u "LO_BYTE_SHIFT"), (49, .methodref 12 116), (0, .nameAndType 117 118), (0, u "compress"), (0, u "([CI[BII)I"), (3, u "([CII)[B"), (138, u "coderFromArrayLen"), (0, u "([BI)B"), (106, .class_ 371), (1, u "java/lang/StringUTF16$LinesSpliterator"), (58, u "MAX_LENGTH"), (196, .class_ 628), (0, u "java/lang/StringUTF16$CodePointsSpliterator"), (0, .class_ 630), (0, u "java/lang/StringUTF16$CharsSpliterator")] 4

def k14m0 : Method := { name := "<init>", desc := "()V", sig := { parameters := [], returnType := none }, accessFlags := 0, code := none }
def k14c1 : Code := { maxStack := 2, maxLocals := 2, code := jdk_52_method_15_code, exceptionTable := #[], attributes := #[] }
def k14m1 : Method := { name := "coderFromArrayLen", desc := "([BI)B", sig := { parameters := [(.array .byte), .int], returnType := some .byte }, accessFlags := 8, code := some k14c1 }
def k14c2 : Code := { maxStack := 5, maxLocals := 6, code := jdk_52_method_16_code, exceptionTable := #[], attributes := #[] }
def k14m2 : Method := { name := "compress", desc := "([CII)[B", sig := { parameters := [(.array .char), .int, .int], returnType := some (.array .byte) }, accessFlags := 9, code := some k14c2 }
def k14c3 : Code := { maxStack := 3, maxLocals := 7, code := jdk_52_method_21_code, exceptionTable := #[], attributes := #[] }
def k14m3 : Method := { name := "compress", desc := "([CI[BII)I", sig := { parameters := [(.array .char), .int, (.array .byte), .int, .int], returnType := some .int }, accessFlags := 9, code := some k14c3 }
/-- java/lang/StringUTF16 -/
def k14 : Class := { plain "java/lang/StringUTF16" (some 0) with
  accessFlags := 48
  interfaces := #[]
  cf := some (fileOf pool14 12 #[.nestMembers #[627, 629, 369]] #[{ accessFlags := 0, nameIndex := 9, descriptorIndex := 10, attributes := #[] }, { accessFlags := 8, nameIndex := 261, descriptorIndex := 262, attributes := #[] }, { accessFlags := 9, nameIndex := 117, descriptorIndex := 122, attributes := #[] }, { accessFlags := 9, nameIndex := 117, descriptorIndex := 118, attributes := #[] }] 48 6 #[] #[{ accessFlags := 26, nameIndex := 61, descriptorIndex := 62, attributes := #[] }, { accessFlags := 26, nameIndex := 65, descriptorIndex := 62, attributes := #[] }, { accessFlags := 24, nameIndex := 430, descriptorIndex := 62, attributes := #[] }, { accessFlags := 4120, nameIndex := 46, descriptorIndex := 47, attributes := #[] }])
  fields := #[{ name := "HI_BYTE_SHIFT", type := .int, accessFlags := 26, slot := 0, constantValue := 0 }, { name := "LO_BYTE_SHIFT", type := .int, accessFlags := 26, slot := 1, constantValue := 0 }, { name := "MAX_LENGTH", type := .int, accessFlags := 24, slot := 2, constantValue := 0 }, { name := "$assertionsDisabled", type := .boolean, accessFlags := 4120, slot := 3, constantValue := 0 }]
  methods := #[k14m0, k14m1, k14m2, k14m3]
  instanceTypes := #[]
  staticTypes := #[.int, .int, .int, .boolean]
  resolved := Array.replicate 635 none
  statics := none }

def pool15 : Array CpInfo := pool [(2, .class_ 4), (1, u "java/lang/Object"), (0, u "<init>"), (0, u "()V"), (12, .class_ 20), (0, u "java/util/Collections"), (63, u "r"), (0, u "Ljava/util/Random;"), (80, .class_ 167), (0, u "java/util/Collections$UnmodifiableCollection"), (6, .class_ 175), (0, u "java/util/Collections$UnmodifiableSequencedCollection"), (6, .class_ 183), (0, u "java/util/Collections$UnmodifiableSet"), (6, .class_ 191), (0, u "java/util/Collections$UnmodifiableSequencedSet"), (6, .class_ 199), (0, u "java/util/Collections$UnmodifiableSortedSet"), (6, .class_ 207), (0, u "java/util/Collections$UnmodifiableNavigableSet"), (4, .class_ 213), (0, u "java/util/Collections$UnmodifiableList"), (1, .class_ 216), (0, u "java/util/Collections$UnmodifiableRandomAccessList"), (6, .class_ 224), (0, u "java/util/Collections$UnmodifiableMap"), (6, .class_ 232), (0, u "java/util/Collections$UnmodifiableSequencedMap"), (4, .class_ 238), (0, u "java/util/Collections$UnmodifiableSortedMap"), (6, .class_ 246), (0, u "java/util/Collections$UnmodifiableNavigableMap"), (3, .class_ 251), (0, u "java/util/Collections$SynchronizedCollection"), (4, .class_ 257), (0, u "java/util/Collections$SynchronizedSet"), (4, .class_ 263), (0, u "java/util/Collections$SynchronizedSortedSet"), (1, .class_ 266), (0, u "java/util/Collections$SynchronizedNavigableSet"), (1, .class_ 269), (0, u "java/util/Collections$SynchronizedRandomAccessList"), (1, .class_ 272), (0, u "java/util/Collections$SynchronizedList"), (5, .class_ 279), (0, u "java/util/Collections$SynchronizedMap"), (1, .class_ 282), (0, u "java/util/Collections$SynchronizedSortedMap"), (1, .class_ 285), (0, u "java/util/Collections$SynchronizedNavigableMap"), (1, .class_ 288), (0, u "java/util/Collections$CheckedCollection"), (11, .class_ 301), (0, u "java/util/Collections$CheckedQueue"), (3, .class_ 306), (0, u "java/util/Collections$CheckedSet"), (3, .class_ 311), (0, u "java/util/Collections$CheckedSortedSet"), (3, .class_ 316), (0, u "java/util/Collections$CheckedNavigableSet"), (3, .class_ 321), (0, u "java/util/Collections$CheckedRandomAccessList"), (3, .class_ 326), (0, u "java/util/Collections$CheckedList"), (1, .class_ 329), (0, u "java/util/Collections$CheckedMap"), (3, .class_ 334), (0, u "java/util/Collections$CheckedSortedMap"), (3, .class_ 339), (0, u "java/util/Collections$CheckedNavigableMap"), (4, .class_ 346), (1, u "java/util/Collections$EmptyIterator"), (3, .class_ 352), (1, u "java/util/Collections$EmptyListIterator"), (2, .class_ 357), (1, u "java/util/Collections$EmptyEnumeration"), (4, u "EMPTY_SET"), (0, u "Ljava/util/Set;"), (6, u "EMPTY_LIST"), (0, u "Ljava/util/List;"), (2, u "EMPTY_MAP"), (0, u "Ljava/util/Map;"), (4, .class_ 381), (0, u "java/util/Collections$SingletonSet"), (2, .class_ 385), (0, u "java/util/Collections$1"), (1, .class_ 388), (0, u "java/util/Collections$2"), (1, .class_ 391), (0, u "java/util/Collections$SingletonList"), (1, .class_ 394), (0, u "java/util/Collections$SingletonMap"), (22, .class_ 418), (0, u "java/util/Collections$CopiesList"), (4, .class_ 425), (1, u "java/util/Collections$ReverseComparator"), (8, .class_ 435), (0, u "java/util/Collections$ReverseComparator2"), (6, .class_ 443), (0, u "java/util/Collections$3"), (25, .class_ 470), (0, u "java/util/Collections$SetFromMap"), (2, .class_ 474), (0, u "java/util/Collections$SequencedSetFromMap"), (3, .class_ 479), (0, u "java/util/Collections$AsLIFOQueue"), (11, .class_ 492), (0, u "java/util/Collections$EmptySet"), (1, .class_ 495), (0, u "java/util/Collections$EmptyList"), (1, .class_ 498), (0, u "java/util/Collections$EmptyMap"), (1, u "BINARYSEARCH_THRESHOLD"), (0, u "I"), (2, u "REVERSE_THRESHOLD"), (1, u "SHUFFLE_THRESHOLD"), (1, u "FILL_THRESHOLD"), (1, u "ROTATE_THRESHOLD"), (1, u "COPY_THRESHOLD"), (1, u "REPLACEALL_THRESHOLD"), (1, u "INDEXOFSUBLIST_THRESHOLD"), (333, .class_ 851), (0, u "java/util/Collections$CheckedMap$CheckedEntrySet"), (0, .class_ 853), (0, u "java/util/Collections$CheckedMap$CheckedEntrySet$CheckedEntry"), (0, .class_ 855), (0, u "java/util/Collections$CheckedMap$CheckedEntrySet$1"), (0, .class_ 857), (0, u "java/util/Collections$CheckedList$1"), (0, .class_ 859), (0, u "java/util/Collections$CheckedCollection$1"), (0, .class_ 861), (0, u "java/util/Collections$UnmodifiableNavigableMap$EmptyNavigableMap"), (0, .class_ 863), (0, u "java/util/Collections$UnmodifiableMap$UnmodifiableEntrySet"), (0, .class_ 865), (0, u "java/util/Collections$UnmodifiableMap$UnmodifiableEntrySet$UnmodifiableEntry"), (0, .class_ 867), (0, u "java/util/Collections$UnmodifiableMap$UnmodifiableEntrySet$UnmodifiableEntrySetSpliterator"), (0, .class_ 869), (0, u "java/util/Collections$UnmodifiableMap$UnmodifiableEntrySet$1"), (0, .class_ 871), (0, u "java/util/Collections$UnmodifiableList$1"), (0, .class_ 873), (0, u "java/util/Collections$UnmodifiableNavigableSet$EmptyNavigableSet"), (0, .class_ 875), (0, u "java/util/Collections$UnmodifiableCollection$1")] 57

def k15m0 : Method := { name := "<init>", desc := "()V", sig := { parameters := [], returnType := none }, accessFlags := 2, code := none }
/-- java/util/Collections -/
def k15 : Class := { plain "java/util/Collections" (some 0) with
  accessFlags := 33
  interfaces := #[]
  cf := some (fileOf pool15 19 #[.nestMembers #[478, 473, 469, 434, 423, 417, 393, 390, 380, 497, 494, 491, 355, 350, 344, 338, 333, 328, 850, 852, 854, 320, 325, 856, 315, 310, 305, 300, 287, 858, 284, 281, 278, 268, 271, 265, 262, 256, 250, 245, 860, 237, 231, 223, 862, 864, 866, 868, 215, 212, 870, 206, 872, 198, 190, 182, 174, 166, 874, 442, 387, 384]] #[{ accessFlags := 2, nameIndex := 5, descriptorIndex := 6, attributes := #[] }] 33 2 #[] #[{ accessFlags := 26, nameIndex := 500, descriptorIndex := 501, attributes := #[] }, { accessFlags := 26, nameIndex := 504, descriptorIndex := 501, attributes := #[] }, { accessFlags := 26, nameIndex := 506, descriptorIndex := 501, attributes := #[] }, { accessFlags := 26, nameIndex := 508, descriptorIndex := 501, attributes := #[] }, { accessFlags := 26, nameIndex := 510, descriptorIndex := 501, attributes := #[] }, { accessFlags := 26, nameIndex := 512, descriptorIndex := 501, attributes := #[] }, { accessFlags := 26, nameIndex := 514, descriptorIndex := 501, attributes := #[] }, { accessFlags := 26, nameIndex := 516, descriptorIndex := 501, attributes := #[] }, { accessFlags := 10, nameIndex := 84, descriptorIndex := 85, attributes := #[] }, { accessFlags := 25, nameIndex := 362, descriptorIndex := 363, attributes := #[] }, { accessFlags := 25, nameIndex := 370, descriptorIndex := 371, attributes := #[] }, { accessFlags := 25, nameIndex := 374, descriptorIndex := 375, attributes := #[] }])
  fields := #[{ name := "BINARYSEARCH_THRESHOLD", type := .int, accessFlags := 26, slot := 0, constantValue := 0 }, { name := "REVERSE_THRESHOLD", type := .int, accessFlags := 26, slot := 1, constantValue := 0 }, { name := "SHUFFLE_THRESHOLD", type := .int, accessFlags := 26, slot := 2, constantValue := 0 }, { name := "FILL_THRESHOLD", type := .int, accessFlags := 26, slot := 3, constantValue := 0 }, { name := "ROTATE_THRESHOLD", type := .int, accessFlags := 26, slot := 4, constantValue := 0 }, { name := "COPY_THRESHOLD", type := .int, accessFlags := 26, slot := 5, constantValue := 0 }, { name := "REPLACEALL_THRESHOLD", type := .int, accessFlags := 26, slot := 6, constantValue := 0 }, { name := "INDEXOFSUBLIST_THRESHOLD", type := .int, accessFlags := 26, slot := 7, constantValue := 0 }, { name := "r", type := (.object "java/util/Random"), accessFlags := 10, slot := 8, constantValue := 0 }, { name := "EMPTY_SET", type := (.object "java/util/Set"), accessFlags := 25, slot := 9, constantValue := 0 }, { name := "EMPTY_LIST", type := (.object "java/util/List"), accessFlags := 25, slot := 10, constantValue := 0 }, { name := "EMPTY_MAP", type := (.object "java/util/Map"), accessFlags := 25, slot := 11, constantValue := 0 }]
  methods := #[k15m0]
  instanceTypes := #[]
  staticTypes := #[.int, .int, .int, .int, .int, .int, .int, .int, (.object "java/util/Random"), (.object "java/util/Set"), (.object "java/util/List"), (.object "java/util/Map")]
  resolved := Array.replicate 933 none
  statics := some 3 }

def pool16 : Array CpInfo := pool [(4, .class_ 6), (1, u "java/lang/Object"), (0, u "<init>"), (0, u "()V"), (5, .class_ 16), (1, u "java/lang/StringLatin1"), (104, u "$assertionsDisabled"), (0, u "Z"), (98, .class_ 223), (1, u "java/lang/StringLatin1$LinesSpliterator"), (166, .class_ 391), (0, u "java/lang/StringLatin1$CharsSpliterator")] 3

def k16m0 : Method := { name := "<init>", desc := "()V", sig := { parameters := [], returnType := none }, accessFlags := 0, code := none }
/-- java/lang/StringLatin1 -/
def k16 : Class := { plain "java/lang/StringLatin1" (some 0) with
  accessFlags := 48
  interfaces := #[]
  cf := some (fileOf pool16 14 #[.nestMembers #[390, 221]] #[{ accessFlags := 0, nameIndex := 7, descriptorIndex := 8, attributes := #[] }] 48 4 #[] #[{ accessFlags := 4120, nameIndex := 121, descriptorIndex := 122, attributes := #[] }])
  fields := #[{ name := "$assertionsDisabled", type := .boolean, accessFlags := 4120, slot := 0, constantValue := 0 }]
  methods := #[k16m0]
  instanceTypes := #[]
  staticTypes := #[.boolean]
  resolved := Array.replicate 395 none
  statics := none }

def pool17 : Array CpInfo := pool [(2, .class_ 4), (1, u "java/lang/Object"), (0, u "<init>"), (0, u "()V"), (17, .class_ 26), (1, u "jdk/internal/util/Preconditions"), (28, .class_ 56), (0, u "jdk/internal/util/Preconditions$4"), (57, .class_ 115), (0, u "jdk/internal/util/Preconditions$1"), (7, u "SIOOBE_FORMATTER"), (0, u "Ljava/util/function/BiFunction;"), (0, .class_ 126), (0, u "jdk/internal/util/Preconditions$2"), (3, u "AIOOBE_FORMATTER"), (0, .class_ 132), (0, u "jdk/internal/util/Preconditions$3"), (3, u "IOOBE_FORMATTER")] 57

def k17m0 : Method := { name := "<init>", desc := "()V", sig := { parameters := [], returnType := none }, accessFlags := 1, code := none }
/-- jdk/internal/util/Preconditions -/
def k17 : Class := { plain "jdk/internal/util/Preconditions" (some 0) with
  accessFlags := 33
  interfaces := #[]
  cf := some (fileOf pool17 24 #[.nestMembers #[55, 131, 125, 114]] #[{ accessFlags := 1, nameIndex := 5, descriptorIndex := 6, attributes := #[] }] 33 2 #[] #[{ accessFlags := 25, nameIndex := 123, descriptorIndex := 124, attributes := #[] }, { accessFlags := 25, nameIndex := 130, descriptorIndex := 124, attributes := #[] }, { accessFlags := 25, nameIndex := 136, descriptorIndex := 124, attributes := #[] }])
  fields := #[{ name := "SIOOBE_FORMATTER", type := (.object "java/util/function/BiFunction"), accessFlags := 25, slot := 0, constantValue := 0 }, { name := "AIOOBE_FORMATTER", type := (.object "java/util/function/BiFunction"), accessFlags := 25, slot := 1, constantValue := 0 }, { name := "IOOBE_FORMATTER", type := (.object "java/util/function/BiFunction"), accessFlags := 25, slot := 2, constantValue := 0 }]
  methods := #[k17m0]
  instanceTypes := #[]
  staticTypes := #[(.object "java/util/function/BiFunction"), (.object "java/util/function/BiFunction"), (.object "java/util/function/BiFunction")]
  resolved := Array.replicate 194 none
  statics := some 4 }

def pool18 : Array CpInfo := pool [(9, u "<init>"), (6, .class_ 18), (1, u "java/lang/Object"), (0, u "()V"), (1, .class_ 23), (1, u "jdk/internal/util/ArraysSupport"), (0, u "LOG2_ARRAY_LONG_INDEX_SCALE"), (0, u "I"), (2, u "U"), (0, u "Ljdk/internal/misc/Unsafe;"), (8, u "BIG_ENDIAN"), (0, u "Z"), (8, u "LOG2_BYTE_BIT_SIZE"), (4, u "LOG2_ARRAY_INT_INDEX_SCALE"), (54, u "JLA"), (0, u "Ljdk/internal/access/JavaLangAccess;"), (11, u "LOG2_ARRAY_BOOLEAN_INDEX_SCALE"), (9, u "LOG2_ARRAY_BYTE_INDEX_SCALE"), (5, u "LOG2_ARRAY_CHAR_INDEX_SCALE"), (5, u "LOG2_ARRAY_SHORT_INDEX_SCALE"), (18, u "LOG2_ARRAY_FLOAT_INDEX_SCALE"), (24, u "LOG2_ARRAY_DOUBLE_INDEX_SCALE"), (89, u "T_BOOLEAN"), (2, u "T_CHAR"), (1, u "T_FLOAT"), (1, u "T_DOUBLE"), (1, u "T_BYTE"), (1, u "T_SHORT"), (1, u "T_INT"), (1, u "T_LONG"), (1, u "SOFT_MAX_ARRAY_LENGTH")] 83

def k18m0 : Method := { name := "<init>", desc := "()V", sig := { parameters := [], returnType := none }, accessFlags := 2, code := none }
/-- jdk/internal/util/ArraysSupport -/
def k18 : Class := { plain "jdk/internal/util/ArraysSupport" (some 0) with
  accessFlags := 33
  interfaces := #[]
  cf := some (fileOf pool18 21 #[] #[{ accessFlags := 2, nameIndex := 9, descriptorIndex := 19, attributes := #[] }] 33 16 #[] #[{ accessFlags := 24, nameIndex := 28, descriptorIndex := 29, attributes := #[] }, { accessFlags := 26, nameIndex := 38, descriptorIndex := 39, attributes := #[] }, { accessFlags := 25, nameIndex := 121, descriptorIndex := 25, attributes := #[] }, { accessFlags := 25, nameIndex := 131, descriptorIndex := 25, attributes := #[] }, { accessFlags := 25, nameIndex := 137, descriptorIndex := 25, attributes := #[] }, { accessFlags := 25, nameIndex := 143, descriptorIndex := 25, attributes := #[] }, { accessFlags := 25, nameIndex := 53, descriptorIndex := 25, attributes := #[] }, { accessFlags := 25, nameIndex := 24, descriptorIndex := 25, attributes := #[] }, { accessFlags := 25, nameIndex := 162, descriptorIndex := 25, attributes := #[] }, { accessFlags := 25, nameIndex := 187, descriptorIndex := 25, attributes := #[] }, { accessFlags := 26, nameIndex := 48, descriptorIndex := 25, attributes := #[] }, { accessFlags := 25, nameIndex := 277, descriptorIndex := 25, attributes := #[] }, { accessFlags := 25, nameIndex := 280, descriptorIndex := 25, attributes := #[] }, { accessFlags := 25, nameIndex := 282, descriptorIndex := 25, attributes := #[] }, { accessFlags := 25, nameIndex := 284, descriptorIndex := 25, attributes := #[] }, { accessFlags := 25, nameIndex := 286, descriptorIndex := 25, attributes := #[] }, { accessFlags := 25, nameIndex := 288, descriptorIndex := 25, attributes := #[] }, { accessFlags := 25, nameIndex := 290, descriptorIndex := 25, attributes := #[] }, { accessFlags := 25, nameIndex := 292, descriptorIndex := 25, attributes := #[] }, { accessFlags := 26, nameIndex := 108, descriptorIndex := 109, attributes := #[] }, { accessFlags := 25, nameIndex := 294, descriptorIndex := 25, attributes := #[] }])
  fields := #[{ name := "U", type := (.object "jdk/internal/misc/Unsafe"), accessFlags := 24, slot := 0, constantValue := 0 }, { name := "BIG_ENDIAN", type := .boolean, accessFlags := 26, slot := 1, constantValue := 0 }, { name := "LOG2_ARRAY_BOOLEAN_INDEX_SCALE", type := .int, accessFlags := 25, slot := 2, constantValue := 0 }, { name := "LOG2_ARRAY_BYTE_INDEX_SCALE", type := .int, accessFlags := 25, slot := 3, constantValue := 0 }, { name := "LOG2_ARRAY_CHAR_INDEX_SCALE", type := .int, accessFlags := 25, slot := 4, constantValue := 0 }, { name := "LOG2_ARRAY_SHORT_INDEX_SCALE", type := .int, accessFlags := 25, slot := 5, constantValue := 0 }, { name := "LOG2_ARRAY_INT_INDEX_SCALE", type := .int, accessFlags := 25, slot := 6, constantValue := 0 }, { name := "LOG2_ARRAY_LONG_INDEX_SCALE", type := .int, accessFlags := 25, slot := 7, constantValue := 0 }, { name := "LOG2_ARRAY_FLOAT_INDEX_SCALE", type := .int, accessFlags := 25, slot := 8, constantValue := 0 }, { name := "LOG2_ARRAY_DOUBLE_INDEX_SCALE", type := .int, accessFlags := 25, slot := 9, constantValue := 0 }, { name := "LOG2_BYTE_BIT_SIZE", type := .int, accessFlags := 26, slot := 10, constantValue := 0 }, { name := "T_BOOLEAN", type := .int, accessFlags := 25, slot := 11, constantValue := 0 }, { name := "T_CHAR", type := .int, accessFlags := 25, slot := 12, constantValue := 0 }, { name := "T_FLOAT", type := .int, accessFlags := 25, slot := 13, constantValue := 0 }, { name := "T_DOUBLE", type := .int, accessFlags := 25, slot := 14, constantValue := 0 }, { name := "T_BYTE", type := .int, accessFlags := 25, slot := 15, constantValue := 0 }, { name := "T_SHORT", type := .int, accessFlags := 25, slot := 16, constantValue := 0 }, { name := "T_INT", type := .int, accessFlags := 25, slot := 17, constantValue := 0 }, { name := "T_LONG", type := .int, accessFlags := 25, slot := 18, constantValue := 0 }, { name := "JLA", type := (.object "jdk/internal/access/JavaLangAccess"), accessFlags := 26, slot := 19, constantValue := 0 }, { name := "SOFT_MAX_ARRAY_LENGTH", type := .int, accessFlags := 25, slot := 20, constantValue := 0 }]
  methods := #[k18m0]
  instanceTypes := #[]
  staticTypes := #[(.object "jdk/internal/misc/Unsafe"), .boolean, .int, .int, .int, .int, .int, .int, .int, .int, .int, .int, .int, .int, .int, .int, .int, .int, .int, (.object "jdk/internal/access/JavaLangAccess"), .int]
  resolved := Array.replicate 378 none
  statics := none }

def pool19 : Array CpInfo := pool [(8, .class_ 10), (1, u "java/lang/Iterable"), (24, .class_ 36), (0, u "java/lang/Object")] 25

/-- java/lang/Iterable -/
def k19 : Class := { plain "java/lang/Iterable" (some 0) with
  accessFlags := 1537
  interfaces := #[]
  cf := some (fileOf pool19 8 #[] #[] 1537 35 #[] #[])
  fields := #[]
  methods := #[]
  instanceTypes := #[]
  staticTypes := #[]
  resolved := Array.replicate 62 none
  statics := none }

def pool20 : Array CpInfo := pool [(10, .class_ 12), (1, u "java/util/Collection"), (47, .class_ 61), (0, u "java/lang/Object"), (0, .class_ 63), (0, u "java/lang/Iterable")] 51

/-- java/util/Collection -/
def k20 : Class := { plain "java/util/Collection" (some 0) with
  accessFlags := 1537
  interfaces := #[19]
  cf := some (fileOf pool20 10 #[] #[] 1537 60 #[62] #[])
  fields := #[]
  methods := #[]
  instanceTypes := #[]
  staticTypes := #[]
  resolved := Array.replicate 115 none
  statics := none }

def pool21 : Array CpInfo := pool [(2, .class_ 4), (1, u "java/lang/Object"), (0, u "<init>"), (0, u "()V"), (1, .class_ 10), (1, u "java/util/AbstractCollection"), (66, .class_ 78), (0, u "java/util/Collection")] 81

def k21m0 : Method := { name := "<init>", desc := "()V", sig := { parameters := [], returnType := none }, accessFlags := 4, code := none }
/-- java/util/AbstractCollection -/
def k21 : Class := { plain "java/util/AbstractCollection" (some 0) with
  accessFlags := 1057
  interfaces := #[20]
  cf := some (fileOf pool21 8 #[] #[{ accessFlags := 4, nameIndex := 5, descriptorIndex := 6, attributes := #[] }] 1057 2 #[77] #[])
  fields := #[]
  methods := #[k21m0]
  instanceTypes := #[]
  staticTypes := #[]
  resolved := Array.replicate 160 none
  statics := none }

def pool22 : Array CpInfo := pool [(8, .class_ 10), (1, u "java/util/SequencedCollection"), (15, .class_ 27), (0, u "java/lang/Object"), (0, .class_ 29), (0, u "java/util/Collection")] 27

/-- java/util/SequencedCollection -/
def k22 : Class := { plain "java/util/SequencedCollection" (some 0) with
  accessFlags := 1537
  interfaces := #[20]
  cf := some (fileOf pool22 8 #[] #[] 1537 26 #[28] #[])
  fields := #[]
  methods := #[]
  instanceTypes := #[]
  staticTypes := #[]
  resolved := Array.replicate 57 none
  statics := none }

def pool23 : Array CpInfo := pool [(8, .class_ 10), (1, u "java/util/List"), (92, .class_ 104), (0, u "java/lang/Object"), (15, .class_ 121), (0, u "java/util/SequencedCollection")] 129

/-- java/util/List -/
def k23 : Class := { plain "java/util/List" (some 0) with
  accessFlags := 1537
  interfaces := #[22]
  cf := some (fileOf pool23 8 #[] #[] 1537 103 #[120] #[])
  fields := #[]
  methods := #[]
  instanceTypes := #[]
  staticTypes := #[]
  resolved := Array.replicate 251 none
  statics := none }

def pool24 : Array CpInfo := pool [(2, .class_ 4), (1, u "java/util/AbstractCollection"), (0, u "<init>"), (0, u "()V"), (1, .class_ 10), (1, u "java/util/AbstractList"), (0, u "modCount"), (0, u "I"), (64, .class_ 78), (0, u "java/util/AbstractList$Itr"), (3, .class_ 83), (0, u "java/util/AbstractList$ListItr"), (9, .class_ 94), (0, u "java/util/AbstractList$RandomAccessSubList"), (3, .class_ 99), (0, u "java/util/AbstractList$SubList"), (33, .class_ 134), (0, u "java/util/List"), (73, .class_ 209), (0, u "java/util/AbstractList$SubList$1"), (0, .class_ 211), (0, u "java/util/AbstractList$RandomAccessSpliterator")] 6

def k24m0 : Method := { name := "<init>", desc := "()V", sig := { parameters := [], returnType := none }, accessFlags := 4, code := none }
/-- java/util/AbstractList -/
def k24 : Class := { plain "java/util/AbstractList" (some 21) with
  accessFlags := 1057
  interfaces := #[23]
  cf := some (fileOf pool24 8 #[.nestMembers #[93, 98, 208, 210, 82, 77]] #[{ accessFlags := 4, nameIndex := 5, descriptorIndex := 6, attributes := #[] }] 1057 2 #[133] #[{ accessFlags := 132, nameIndex := 11, descriptorIndex := 12, attributes := #[] }])
  fields := #[{ name := "modCount", type := .int, accessFlags := 132, slot := 0, constantValue := 0 }]
  methods := #[k24m0]
  instanceTypes := #[.int]
  staticTypes := #[]
  resolved := Array.replicate 218 none
  statics := none }

def pool25 : Array CpInfo := pool [(1, .class_ 2), (0, u "java/util/RandomAccess"), (0, .class_ 4), (0, u "java/lang/Object")] 2

/-- java/util/RandomAccess -/
def k25 : Class := { plain "java/util/RandomAccess" (some 0) with
  accessFlags := 1537
  interfaces := #[]
  cf := some (fileOf pool25 1 #[] #[] 1537 3 #[] #[])
  fields := #[]
  methods := #[]
  instanceTypes := #[]
  staticTypes := #[]
  resolved := Array.replicate 7 none
  statics := none }

def pool26 : Array CpInfo := pool [(2, .class_ 4), (1, u "java/util/AbstractList"), (0, u "<init>"), (0, u "()V"), (1, .class_ 10), (1, u "java/util/Collections"), (54, .class_ 66), (0, u "java/util/Collections$EmptyList"), (0, .class_ 68), (0, u "java/util/RandomAccess"), (0, .class_ 70), (0, u "java/io/Serializable"), (0, u "serialVersionUID"), (0, u "J")] 77

def k26m0 : Method := { name := "<init>", desc := "()V", sig := { parameters := [], returnType := none }, accessFlags := 2, code := none }
/-- java/util/Collections$EmptyList -/
def k26 : Class := { plain "java/util/Collections$EmptyList" (some 24) with
  accessFlags := 32
  interfaces := #[25, 2]
  cf := some (fileOf pool26 65 #[.nestHost 8] #[{ accessFlags := 2, nameIndex := 5, descriptorIndex := 6, attributes := #[] }] 32 2 #[67, 69] #[{ accessFlags := 26, nameIndex := 71, descriptorIndex := 72, attributes := #[] }])
  fields := #[{ name := "serialVersionUID", type := .long, accessFlags := 26, slot := 0, constantValue := 0 }]
  methods := #[k26m0]
  instanceTypes := #[.int]
  staticTypes := #[.long]
  resolved := Array.replicate 150 none
  statics := none }

def pool27 : Array CpInfo := pool [(2, .class_ 4), (1, u "java/lang/StackTraceElement"), (0, u "<init>"), (2, .class_ 10), (1, u "java/lang/Object"), (0, u "()V"), (2, u "format"), (0, u "B"), (2, u "classLoaderName"), (0, u "Ljava/lang/String;"), (2, u "moduleName"), (2, u "moduleVersion"), (12, u "declaringClass"), (4, u "methodName"), (2, u "fileName"), (2, u "lineNumber"), (0, u "I"), (65, u "declaringClassObject"), (0, u "Ljava/lang/Class;"), (33, .class_ 153), (1, u "java/lang/StackTraceElement$HashedModules"), (17, .class_ 172), (0, u "java/io/Serializable"), (0, u "NATIVE_METHOD"), (1, u "UNKNOWN_SOURCE"), (2, u "BUILTIN_CLASS_LOADER"), (1, u "JDK_NON_UPGRADEABLE_MODULE"), (1, u "serialVersionUID"), (0, u "J")] 51

def k27m0 : Method := { name := "<init>", desc := "()V", sig := { parameters := [], returnType := none }, accessFlags := 2, code := none }
/-- java/lang/StackTraceElement -/
def k27 : Class := { plain "java/lang/StackTraceElement" (some 0) with
  accessFlags := 49
  interfaces := #[2]
  cf := some (fileOf pool27 2 #[.nestMembers #[151]] #[{ accessFlags := 2, nameIndex := 5, descriptorIndex := 11, attributes := #[] }] 49 8 #[171] #[{ accessFlags := 26, nameIndex := 173, descriptorIndex := 19, attributes := #[] }, { accessFlags := 26, nameIndex := 175, descriptorIndex := 19, attributes := #[] }, { accessFlags := 130, nameIndex := 116, descriptorIndex := 117, attributes := #[] }, { accessFlags := 2, nameIndex := 18, descriptorIndex := 19, attributes := #[] }, { accessFlags := 2, nameIndex := 22, descriptorIndex := 19, attributes := #[] }, { accessFlags := 2, nameIndex := 25, descriptorIndex := 19, attributes := #[] }, { accessFlags := 2, nameIndex := 38, descriptorIndex := 19, attributes := #[] }, { accessFlags := 2, nameIndex := 43, descriptorIndex := 19, attributes := #[] }, { accessFlags := 2, nameIndex := 46, descriptorIndex := 19, attributes := #[] }, { accessFlags := 2, nameIndex := 49, descriptorIndex := 50, attributes := #[] }, { accessFlags := 2, nameIndex := 14, descriptorIndex := 15, attributes := #[] }, { accessFlags := 26, nameIndex := 178, descriptorIndex := 15, attributes := #[] }, { accessFlags := 26, nameIndex := 180, descriptorIndex := 15, attributes := #[] }, { accessFlags := 26, nameIndex := 182, descriptorIndex := 183, attributes := #[] }])
  fields := #[{ name := "NATIVE_METHOD", type := (.object "java/lang/String"), accessFlags := 26, slot := 0, constantValue := 0 }, { name := "UNKNOWN_SOURCE", type := (.object "java/lang/String"), accessFlags := 26, slot := 1, constantValue := 0 }, { name := "declaringClassObject", type := (.object "java/lang/Class"), accessFlags := 130, slot := 0, constantValue := 0 }, { name := "classLoaderName", type := (.object "java/lang/String"), accessFlags := 2, slot := 1, constantValue := 0 }, { name := "moduleName", type := (.object "java/lang/String"), accessFlags := 2, slot := 2, constantValue := 0 }, { name := "moduleVersion", type := (.object "java/lang/String"), accessFlags := 2, slot := 3, constantValue := 0 }, { name := "declaringClass", type := (.object "java/lang/String"), accessFlags := 2, slot := 4, constantValue := 0 }, { name := "methodName", type := (.object "java/lang/String"), accessFlags := 2, slot := 5, constantValue := 0 }, { name := "fileName", type := (.object "java/lang/String"), accessFlags := 2, slot := 6, constantValue := 0 }, { name := "lineNumber", type := .int, accessFlags := 2, slot := 7, constantValue := 0 }, { name := "format", type := .byte, accessFlags := 2, slot := 8, constantValue := 0 }, { name := "BUILTIN_CLASS_LOADER", type := .byte, accessFlags := 26, slot := 2, constantValue := 0 }, { name := "JDK_NON_UPGRADEABLE_MODULE", type := .byte, accessFlags := 26, slot := 3, constantValue := 0 }, { name := "serialVersionUID", type := .long, accessFlags := 26, slot := 4, constantValue := 0 }]
  methods := #[k27m0]
  instanceTypes := #[(.object "java/lang/Class"), (.object "java/lang/String"), (.object "java/lang/String"), (.object "java/lang/String"), (.object "java/lang/String"), (.object "java/lang/String"), (.object "java/lang/String"), .int, .byte]
  staticTypes := #[(.object "java/lang/String"), (.object "java/lang/String"), .byte, .byte, .long]
  resolved := Array.replicate 235 none
  statics := none }

def pool28 : Array CpInfo := pool [(1, u "java/lang/Cloneable"), (0, .class_ 1), (0, u "java/lang/Object"), (0, .class_ 3)] 3

/-- java/lang/Cloneable -/
def k28 : Class := { plain "java/lang/Cloneable" (some 0) with
  accessFlags := 1537
  interfaces := #[]
  cf := some (fileOf pool28 2 #[] #[] 1537 4 #[] #[])
  fields := #[]
  methods := #[]
  instanceTypes := #[]
  staticTypes := #[]
  resolved := Array.replicate 8 none
  statics := none }

/-- the primitive byte -/
def k29 : Class := { plain "byte" none with kind := .primitive 'B', accessFlags := 0x411 }
/-- [B -/
def k30 : Class := { plain "[B" (some 0) with kind := .array 29 .byte, interfaces := #[28, 2], accessFlags := 1041 }

/-- the primitive char -/
def k31 : Class := { plain "char" none with kind := .primitive 'C', accessFlags := 0x411 }
/-- [C -/
def k32 : Class := { plain "[C" (some 0) with kind := .array 31 .char, interfaces := #[28, 2], accessFlags := 1041 }

/-- the primitive int -/
def k33 : Class := { plain "int" none with kind := .primitive 'I', accessFlags := 0x411 }
/-- [I -/
def k34 : Class := { plain "[I" (some 0) with kind := .array 33 .int, interfaces := #[28, 2], accessFlags := 1041 }

/-- [Ljava/lang/Object; -/
def k35 : Class := { plain "[Ljava/lang/Object;" (some 0) with kind := .array 0 (.object "java/lang/Object"), interfaces := #[28, 2], accessFlags := 1041 }

/-- [Ljava/lang/StackTraceElement; -/
def k36 : Class := { plain "[Ljava/lang/StackTraceElement;" (some 0) with kind := .array 27 (.object "java/lang/StackTraceElement"), interfaces := #[28, 2], accessFlags := 1041 }

/-- [Ljava/lang/Throwable; -/
def k37 : Class := { plain "[Ljava/lang/Throwable;" (some 0) with kind := .array 8 (.object "java/lang/Throwable"), interfaces := #[28, 2], accessFlags := 1041 }

def heap : Heap := #[{ cls := 7, slots := #[.long 0, .int 1, .null, .int 0, .null, .int 0, .int 0], vm := .statics 7 },
  { cls := 8, slots := #[.long 0, .ref 6, .ref 7, .null, .null, .null, .null, .ref 8, .int 1], vm := .statics 8 },
  { cls := 13, slots := #[.ref 5, .null, .null, .null, .null], vm := .statics 13 },
  { cls := 15, slots := #[.int 0, .int 0, .int 0, .int 0, .int 0, .int 0, .int 0, .int 0, .null, .null, .ref 7, .null], vm := .statics 15 },
  { cls := 17, slots := #[.null, .null, .null], vm := .statics 17 },
  { cls := 13, slots := #[.null, .int 0, .int 0, .int 400], vm := .none },
  { cls := 36, slots := #[], vm := .none },
  { cls := 26, slots := #[.int 0], vm := .none },
  { cls := 37, slots := #[], vm := .none }]
def classes : Array Class := #[k0, k1, k2, k3, k4, k5, k6, k7, k8, k9, k10, k11, k12, k13, k14, k15, k16, k17, k18, k19, k20, k21, k22, k23, k24, k25, k26, k27, k28, k29, k30, k31, k32, k33, k34, k35, k36, k37]
def interned : List (Array UInt16 × Addr) := []
def slotsUsed : Nat := 41
def theMethod : MethodId := ⟨1, 2⟩
def args0 : Array Value := #[.int 2, .int 65, .int 66, .int 67]
def aboutOver (below : List Frame) : State where
  vm := { classes := classes, interned := interned.toArray }
  heap := heap
  slotsUsed := slotsUsed
  threads := #[{ frames := .invoking theMethod args0 :: below }]
def below0 : List Frame := [.native { method := ⟨0, 0⟩, args := #[] }]
def about1 : State := aboutOver below0
def p0 : Program := .bare "" "" ""
def e0 : Env := launch0.env 0 0 0
theorem w_frames : about1.frames = Frame.invoking theMethod args0 :: below0 := rfl
set_option maxRecDepth 65536 in
theorem w_args : argsFit about1.vm theMethod args0 = true := by decide +kernel
set_option maxRecDepth 65536 in
theorem w_heap : heapFits about1 = true := by decide +kernel
set_option maxRecDepth 65536 in
theorem w_runnable : about1.curStatus? = some .runnable := by decide +kernel
set_option maxRecDepth 65536 in
theorem w_alone : about1.alone = true := by decide +kernel
set_option maxRecDepth 65536 in
theorem w_named : about1.methodNamed? x = some theMethod := by decide +kernel
set_option maxRecDepth 65536 in
theorem w_hears : about1.hears theMethod below0 = true := by decide +kernel
set_option maxRecDepth 65536 in
theorem w_ripe : about1.ripe theMethod args0 below0 = true := by decide +kernel
theorem w_running : about1.status = .running := rfl
set_option maxRecDepth 65536 in
theorem w_room : about1.hasRoom e0.platform room_1 = true :=
  launch0.hasRoom_least _ room_1 (by decide +kernel) (by decide +kernel) (by decide +kernel) (by decide +kernel) (by decide +kernel) (by decide +kernel)
theorem allAtoms_all (ts : List Jvm.Cond) (a : Array Jvm.Value) (st : Jvm.State) : (allAtoms ts).before a st = ts.all (fun c => c.before a st) := by
  induction ts with
  | nil => rfl
  | cons c t ih =>
    show (Jvm.Cond.and c (allAtoms t)).before a st = _
    rw [Jvm.Cond.before_and, ih, List.all_cons]
def words1 : List Jvm.Cond := Jvm.Cond.code x code maxLocals ret :: tables_1
/-- a 'code' word, met by the world's own term for the bytes: nothing is compared byte by byte -/
theorem code_word {y : MethodName} {bytes : ByteArray} {mx : Nat} {rt : Option FieldType} {a : Array Value} {s : State} {m : MethodId} {meth : Method} {c : Code} (h1 : s.methodNamed? y = some m) (h2 : s.vm.method? m = some meth) (h3 : meth.code = some c) (h4 : c.code = bytes)
    (h5 : (c.maxLocals == mx && c.exceptionTable.isEmpty && decide (c.maxStack ≤ mostOperands) && decide (meth.sig.returnType = rt) && !meth.locks && decide (parseMethodDescriptor y.desc = some meth.sig)) = true) : (Jvm.Cond.code y bytes mx rt).before a s = true := by
  simp only [Bool.and_eq_true, beq_iff_eq, Bool.not_eq_true', decide_eq_true_eq] at h5
  obtain ⟨⟨⟨⟨⟨g1, g2⟩, g3⟩, g4⟩, g5⟩, g6⟩ := h5
  simp [Cond.before, Cond.holds, Cond.value, h1, h2, h3, h4, g1, g2, g3, g4, g5, g6]
def isCode : Jvm.Cond → Bool
  | .code _ _ _ _ => true
  | _ => false
theorem all_split {L : List Jvm.Cond} {P : Jvm.Cond → Bool} (h1 : L.all (fun c => isCode c || P c) = true) (h2 : ∀ c ∈ L.filter isCode, P c = true) : L.all P = true := by
  refine List.all_eq_true.mpr fun c hc => ?_
  have h := List.all_eq_true.mp h1 c hc
  rcases Bool.eq_false_or_eq_true (isCode c) with hi | hi
  · exact h2 c (List.mem_filter.mpr ⟨hc, hi⟩)
  · simpa [hi] using h
set_option maxRecDepth 65536 in
theorem w_c0 : (Jvm.Cond.code x code maxLocals ret).before args0 about1 = true := code_word (m := ⟨1, 2⟩) (meth := k1m2) (c := k1c2) (by decide +kernel) rfl rfl rfl (by decide +kernel)
set_option maxRecDepth 65536 in
theorem w_c1 : (Jvm.Cond.code ({ cls := "com/example/fjalar/fjalar/ApiExceptionInvalidInputPinLaw", name := "draw", desc := "(IIII)Ljava/lang/String;" } : Jvm.MethodName) method_2_code (8 : Nat) (Option.some (Jvm.ClassFile.FieldType.object "java/lang/String"))).before args0 about1 = true := code_word (m := ⟨1, 1⟩) (meth := k1m1) (c := k1c1) (by decide +kernel) rfl rfl rfl (by decide +kernel)
set_option maxRecDepth 65536 in
theorem w_c2 : (Jvm.Cond.code ({ cls := "java/lang/String", name := "<init>", desc := "([C)V" } : Jvm.MethodName) jdk_42_method_3_code (2 : Nat) (Option.none : Option Jvm.ClassFile.FieldType)).before args0 about1 = true := code_word (m := ⟨7, 1⟩) (meth := k7m1) (c := k7c1) (by decide +kernel) rfl rfl rfl (by decide +kernel)
set_option maxRecDepth 65536 in
theorem w_c3 : (Jvm.Cond.code ({ cls := "java/lang/String", name := "<init>", desc := "([CIILjava/lang/Void;)V" } : Jvm.MethodName) jdk_42_method_149_code (6 : Nat) (Option.none : Option Jvm.ClassFile.FieldType)).before args0 about1 = true := code_word (m := ⟨7, 3⟩) (meth := k7m3) (c := k7c3) (by decide +kernel) rfl rfl rfl (by decide +kernel)
set_option maxRecDepth 65536 in
theorem w_c4 : (Jvm.Cond.code ({ cls := "java/lang/Object", name := "<init>", desc := "()V" } : Jvm.MethodName) object_method_1_code (1 : Nat) (Option.none : Option Jvm.ClassFile.FieldType)).before args0 about1 = true := code_word (m := ⟨0, 0⟩) (meth := k0m0) (c := k0c0) (by decide +kernel) rfl rfl rfl (by decide +kernel)
set_option maxRecDepth 65536 in
theorem w_c5 : (Jvm.Cond.code ({ cls := "com/example/fjalar/fjalar/ApiException", name := "invalidInput", desc := "(Ljava/lang/String;)Lcom/example/fjalar/fjalar/ApiException;" } : Jvm.MethodName) prog_1_method_2_code (1 : Nat) (Option.some (Jvm.ClassFile.FieldType.object "com/example/fjalar/fjalar/ApiException"))).before args0 about1 = true := code_word (m := ⟨11, 1⟩) (meth := k11m1) (c := k11c1) (by decide +kernel) rfl rfl rfl (by decide +kernel)
set_option maxRecDepth 65536 in
theorem w_c6 : (Jvm.Cond.code ({ cls := "com/example/fjalar/fjalar/ApiException", name := "<init>", desc := "(Lcom/example/fjalar/fjalar/ApiException$Code;Ljava/lang/String;)V" } : Jvm.MethodName) prog_1_method_1_code (3 : Nat) (Option.none : Option Jvm.ClassFile.FieldType)).before args0 about1 = true := code_word (m := ⟨11, 0⟩) (meth := k11m0) (c := k11c0) (by decide +kernel) rfl rfl rfl (by decide +kernel)
set_option maxRecDepth 65536 in
theorem w_c7 : (Jvm.Cond.code ({ cls := "java/lang/RuntimeException", name := "<init>", desc := "(Ljava/lang/String;)V" } : Jvm.MethodName) jdk_58_method_2_code (2 : Nat) (Option.none : Option Jvm.ClassFile.FieldType)).before args0 about1 = true := code_word (m := ⟨10, 1⟩) (meth := k10m1) (c := k10c1) (by decide +kernel) rfl rfl rfl (by decide +kernel)
set_option maxRecDepth 65536 in
theorem w_c8 : (Jvm.Cond.code ({ cls := "java/lang/Exception", name := "<init>", desc := "(Ljava/lang/String;)V" } : Jvm.MethodName) jdk_59_method_2_code (2 : Nat) (Option.none : Option Jvm.ClassFile.FieldType)).before args0 about1 = true := code_word (m := ⟨9, 1⟩) (meth := k9m1) (c := k9c1) (by decide +kernel) rfl rfl rfl (by decide +kernel)
set_option maxRecDepth 65536 in
theorem w_c9 : (Jvm.Cond.code ({ cls := "java/lang/Throwable", name := "<init>", desc := "(Ljava/lang/String;)V" } : Jvm.MethodName) jdk_78_method_2_code (2 : Nat) (Option.none : Option Jvm.ClassFile.FieldType)).before args0 about1 = true := code_word (m := ⟨8, 1⟩) (meth := k8m1) (c := k8c1) (by decide +kernel) rfl rfl rfl (by decide +kernel)
set_option maxRecDepth 65536 in
theorem w_c10 : (Jvm.Cond.code ({ cls := "java/lang/Throwable", name := "<init>", desc := "()V" } : Jvm.MethodName) jdk_78_method_1_code (1 : Nat) (Option.none : Option Jvm.ClassFile.FieldType)).before args0 about1 = true := code_word (m := ⟨8, 0⟩) (meth := k8m0) (c := k8c0) (by decide +kernel) rfl rfl rfl (by decide +kernel)
set_option maxRecDepth 65536 in
theorem w_c11 : (Jvm.Cond.code ({ cls := "com/example/fjalar/fjalar/ApiException", name := "code", desc := "()Lcom/example/fjalar/fjalar/ApiException$Code;" } : Jvm.MethodName) prog_1_method_3_code (1 : Nat) (Option.some (Jvm.ClassFile.FieldType.object "com/example/fjalar/fjalar/ApiException$Code"))).before args0 about1 = true := code_word (m := ⟨11, 2⟩) (meth := k11m2) (c := k11c2) (by decide +kernel) rfl rfl rfl (by decide +kernel)
set_option maxRecDepth 65536 in
theorem w_c12 : (Jvm.Cond.code ({ cls := "com/example/fjalar/fjalar/ApiException$Code", name := "status", desc := "()I" } : Jvm.MethodName) prog_2_method_4_code (1 : Nat) (Option.some Jvm.ClassFile.FieldType.int)).before args0 about1 = true := code_word (m := ⟨13, 0⟩) (meth := k13m0) (c := k13c0) (by decide +kernel) rfl rfl rfl (by decide +kernel)
set_option maxRecDepth 65536 in
theorem w_c13 : (Jvm.Cond.code ({ cls := "java/lang/Throwable", name := "getMessage", desc := "()Ljava/lang/String;" } : Jvm.MethodName) jdk_78_method_6_code (1 : Nat) (Option.some (Jvm.ClassFile.FieldType.object "java/lang/String"))).before args0 about1 = true := code_word (m := ⟨8, 2⟩) (meth := k8m2) (c := k8c2) (by decide +kernel) rfl rfl rfl (by decide +kernel)
set_option maxRecDepth 65536 in
theorem w_c14 : (Jvm.Cond.code ({ cls := "java/lang/String", name := "equals", desc := "(Ljava/lang/Object;)Z" } : Jvm.MethodName) jdk_42_method_66_code (3 : Nat) (Option.some Jvm.ClassFile.FieldType.boolean)).before args0 about1 = true := code_word (m := ⟨7, 2⟩) (meth := k7m2) (c := k7c2) (by decide +kernel) rfl rfl rfl (by decide +kernel)
set_option maxRecDepth 65536 in
theorem w_c15 : (Jvm.Cond.code ({ cls := "java/lang/StringUTF16", name := "compress", desc := "([CII)[B" } : Jvm.MethodName) jdk_52_method_16_code (6 : Nat) (Option.some (Jvm.ClassFile.FieldType.array Jvm.ClassFile.FieldType.byte))).before args0 about1 = true := code_word (m := ⟨14, 2⟩) (meth := k14m2) (c := k14c2) (by decide +kernel) rfl rfl rfl (by decide +kernel)
set_option maxRecDepth 65536 in
theorem w_c16 : (Jvm.Cond.code ({ cls := "java/lang/StringUTF16", name := "compress", desc := "([CI[BII)I" } : Jvm.MethodName) jdk_52_method_21_code (7 : Nat) (Option.some Jvm.ClassFile.FieldType.int)).before args0 about1 = true := code_word (m := ⟨14, 3⟩) (meth := k14m3) (c := k14c3) (by decide +kernel) rfl rfl rfl (by decide +kernel)
set_option maxRecDepth 65536 in
theorem w_c17 : (Jvm.Cond.code ({ cls := "java/lang/StringUTF16", name := "coderFromArrayLen", desc := "([BI)B" } : Jvm.MethodName) jdk_52_method_15_code (2 : Nat) (Option.some Jvm.ClassFile.FieldType.byte)).before args0 about1 = true := code_word (m := ⟨14, 1⟩) (meth := k14m1) (c := k14c1) (by decide +kernel) rfl rfl rfl (by decide +kernel)
def codes1 : List Jvm.Cond := [Jvm.Cond.code x code maxLocals ret, Jvm.Cond.code ({ cls := "com/example/fjalar/fjalar/ApiExceptionInvalidInputPinLaw", name := "draw", desc := "(IIII)Ljava/lang/String;" } : Jvm.MethodName) method_2_code (8 : Nat) (Option.some (Jvm.ClassFile.FieldType.object "java/lang/String")), Jvm.Cond.code ({ cls := "java/lang/String", name := "<init>", desc := "([C)V" } : Jvm.MethodName) jdk_42_method_3_code (2 : Nat) (Option.none : Option Jvm.ClassFile.FieldType), Jvm.Cond.code ({ cls := "java/lang/String", name := "<init>", desc := "([CIILjava/lang/Void;)V" } : Jvm.MethodName) jdk_42_method_149_code (6 : Nat) (Option.none : Option Jvm.ClassFile.FieldType), Jvm.Cond.code ({ cls := "java/lang/Object", name := "<init>", desc := "()V" } : Jvm.MethodName) object_method_1_code (1 : Nat) (Option.none : Option Jvm.ClassFile.FieldType), Jvm.Cond.code ({ cls := "com/example/fjalar/fjalar/ApiException", name := "invalidInput", desc := "(Ljava/lang/String;)Lcom/example/fjalar/fjalar/ApiException;" } : Jvm.MethodName) prog_1_method_2_code (1 : Nat) (Option.some (Jvm.ClassFile.FieldType.object "com/example/fjalar/fjalar/ApiException")), Jvm.Cond.code ({ cls := "com/example/fjalar/fjalar/ApiException", name := "<init>", desc := "(Lcom/example/fjalar/fjalar/ApiException$Code;Ljava/lang/String;)V" } : Jvm.MethodName) prog_1_method_1_code (3 : Nat) (Option.none : Option Jvm.ClassFile.FieldType), Jvm.Cond.code ({ cls := "java/lang/RuntimeException", name := "<init>", desc := "(Ljava/lang/String;)V" } : Jvm.MethodName) jdk_58_method_2_code (2 : Nat) (Option.none : Option Jvm.ClassFile.FieldType), Jvm.Cond.code ({ cls := "java/lang/Exception", name := "<init>", desc := "(Ljava/lang/String;)V" } : Jvm.MethodName) jdk_59_method_2_code (2 : Nat) (Option.none : Option Jvm.ClassFile.FieldType), Jvm.Cond.code ({ cls := "java/lang/Throwable", name := "<init>", desc := "(Ljava/lang/String;)V" } : Jvm.MethodName) jdk_78_method_2_code (2 : Nat) (Option.none : Option Jvm.ClassFile.FieldType), Jvm.Cond.code ({ cls := "java/lang/Throwable", name := "<init>", desc := "()V" } : Jvm.MethodName) jdk_78_method_1_code (1 : Nat) (Option.none : Option Jvm.ClassFile.FieldType), Jvm.Cond.code ({ cls := "com/example/fjalar/fjalar/ApiException", name := "code", desc := "()Lcom/example/fjalar/fjalar/ApiException$Code;" } : Jvm.MethodName) prog_1_method_3_code (1 : Nat) (Option.some (Jvm.ClassFile.FieldType.object "com/example/fjalar/fjalar/ApiException$Code")), Jvm.Cond.code ({ cls := "com/example/fjalar/fjalar/ApiException$Code", name := "status", desc := "()I" } : Jvm.MethodName) prog_2_method_4_code (1 : Nat) (Option.some Jvm.ClassFile.FieldType.int), Jvm.Cond.code ({ cls := "java/lang/Throwable", name := "getMessage", desc := "()Ljava/lang/String;" } : Jvm.MethodName) jdk_78_method_6_code (1 : Nat) (Option.some (Jvm.ClassFile.FieldType.object "java/lang/String")), Jvm.Cond.code ({ cls := "java/lang/String", name := "equals", desc := "(Ljava/lang/Object;)Z" } : Jvm.MethodName) jdk_42_method_66_code (3 : Nat) (Option.some Jvm.ClassFile.FieldType.boolean), Jvm.Cond.code ({ cls := "java/lang/StringUTF16", name := "compress", desc := "([CII)[B" } : Jvm.MethodName) jdk_52_method_16_code (6 : Nat) (Option.some (Jvm.ClassFile.FieldType.array Jvm.ClassFile.FieldType.byte)), Jvm.Cond.code ({ cls := "java/lang/StringUTF16", name := "compress", desc := "([CI[BII)I" } : Jvm.MethodName) jdk_52_method_21_code (7 : Nat) (Option.some Jvm.ClassFile.FieldType.int), Jvm.Cond.code ({ cls := "java/lang/StringUTF16", name := "coderFromArrayLen", desc := "([BI)B" } : Jvm.MethodName) jdk_52_method_15_code (2 : Nat) (Option.some Jvm.ClassFile.FieldType.byte)]
set_option maxRecDepth 65536 in
theorem codes_eq : words1.filter isCode = codes1 := rfl
theorem w_codes : ∀ c ∈ words1.filter isCode, c.before args0 about1 = true := by
  rw [codes_eq]
  intro c hc
  simp only [codes1, List.mem_cons, List.not_mem_nil, or_false] at hc
  rcases hc with rfl | rfl | rfl | rfl | rfl | rfl | rfl | rfl | rfl | rfl | rfl | rfl | rfl | rfl | rfl | rfl | rfl | rfl
  · exact w_c0
  · exact w_c1
  · exact w_c2
  · exact w_c3
  · exact w_c4
  · exact w_c5
  · exact w_c6
  · exact w_c7
  · exact w_c8
  · exact w_c9
  · exact w_c10
  · exact w_c11
  · exact w_c12
  · exact w_c13
  · exact w_c14
  · exact w_c15
  · exact w_c16
  · exact w_c17
set_option maxRecDepth 65536 in
theorem w_t1 : (words1.take 24).all (fun c => isCode c || c.before args0 about1) = true := by decide +kernel
set_option maxRecDepth 65536 in
theorem w_t2 : ((words1.drop 24).take 24).all (fun c => isCode c || c.before args0 about1) = true := by decide +kernel
set_option maxRecDepth 65536 in
theorem w_t3 : (((words1.drop 24).drop 24).take 24).all (fun c => isCode c || c.before args0 about1) = true := by decide +kernel
set_option maxRecDepth 65536 in
theorem w_t4 : ((((words1.drop 24).drop 24).drop 24).take 24).all (fun c => isCode c || c.before args0 about1) = true := by decide +kernel
set_option maxRecDepth 65536 in
theorem w_t5 : (((((words1.drop 24).drop 24).drop 24).drop 24).take 24).all (fun c => isCode c || c.before args0 about1) = true := by decide +kernel
set_option maxRecDepth 65536 in
theorem w_t6 : (((((words1.drop 24).drop 24).drop 24).drop 24).drop 24).all (fun c => isCode c || c.before args0 about1) = true := by decide +kernel
theorem w_tables : (allAtoms (Jvm.Cond.code x code maxLocals ret :: tables_1)).before args0 about1 = true := by
  rw [allAtoms_all]
  show words1.all (fun c => c.before args0 about1) = true
  refine all_split ?_ w_codes
  rw [← List.take_append_drop 24 words1, List.all_append, w_t1, ← List.take_append_drop 24 (words1.drop 24), List.all_append, w_t2, ← List.take_append_drop 24 ((words1.drop 24).drop 24), List.all_append, w_t3, ← List.take_append_drop 24 (((words1.drop 24).drop 24).drop 24), List.all_append, w_t4, ← List.take_append_drop 24 ((((words1.drop 24).drop 24).drop 24).drop 24), List.all_append, w_t5, w_t6]
  rfl
set_option maxRecDepth 65536 in
theorem w_rest : rest_1_c.before args0 about1 = true := by decide +kernel
set_option maxRecDepth 65536 in
theorem w_case : (Jvm.Cond.and given_1 narrow_1).before args0 about1 = true := by decide +kernel
set_option maxRecDepth 65536 in
theorem w_consts : constsHeld consts_1 about1 := Jvm.Lit.constsHeldB_iff.mp (by decide +kernel)
theorem w_applies : (headSpec (Jvm.Cond.code x code maxLocals ret :: tables_1) room_1).applies x e0.platform about1 = true :=
  (Spec.applies_iff w_frames).mpr ⟨w_running, w_runnable, w_alone, w_named, w_hears, w_ripe, w_room, w_tables⟩
theorem atStart : AtStart classFile x code maxLocals ret World_1 tables_1 room_1 Calls_1 rest_1 Pre_1 launch0 p0 e0 about1 theMethod args0 below0 :=
  ⟨lists_1, trivial, launch0.admits_env _ _ _, launch0.least_env, fairChoices_fair.cas, fairChoices_fair.clock, w_frames, w_args, w_heap, w_applies, ⟨(by decide +kernel : framesKnown about1 = true), ⟨(by decide +kernel : tablesKnown about1 = true), ⟨w_consts, trivial⟩⟩⟩, w_rest, w_case⟩
end start1
theorem witness_1 : WitnessClaimed_1 := ⟨start1.p0, start1.e0, start1.about1, start1.theMethod, start1.args0, start1.below0, start1.atStart⟩
end Jvm.Pilot.@@N@@
